import JvmDerived
import JvmDerived.Pilot.@@N@@Statement
import JvmDerived.Pilot.@@N@@Code
set_option linter.unusedVariables false
set_option linter.unusedSimpArgs false

@@BLOCK:TracedD.lean.txt@@
/- laws to paste: Road.backV, Road.codOf (cut by pick.py; bodies as the Statement names them) -/
namespace Jvm.Pilot.@@N@@
namespace StrChars
open Jvm Sem ClassFile Op Lib Jvm.Stand Jvm.Free.XT Jvm.Free.ALB Jvm.Free.JM Jvm.Free
open Jvm.Lib.Cold (StaticIs)
/-- a char array whose places are chars -/
def Ch (a : Addr) (A : Cell) (U : State) : Prop := Arr .char a A U ∧ Typed .char A
theorem Ch.mv {a : Addr} {A : Cell} {U U' : State} (h : Ch a A U) (hal : U.vm.Alike U'.vm) (hh : U'.heap = U.heap) : Ch a A U' := ⟨h.1.mv hal hh, h.2⟩
theorem Ch.keep {a : Addr} {A : Cell} {U U' : State} (h : Ch a A U) (hal : U.vm.Alike U'.vm) (hk : U'.heap[a]? = some A) : Ch a A U' := ⟨h.1.keep hal hk, h.2⟩
/-- what place i of a char[]'s cell holds -/
def cv (A : Cell) (i : Nat) : Int32 := match A.slots[i]? with | some (.int x) => x | _ => 0
theorem Ch.get {a : Addr} {A : Cell} {U : State} (h : Ch a A U) {i : Nat} (hi : i < A.slots.size) : A.slots[i]? = some (.int (cv A i)) := by
  have e := Array.getElem?_eq_getElem hi
  have f := h.2 i _ e
  unfold cv; rw [e]
  generalize A.slots[i] = v at f
  cases v <;> simp [fits] at f ⊢
/-- the byte that i2b leaves of a char -/
def lo8 (x : Int32) : Int32 := x.toInt8.toInt32
theorem fits_lo8 (y : Int32) : fits .byte (.int (lo8 y)) = true := by
  have h1 := y.toInt8.le_toInt
  have h2 := y.toInt8.toInt_lt
  simp only [lo8, fits, Bool.and_eq_true, decide_eq_true_eq, Int32.le_iff_toInt_le, Int8.toInt_toInt32, show (-128 : Int32).toInt = -128 from by decide, show (127 : Int32).toInt = 127 from by decide]
  omega
/-- A' is A but that each place j of lo .. hi - 1 holds f j -/
def Laid (A A' : Cell) (lo hi : Nat) (f : Nat → Value) : Prop := A'.cls = A.cls ∧ A'.vm = A.vm ∧ A'.slots.size = A.slots.size ∧ ∀ i, A'.slots[i]? = if lo ≤ i ∧ i < hi then some (f i) else A.slots[i]?
theorem Laid.zero (A : Cell) (lo : Nat) (f : Nat → Value) : Laid A A lo (lo + 0) f := ⟨rfl, rfl, rfl, fun i => by rw [if_neg (by omega)]⟩
theorem Laid.step {A Ak : Cell} {lo k : Nat} {f : Nat → Value} {v : Value} (h : Laid A Ak lo k f) (hlo : lo ≤ k) (hk : k < Ak.slots.size) (hv : v = f k) : Laid A (Ak.setSlot k v) lo (k + 1) f := by
  refine ⟨h.1, h.2.1, by simpa [Cell.setSlot] using h.2.2.1, fun i => ?_⟩
  by_cases e : k = i
  · subst e; rw [Cell.slots_setSlot_self v hk, if_pos (by omega), hv]
  · rw [Cell.slots_setSlot_ne v e, h.2.2.2 i]
    by_cases q : lo ≤ i ∧ i < k
    · rw [if_pos q, if_pos (by omega)]
    · rw [if_neg q, if_neg (by omega)]
def U16 : String := "java/lang/StringUTF16"
namespace Cmp5
def yN : MethodName := ⟨"java/lang/StringUTF16", "compress", "([CI[BII)I"⟩
abbrev yB : ByteArray := jdk_52_method_21_code
theorem d0 : decode yB 0 = .ok (.iconst 0, 1) := by decide +kernel
theorem d1 : decode yB 1 = .ok (.istore 5, 2) := by decide +kernel
theorem d3 : decode yB 3 = .ok (.iload 5, 2) := by decide +kernel
theorem d5 : decode yB 5 = .ok (.iload 4, 2) := by decide +kernel
theorem d7 : decode yB 7 = .ok (.if_icmp (.ge) 37, 3) := by decide +kernel
theorem d10 : decode yB 10 = .ok (.aload_n 0, 1) := by decide +kernel
theorem d11 : decode yB 11 = .ok (.iload_n 1, 1) := by decide +kernel
theorem d12 : decode yB 12 = .ok (.caload, 1) := by decide +kernel
theorem d13 : decode yB 13 = .ok (.istore 6, 2) := by decide +kernel
theorem d15 : decode yB 15 = .ok (.iload 6, 2) := by decide +kernel
theorem d17 : decode yB 17 = .ok (.sipush 255, 3) := by decide +kernel
theorem d20 : decode yB 20 = .ok (.if_icmp (.le) 6, 3) := by decide +kernel
theorem d26 : decode yB 26 = .ok (.aload_n 2, 1) := by decide +kernel
theorem d27 : decode yB 27 = .ok (.iload_n 3, 1) := by decide +kernel
theorem d28 : decode yB 28 = .ok (.iload 6, 2) := by decide +kernel
theorem d30 : decode yB 30 = .ok (.i2b, 1) := by decide +kernel
theorem d31 : decode yB 31 = .ok (.bastore, 1) := by decide +kernel
theorem d32 : decode yB 32 = .ok (.iinc 1 1, 3) := by decide +kernel
theorem d35 : decode yB 35 = .ok (.iinc 3 1, 3) := by decide +kernel
theorem d38 : decode yB 38 = .ok (.iinc 5 1, 3) := by decide +kernel
theorem d41 : decode yB 41 = .ok (.goto (-38), 3) := by decide +kernel
theorem d44 : decode yB 44 = .ok (.iload 4, 2) := by decide +kernel
theorem d46 : decode yB 46 = .ok (.ireturn, 1) := by decide +kernel
def site : List Cond := []
def tab : Cond := tabOf yN yB 7 (some .int) site
def P (b : Addr) (A : Cell) (d : Addr) (B : Cell) (o q len : Nat) (args : Array Value) (s : State) : Prop := args = #[.ref b, .int (Int32.ofNat o), .ref d, .int (Int32.ofNat q), .int (Int32.ofNat len)] ∧ Ch b A s ∧ Arr .byte d B s ∧ b ≠ d ∧ o + len ≤ A.slots.size ∧ q + len ≤ B.slots.size ∧ ∀ i, i < len → ¬ 255 < cv A (o + i)
def E (b : Addr) (A : Cell) (d : Addr) (B : Cell) (o q len : Nat) (r : Option Value) (s u : State) : Prop := r = some (.int (Int32.ofNat len)) ∧ ∃ B', Put d B' s u ∧ Laid B B' q (q + len) (fun j => Value.int (lo8 (cv A (o + (j - q)))))
/-- no char of the range above 255: len; the places written hold each char's low byte -/
theorem law (l : Launch) (b : Addr) (A : Cell) (d : Addr) (B : Cell) (o q len : Nat) : Law l yN 5 5 0 0 yB 7 (some .int) site (P b A d B o q len) (E b A d B o q len) (copyLocs d q len) 0 0 := by
  refine Law.of_walk (plainFor_of_name (by decide +kernel)) (by decide +kernel) (by decide +kernel) (by decide) (fun _ _ h => by rw [h.1]; rfl) (fun _ U U' hal hh h => ⟨h.1, h.2.1.mv hal hh, h.2.2.1.mv hal hh, h.2.2.2⟩) (fun r U U' V V' h1 hal h2 h => ⟨h.1, h.2.elim fun B' q => ⟨B', q.1.mv h1 h2, q.2⟩⟩) ?_
  intro p e s m args below meth c s₁ X0 hexec hbytes hml hret hlk hnm hown hh0 W hP
  obtain ⟨rfl, hA, hB, hne, l1, l2, hp⟩ := hP
  have c1 : Steps p.tables e below (s₁.setTop (entryFrame m #[.ref b, .int (Int32.ofNat o), .ref d, .int (Int32.ofNat q), .int (Int32.ofNat len)] 7)) (s₁.setTop (mkF m 0 #[.val (.ref b), .val (.int (Int32.ofNat o)), .val (.ref d), .val (.int (Int32.ofNat q)), .val (.int (Int32.ofNat len)), .unset, .unset] [])) := entry rfl
  have hA0 := hA.1.mv X0.warmed.alike hh0
  have hB0 := hB.mv X0.warmed.alike hh0
  have a31 := hA.1.2.2.2
  have c2 : Steps p.tables e below (s₁.setTop (entryFrame m #[.ref b, .int (Int32.ofNat o), .ref d, .int (Int32.ofNat q), .int (Int32.ofNat len)] 7)) (s₁.setTop (mkF m 3 #[.val (.ref b), .val (.int (Int32.ofNat o)), .val (.ref d), .val (.int (Int32.ofNat q)), .val (.int (Int32.ofNat len)), .val (.int 0), .unset] [])) := c1.trans (by
    refine iconstV X0.here hexec rfl 0 (hb hbytes d0) (by decide) ?_
    refine XS.istore X0.here hexec rfl (hb hbytes d1) rfl rfl ?_
    exact Steps.refl _)
  have loop : ∀ (r i : Nat), i + r = len → ∀ (z : Slot), (z = .unset ∨ ∃ w, z = .val w ∧ w.category = 1) → ∀ (Tl : State) (Bk : Cell), Stand p l e { frames := 0, locals := 0, cells := 0, slots := 0 } s m #[.ref b, .int (Int32.ofNat o), .ref d, .int (Int32.ofNat q), .int (Int32.ofNat len)] below meth c Tl ([] ++ copyLocs d q i) 0 0 → Put d Bk s₁ Tl → Laid B Bk q (q + i) (fun j => Value.int (lo8 (cv A (o + (j - q))))) →
      Steps p.tables e below (s₁.setTop (entryFrame m #[.ref b, .int (Int32.ofNat o), .ref d, .int (Int32.ofNat q), .int (Int32.ofNat len)] 7)) (Tl.setTop (mkF m 3 #[.val (.ref b), .val (.int (Int32.ofNat (o + i))), .val (.ref d), .val (.int (Int32.ofNat (q + i))), .val (.int (Int32.ofNat len)), .val (.int (Int32.ofNat i)), z] [])) → ∃ (T' : State) (B' : Cell) (z' : Slot), Stand p l e { frames := 0, locals := 0, cells := 0, slots := 0 } s m #[.ref b, .int (Int32.ofNat o), .ref d, .int (Int32.ofNat q), .int (Int32.ofNat len)] below meth c T' ([] ++ copyLocs d q len) 0 0 ∧ Put d B' s₁ T' ∧ Laid B B' q (q + len) (fun j => Value.int (lo8 (cv A (o + (j - q))))) ∧
      Steps p.tables e below (s₁.setTop (entryFrame m #[.ref b, .int (Int32.ofNat o), .ref d, .int (Int32.ofNat q), .int (Int32.ofNat len)] 7)) (T'.setTop (mkF m 3 #[.val (.ref b), .val (.int (Int32.ofNat (o + len))), .val (.ref d), .val (.int (Int32.ofNat (q + len))), .val (.int (Int32.ofNat len)), .val (.int (Int32.ofNat len)), z'] [])) := by
    intro r
    induction r with
    | zero =>
      intro i hi z hz Tl Bk Xl pl fl cl
      have hil : i = len := by omega
      rw [hil] at Xl fl cl
      exact ⟨Tl, Bk, z, Xl, pl, fl, cl⟩
    | succ r ih =>
      intro i hi z hz Tl Bk Xl pl fl cl
      have all := X0.warmed.alike.symm.trans Xl.warmed.alike
      have hAl := hA0.keep all (pl.other hne hA0.1)
      have hBk := hB0.like all pl.1 fl.1 fl.2.1 fl.2.2.1
      have hlt : q + i < Bk.slots.size := by rw [fl.2.2.1]; omega
      have c3 : Steps p.tables e below (s₁.setTop (entryFrame m #[.ref b, .int (Int32.ofNat o), .ref d, .int (Int32.ofNat q), .int (Int32.ofNat len)] 7)) (Tl.setTop (mkF m 12 #[.val (.ref b), .val (.int (Int32.ofNat (o + i))), .val (.ref d), .val (.int (Int32.ofNat (q + i))), .val (.int (Int32.ofNat len)), .val (.int (Int32.ofNat i)), z] [.int (Int32.ofNat (o + i)), .ref b])) := cl.trans (by
        refine XS.iload Xl.here hexec rfl (hb hbytes d3) rfl ?_
        refine XS.iload Xl.here hexec rfl (hb hbytes d5) rfl ?_
        refine XS.icmpNo Xl.here hexec rfl (hb hbytes d7) rfl (ii_ge_f (lt32 (by omega) (by omega))) ?_
        refine XS.aloadN Xl.here hexec rfl (hb hbytes d10) rfl rfl ?_
        refine XS.iloadN Xl.here hexec rfl (hb hbytes d11) rfl ?_
        exact Steps.refl _)
      have c4 : Steps p.tables e below (s₁.setTop (entryFrame m #[.ref b, .int (Int32.ofNat o), .ref d, .int (Int32.ofNat q), .int (Int32.ofNat len)] 7)) (Tl.setTop (mkF m 13 #[.val (.ref b), .val (.int (Int32.ofNat (o + i))), .val (.ref d), .val (.int (Int32.ofNat (q + i))), .val (.int (Int32.ofNat len)), .val (.int (Int32.ofNat i)), z] [.int (cv A (o + i))])) := c3.trans (by
        refine Xl.aget hexec hAl rfl (hA.get (i := o + i) (by omega)) rfl rfl (hb hbytes d12) ?_
        exact Steps.refl _)
      have c5 : Steps p.tables e below (s₁.setTop (entryFrame m #[.ref b, .int (Int32.ofNat o), .ref d, .int (Int32.ofNat q), .int (Int32.ofNat len)] 7)) (Tl.setTop (mkF m 15 #[.val (.ref b), .val (.int (Int32.ofNat (o + i))), .val (.ref d), .val (.int (Int32.ofNat (q + i))), .val (.int (Int32.ofNat len)), .val (.int (Int32.ofNat i)), .val (.int (cv A (o + i)))] [])) := c4.trans (by
        refine XS.istoreS Xl.here hexec rfl (hb hbytes d13) rfl rfl hz ?_
        exact Steps.refl _)
      have c6 : Steps p.tables e below (s₁.setTop (entryFrame m #[.ref b, .int (Int32.ofNat o), .ref d, .int (Int32.ofNat q), .int (Int32.ofNat len)] 7)) (Tl.setTop (mkF m 31 #[.val (.ref b), .val (.int (Int32.ofNat (o + i))), .val (.ref d), .val (.int (Int32.ofNat (q + i))), .val (.int (Int32.ofNat len)), .val (.int (Int32.ofNat i)), .val (.int (cv A (o + i)))] [.int (lo8 (cv A (o + i))), .int (Int32.ofNat (q + i)), .ref d])) := c5.trans (by
        refine XS.iload Xl.here hexec rfl (hb hbytes d15) rfl ?_
        refine sipushV Xl.here hexec rfl 255 (hb hbytes d17) (by decide) ?_
        refine XS.icmpYes Xl.here hexec rfl (pc0 := 20) rfl (hb hbytes d20) rfl (ii_le_t (hp i (by omega))) (by decide) rfl ?_
        refine XS.aloadN Xl.here hexec rfl (hb hbytes d26) rfl rfl ?_
        refine XS.iloadN Xl.here hexec rfl (hb hbytes d27) rfl ?_
        refine XS.iload Xl.here hexec rfl (hb hbytes d28) rfl ?_
        refine i2b Xl.here hexec rfl (hb hbytes d30) rfl ?_
        exact Steps.refl _)
      obtain ⟨T7, X7, p7, st7⟩ := Xl.aput hexec hBk rfl hlt rfl (fits_lo8 (cv A (o + i))) (g := (mkF m 31 #[.val (.ref b), .val (.int (Int32.ofNat (o + i))), .val (.ref d), .val (.int (Int32.ofNat (q + i))), .val (.int (Int32.ofNat len)), .val (.int (Int32.ofNat i)), .val (.int (cv A (o + i)))] [.int (lo8 (cv A (o + i))), .int (Int32.ofNat (q + i)), .ref d])) rfl (rest := []) rfl (hb hbytes d31)
      have c8 : Steps p.tables e below (s₁.setTop (entryFrame m #[.ref b, .int (Int32.ofNat o), .ref d, .int (Int32.ofNat q), .int (Int32.ofNat len)] 7)) (T7.setTop (mkF m 32 #[.val (.ref b), .val (.int (Int32.ofNat (o + i))), .val (.ref d), .val (.int (Int32.ofNat (q + i))), .val (.int (Int32.ofNat len)), .val (.int (Int32.ofNat i)), .val (.int (cv A (o + i)))] [])) := c6.trans (st7 _ (Steps.refl _))
      have c9 : Steps p.tables e below (s₁.setTop (entryFrame m #[.ref b, .int (Int32.ofNat o), .ref d, .int (Int32.ofNat q), .int (Int32.ofNat len)] 7)) (T7.setTop (mkF m 3 #[.val (.ref b), .val (.int (Int32.ofNat (o + i) + 1)), .val (.ref d), .val (.int (Int32.ofNat (q + i) + 1)), .val (.int (Int32.ofNat len)), .val (.int (Int32.ofNat i + 1)), .val (.int (cv A (o + i)))] [])) := c8.trans (by
        refine iincV X7.here hexec rfl 1 (hb hbytes d32) (by decide) rfl rfl ?_
        refine iincV X7.here hexec rfl 1 (hb hbytes d35) (by decide) rfl rfl ?_
        refine iincV X7.here hexec rfl 1 (hb hbytes d38) (by decide) rfl rfl ?_
        refine XS.goto X7.here hexec rfl (pc0 := 41) rfl (hb hbytes d41) (by decide) rfl ?_
        exact Steps.refl _)
      have c10 : Steps p.tables e below (s₁.setTop (entryFrame m #[.ref b, .int (Int32.ofNat o), .ref d, .int (Int32.ofNat q), .int (Int32.ofNat len)] 7)) (T7.setTop (mkF m 3 #[.val (.ref b), .val (.int (Int32.ofNat (o + (i + 1)))), .val (.ref d), .val (.int (Int32.ofNat (q + (i + 1)))), .val (.int (Int32.ofNat len)), .val (.int (Int32.ofNat (i + 1))), .val (.int (cv A (o + i)))] [])) := by
        have := c9
        rw [succ32, succ32, succ32] at this
        exact this
      exact ih (i + 1) (by omega) _ (Or.inr ⟨_, rfl, rfl⟩) T7 _ (by rw [copyLocs_step, ← List.append_assoc]; exact X7) (pl.trans p7) (fl.step (by omega) hlt (by simp)) c10
  obtain ⟨T9, B9, z9, X9, p9, f9, g9⟩ := loop len 0 (by omega) .unset (Or.inl rfl) s₁ B (by simpa [copyLocs] using X0) ⟨hB0.1, fun _ _ => rfl, rfl⟩ (Laid.zero _ _ _) c2
  have c11 : Steps p.tables e below (s₁.setTop (entryFrame m #[.ref b, .int (Int32.ofNat o), .ref d, .int (Int32.ofNat q), .int (Int32.ofNat len)] 7)) (T9.setTop (mkF m 46 #[.val (.ref b), .val (.int (Int32.ofNat (o + len))), .val (.ref d), .val (.int (Int32.ofNat (q + len))), .val (.int (Int32.ofNat len)), .val (.int (Int32.ofNat len)), z9] [.int (Int32.ofNat len)])) := g9.trans (by
    refine XS.iload X9.here hexec rfl (hb hbytes d3) rfl ?_
    refine XS.iload X9.here hexec rfl (hb hbytes d5) rfl ?_
    refine XS.icmpYes X9.here hexec rfl (pc0 := 7) rfl (hb hbytes d7) rfl (ii_ge_t (nlt32 (by omega) (Nat.le_refl _))) (by decide) rfl ?_
    refine XS.iload X9.here hexec rfl (hb hbytes d44) rfl ?_
    exact Steps.refl _)
  exact ⟨T9, some (.int (Int32.ofNat len)), _, _, _, X9, by simp, rfl, rfl, (fun h => by cases h), ⟨rfl, B9, p9.from hh0, f9⟩, fun fs hl => c11.trans (X9.ireturnOut hexec hret rfl (Or.inl rfl) (hb hbytes d46) hl)⟩
end Cmp5
namespace Cmp3
def yN : MethodName := ⟨"java/lang/StringUTF16", "compress", "([CII)[B"⟩
abbrev yB : ByteArray := jdk_52_method_16_code
theorem d0 : decode yB 0 = .ok (.iload_n 2, 1) := by decide +kernel
theorem d1 : decode yB 1 = .ok (.newarray .byte, 2) := by decide +kernel
theorem d3 : decode yB 3 = .ok (.astore_n 3, 1) := by decide +kernel
theorem d4 : decode yB 4 = .ok (.aload_n 0, 1) := by decide +kernel
theorem d5 : decode yB 5 = .ok (.iload_n 1, 1) := by decide +kernel
theorem d6 : decode yB 6 = .ok (.aload_n 3, 1) := by decide +kernel
theorem d7 : decode yB 7 = .ok (.iconst 0, 1) := by decide +kernel
theorem d8 : decode yB 8 = .ok (.iload_n 2, 1) := by decide +kernel
theorem d9 : decode yB 9 = .ok (.invokestatic 115, 3) := by decide +kernel
theorem d12 : decode yB 12 = .ok (.istore 4, 2) := by decide +kernel
theorem d14 : decode yB 14 = .ok (.iload 4, 2) := by decide +kernel
theorem d16 : decode yB 16 = .ok (.iload_n 2, 1) := by decide +kernel
theorem d17 : decode yB 17 = .ok (.if_icmp (.eq) 40, 3) := by decide +kernel
theorem d57 : decode yB 57 = .ok (.aload_n 3, 1) := by decide +kernel
theorem d58 : decode yB 58 = .ok (.areturn, 1) := by decide +kernel
def site : List Cond := [.arrayClass .byte, Cmp5.tab] ++ staticW U16 115 Cmp5.yN
def tab : Cond := tabOf yN yB 6 (some (.array .byte)) site
def P (b : Addr) (A : Cell) (o len : Nat) (args : Array Value) (s : State) : Prop := args = #[.ref b, .int (Int32.ofNat o), .int (Int32.ofNat len)] ∧ Ch b A s ∧ o + len ≤ A.slots.size ∧ len ≤ 536870912 ∧ ∀ i, i < len → ¬ 255 < cv A (o + i)
def E (b : Addr) (A : Cell) (o len : Nat) (r : Option Value) (s u : State) : Prop := NewArr .byte "[B" len (fun j => .int (lo8 (cv A (o + j)))) r s u ∧ u.heap.size = s.heap.size + 1
/-- no char of the range above 255: a new byte[] of their low bytes -/
theorem law (l : Launch) (b : Addr) (A : Cell) (o len : Nat) : Law l yN 3 3 1 18 yB 6 (some (.array .byte)) site (P b A o len) (E b A o len) [] 1 len := by
  refine Law.of_walk (plainFor_of_name (by decide +kernel)) (by decide +kernel) (by decide +kernel) (by decide) (fun _ _ h => by rw [h.1]; rfl) (fun _ U U' hal hh h => ⟨h.1, h.2.1.mv hal hh, h.2.2⟩) (fun r U U' V V' h1 hal h2 h => ⟨NewArr.mv r U U' V V' h1 hal h2 h.1, by rw [h1, h2]; exact h.2⟩) ?_
  intro p e s m args below meth c s₁ X0 hexec hbytes hml hret hlk hnm hown hh0 W hP
  obtain ⟨rfl, hA, l1, l2, hp⟩ := hP
  have a31 := hA.1.2.2.2
  have c1 : Steps p.tables e below (s₁.setTop (entryFrame m #[.ref b, .int (Int32.ofNat o), .int (Int32.ofNat len)] 6)) (s₁.setTop (mkF m 0 #[.val (.ref b), .val (.int (Int32.ofNat o)), .val (.int (Int32.ofNat len)), .unset, .unset, .unset] [])) := entry rfl
  have c2 : Steps p.tables e below (s₁.setTop (entryFrame m #[.ref b, .int (Int32.ofNat o), .int (Int32.ofNat len)] 6)) (s₁.setTop (mkF m 1 #[.val (.ref b), .val (.int (Int32.ofNat o)), .val (.int (Int32.ofNat len)), .unset, .unset, .unset] [.int (Int32.ofNat len)])) := c1.trans (by
    refine XS.iloadN X0.here hexec rfl (hb hbytes d0) rfl ?_
    exact Steps.refl _)
  obtain ⟨T3, B3, X3, ba3, bs3, bv3, bh3, bf3, st3⟩ := X0.anew hexec (atype := .byte) (wk W (.arrayClass .byte)) rfl (by show len * 1 ≤ _; omega) (by omega) (g := (mkF m 1 #[.val (.ref b), .val (.int (Int32.ofNat o)), .val (.int (Int32.ofNat len)), .unset, .unset, .unset] [.int (Int32.ofNat len)])) rfl (hb hbytes d1) (rest := []) rfl (Nat.le_refl _) (by show 0 + len ≤ len; omega)
  rw [hh0] at ba3 st3
  have kp3 : XT.Kept s T3 := (XT.Kept.of_eq hh0).push bh3
  have hA3 := hA.keep X3.warmed.alike (kp3 _ _ hA.1.1)
  have hne : b ≠ s.heap.size := hA.1.ne
  have c4 : Steps p.tables e below (s₁.setTop (entryFrame m #[.ref b, .int (Int32.ofNat o), .int (Int32.ofNat len)] 6)) (T3.setTop (mkF m 3 #[.val (.ref b), .val (.int (Int32.ofNat o)), .val (.int (Int32.ofNat len)), .unset, .unset, .unset] [.ref s.heap.size])) := c2.trans (st3 _ (Steps.refl _))
  have c5 : Steps p.tables e below (s₁.setTop (entryFrame m #[.ref b, .int (Int32.ofNat o), .int (Int32.ofNat len)] 6)) (T3.setTop (mkF m 9 #[.val (.ref b), .val (.int (Int32.ofNat o)), .val (.int (Int32.ofNat len)), .val (.ref s.heap.size), .unset, .unset] [.int (Int32.ofNat len), .int 0, .ref s.heap.size, .int (Int32.ofNat o), .ref b])) := c4.trans (by
    refine XS.astoreN X3.here hexec rfl (hb hbytes d3) rfl rfl rfl ?_
    refine XS.aloadN X3.here hexec rfl (hb hbytes d4) rfl rfl ?_
    refine XS.iloadN X3.here hexec rfl (hb hbytes d5) rfl ?_
    refine XS.aloadN X3.here hexec rfl (hb hbytes d6) rfl rfl ?_
    refine iconstV X3.here hexec rfl 0 (hb hbytes d7) (by decide) ?_
    refine XS.iloadN X3.here hexec rfl (hb hbytes d8) rfl ?_
    exact Steps.refl _)
  obtain ⟨v6, T6, X6, E6, g6⟩ := X3.callS hexec (Cmp5.law l b A s.heap.size B3 o 0 len) hown (wks W (staticW U16 115 Cmp5.yN)) (wk W Cmp5.tab) (W := 0) (Nat.le_of_ble_eq_true rfl) (Nat.le_of_ble_eq_true rfl) (Nat.le_refl _) (by show 0 + len + 0 ≤ len; omega) (g := (mkF m 9 #[.val (.ref b), .val (.int (Int32.ofNat o)), .val (.int (Int32.ofNat len)), .val (.ref s.heap.size), .unset, .unset] [.int (Int32.ofNat len), .int (Int32.ofNat 0), .ref s.heap.size, .int (Int32.ofNat o), .ref b])) rfl (by rw [hml]; rfl) c5 (argsL := [.ref b, .int (Int32.ofNat o), .ref s.heap.size, .int (Int32.ofNat 0), .int (Int32.ofNat len)]) (rest := []) rfl rfl (by show 2 * 0 + 0 ≤ _; decide) (hb hbytes d9) (⟨rfl, hA3, ba3, hne, l1, by rw [bs3]; simp, hp⟩)
  obtain ⟨rfl, B6, p6, f6⟩ := E6
  have c7 : Steps p.tables e below (s₁.setTop (entryFrame m #[.ref b, .int (Int32.ofNat o), .int (Int32.ofNat len)] 6)) (T6.setTop (mkF m 12 #[.val (.ref b), .val (.int (Int32.ofNat o)), .val (.int (Int32.ofNat len)), .val (.ref s.heap.size), .unset, .unset] [.int (Int32.ofNat len)])) := g6
  have c8 : Steps p.tables e below (s₁.setTop (entryFrame m #[.ref b, .int (Int32.ofNat o), .int (Int32.ofNat len)] 6)) (T6.setTop (mkF m 58 #[.val (.ref b), .val (.int (Int32.ofNat o)), .val (.int (Int32.ofNat len)), .val (.ref s.heap.size), .val (.int (Int32.ofNat len)), .unset] [.ref s.heap.size])) := c7.trans (by
    refine XS.istore X6.here hexec rfl (hb hbytes d12) rfl rfl ?_
    refine XS.iload X6.here hexec rfl (hb hbytes d14) rfl ?_
    refine XS.iloadN X6.here hexec rfl (hb hbytes d16) rfl ?_
    refine XS.icmpYes X6.here hexec rfl (pc0 := 17) rfl (hb hbytes d17) rfl (ii_eq_t rfl) (by decide) rfl ?_
    refine XS.aloadN X6.here hexec rfl (hb hbytes d57) rfl rfl ?_
    exact Steps.refl _)
  have X8 := X6.wide (L' := []) (cells' := 1) (slots' := len) (fun x hx hlt => by
    simp only [List.nil_append, copyLocs, List.mem_map, List.mem_range] at hx
    obtain ⟨i, -, rfl⟩ := hx
    exact absurd hlt (Nat.lt_irrefl _)) (Nat.le_refl _) (by omega)
  exact ⟨T6, some (.ref s.heap.size), _, _, _, X8, rfl, rfl, rfl, (fun h => by cases h), ⟨⟨rfl, B6, ba3.like (X3.warmed.alike.symm.trans X6.warmed.alike) p6.1 f6.1 f6.2.1 f6.2.2.1, f6.2.1.trans bv3, by rw [X6.warmed.alike.findClass, f6.1]; exact bf3, by rw [f6.2.2.1, bs3]; simp, fun j hj => by rw [f6.2.2.2 j, if_pos (by omega)]; rfl, kp3.put p6 (Nat.le_refl _)⟩, by rw [p6.2.2, bh3, hh0]; simp⟩, fun fs hl => c8.trans (X8.areturnOut hexec rfl hret rfl (hb hbytes d58) hl)⟩
end Cmp3
namespace CodL
def yN : MethodName := ⟨"java/lang/StringUTF16", "coderFromArrayLen", "([BI)B"⟩
abbrev yB : ByteArray := jdk_52_method_15_code
theorem d0 : decode yB 0 = .ok (.iload_n 1, 1) := by decide +kernel
theorem d1 : decode yB 1 = .ok (.aload_n 0, 1) := by decide +kernel
theorem d2 : decode yB 2 = .ok (.arraylength, 1) := by decide +kernel
theorem d3 : decode yB 3 = .ok (.isub, 1) := by decide +kernel
theorem d4 : decode yB 4 = .ok (.bipush 31, 2) := by decide +kernel
theorem d6 : decode yB 6 = .ok (.iushr, 1) := by decide +kernel
theorem d7 : decode yB 7 = .ok (.i2b, 1) := by decide +kernel
theorem d8 : decode yB 8 = .ok (.ireturn, 1) := by decide +kernel
def site : List Cond := []
def tab : Cond := tabOf yN yB 2 (some .byte) site
def P (d : Addr) (B : Cell) (args : Array Value) (s : State) : Prop := args = #[.ref d, .int (Int32.ofNat B.slots.size)] ∧ Arr .byte d B s
def E (r : Option Value) (s u : State) : Prop := XT.PureE (some (.int 0)) r s u
/-- an array as long as the number of chars: LATIN1 -/
theorem law (l : Launch) (d : Addr) (B : Cell) : Law l yN 2 2 0 0 yB 2 (some .byte) site (P d B) E [] 0 0 := by
  refine Law.of_walk (plainFor_of_name (by decide +kernel)) (by decide +kernel) (by decide +kernel) (by decide) (fun _ _ h => by rw [h.1]; rfl) (fun _ U U' hal hh h => ⟨h.1, h.2.mv hal hh⟩) (fun r U U' V V' h1 hal h2 h => XT.PureE.mv r U U' V V' h1 hal h2 h) ?_
  intro p e s m args below meth c s₁ X0 hexec hbytes hml hret hlk hnm hown hh0 W hP
  obtain ⟨rfl, hB⟩ := hP
  have hB0 := hB.mv X0.warmed.alike hh0
  have c1 : Steps p.tables e below (s₁.setTop (entryFrame m #[.ref d, .int (Int32.ofNat B.slots.size)] 2)) (s₁.setTop (mkF m 0 #[.val (.ref d), .val (.int (Int32.ofNat B.slots.size))] [])) := entry rfl
  have c2 : Steps p.tables e below (s₁.setTop (entryFrame m #[.ref d, .int (Int32.ofNat B.slots.size)] 2)) (s₁.setTop (mkF m 2 #[.val (.ref d), .val (.int (Int32.ofNat B.slots.size))] [.ref d, .int (Int32.ofNat B.slots.size)])) := c1.trans (by
    refine XS.iloadN X0.here hexec rfl (hb hbytes d0) rfl ?_
    refine XS.aloadN X0.here hexec rfl (hb hbytes d1) rfl rfl ?_
    exact Steps.refl _)
  have c3 : Steps p.tables e below (s₁.setTop (entryFrame m #[.ref d, .int (Int32.ofNat B.slots.size)] 2)) (s₁.setTop (mkF m 8 #[.val (.ref d), .val (.int (Int32.ofNat B.slots.size))] [.int (lo8 (ushr (Int32.ofNat B.slots.size - Int32.ofNat B.slots.size) 31))])) := c2.trans (by
    refine X0.alen hexec hB0 rfl rfl (hb hbytes d2) ?_
    refine XS.isub X0.here hexec rfl (hb hbytes d3) rfl ?_
    refine bipushV X0.here hexec rfl 31 (hb hbytes d4) (by decide) ?_
    refine iushr X0.here hexec rfl (hb hbytes d6) rfl ?_
    refine i2b X0.here hexec rfl (hb hbytes d7) rfl ?_
    exact Steps.refl _)
  have e0 : lo8 (ushr (Int32.ofNat B.slots.size - Int32.ofNat B.slots.size) 31) = 0 := by rw [Int32.sub_self]; decide
  rw [e0] at c3
  exact ⟨s₁, some (.int 0), _, _, _, X0, rfl, rfl, rfl, (fun h => by cases h), ⟨rfl, hh0⟩, fun fs hl => c3.trans (X0.ireturnOut hexec hret rfl (Or.inr (Or.inr (Or.inl rfl))) (hb hbytes d8) hl)⟩
end CodL
/-- the String at a is Latin-1 over a new byte[] (the heap's one new cell): the low bytes of the len chars of A from o on; every cell but a is kept -/
def Got (a : Addr) (D : Cell) (fV fC : Field) (A : Cell) (o len : Nat) (r : Option Value) (s u : State) : Prop := r = none ∧ ∃ D' V : Cell, Blank "java/lang/String" a D' u ∧ Same D D' [fV.slot, fC.slot] ∧ D'.slots[fV.slot]? = some (.ref s.heap.size) ∧ D'.slots[fC.slot]? = some (.int 0) ∧ Arr .byte s.heap.size V u ∧ V.vm = .none ∧ u.vm.findClass "[B" = some V.cls ∧ V.slots.size = len ∧ (∀ j, j < len → V.slots[j]? = some (.int (lo8 (cv A (o + j))))) ∧ (∀ (y : Addr) (c : Cell), y ≠ a → s.heap[y]? = some c → u.heap[y]? = some c) ∧ u.heap.size = s.heap.size + 1
theorem Got.mv {a : Addr} {D A : Cell} {fV fC : Field} {o len : Nat} : ∀ r (U U' V V' : State), U'.heap = U.heap → V.vm.Alike V'.vm → V'.heap = V.heap → Got a D fV fC A o len r U V → Got a D fV fC A o len r U' V' :=
  fun r U U' V V' h1 hal h2 ⟨e0, D', X, a1, a2, a3, a4, a5, a6, a7, a8, a9, a10, a11⟩ => ⟨e0, D', X, a1.mv hal h2, a2, by rw [h1]; exact a3, a4, by rw [h1]; exact a5.mv hal h2, a6, by rw [hal.findClass]; exact a7, a8, a9, by rw [h1, h2]; exact a10, by rw [h1, h2]; exact a11⟩
namespace New4
def yN : MethodName := ⟨"java/lang/String", "<init>", "([CIILjava/lang/Void;)V"⟩
abbrev yB : ByteArray := jdk_42_method_149_code
theorem d0 : decode yB 0 = .ok (.aload_n 0, 1) := by decide +kernel
theorem d1 : decode yB 1 = .ok (.invokespecial 1, 3) := by decide +kernel
theorem d4 : decode yB 4 = .ok (.iload_n 3, 1) := by decide +kernel
theorem d5 : decode yB 5 = .ok (.ifCond (.ne) 22, 3) := by decide +kernel
theorem d27 : decode yB 27 = .ok (.getstatic 38, 3) := by decide +kernel
theorem d30 : decode yB 30 = .ok (.ifCond (.eq) 28, 3) := by decide +kernel
theorem d33 : decode yB 33 = .ok (.aload_n 1, 1) := by decide +kernel
theorem d34 : decode yB 34 = .ok (.iload_n 2, 1) := by decide +kernel
theorem d35 : decode yB 35 = .ok (.iload_n 3, 1) := by decide +kernel
theorem d36 : decode yB 36 = .ok (.invokestatic 177, 3) := by decide +kernel
theorem d39 : decode yB 39 = .ok (.astore 5, 2) := by decide +kernel
theorem d41 : decode yB 41 = .ok (.aload_n 0, 1) := by decide +kernel
theorem d42 : decode yB 42 = .ok (.aload 5, 2) := by decide +kernel
theorem d44 : decode yB 44 = .ok (.iload_n 3, 1) := by decide +kernel
theorem d45 : decode yB 45 = .ok (.invokestatic 47, 3) := by decide +kernel
theorem d48 : decode yB 48 = .ok (.putfield 15, 3) := by decide +kernel
theorem d51 : decode yB 51 = .ok (.aload_n 0, 1) := by decide +kernel
theorem d52 : decode yB 52 = .ok (.aload 5, 2) := by decide +kernel
theorem d54 : decode yB 54 = .ok (.putfield 9, 3) := by decide +kernel
theorem d57 : decode yB 57 = .ok (.return_, 1) := by decide +kernel
def site : List Cond := [.fieldLink "java/lang/String" 38 "java/lang/String" "COMPACT_STRINGS" "Z", Cmp3.tab, CodL.tab, .laysFinal "java/lang/String" "java/lang/String" "value" "[B", .fieldLink "java/lang/String" 9 "java/lang/String" "value" "[B", .laysFinal "java/lang/String" "java/lang/String" "coder" "B", .fieldLink "java/lang/String" 15 "java/lang/String" "coder" "B"] ++ objW "java/lang/String" 1 ++ staticW "java/lang/String" 177 Cmp3.yN ++ staticW "java/lang/String" 47 CodL.yN
def tab : Cond := tabOf yN yB 6 none site
def P (a : Addr) (D : Cell) (fV fC : Field) (b : Addr) (A : Cell) (z : Int32) (o len : Nat) (args : Array Value) (s : State) : Prop := args = #[.ref a, .ref b, .int (Int32.ofNat o), .int (Int32.ofNat len), .null] ∧ Blank "java/lang/String" a D s ∧ Found "java/lang/String" "value" "[B" fV s ∧ Found "java/lang/String" "coder" "B" fC s ∧ Ch b A s ∧ StaticIs s "java/lang/String" "COMPACT_STRINGS" "Z" (.int z) ∧ ¬ z = 0 ∧ 0 < len ∧ o + len ≤ A.slots.size ∧ len ≤ 536870912 ∧ ∀ i, i < len → ¬ 255 < cv A (o + i)
def E (a : Addr) (D : Cell) (fV fC : Field) (A : Cell) (o len : Nat) (r : Option Value) (s u : State) : Prop := Got a D fV fC A o len r s u
/-- len > 0, no char of the range above 255: a Latin-1 String of their low bytes -/
theorem law (l : Launch) (a : Addr) (D : Cell) (fV fC : Field) (b : Addr) (A : Cell) (z : Int32) (o len : Nat) : Law l yN 5 4 2 35 yB 6 none site (P a D fV fC b A z o len) (E a D fV fC A o len) [⟨a, fC.slot⟩, ⟨a, fV.slot⟩] 1 len := by
  refine Law.of_walk (plainFor_of_name (by decide +kernel)) (by decide +kernel) (by decide +kernel) (by decide) (fun _ _ h => by rw [h.1]; rfl) (fun _ U U' hal hh h => ⟨h.1, h.2.1.mv hal hh, h.2.2.1.al hal, h.2.2.2.1.al hal, h.2.2.2.2.1.mv hal hh, h.2.2.2.2.2.1.there hal hh, h.2.2.2.2.2.2⟩) (fun r U U' V V' h1 hal h2 h => Got.mv r U U' V V' h1 hal h2 h) ?_
  intro p e s m args below meth c s₁ X0 hexec hbytes hml hret hlk hnm hown hh0 W hP
  obtain ⟨rfl, hB, f1, f2, hA, s1, hz, l0, l1, l2, hp⟩ := hP
  have a31 := hA.1.2.2.2
  have c1 : Steps p.tables e below (s₁.setTop (entryFrame m #[.ref a, .ref b, .int (Int32.ofNat o), .int (Int32.ofNat len), .null] 6)) (s₁.setTop (mkF m 0 #[.val (.ref a), .val (.ref b), .val (.int (Int32.ofNat o)), .val (.int (Int32.ofNat len)), .val .null, .unset] [])) := entry rfl
  have c2 : Steps p.tables e below (s₁.setTop (entryFrame m #[.ref a, .ref b, .int (Int32.ofNat o), .int (Int32.ofNat len), .null] 6)) (s₁.setTop (mkF m 1 #[.val (.ref a), .val (.ref b), .val (.int (Int32.ofNat o)), .val (.int (Int32.ofNat len)), .val .null, .unset] [.ref a])) := c1.trans (by
    refine XS.aloadN X0.here hexec rfl (hb hbytes d0) rfl rfl ?_
    exact Steps.refl _)
  obtain ⟨T3, X3, q3, st3⟩ := X0.oinit hexec hown (wks W (objW "java/lang/String" 1)) (g := (mkF m 1 #[.val (.ref a), .val (.ref b), .val (.int (Int32.ofNat o)), .val (.int (Int32.ofNat len)), .val .null, .unset] [.ref a])) rfl (by rw [hml]; rfl) (rest := []) rfl (hb hbytes d1) (W := 0) (by show 2 * 0 + 0 ≤ _; decide) (Nat.le_of_ble_eq_true rfl) (Nat.le_of_ble_eq_true rfl)
  have hh3 := q3.trans hh0
  have c4 : Steps p.tables e below (s₁.setTop (entryFrame m #[.ref a, .ref b, .int (Int32.ofNat o), .int (Int32.ofNat len), .null] 6)) (T3.setTop (mkF m 27 #[.val (.ref a), .val (.ref b), .val (.int (Int32.ofNat o)), .val (.int (Int32.ofNat len)), .val .null, .unset] [])) := (c2.trans (st3 _ (Steps.refl _))).trans (by
    refine XS.iloadN X3.here hexec rfl (hb hbytes d4) rfl ?_
    refine XS.ifYes X3.here hexec rfl (pc0 := 5) rfl (hb hbytes d5) rfl (i0_ne_t (nz32 (by omega) l0)) (by decide) rfl ?_
    exact Steps.refl _)
  obtain ⟨T5, X5, q5, st5⟩ := X3.sget hexec hown (wk W (.fieldLink "java/lang/String" 38 "java/lang/String" "COMPACT_STRINGS" "Z")) s1 (fun _ _ h => by rw [hh3]; exact h) (g := (mkF m 27 #[.val (.ref a), .val (.ref b), .val (.int (Int32.ofNat o)), .val (.int (Int32.ofNat len)), .val .null, .unset] [])) rfl (hb hbytes d27)
  have hh5 := q5.trans hh3
  have c6 : Steps p.tables e below (s₁.setTop (entryFrame m #[.ref a, .ref b, .int (Int32.ofNat o), .int (Int32.ofNat len), .null] 6)) (T5.setTop (mkF m 30 #[.val (.ref a), .val (.ref b), .val (.int (Int32.ofNat o)), .val (.int (Int32.ofNat len)), .val .null, .unset] [.int z])) := c4.trans (st5 _ (Steps.refl _))
  have c7 : Steps p.tables e below (s₁.setTop (entryFrame m #[.ref a, .ref b, .int (Int32.ofNat o), .int (Int32.ofNat len), .null] 6)) (T5.setTop (mkF m 36 #[.val (.ref a), .val (.ref b), .val (.int (Int32.ofNat o)), .val (.int (Int32.ofNat len)), .val .null, .unset] [.int (Int32.ofNat len), .int (Int32.ofNat o), .ref b])) := c6.trans (by
    refine XS.ifNo X5.here hexec rfl (hb hbytes d30) rfl (i0_eq_f hz) ?_
    refine XS.aloadN X5.here hexec rfl (hb hbytes d33) rfl rfl ?_
    refine XS.iloadN X5.here hexec rfl (hb hbytes d34) rfl ?_
    refine XS.iloadN X5.here hexec rfl (hb hbytes d35) rfl ?_
    exact Steps.refl _)
  obtain ⟨v8, T8, X8, E8, g8⟩ := X5.callS hexec (Cmp3.law l b A o len) hown (wks W (staticW "java/lang/String" 177 Cmp3.yN)) (wk W Cmp3.tab) (W := 0) (Nat.le_of_ble_eq_true rfl) (Nat.le_of_ble_eq_true rfl) (Nat.le_refl _) (by show 0 + len ≤ len; omega) (g := (mkF m 36 #[.val (.ref a), .val (.ref b), .val (.int (Int32.ofNat o)), .val (.int (Int32.ofNat len)), .val .null, .unset] [.int (Int32.ofNat len), .int (Int32.ofNat o), .ref b])) rfl (by rw [hml]; rfl) c7 (argsL := [.ref b, .int (Int32.ofNat o), .int (Int32.ofNat len)]) (rest := []) rfl rfl (by show 2 * 0 + 0 ≤ _; decide) (hb hbytes d36) (⟨rfl, hA.mv X5.warmed.alike hh5, l1, l2, hp⟩)
  obtain ⟨e8, z8⟩ := E8
  obtain ⟨rfl, N, n1, n2, n3, n4, n5, n6⟩ := NewArr.mv _ T5 s _ _ hh5.symm (Vm.Alike.refl _) rfl e8
  rw [hh5] at z8
  have hB1 := hB.keep X8.warmed.alike (n6 _ _ hB.1)
  have hne : s.heap.size ≠ a := (Nat.ne_of_lt (Array.getElem?_eq_some_iff.mp hB.1).1).symm
  have c9 : Steps p.tables e below (s₁.setTop (entryFrame m #[.ref a, .ref b, .int (Int32.ofNat o), .int (Int32.ofNat len), .null] 6)) (T8.setTop (mkF m 39 #[.val (.ref a), .val (.ref b), .val (.int (Int32.ofNat o)), .val (.int (Int32.ofNat len)), .val .null, .unset] [.ref s.heap.size])) := g8
  have c10 : Steps p.tables e below (s₁.setTop (entryFrame m #[.ref a, .ref b, .int (Int32.ofNat o), .int (Int32.ofNat len), .null] 6)) (T8.setTop (mkF m 45 #[.val (.ref a), .val (.ref b), .val (.int (Int32.ofNat o)), .val (.int (Int32.ofNat len)), .val .null, .val (.ref s.heap.size)] [.int (Int32.ofNat N.slots.size), .ref s.heap.size, .ref a])) := by
    have hc : Steps p.tables e below (s₁.setTop (entryFrame m #[.ref a, .ref b, .int (Int32.ofNat o), .int (Int32.ofNat len), .null] 6)) (T8.setTop (mkF m 45 #[.val (.ref a), .val (.ref b), .val (.int (Int32.ofNat o)), .val (.int (Int32.ofNat len)), .val .null, .val (.ref s.heap.size)] [.int (Int32.ofNat len), .ref s.heap.size, .ref a])) := c9.trans (by
      refine XS.astore X8.here hexec rfl (hb hbytes d39) rfl rfl rfl ?_
      refine XS.aloadN X8.here hexec rfl (hb hbytes d41) rfl rfl ?_
      refine XS.aload X8.here hexec rfl (hb hbytes d42) rfl rfl ?_
      refine XS.iloadN X8.here hexec rfl (hb hbytes d44) rfl ?_
      exact Steps.refl _)
    rw [n4]; exact hc
  obtain ⟨v11, T11, X11, E11, g11⟩ := X8.callS hexec (CodL.law l s.heap.size N) hown (wks W (staticW "java/lang/String" 47 CodL.yN)) (wk W CodL.tab) (W := 1) (Nat.le_of_ble_eq_true rfl) (Nat.le_of_ble_eq_true rfl) (Nat.le_refl _) (by show 0 + len + 0 ≤ len; omega) (g := (mkF m 45 #[.val (.ref a), .val (.ref b), .val (.int (Int32.ofNat o)), .val (.int (Int32.ofNat len)), .val .null, .val (.ref s.heap.size)] [.int (Int32.ofNat N.slots.size), .ref s.heap.size, .ref a])) rfl (by rw [hml]; rfl) c10 (argsL := [.ref s.heap.size, .int (Int32.ofNat N.slots.size)]) (rest := [.ref a]) rfl rfl (by show 2 * 0 + (1 + 0) ≤ _; decide) (hb hbytes d45) (⟨rfl, n1⟩)
  obtain ⟨rfl, q11⟩ := E11
  have hB11 := hB1.mv (X8.warmed.alike.symm.trans X11.warmed.alike) q11
  have c12 : Steps p.tables e below (s₁.setTop (entryFrame m #[.ref a, .ref b, .int (Int32.ofNat o), .int (Int32.ofNat len), .null] 6)) (T11.setTop (mkF m 48 #[.val (.ref a), .val (.ref b), .val (.int (Int32.ofNat o)), .val (.int (Int32.ofNat len)), .val .null, .val (.ref s.heap.size)] [.int 0, .ref a])) := g11
  obtain ⟨T13, X13, p13, bl13, sl13, st13⟩ := X11.finit hexec hown (wk W (.fieldLink "java/lang/String" 15 "java/lang/String" "coder" "B")) (Or.inr ⟨_, (wk W (.laysFinal "java/lang/String" "java/lang/String" "coder" "B"))⟩) (Or.inl ⟨rfl, hnm⟩) f2 (Or.inl rfl) hB11 (t := .byte) (by decide +kernel) rfl (g := (mkF m 48 #[.val (.ref a), .val (.ref b), .val (.int (Int32.ofNat o)), .val (.int (Int32.ofNat len)), .val .null, .val (.ref s.heap.size)] [.int 0, .ref a])) rfl (rest := []) rfl (hb hbytes d48)
  have c14 : Steps p.tables e below (s₁.setTop (entryFrame m #[.ref a, .ref b, .int (Int32.ofNat o), .int (Int32.ofNat len), .null] 6)) (T13.setTop (mkF m 54 #[.val (.ref a), .val (.ref b), .val (.int (Int32.ofNat o)), .val (.int (Int32.ofNat len)), .val .null, .val (.ref s.heap.size)] [.ref s.heap.size, .ref a])) := (c12.trans (st13 _ (Steps.refl _))).trans (by
    refine XS.aloadN X13.here hexec rfl (hb hbytes d51) rfl rfl ?_
    refine XS.aload X13.here hexec rfl (hb hbytes d52) rfl rfl ?_
    exact Steps.refl _)
  obtain ⟨T15, X15, p15, bl15, sl15, st15⟩ := X13.finit hexec hown (wk W (.fieldLink "java/lang/String" 9 "java/lang/String" "value" "[B")) (Or.inr ⟨_, (wk W (.laysFinal "java/lang/String" "java/lang/String" "value" "[B"))⟩) (Or.inl ⟨rfl, hnm⟩) f1 (Or.inl rfl) bl13 (t := (.array .byte)) (by decide +kernel) rfl (g := (mkF m 54 #[.val (.ref a), .val (.ref b), .val (.int (Int32.ofNat o)), .val (.int (Int32.ofNat len)), .val .null, .val (.ref s.heap.size)] [.ref s.heap.size, .ref a])) rfl (rest := []) rfl (hb hbytes d54)
  have c16 : Steps p.tables e below (s₁.setTop (entryFrame m #[.ref a, .ref b, .int (Int32.ofNat o), .int (Int32.ofNat len), .null] 6)) (T15.setTop (mkF m 57 #[.val (.ref a), .val (.ref b), .val (.int (Int32.ofNat o)), .val (.int (Int32.ofNat len)), .val .null, .val (.ref s.heap.size)] [])) := c14.trans (st15 _ (Steps.refl _))
  have ap := apart (Or.inr ⟨_, (wk W (.laysFinal "java/lang/String" "java/lang/String" "value" "[B"))⟩) (Or.inr ⟨_, (wk W (.laysFinal "java/lang/String" "java/lang/String" "coder" "B"))⟩) f1 f2 (t₁ := .array .byte) (t₂ := .byte) (by decide +kernel) (by decide +kernel) (by decide)
  have al := X8.warmed.alike.symm.trans X15.warmed.alike
  have n7 : T11.heap[s.heap.size]? = some N := by rw [q11]; exact n1.1
  exact ⟨T15, none, _, _, _, X15, by simp, rfl, by omega, (fun _ => rfl), ⟨rfl, _, N, bl15, ((Same.refl D _).set _ (by simp)).set _ (by simp), sl15, (Cell.slots_setSlot_ne _ ap).trans sl13, n1.keep al (p15.other hne (p13.other hne n7)), n2, by rw [al.findClass]; exact n3, n4, n5, fun y c h1 h2 => p15.other h1 (p13.other h1 (by rw [q11]; exact n6 y c h2)), by rw [p15.2.2, p13.2.2, q11]; exact z8⟩, fun fs hl => c16.trans (X15.returnOut hexec hret (hb hbytes d57) hl)⟩
end New4
namespace New1
def yN : MethodName := ⟨"java/lang/String", "<init>", "([C)V"⟩
abbrev yB : ByteArray := jdk_42_method_3_code
theorem d0 : decode yB 0 = .ok (.aload_n 0, 1) := by decide +kernel
theorem d1 : decode yB 1 = .ok (.aload_n 1, 1) := by decide +kernel
theorem d2 : decode yB 2 = .ok (.iconst 0, 1) := by decide +kernel
theorem d3 : decode yB 3 = .ok (.aload_n 1, 1) := by decide +kernel
theorem d4 : decode yB 4 = .ok (.arraylength, 1) := by decide +kernel
theorem d5 : decode yB 5 = .ok (.aconst_null, 1) := by decide +kernel
theorem d6 : decode yB 6 = .ok (.invokespecial 27, 3) := by decide +kernel
theorem d9 : decode yB 9 = .ok (.return_, 1) := by decide +kernel
def site : List Cond := [New4.tab] ++ initW "java/lang/String" 27 New4.yN
def tab : Cond := tabOf yN yB 2 none site
def P (a : Addr) (D : Cell) (fV fC : Field) (b : Addr) (A : Cell) (z : Int32) (args : Array Value) (s : State) : Prop := args = #[.ref a, .ref b] ∧ Blank "java/lang/String" a D s ∧ Found "java/lang/String" "value" "[B" fV s ∧ Found "java/lang/String" "coder" "B" fC s ∧ Ch b A s ∧ StaticIs s "java/lang/String" "COMPACT_STRINGS" "Z" (.int z) ∧ ¬ z = 0 ∧ 0 < A.slots.size ∧ A.slots.size ≤ 536870912 ∧ ∀ i, i < A.slots.size → ¬ 255 < cv A i
def E (a : Addr) (D : Cell) (fV fC : Field) (A : Cell) (r : Option Value) (s u : State) : Prop := Got a D fV fC A 0 A.slots.size r s u
/-- new String(chars), not empty, no char above 255: a Latin-1 String of their low bytes -/
theorem law (l : Launch) (a : Addr) (D : Cell) (fV fC : Field) (b : Addr) (A : Cell) (z : Int32) : Law l yN 2 1 3 52 yB 2 none site (P a D fV fC b A z) (E a D fV fC A) [⟨a, fC.slot⟩, ⟨a, fV.slot⟩] 1 A.slots.size := by
  refine Law.of_walk (plainFor_of_name (by decide +kernel)) (by decide +kernel) (by decide +kernel) (by decide) (fun _ _ h => by rw [h.1]; rfl) (fun _ U U' hal hh h => ⟨h.1, h.2.1.mv hal hh, h.2.2.1.al hal, h.2.2.2.1.al hal, h.2.2.2.2.1.mv hal hh, h.2.2.2.2.2.1.there hal hh, h.2.2.2.2.2.2⟩) (fun r U U' V V' h1 hal h2 h => Got.mv r U U' V V' h1 hal h2 h) ?_
  intro p e s m args below meth c s₁ X0 hexec hbytes hml hret hlk hnm hown hh0 W hP
  obtain ⟨rfl, hB, f1, f2, hA, s1, hz, l0, l2, hp⟩ := hP
  have c1 : Steps p.tables e below (s₁.setTop (entryFrame m #[.ref a, .ref b] 2)) (s₁.setTop (mkF m 0 #[.val (.ref a), .val (.ref b)] [])) := entry rfl
  have c2 : Steps p.tables e below (s₁.setTop (entryFrame m #[.ref a, .ref b] 2)) (s₁.setTop (mkF m 6 #[.val (.ref a), .val (.ref b)] [.null, .int (Int32.ofNat A.slots.size), .int 0, .ref b, .ref a])) := c1.trans (by
    refine XS.aloadN X0.here hexec rfl (hb hbytes d0) rfl rfl ?_
    refine XS.aloadN X0.here hexec rfl (hb hbytes d1) rfl rfl ?_
    refine iconstV X0.here hexec rfl 0 (hb hbytes d2) (by decide) ?_
    refine XS.aloadN X0.here hexec rfl (hb hbytes d3) rfl rfl ?_
    refine X0.alen hexec (hA.1.mv X0.warmed.alike hh0) rfl rfl (hb hbytes d4) ?_
    refine XS.aconstNull X0.here hexec rfl (hb hbytes d5) ?_
    exact Steps.refl _)
  obtain ⟨v3, T3, X3, E3, g3⟩ := X0.callN hexec (New4.law l a D fV fC b A z 0 A.slots.size) rfl hown (wks W (initW "java/lang/String" 27 New4.yN)) (W New4.tab (by simp only [site, List.mem_cons, List.mem_append, true_or, or_true])) (W := 0) (Nat.le_of_ble_eq_true rfl) (Nat.le_of_ble_eq_true rfl) (Nat.le_refl _) (by show 0 + A.slots.size ≤ A.slots.size; omega) (g := (mkF m 6 #[.val (.ref a), .val (.ref b)] [.null, .int (Int32.ofNat A.slots.size), .int (Int32.ofNat 0), .ref b, .ref a])) rfl (by rw [hml]; rfl) c2 (argsL := [.ref b, .int (Int32.ofNat 0), .int (Int32.ofNat A.slots.size), .null]) (rest := []) rfl rfl (by show 2 * 0 + 0 ≤ _; decide) (hb hbytes d6) (⟨rfl, hB.mv X0.warmed.alike hh0, f1.al X0.warmed.alike, f2.al X0.warmed.alike, hA.mv X0.warmed.alike hh0, s1.there X0.warmed.alike hh0, hz, l0, by omega, l2, fun i hi => by rw [Nat.zero_add]; exact hp i hi⟩)
  have e0 := Got.mv _ s₁ s _ _ hh0.symm (Vm.Alike.refl _) rfl E3
  obtain rfl := e0.1
  have c4 : Steps p.tables e below (s₁.setTop (entryFrame m #[.ref a, .ref b] 2)) (T3.setTop (mkF m 9 #[.val (.ref a), .val (.ref b)] [])) := g3
  exact ⟨T3, none, _, _, _, X3, by simp, rfl, by omega, (fun _ => rfl), e0, fun fs hl => c4.trans (X3.returnOut hexec hret (hb hbytes d9) hl)⟩
theorem pays {l : Launch} {R : Room} {p : Program} {e : Env} {below : List Frame} {s : State} {sargs : Array Value} {len W : Nat} (a : Addr) (D : Cell) (fV fC : Field) (b : Addr) (A : Cell) (z : Int32) (htab : tab.before sargs s = true) (hfr : 4 ≤ R.frames) (hlo : W + 65 ≤ R.locals) :
    Back l R p e below s sargs yN len W (fun A₁ a₁ => A₁.cells + 1 ≤ R.cells ∧ A₁.slots + A.slots.size ≤ R.slots ∧ P a D fV fC b A z a₁ A₁.U) (fun A₁ _ v₁ B₁ => E a D fV fC A v₁ A₁.U B₁.U ∧ B₁.locs = A₁.locs ++ [⟨a, fC.slot⟩, ⟨a, fV.slot⟩] ∧ B₁.cells = A₁.cells + 1 ∧ B₁.slots = A₁.slots + A.slots.size) :=
  (law l a D fV fC b A z).pays htab hfr (by omega)
end New1
end StrChars
namespace StrChars.Road
open Jvm Sem ClassFile Op Lib Jvm.Stand Jvm.Free Jvm.Free.XT
open Jvm.Lib.Cold (StaticIs)
abbrev ST : String := "java/lang/String"
/-- every table word that New1's law asks, flat -/
abbrev words : List Jvm.Cond := [.code New1.yN New1.yB 2 none, .initialized ST, .methodLink ST 27 New4.yN, .instanceMethod New4.yN,
  .code New4.yN New4.yB 6 none, .fieldLink ST 38 ST "COMPACT_STRINGS" "Z", .laysFinal ST ST "value" "[B", .fieldLink ST 9 ST "value" "[B", .laysFinal ST ST "coder" "B", .fieldLink ST 15 ST "coder" "B",
  .methodLink ST 1 Lib.objectInit, .instanceMethod Lib.objectInit, .code Lib.objectInit ⟨#[0xb1]⟩ 1 none, .methodLink ST 177 Cmp3.yN, .static Cmp3.yN, .methodLink ST 47 CodL.yN, .static CodL.yN,
  .code Cmp3.yN Cmp3.yB 6 (some (.array .byte)), .initialized U16, .arrayClass .byte, .methodLink U16 115 Cmp5.yN, .static Cmp5.yN, .code Cmp5.yN Cmp5.yB 7 (some .int), .code CodL.yN CodL.yB 2 (some .byte)]
theorem tab_of {a : Array Value} {s : State} (h : ∀ w ∈ words, w.before a s = true) : New1.tab.before a s = true := by
  have h5 : Cmp5.tab.before a s = true := unparts (wk h (.code Cmp5.yN Cmp5.yB 7 (some .int))) (wks h (.initialized Cmp5.yN.cls :: Cmp5.site))
  have hc : CodL.tab.before a s = true := unparts (wk h (.code CodL.yN CodL.yB 2 (some .byte))) (wks h (.initialized CodL.yN.cls :: CodL.site))
  have q5 : ∀ w ∈ Cmp5.tab :: words, w.before a s = true := fun w hw => (List.mem_cons.mp hw).elim (fun e => e ▸ h5) (h w)
  have h3 : Cmp3.tab.before a s = true := unparts (wk q5 (.code Cmp3.yN Cmp3.yB 6 (some (.array .byte)))) (wks q5 (.initialized Cmp3.yN.cls :: Cmp3.site))
  have q3 : ∀ w ∈ Cmp3.tab :: CodL.tab :: words, w.before a s = true := fun w hw => (List.mem_cons.mp hw).elim (fun e => e ▸ h3) fun hw => (List.mem_cons.mp hw).elim (fun e => e ▸ hc) (h w)
  have h4 : New4.tab.before a s = true := unparts (wk q3 (.code New4.yN New4.yB 6 none)) (wks q3 (.initialized New4.yN.cls :: New4.site))
  have q4 : ∀ w ∈ New4.tab :: words, w.before a s = true := fun w hw => (List.mem_cons.mp hw).elim (fun e => e ▸ h4) (h w)
  exact unparts (wk q4 (.code New1.yN New1.yB 2 none)) (wks q4 (.initialized New1.yN.cls :: New1.site))
/-- the words ride from the start Z to the walk's own state -/
theorem moved {Z s : State} {a0 args : Array Value} (hZ : Z.Warmed39 s.vm) (hw : ∀ d ∈ words, d.before a0 Z = true) : ∀ d ∈ words, d.before args s = true := fun d hd => by
  have q := hw d hd
  have t : ∀ d ∈ words, d = .arrayClass .byte ∨ (d.onTables && d.keepsFace) = true := by decide +kernel
  rcases t d hd with rfl | t
  · exact RoadKit.mvA hZ q
  · exact RoadKit.mv hZ q t
/-- WHAT COMES BACK, over the tables of the start Z: h the heap at the call, h' behind it -/
def Q (Z : State) (x : Addr) (A : Cell) (h : Heap) (v : Option Value) (h' : Heap) (L : List Loc) : Prop := v = none ∧ (∀ y ∈ L, y.base = x) ∧ RoadKit.Keep h h' [x] ∧ h'.size = h.size + 1 ∧ RoadKit.Exa Z h' x ST ∧ RoadKit.Fld Z h' x ST "value" "[B" (.ref h.size) ∧ RoadKit.Fld Z h' x ST "coder" "B" (.int 0) ∧
  (∃ V : Cell, RoadKit.Arr Z h' h.size V .byte ∧ V.vm = .none ∧ Z.vm.findClass "[B" = some V.cls ∧ V.slots.size = A.slots.size ∧ ∀ j, j < A.slots.size → V.slots[j]? = some (.int (lo8 (cv A j)))) ∧
  ∀ (O n d : String) (w : Value), RoadKit.Fld Z h x O n d w → RoadKit.slotOf Z O n d ≠ RoadKit.slotOf Z ST "value" "[B" → RoadKit.slotOf Z O n d ≠ RoadKit.slotOf Z ST "coder" "B" → RoadKit.Fld Z h' x O n d w
/-- **new String(chars) AT A CALL, IN THE ROAD'S FORM**: for specialBack behind newO: x the fresh String, b the char[] with the cell A -/
theorem back {p : Program} {l : Launch} {e : Env} {R : Room} {s : State} {args : Array Value} {below : List Frame} {len W : Nat} {Z : State} {a0 : Array Value} {h : Heap} (hZ : Z.Warmed39 s.vm) (hw : ∀ d ∈ words, d.before a0 Z = true) {kI : Nat} (wi : (Jvm.Cond.instantiable ST kI).before a0 Z = true)
    {x b : Addr} {A : Cell} {z : Int32} {v0 c0 : Value} (E : RoadKit.Exa Z h x ST) (V : RoadKit.Fld Z h x ST "value" "[B" v0) (C : RoadKit.Fld Z h x ST "coder" "B" c0) (K : RoadKit.Arr Z h b A .char) (hty : Typed .char A) (S : RoadKit.Sta Z h ST "COMPACT_STRINGS" "Z" (.int z)) (hz : ¬ z = 0)
    (l0 : 0 < A.slots.size) (l2 : A.slots.size ≤ 536870912) (hp : ∀ i, i < A.slots.size → ¬ 255 < cv A i) (hfr : 4 ≤ R.frames) (hlo : W + 65 ≤ R.locals) :
    Back l R p e below s args New1.yN len W (fun P a => a = #[.ref x, .ref b] ∧ P.U.heap = h ∧ P.cells + 1 ≤ R.cells ∧ P.slots + A.slots.size ≤ R.slots)
      (fun P _ v B => ∃ L, Q Z x A h v B.U.heap L ∧ B.locs = P.locs ++ L ∧ B.cells = P.cells + 1 ∧ B.slots = P.slots + A.slots.size) := by
  intro m meth c P g ig mk a X hg hsize hdg hW hn hp'
  obtain ⟨rfl, rfl, r1, r2⟩ := hp'
  have al : Z.vm.Alike P.U.vm := hZ.alike.trans X.warmed.alike
  obtain ⟨D, cfV, kV, iV, fV, hD, gV, stV, knV, obV, asV, slV⟩ := id V
  obtain ⟨D', cfC, kC, iC, fC, hD', gC, stC, -, -, asC, slC⟩ := id C
  cases hD.symm.trans hD'
  obtain ⟨D2, kD, e1, e2, e3, e4, e5⟩ := id E
  cases hD.symm.trans e1
  obtain ⟨c2, k2, i1, i2, i3, -⟩ := Cond.instantiable_spec wi
  cases e2.symm.trans i1
  cases e3.symm.trans i2
  obtain ⟨kU, u1, u2⟩ := al.2.2 _ _ e3
  have hB : Blank ST x D P.U := ⟨hD, ⟨knV, fun q hq => by rw [hq] at obV; cases obV⟩, by rw [al.findClass]; exact e2, kU, u1, by rw [u2]; exact i3, by rw [u2]; exact e5 i3⟩
  have F1 : Found ST "value" "[B" fV P.U := ⟨SBG.found_only al ⟨cfV, kV, iV, gV⟩, stV⟩
  have F2 : Found ST "coder" "B" fC P.U := ⟨SBG.found_only al ⟨cfC, kC, iC, gC⟩, stC⟩
  have hA : Ch b A P.U := ⟨⟨K.1, State.isArrayOf_alike al K.2.1, K.2.2, by omega⟩, hty⟩
  have hS : StaticIs P.U ST "COMPACT_STRINGS" "Z" (.int z) := by
    obtain ⟨cfS, iS, kS, fS, st, cS, t1, t2, t3, t4, t5, t6, t7⟩ := S
    exact StaticIs.there (s := { Z with heap := P.U.heap }) ⟨cfS, iS, kS, fS, st, cS, t1, t2, t3, t4, t5, (fun q => by rw [q] at t6; cases t6), t7⟩ al rfl
  obtain ⟨v, B, X', ⟨⟨hv, E', V', q1, q2, q3, q4, q5, q6, q7, q8, q9, q10, q11⟩, hl, hc, hs⟩, st⟩ := New1.pays x D fV fC b A z (tab_of (moved hZ hw)) hfr hlo m meth c P g ig mk _ X hg hsize hdg hW hn ⟨r1, r2, rfl, hB, F1, F2, hA, hS, hz, l0, l2, hp⟩
  have al' : Z.vm.Alike B.U.vm := hZ.alike.trans X'.warmed.alike
  have hsz : E'.slots.size = D.slots.size := by
    obtain ⟨-, -, -, kB, w1, w2, w3⟩ := q1
    obtain ⟨kB', y1, y2⟩ := al'.2.2 _ _ e3
    rw [q2.2.1] at w1
    cases w1.symm.trans y1
    rw [w3, e5 i3, y2]
  refine ⟨v, B, X', ⟨_, ⟨hv, ?_, ⟨by omega, fun y cy hy hn' => q10 y cy (by simpa using hn') hy, fun y cy hy => ?_⟩, q11, ⟨E', _, q1.1, by rw [q2.2.1]; exact e2, by rw [q2.2.1]; exact e3, by rw [q2.1]; exact obV, fun _ => by rw [hsz]; exact e5 i3⟩,
    ⟨E', cfV, kV, iV, fV, q1.1, gV, stV, by rw [q2.1]; exact knV, by rw [q2.1]; exact obV, by rw [q2.2.1]; exact asV, q3⟩, ⟨E', cfC, kC, iC, fC, q1.1, gC, stC, by rw [q2.1]; exact knV, by rw [q2.1]; exact obV, by rw [q2.2.1]; exact asC, q4⟩,
    ⟨V', ⟨q5.1, State.isArrayOf_alike al'.symm q5.2.1, q5.2.2.1⟩, q6, by rw [← al'.findClass]; exact q7, q8, fun j hj => by have := q9 j hj; rwa [Nat.zero_add] at this⟩, fun O n d w F n1 n2 => ?_⟩, hl, hc, hs⟩, st⟩
  · intro y hy
    simp only [List.mem_cons, List.not_mem_nil, or_false] at hy
    rcases hy with rfl | rfl <;> rfl
  · by_cases q : y = x
    · subst q
      cases hD.symm.trans hy
      exact ⟨E', q1.1, q2.2.1, q2.1, hsz⟩
    · exact ⟨cy, q10 y cy q hy, rfl, rfl, rfl⟩
  · obtain ⟨D3, cf, k, i, f, g1, g2, g3, g4, g5, g6, g7⟩ := F
    cases hD.symm.trans g1
    simp only [RoadKit.slotOf, g2, gV, gC, Option.map_some, Option.getD_some] at n1 n2
    exact ⟨E', cf, k, i, f, q1.1, g2, g3, by rw [q2.1]; exact g4, by rw [q2.1]; exact g5, by rw [q2.2.1]; exact g6, by rw [q2.2.2 f.slot (by simp [n1, n2])]; exact g7⟩
end StrChars.Road
namespace StrChars.Road
open Jvm Sem ClassFile Op Lib Jvm.Stand Jvm.Free Jvm.Free.XT
/-- WHAT COMES BACK, the byte[] as a list of values -/
def QA (Z : State) (x : Addr) (zn : Int32) (cs : List Int32) (h : Heap) (v : Option Value) (h' : Heap) (L : List Loc) : Prop := v = none ∧ (∀ y ∈ L, y.base = x) ∧ RoadKit.Keep h h' [x] ∧ h'.size = h.size + 1 ∧ RoadKit.Exa Z h' x ST ∧ RoadKit.Fld Z h' x ST "value" "[B" (.ref h.size) ∧ RoadKit.Fld Z h' x ST "coder" "B" (.int 0) ∧
  (∃ kb, Z.vm.findClass "[B" = some kb ∧ RoadKit.Arv Z h' h.size kb .byte zn (cs.map fun c => .int (lo8 c)) (.int 0)) ∧
  ∀ (O n d : String) (w : Value), RoadKit.Fld Z h x O n d w → RoadKit.slotOf Z O n d ≠ RoadKit.slotOf Z ST "value" "[B" → RoadKit.slotOf Z O n d ≠ RoadKit.slotOf Z ST "coder" "B" → RoadKit.Fld Z h' x O n d w
/-- **new String(chars) AT A CALL, THE ARRAYS AS LISTS**: the char[] at b holds cs, not empty, no char above 255 -/
theorem backArv {p : Program} {l : Launch} {e : Env} {R : Room} {s : State} {args : Array Value} {below : List Frame} {len W : Nat} {Z : State} {a0 : Array Value} {h : Heap} (hZ : Z.Warmed39 s.vm) (hw : ∀ d ∈ words, d.before a0 Z = true) {kI : Nat} (wi : (Jvm.Cond.instantiable ST kI).before a0 Z = true)
    {x b : Addr} {k : ClassId} {zn z : Int32} {cs : List Int32} {dv v0 c0 : Value} (E : RoadKit.Exa Z h x ST) (V : RoadKit.Fld Z h x ST "value" "[B" v0) (C : RoadKit.Fld Z h x ST "coder" "B" c0) (K : RoadKit.Arv Z h b k .char zn (cs.map Value.int) dv) (S : RoadKit.Sta Z h ST "COMPACT_STRINGS" "Z" (.int z)) (hz : ¬ z = 0)
    (hlen : zn.toNatClampNeg = cs.length) (h0 : 0 < cs.length) (hbig : cs.length ≤ 536870912) (hall : ∀ c ∈ cs, ¬ 255 < c) (hfr : 4 ≤ R.frames) (hlo : W + 65 ≤ R.locals) :
    Back l R p e below s args New1.yN len W (fun P a => a = #[.ref x, .ref b] ∧ P.U.heap = h ∧ P.cells + 1 ≤ R.cells ∧ P.slots + cs.length ≤ R.slots)
      (fun P _ v B => ∃ L, QA Z x zn cs h v B.U.heap L ∧ B.locs = P.locs ++ L ∧ B.cells = P.cells + 1 ∧ B.slots = P.slots + cs.length) := by
  obtain ⟨A, K1, K2, K3, K4, K5, K6⟩ := K
  have e : A.slots.size = cs.length := K3.trans hlen
  have hat : ∀ (i : Nat) (hi : i < cs.length), A.slots[i]? = some (.int cs[i]) := fun i hi => by rw [K5 i (by omega)]; simp [List.getD_eq_getElem?_getD, hi]
  have hcv : ∀ (i : Nat) (hi : i < cs.length), cv A i = cs[i] := fun i hi => by unfold cv; rw [hat i hi]
  have hty : Typed .char A := fun i v hv => by
    have hi : i < A.slots.size := (Array.getElem?_eq_some_iff.mp hv).1
    have q := K5 i hi
    rw [hv] at q
    rw [Option.some.inj q]
    exact K6 i hi
  refine Back.mono (back hZ hw wi E V C K1 hty S hz (by omega) (by omega) (fun i hi => by rw [hcv i (by omega)]; exact hall _ (List.getElem_mem _)) hfr hlo) (fun P a hp => ⟨hp.1, hp.2.1, hp.2.2.1, by rw [e]; exact hp.2.2.2⟩) (fun P a v B hp hq => ?_)
  obtain ⟨L, ⟨q1, q2, q3, q4, q5, q6, q7, ⟨V', v1, v2, v3, v4, v5⟩, q9⟩, hl, hc, hs⟩ := hq
  refine ⟨L, ⟨q1, q2, q3, q4, q5, q6, q7, ⟨V'.cls, v3, V', v1, rfl, by rw [v4, e, hlen], K4, fun i hi => ?_, fun i hi => ?_⟩, q9⟩, hl, hc, by rw [hs, e]⟩
  · have hi' : i < cs.length := by omega
    rw [v5 i (by omega), hcv i hi']; simp [List.getD_eq_getElem?_getD, hi']
  · have hi' : i < cs.length := by omega
    simp only [List.getD_eq_getElem?_getD, List.getElem?_map, List.getElem?_eq_getElem hi', Option.map_some, Option.getD_some]
    exact fits_lo8 _
end StrChars.Road
namespace StrChars.Road
open Jvm Sem ClassFile Op Lib Jvm.Stand Jvm.Free Jvm.Free.XT
/-- WHAT COMES BACK, in the writer's own shape -/
def QV (Z : State) (x : Addr) (N : Int32) (bs : List Int32) (h : Heap) (n0 : Nat) (v : Option Value) (h' : Heap) (L : List Loc) : Prop := v = none ∧ RoadKit.Fr n0 L ∧ RoadKit.Keep h h' [x] ∧ RoadKit.Exa Z h' x ST ∧ RoadKit.Fld Z h' x ST "coder" "B" (.int 0) ∧
  ∃ (t : Addr) (kb : ClassId), n0 ≤ t ∧ h.size ≤ t ∧ ¬ t = x ∧ RoadKit.Fld Z h' x ST "value" "[B" (.ref t) ∧ RoadKit.Arv Z h' t kb .byte N (bs.map Value.int) (.int 0)
/-- **new String(chars) AT A CALL, FOR THE WRITER**: a char[] of n known ints, each 0 to 255 -/
theorem backV {p : Program} {l : Launch} {e : Env} {R : Room} {s : State} {args : Array Value} {below : List Frame} {len W : Nat} {Z : State} {a0 : Array Value} {h : Heap} (hZ : Z.Warmed39 s.vm) (hw : ∀ d ∈ words, d.before a0 Z = true) {kI : Nat} (wi : (Jvm.Cond.instantiable ST kI).before a0 Z = true)
    {x b : Addr} {kC : ClassId} {cs bs : List Int32} {d v0 c0 : Value} {z N : Int32} {n n0 : Nat} (hx0 : n0 ≤ x) (hh0 : n0 ≤ h.size) (E : RoadKit.Exa Z h x ST) (V : RoadKit.Fld Z h x ST "value" "[B" v0) (C : RoadKit.Fld Z h x ST "coder" "B" c0) (K : RoadKit.Arv Z h b kC .char N (cs.map Value.int) d) (S : RoadKit.Sta Z h ST "COMPACT_STRINGS" "Z" (.int z)) (hz : ¬ z = 0)
    (hn : cs.length = n) (hN : N = Int32.ofNat n) (l0 : 0 < n) (l2 : n ≤ 4000) (hp : ∀ c ∈ cs, ¬ c < 0 ∧ ¬ (255 : Int32) < c) (hb : bs = cs.map (fun c => c.toInt8.toInt32)) (hfr : 4 ≤ R.frames) (hlo : W + 65 ≤ R.locals) :
    Back l R p e below s args (⟨"java/lang/String", "<init>", "([C)V"⟩ : MethodName) len W (fun P a => a = #[.ref x, .ref b] ∧ P.U.heap = h ∧ P.cells + 1 ≤ R.cells ∧ P.slots + n ≤ R.slots)
      (fun P _ v B => ∃ L, QV Z x N bs h n0 v B.U.heap L ∧ B.locs = P.locs ++ L ∧ B.cells = P.cells + 1 ∧ B.slots = P.slots + n) := by
  subst hn hN hb
  refine Back.mono (backArv hZ hw wi E V C K S hz (n32 (by omega)) l0 (by omega) (fun c hc => (hp c hc).2) hfr hlo) (fun P a hp => hp) (fun P a v B hp hq => ?_)
  obtain ⟨L, ⟨q1, q2, q3, q4, q5, q6, q7, ⟨kb, v1, v2⟩, q9⟩, hl, hc, hs⟩ := hq
  exact ⟨L, ⟨q1, fun y hy => by rw [q2 y hy]; exact hx0, q3, q5, q7, h.size, kb, hh0, Nat.le_refl _, Nat.ne_of_gt E.lt, q6, by rw [List.map_map]; exact v2⟩, hl, hc, hs⟩
end StrChars.Road
namespace StrChars
open Jvm Sem ClassFile Op Lib Jvm.Stand Jvm.Free.XT Jvm.Free.ALB Jvm.Free.JM Jvm.Free
open Jvm.Lib.Cold (StaticIs)
def hi8 (x : Int32) : Int32 := lo8 (x >>> ((8 : Int32) &&& 31))
end StrChars
namespace StrChars.Road
open Jvm Sem ClassFile Op Lib Jvm.Stand Jvm.Free Jvm.Free.XT
open Jvm.Lib.Cold (StaticIs)
/-- the bytes of the chars cs, low before high -/
def wideBytes : List Int32 → List Value
  | [] => []
  | c :: cs => .int (lo8 c) :: .int (hi8 c) :: wideBytes cs
/-- an array of N2 bytes vs codes the chars cs by the coder cd -/
def CodA (cs : List Int32) (cd N2 : Int32) (vs : List Value) : Prop := (cd = 0 ∧ N2 = Int32.ofNat cs.length ∧ vs = (cs.map fun c => Value.int (lo8 c)) ∧ ∀ c ∈ cs, ¬ 255 < c) ∨ (cd = 1 ∧ N2 = Int32.ofNat (2 * cs.length) ∧ vs = wideBytes cs ∧ ∃ c ∈ cs, 255 < c)
end StrChars.Road
namespace StrChars.Road
open Jvm Sem ClassFile Op Lib Jvm.Stand Jvm.Free Jvm.Free.XT
open Jvm.Lib.Cold (StaticIs)
/-- what backV says of its String, as the contracts of this text ask it: cs's low bytes, coder 0 -/
theorem codOf {cs : List Int32} {n : Nat} (hn : cs.length = n) (hb : ∀ c ∈ cs, ¬ 255 < c) : CodA cs 0 (Int32.ofNat n) ((cs.map lo8).map Value.int) := Or.inl ⟨rfl, by rw [hn], by simp [List.map_map, Function.comp_def], hb⟩
end StrChars.Road
end Jvm.Pilot.@@N@@


namespace Jvm.Pilot.@@N@@
open Jvm Jvm.ClassFile Sem Op Lib Jvm.Free Jvm.Stand Jvm.LawKit Jvm.RoadKit Bundle Jvm.Pilot.@@N@@.Jvm.D
abbrev cJ0 : ByteArray := jdk_2649_method_3_code
abbrev cJ1 : ByteArray := jdk_2649_method_5_code
abbrev cJ2 : ByteArray := jdk_32_method_2_code
abbrev cJ3 : ByteArray := jdk_32_method_4_code
abbrev cJ4 : ByteArray := jdk_32_method_5_code
abbrev cJ5 : ByteArray := jdk_32_method_6_code
abbrev cJ6 : ByteArray := jdk_42_method_149_code
abbrev cJ7 : ByteArray := jdk_42_method_3_code
abbrev cJ8 : ByteArray := jdk_78_method_2_code
abbrev cJ9 : ByteArray := method_2_code
abbrev cJ10 : ByteArray := method_3_code
abbrev cJ11 : ByteArray := prog_14_method_1_code
abbrev cJ12 : ByteArray := prog_14_method_3_code
abbrev cJ13 : ByteArray := prog_15_method_1_code
abbrev cJ14 : ByteArray := prog_16_method_1_code
abbrev cJ15 : ByteArray := prog_16_method_3_code
abbrev mN0 : MethodName := (⟨"com/example/hinagata/hinagata/Outcome", "<init>", "(Ljava/lang/Object;Lcom/example/hinagata/hinagata/Refusal;)V"⟩ : MethodName)
abbrev mN1 : MethodName := (⟨"com/example/hinagata/hinagata/Outcome", "isDone", "()Z"⟩ : MethodName)
abbrev mN2 : MethodName := (⟨"com/example/hinagata/hinagata/Outcome", "refusal", "()Ljava/util/Optional;"⟩ : MethodName)
abbrev mN3 : MethodName := (⟨"com/example/hinagata/hinagata/Outcome", "refused", "(Lcom/example/hinagata/hinagata/Refusal;)Lcom/example/hinagata/hinagata/Outcome;"⟩ : MethodName)
abbrev mN4 : MethodName := (⟨"com/example/hinagata/hinagata/Refusal", "<init>", "(Lcom/example/hinagata/hinagata/ErrorClass;Ljava/util/OptionalInt;Ljava/lang/String;)V"⟩ : MethodName)
abbrev mN5 : MethodName := (⟨"com/example/hinagata/hinagata/Refusal", "errorClass", "()Lcom/example/hinagata/hinagata/ErrorClass;"⟩ : MethodName)
abbrev mN6 : MethodName := (⟨"com/example/hinagata/hinagata/Refusal", "operation", "()Ljava/util/OptionalInt;"⟩ : MethodName)
abbrev mN7 : MethodName := (⟨"com/example/hinagata/hinagata/Refusal", "reason", "()Ljava/lang/String;"⟩ : MethodName)
abbrev mN8 : MethodName := (⟨"com/example/hinagata/hinagata/RefusedException", "<init>", "(Lcom/example/hinagata/hinagata/ErrorClass;ILjava/lang/String;)V"⟩ : MethodName)
abbrev mN9 : MethodName := (⟨"com/example/hinagata/hinagata/RefusedException", "getMessage", "()Ljava/lang/String;"⟩ : MethodName)
abbrev mN10 : MethodName := (⟨"com/example/hinagata/hinagata/RefusedException", "toOutcome", "()Lcom/example/hinagata/hinagata/Outcome;"⟩ : MethodName)
abbrev mN11 : MethodName := (⟨"com/example/hinagata/hinagata/RefusedExceptionToOutcomePinLaw", "pick", "(I)Lcom/example/hinagata/hinagata/ErrorClass;"⟩ : MethodName)
abbrev mN12 : MethodName := (⟨"com/example/hinagata/hinagata/RefusedExceptionToOutcomePinLaw", "text", "(I)Ljava/lang/String;"⟩ : MethodName)
abbrev mN13 : MethodName := (⟨"java/lang/Exception", "<init>", "(Ljava/lang/String;)V"⟩ : MethodName)
abbrev mN14 : MethodName := (⟨"java/lang/IllegalArgumentException", "<init>", "(Ljava/lang/String;)V"⟩ : MethodName)
abbrev mN15 : MethodName := (⟨"java/lang/Record", "<init>", "()V"⟩ : MethodName)
abbrev mN16 : MethodName := (⟨"java/lang/RuntimeException", "<init>", "(Ljava/lang/String;)V"⟩ : MethodName)
abbrev mN17 : MethodName := (⟨"java/lang/String", "<init>", "([C)V"⟩ : MethodName)
abbrev mN18 : MethodName := (⟨"java/lang/String", "<init>", "([CIILjava/lang/Void;)V"⟩ : MethodName)
abbrev mN19 : MethodName := (⟨"java/lang/String", "equals", "(Ljava/lang/Object;)Z"⟩ : MethodName)
abbrev mN20 : MethodName := (⟨"java/lang/Throwable", "<init>", "(Ljava/lang/String;)V"⟩ : MethodName)
abbrev mN21 : MethodName := (⟨"java/lang/Throwable", "getMessage", "()Ljava/lang/String;"⟩ : MethodName)
abbrev mN22 : MethodName := (⟨"java/util/Objects", "requireNonNull", "(Ljava/lang/Object;)Ljava/lang/Object;"⟩ : MethodName)
abbrev mN23 : MethodName := (⟨"java/util/Optional", "<init>", "(Ljava/lang/Object;)V"⟩ : MethodName)
abbrev mN24 : MethodName := (⟨"java/util/Optional", "get", "()Ljava/lang/Object;"⟩ : MethodName)
abbrev mN25 : MethodName := (⟨"java/util/Optional", "isPresent", "()Z"⟩ : MethodName)
abbrev mN26 : MethodName := (⟨"java/util/Optional", "ofNullable", "(Ljava/lang/Object;)Ljava/util/Optional;"⟩ : MethodName)
abbrev mN27 : MethodName := (⟨"java/util/OptionalInt", "<init>", "(I)V"⟩ : MethodName)
abbrev mN28 : MethodName := (⟨"java/util/OptionalInt", "empty", "()Ljava/util/OptionalInt;"⟩ : MethodName)
abbrev mN29 : MethodName := (⟨"java/util/OptionalInt", "getAsInt", "()I"⟩ : MethodName)
abbrev mN30 : MethodName := (⟨"java/util/OptionalInt", "isPresent", "()Z"⟩ : MethodName)
abbrev mN31 : MethodName := (⟨"java/util/OptionalInt", "of", "(I)Ljava/util/OptionalInt;"⟩ : MethodName)
abbrev rM0 : Room := ({ frames := 0, cells := 0, slots := 0, locals := 0 } : Room)
abbrev rM1 : Room := ({ frames := 1, cells := 0, slots := 0, locals := 12 } : Room)
abbrev rM2 : Room := ({ frames := 1, cells := 4, slots := 8, locals := 12 } : Room)
abbrev rM3 : Room := ({ frames := 2, cells := 0, slots := 0, locals := 30 } : Room)
abbrev rM4 : Room := ({ frames := 2, cells := 1, slots := 4, locals := 30 } : Room)
abbrev rM5 : Room := ({ frames := 2, cells := 4, slots := 8, locals := 29 } : Room)
abbrev rM6 : Room := ({ frames := 3, cells := 1, slots := 2752, locals := 42 } : Room)
abbrev rM7 : Room := ({ frames := 3, cells := 1, slots := 4, locals := 45 } : Room)
abbrev rM8 : Room := ({ frames := 3, cells := 8, slots := 60, locals := 60 } : Room)
abbrev rM9 : Room := ({ frames := 4, cells := 1, slots := 2752, locals := 56 } : Room)
abbrev rM10 : Room := ({ frames := 5, cells := 1, slots := 2752, locals := 70 } : Room)
abbrev rM11 : Room := ({ frames := 5, cells := 6, slots := 40, locals := 80 } : Room)
abbrev rM12 : Room := ({ frames := 6, cells := 1, slots := 2752, locals := 84 } : Room)
abbrev rM13 : Room := ({ frames := 7, cells := 1, slots := 2752, locals := 98 } : Room)
theorem own_w {a0 : Array Value} {Z : State} (hw : ∀ d ∈ tables_1, d.before a0 Z = true) (i : Nat) {d : Jvm.Cond} (h : tables_1[i]? = some d) : d.before a0 Z = true := hw _ (List.mem_of_getElem? h)
theorem own_v {Z s : State} {a0 args : Array Value} {d : Jvm.Cond} (hZ : Z.Warmed39 s.vm) (hw : ∀ d ∈ tables_1, d.before a0 Z = true) (i : Nat) (h : tables_1[i]? = some d) (hd : (d.onTables && d.keepsFace) = true := by first | rfl | simp [Cond.onTables, Cond.keepsFace, Cond.keeps, Cond.steady]) : d.before args s = true := mvT hZ (own_w hw i h) hd
def oG (tb : Tables) (e : Env) (below : List Frame) (P : Outcome → State → Prop) (U : State) : Prop := ∃ s₂ o, Steps tb e below U s₂ ∧ s₂.status = .running ∧ Ended s₂ below o ∧ P o s₂
theorem own_FrE {n : Nat} {L L' : List Loc} (h : L = L') (f : Fr n L') : Fr n L := h ▸ f
theorem oG.st {tb : Tables} {e : Env} {below : List Frame} {P : Outcome → State → Prop} {U U' : State} (h : ∀ t, Steps tb e below U' t → Steps tb e below U t) (k : oG tb e below P U') : oG tb e below P U := by
  obtain ⟨t, o, a, r⟩ := k
  exact ⟨t, o, h t a, r⟩
theorem own_hd {tb : Tables} {e : Env} {below : List Frame} {P : Outcome → State → Prop} {U : State} (k : ∀ PP, PP = P → oG tb e below PP U) : oG tb e below P U := k P rfl
theorem oG.tr {tb : Tables} {e : Env} {below : List Frame} {P : Outcome → State → Prop} {U U' : State} (h : Steps tb e below U U') (k : oG tb e below P U') : oG tb e below P U := oG.st (fun _ a => h.trans a) k
section OwnRet
variable {p : Program} {l : Launch} {e : Env} {R : Room} {s : State} {m : MethodId} {args : Array Value} {below : List Frame} {meth : Method} {c : Code} {T : State} {locs : List Loc} {cells slots : Nat}
theorem own_retI (X : Stand p l e R s m args below meth c T locs cells slots) (hx : p.tables.exec = Jvm.exec) {pc : Nat} {Ls : Array Slot} {z : Int32} {rest : List Value} (hret : meth.sig.returnType = some .int) (hd : decode c.code pc = .ok (.ireturn, 1)) {fs : List Frame}
    (hl : ∀ (f : JFrame) (acts : List Action), f.method = m → f.locked = none → f.entered = [] → (doReturn e (T.setTop f) acts (some (.int z))).1 = T.setFrames fs) : Steps p.tables e below (T.setTop (mkF m pc Ls (.int z :: rest))) (T.setFrames fs) :=
  retOut X hx hret rfl (Or.inl ⟨rfl, Or.inl rfl, z, rfl⟩) hd hl
theorem own_retL (X : Stand p l e R s m args below meth c T locs cells slots) (hx : p.tables.exec = Jvm.exec) {pc : Nat} {Ls : Array Slot} {z : Int64} {rest : List Value} (hret : meth.sig.returnType = some .long) (hd : decode c.code pc = .ok (.lreturn, 1)) {fs : List Frame}
    (hl : ∀ (f : JFrame) (acts : List Action), f.method = m → f.locked = none → f.entered = [] → (doReturn e (T.setTop f) acts (some (.long z))).1 = T.setFrames fs) : Steps p.tables e below (T.setTop (mkF m pc Ls (.long z :: rest))) (T.setFrames fs) :=
  retOut X hx hret rfl (Or.inr (Or.inl ⟨rfl, rfl, z, rfl⟩)) hd hl
theorem own_narRef {t : FieldType} {w : Value} (ht : t.isReference = true) (hw : w.isRef = true) : narrow t w = w := by
  cases t <;> first | rfl | (simp [FieldType.isReference] at ht; done) | (cases w <;> first | rfl | simp [Value.isRef] at hw)
theorem own_retA (X : Stand p l e R s m args below meth c T locs cells slots) (hx : p.tables.exec = Jvm.exec) {pc : Nat} {Ls : Array Slot} {w : Value} {t : FieldType} {rest : List Value} (hret : meth.sig.returnType = some t) (ht : t.isReference = true) (hw : w.isRef = true) (hd : decode c.code pc = .ok (.areturn, 1)) {fs : List Frame}
    (hl : ∀ (f : JFrame) (acts : List Action), f.method = m → f.locked = none → f.entered = [] → (doReturn e (T.setTop f) acts (some w)).1 = T.setFrames fs) : Steps p.tables e below (T.setTop (mkF m pc Ls (w :: rest))) (T.setFrames fs) :=
  retOut X hx hret (own_narRef ht hw) (Or.inr (Or.inr (Or.inr (Or.inr ⟨rfl, ht, hw⟩)))) hd hl
end OwnRet
theorem own_selP {s : State} {args : Array Value} {C : String} {y : MethodName} (h : (Jvm.Cond.selects C y y).before args s = true) (hp : s.PrivateAt y) (hi : (Jvm.Cond.instanceMethod y).before args s = true) (hy : y.cls ≠ "java/lang/invoke/MethodHandle" ∧ y.cls ≠ "java/lang/invoke/VarHandle") : (Jvm.Cond.selects y.cls y y).before args s = true := by
  obtain ⟨c, r, m, -, -, q3, -, mk, k1, k2⟩ := Cond.selects_spec h
  exact Jvm.Stand.selects_self_of_private (findClass_of_methodNamed q3) k1 k2 hp hi hy
theorem own_nf {s : State} {args : Array Value} {C : String} {y y2 : MethodName} (h : (Jvm.Cond.selects C y2 y2).before args s = true) (he : y2.cls = y.cls) : NotFace s y := fun r0 h0 => by
  obtain ⟨c, r, m, -, -, q3, -, mk, k1, k2⟩ := Cond.selects_spec h
  have e1 := findClass_of_methodNamed q3
  have e2 := findClass_of_methodNamed h0
  rw [he] at e1
  have e3 : m.cls = r0.cls := Option.some.inj (e1.symm.trans e2)
  exact ⟨mk, e3 ▸ k1, k2⟩
theorem own_sameP {s : State} {args : Array Value} {C : String} {y y2 : MethodName} (hd : (Jvm.Cond.declares y).before args s = true) (h : (Jvm.Cond.selects C y2 y2).before args s = true) (he : y2.cls = y.cls) (hy : y.cls ≠ "java/lang/invoke/MethodHandle" ∧ y.cls ≠ "java/lang/invoke/VarHandle") : (Jvm.Cond.sameMethod y.cls y.cls y.name y.desc).before args s = true := by
  obtain ⟨c, r, m, -, -, q3, -, mk, k1, k2⟩ := Cond.selects_spec h
  have e1 := findClass_of_methodNamed q3
  rw [he] at e1
  cases hm : s.methodNamed? y with
  | none => simp [Cond.before, Cond.holds, Cond.value, hm] at hd
  | some mm =>
    have hf : s.methodFound? y.cls y.name y.desc = some mm := State.methodFound?_of_named hm hy
    have hm' : s.methodNamed? ⟨y.cls, y.name, y.desc⟩ = some mm := hm
    simp [Cond.before, Cond.holds, Cond.value, e1, hf, hm', k1, k2]
theorem own_rwE {T h : Heap} {a : Addr} {c : Option Cell} (e : T = h) (q : h[a]? = c) : T[a]? = c := by rw [e]; exact q
theorem own_nar {x : Int32} (h : ¬ x < 0 ∧ ¬ (65535 : Int32) < x) : nar .char x = x := by
  have q := c_i2c x
  have h1 := h.1; have h2 := h.2
  rw [Int32.lt_iff_toInt_lt] at h1 h2
  have e1 : (0 : Int32).toInt = 0 := by decide
  have e2 : (65535 : Int32).toInt = 65535 := by decide
  rw [e1] at h1; rw [e2] at h2
  show x.toUInt32.toUInt16.toUInt32.toInt32 = x
  apply Int32.toInt_inj.mp
  omega
theorem own_up {x : Int32} (h : ¬ x < 0 ∧ ¬ (255 : Int32) < x) : ¬ x < 0 ∧ ¬ (65535 : Int32) < x := by
  refine ⟨h.1, fun q => h.2 ?_⟩
  rw [Int32.lt_iff_toInt_lt] at q ⊢
  have e1 : (255 : Int32).toInt = 255 := by decide
  have e2 : (65535 : Int32).toInt = 65535 := by decide
  omega
theorem own_arvTy {Z : State} {h : Heap} {a b : Addr} {k k' : ClassId} {ty ty' : FieldType} {n n' : Int32} {vs vs' : List Value} {d d' : Value} (A : Arv Z h a k ty n vs d) (B : Arv Z h b k' ty' n' vs' d') (ht : ty ≠ ty') : a ≠ b := fun q => by
  subst q
  obtain ⟨c, C, -⟩ := A
  obtain ⟨c', C', -⟩ := B
  cases C.1.symm.trans C'.1
  obtain ⟨-, k1, j1, cp1, j2⟩ := C.2.1
  obtain ⟨-, k2, i1, cp2, i2⟩ := C'.2.1
  cases j1.symm.trans i1
  rw [j2] at i2
  cases i2
  exact ht rfl


def own_Str (Z : State) (h : Heap) (x t : Addr) (cs : List Int32) : Prop := ∃ (kb : ClassId) (cd N2 : Int32) (vs : List Value), Exa Z h x "java/lang/String" ∧ Fld Z h x "java/lang/String" "value" "[B" (.ref t) ∧ Fld Z h x "java/lang/String" "coder" "B" (.int cd) ∧ Arv Z h t kb .byte N2 vs (.int 0) ∧ StrChars.Road.CodA cs cd N2 vs ∧ (∀ c ∈ cs, ¬ c < 0 ∧ ¬ (65535 : Int32) < c) ∧ cs.length ≤ 4000
section OwnStr
variable {Z : State} {h h' : Heap} {x t a : Addr} {cs : List Int32} {sl : Nat} {v : Value} {ws : List Addr}
theorem own_Str.ext (F : own_Str Z h x t cs) (E : Ext h h') : own_Str Z h' x t cs := by
  obtain ⟨kb, cd, N2, vs, h1, h2, h3, h4, r⟩ := F
  exact ⟨kb, cd, N2, vs, h1.ext E, h2.ext E, h3.ext E, h4.ext E, r⟩
theorem own_Str.other (F : own_Str Z h x t cs) (W : Wr h h' a sl v) (n1 : x ≠ a) (n2 : t ≠ a) : own_Str Z h' x t cs := by
  obtain ⟨kb, cd, N2, vs, h1, h2, h3, h4, r⟩ := F
  exact ⟨kb, cd, N2, vs, h1.wr W, h2.other W (Or.inl n1), h3.other W (Or.inl n1), h4.other W n2, r⟩
theorem own_Str.keep (F : own_Str Z h x t cs) (K : Keep h h' ws) (n1 : x ∉ ws) (n2 : t ∉ ws) : own_Str Z h' x t cs := by
  obtain ⟨kb, cd, N2, vs, h1, h2, h3, h4, r⟩ := F
  exact ⟨kb, cd, N2, vs, h1.keep K, h2.keep K n1, h3.keep K n1, h4.keep K n2, r⟩
theorem own_Str.exa (F : own_Str Z h x t cs) : Exa Z h x "java/lang/String" := by obtain ⟨kb, cd, N2, vs, h1, -⟩ := F; exact h1
theorem own_Str.lt (F : own_Str Z h x t cs) : x < h.size := F.exa.lt
theorem own_Str.ltv (F : own_Str Z h x t cs) : t < h.size := by obtain ⟨kb, cd, N2, vs, -, -, -, h4, -⟩ := F; exact h4.lt
theorem own_Str.le (F : own_Str Z h x t cs) : cs.length ≤ 4000 := by obtain ⟨kb, cd, N2, vs, -, -, -, -, -, -, h⟩ := F; exact h
theorem own_Str.rng (F : own_Str Z h x t cs) : ∀ c ∈ cs, ¬ c < 0 ∧ ¬ (65535 : Int32) < c := by obtain ⟨kb, cd, N2, vs, -, -, -, -, -, h, -⟩ := F; exact h
theorem own_Str.neArv {b : Addr} {k : ClassId} {ty : FieldType} {n : Int32} {us : List Value} {d : Value} {a0 : Array Value} {kI : Nat} (F : own_Str Z h x t cs) (B : Arv Z h b k ty n us d) (wi : (Jvm.Cond.instantiable "java/lang/String" kI).before a0 Z = true) : x ≠ b := F.exa.neArv B wi
theorem own_Str.neV {b : Addr} {C : String} {a0 : Array Value} {kI : Nat} (F : own_Str Z h x t cs) (E : Exa Z h b C) (wi : (Jvm.Cond.instantiable C kI).before a0 Z = true) : b ≠ t := by
  obtain ⟨kb, cd, N2, vs, -, -, -, h4, -⟩ := F
  exact E.neArv h4 wi
theorem own_Str.neTy {b : Addr} {k : ClassId} {ty : FieldType} {n : Int32} {us : List Value} {d : Value} (F : own_Str Z h x t cs) (B : Arv Z h b k ty n us d) (ht : .byte ≠ ty) : t ≠ b := by
  obtain ⟨kb, cd, N2, vs, -, -, -, h4, -⟩ := F
  exact own_arvTy h4 B ht
end OwnStr


theorem own_a0 {P : Int32 → Prop} : ∀ c ∈ ([] : List Int32), P c := fun _ q => nomatch q
theorem own_aS {P : Int32 → Prop} {x : Int32} {L : List Int32} (h : P x) (r : ∀ c ∈ L, P c) : ∀ c ∈ x :: L, P c := fun c q => (List.mem_cons.mp q).elim (fun u => u ▸ h) (r c)
theorem own_upL {cs : List Int32} (h : ∀ c ∈ cs, ¬ c < 0 ∧ ¬ (255 : Int32) < c) : ∀ c ∈ cs, ¬ c < 0 ∧ ¬ (65535 : Int32) < c := fun c q => own_up (h c q)


theorem own_Str.lat {Z : State} {h : Heap} {x t : Addr} {cs : List Int32} (F : own_Str Z h x t cs) (hl : ∀ c ∈ cs, ¬ (255 : Int32) < c) : ∃ (kb : ClassId) (N2 : Int32) (vs : List Value), Exa Z h x "java/lang/String" ∧ Fld Z h x "java/lang/String" "value" "[B" (.ref t) ∧ Fld Z h x "java/lang/String" "coder" "B" (.int 0) ∧ Arv Z h t kb .byte N2 vs (.int 0) ∧ StrChars.Road.CodA cs 0 N2 vs := by
  obtain ⟨kb, cd, N2, vs, h1, h2, h3, h4, h5, -⟩ := F
  rcases h5 with ⟨rfl, a, b, c⟩ | ⟨-, -, -, c, hc, q⟩
  · exact ⟨kb, N2, vs, h1, h2, h3, h4, Or.inl ⟨rfl, a, b, c⟩⟩
  · exact absurd q (hl c hc)


theorem own_eqv {v : Option Value} {A : Prop} (h : (v = some (.int 1) ∧ A) ∨ (v = some (.int 0) ∧ ¬ A)) : ∃ r : Int32, v = some (.int r) ∧ ((r = 1 ∧ A) ∨ (r = 0 ∧ ¬ A)) := by
  rcases h with ⟨a, b⟩ | ⟨a, b⟩
  · exact ⟨1, a, Or.inl ⟨rfl, b⟩⟩
  · exact ⟨0, a, Or.inr ⟨rfl, b⟩⟩

theorem own_hws {a0 : Array Value} {Z : State} (hw : ∀ d ∈ tables_1, d.before a0 Z = true) : ∀ d ∈ StrChars.Road.words, d.before a0 Z = true := fun d hd => hw d ((by decide +kernel : ∀ d ∈ StrChars.Road.words, d ∈ tables_1) d hd)

theorem own_wS {a0 : Array Value} {Z : State} (hw : ∀ d ∈ tables_1, d.before a0 Z = true) : ∀ d ∈ Bundle.stringAtoms, d.before a0 Z = true := fun d hd => hw d ((by decide +kernel : ∀ d ∈ Bundle.stringAtoms, d ∈ tables_1) d hd)
theorem own_safeNull {Z : State} {EL : List (String × Nat)} {vm : Vm} {h : Heap} {x : Addr} (hal : Z.vm.Alike vm) (E : Exa Z h x "java/lang/String") (F : Fld Z h x "java/lang/String" "value" "[B" .null) : Safe Z EL vm h x := fun B => by
  obtain ⟨p, -, u, a, -, q, -, G, hx | hx⟩ := B
  · obtain ⟨cS, ⟨S1, -, -⟩, -⟩ := G
    obtain ⟨g1, -, -, ⟨c', k', i', g2, -⟩, -, -, -, g3, -⟩ := S1
    obtain ⟨cell, cf, k, i, f, e1, e2, -, -, -, -, e3⟩ := F
    obtain ⟨k2, g4⟩ := ff_back (U := Wst Z vm h) hal g2
    rw [hx] at e1
    have e4 : cell = q.sC := Option.some.inj (e1.symm.trans g1)
    have e5 : f = q.fSV := by
      have e6 := Option.some.inj (e2.symm.trans g4)
      simp only [Prod.mk.injEq] at e6
      exact e6.2.2.2
    rw [e4, e5, g3] at e3
    cases e3
  · have hd := G.hd
    obtain ⟨cS, -, -, f, -⟩ := G
    obtain ⟨cell, k, e1, e2, -⟩ := E
    rw [hx] at e1
    have e4 : cell = q.SA := Option.some.inj (e1.symm.trans hd)
    have f' : Z.vm.findClass "[B" = some q.SA.cls := by rw [← hal.findClass]; exact f
    rw [e4] at e2
    obtain ⟨k1, q1, q2⟩ := Vm.findClass_spec f'
    obtain ⟨k2, q3, q4⟩ := Vm.findClass_spec e2
    cases q1.symm.trans q3
    exact absurd (q2.symm.trans q4) (by decide)


open Jvm.Free.Exc

theorem own_standW {p : Program} {l : Launch} {e : Env} {R : Room} {s : State} {m : MethodId} {args : Array Value} {below : List Frame} {meth : Method} {c : Code} {T : State} {locs : List Loc} {cells slots c2 s2 : Nat} (X : Stand p l e R s m args below meth c T locs cells slots) (h1 : cells ≤ c2) (h2 : slots ≤ s2) : Stand p l e R s m args below meth c T locs c2 s2 := { X with same := X.same.mono h1 h2 }
section OwnThr
open Jvm.Free.Exc LibCode.Throwable
def own_thA (rc : String) : List Cond := [.initialized tN, .superclass tN "java/lang/Object", .instanceMethod tFill, .codeSync tFill Fill.code 1 (some (.object tN)), .instanceMethod tFill0, .native tFill0, .instanceMethod oInit, .code oInit object_method_1_code 1 none,
  .methodLink tN 1 oInit, .methodLink tN 27 tFill, .methodLink tN 202 tFill0, .fieldLink tN 7 tN "cause" thD, .fieldLink tN 17 tN "stackTrace" steD, .fieldLink tN 24 tN "suppressedExceptions" listD, .fieldLink tN 13 tN "UNASSIGNED_STACK" steD, .laysStatic tN "UNASSIGNED_STACK" steD,
  .fieldLink tN 20 tN "SUPPRESSED_SENTINEL" listD, .laysStatic tN "SUPPRESSED_SENTINEL" listD, .lays rc tN "cause" thD, .lays rc tN "stackTrace" steD, .lays rc tN "suppressedExceptions" listD, .lays rc tN "detailMessage" msgD, .lays rc tN "backtrace" obD, .lays rc tN "depth" "I",
  .fieldLink tN 198 tN "backtrace" obD, .declares tFill, .selects rc tFill0 tFill0, .selects rc tFill tFill, .arrayOver (.object "java/lang/Object"), .soleField tN "backtrace", .soleField tN "depth"]
/-- what is known of Throwable, of its field found under a name, in a state -/
theorem own_thr {args : Array Value} {s : State} {pl : Platform} {rc : String} (o1 : pl.frameOwnsMonitors = true) (o2 : pl.finalization = false) (o3 : pl.magicAccessors = ({} : Platform).magicAccessors) (h : ∀ d ∈ own_thA rc, d.before args s = true) :
    ∃ (T : ThrowableC), T.Links pl s ∧ s.vm.findClass tN = some T.cT ∧ s.methodNamed? tFill = some T.fill ∧ s.methodNamed? tFill0 = some T.fill0 ∧
      s.fieldFound? tN "stackTrace" steD = some (T.cT, T.kT, T.i17, T.fStack) ∧ T.fStack.type = .array (.object "java/lang/StackTraceElement") ∧ s.fieldFound? tN "UNASSIGNED_STACK" steD = some (T.cT, T.kT, T.i13, T.fUnassigned) := by
  have w : ∀ {d : Cond} (i : Nat), (own_thA rc)[i]? = some d → d.holds args s none s [] = true := fun {d} i q => h d (List.mem_of_getElem? q)
  -- the class
  obtain ⟨⟨cT, j0⟩, g0, n0, m0, nat0, code0, lock0, sig0⟩ := Cond.native_spec (w (d := .native tFill0) 5 rfl)
  have fT : s.vm.findClass tN = some cT := findClass_of_methodNamed n0
  obtain ⟨kT, kTat, kTn⟩ := Vm.findClass_spec fT
  obtain ⟨_, kT', _, _, kTat', _, _, -, _, kTi⟩ := Cond.superclass_spec fT (w (d := .superclass tN "java/lang/Object") 1 rfl)
  obtain rfl : kT = kT' := Option.some.inj (kTat.symm.trans kTat')
  -- its fields
  obtain ⟨ca, ia, fa, la, ra, aa, sa, ba, -, ta, ua⟩ := Cond.ownField (t := .object tN) fT kTat (by decide +kernel) (w (d := .fieldLink tN 7 tN "cause" thD) 11 rfl) (w (d := .lays rc tN "cause" thD) 18 rfl) pl o3
  obtain ⟨cb, ib, fb, lb, rb, ab, sb, bb, nb, tb, ub⟩ := Cond.ownField (t := .array (.object "java/lang/StackTraceElement")) fT kTat (by decide +kernel) (w (d := .fieldLink tN 17 tN "stackTrace" steD) 12 rfl) (w (d := .lays rc tN "stackTrace" steD) 19 rfl) pl o3
  obtain ⟨cp, ip, fp, lp, rp, ap, sp, bp, np, tp, up⟩ := Cond.ownField (t := .object "java/util/List") fT kTat (by decide +kernel) (w (d := .fieldLink tN 24 tN "suppressedExceptions" listD) 13 rfl) (w (d := .lays rc tN "suppressedExceptions" listD) 20 rfl) pl o3
  obtain ⟨cu, iu, fu, aS, _, lu, ru, au, su, -, -, aSt, -, -, -, -, uu⟩ := Cond.ownStatic (t := .array (.object "java/lang/StackTraceElement")) fT kTat (by decide +kernel) (w (d := .fieldLink tN 13 tN "UNASSIGNED_STACK" steD) 14 rfl) (w (d := .laysStatic tN "UNASSIGNED_STACK" steD) 15 rfl) pl o3
  obtain ⟨ce, ie, fe, _, _, le, re, ae, se, -⟩ := Cond.ownStatic (t := .object "java/util/List") fT kTat (by decide +kernel) (w (d := .fieldLink tN 20 tN "SUPPRESSED_SENTINEL" listD) 16 rfl) (w (d := .laysStatic tN "SUPPRESSED_SENTINEL" listD) 17 rfl) pl o3
  obtain ⟨cR, kR, _, _, _, fm, cRf, kRa, _, sm, bm, -⟩ := Cond.lays_spec (w (d := .lays rc tN "detailMessage" msgD) 21 rfl)
  obtain ⟨-, db, eb, eb'⟩ := Cond.laysAt cRf kRa ub (w (d := .lays rc tN "stackTrace" steD) 19 rfl)
  obtain ⟨-, dp, ep, ep'⟩ := Cond.laysAt cRf kRa up (w (d := .lays rc tN "suppressedExceptions" listD) 20 rfl)
  have apart : fb.slot ≠ fp.slot := Cond.laysApart eb ep eb' ep' (by rw [nb, np]; decide)
  -- its methods
  obtain ⟨jF, gF, nF, mF, atF, stF, abF, -, -⟩ := Cond.ownMethod (x := tFill) fT kTat (w (d := .instanceMethod tFill) 2 rfl)
  obtain ⟨gF', cF, mF', cFc, cFb, cFl, cFr, cFk, -, sigF⟩ := Cond.codeSync_spec nF (w (d := .codeSync tFill Fill.code 1 (some (.object tN))) 3 rfl)
  obtain rfl : gF = gF' := Option.some.inj (mF.symm.trans mF')
  obtain ⟨j0', g0', n0', m0', at0, st0, ab0, nm0, ds0⟩ := Cond.ownMethod (x := tFill0) fT kTat (w (d := .instanceMethod tFill0) 4 rfl)
  obtain rfl : j0 = j0' := by simpa using Option.some.inj (n0.symm.trans n0')
  obtain rfl : g0 = g0' := Option.some.inj (m0.symm.trans m0')
  obtain ⟨mO, gO, nO, mOg, stO, abO⟩ := Cond.instanceMethod_spec (w (d := .instanceMethod oInit) 6 rfl)
  obtain ⟨gO', cO, mOg', cOc, cOb, -, -, cOk, -, sigO⟩ := Cond.code_spec nO (w (d := .code oInit object_method_1_code 1 none) 7 rfl)
  obtain rfl : gO = gO' := Option.some.inj (mOg.symm.trans mOg')
  obtain ⟨kO, kOa, kOn⟩ := Vm.findClass_spec (findClass_of_methodNamed nO)
  obtain ⟨nmO, dsO⟩ := name_of_methodNamed nO mOg
  obtain ⟨c1, x1, cf, l1, r1, f1, p1⟩ := Cond.linkedMethod fT kTat nO (w (d := .methodLink tN 1 oInit) 8 rfl) pl o3
  obtain ⟨c27, x27, cf27, l27, r27, f27, p27⟩ := Cond.linkedMethod fT kTat nF (w (d := .methodLink tN 27 tFill) 9 rfl) pl o3
  obtain rfl : cf = cf27 := Option.some.inj (f1.symm.trans f27)
  obtain ⟨c202, x202, cf202, l202, r202, f202, p202⟩ := Cond.linkedMethod fT kTat n0 (w (d := .methodLink tN 202 tFill0) 10 rfl) pl o3
  obtain rfl : cf = cf202 := Option.some.inj (f1.symm.trans f202)
  have par : ∀ {d : String} {g : Method} {ps : List FieldType}, parseMethodDescriptor d = some g.sig → (parseMethodDescriptor d).map (·.parameters) = some ps → g.sig.parameters = ps := fun {d g ps} a b => by rw [a] at b; simpa using b
  have pO : gO.sig.parameters = [] := par sigO (by decide +kernel)
  refine ⟨{ cT := cT, kT := kT, cO := cT, aS := aS, fillIdx := jF, fill0Idx := j0, initSIdx := jF, obj := mO, kObj := kO, methFill := gF, methFill0 := g0, methInitS := gF, methObj := gO, codeFill := cF, codeInitS := cF, codeObj := cO, fBack := fa, fDepth := fa, fStack := fb, fCause := fa, fSupp := fp, fMsg := fm, fUnassigned := fu, fSentinel := fe, cfT := cf, ci1 := c1, n1 := x1, ci27 := c27, n27 := x27, ci202 := c202, n202 := x202, ci7 := ca, i7 := ia, ci13 := cu, i13 := iu, ci17 := cb, i17 := ib, ci20 := ce, i20 := ie, ci24 := cp, i24 := ip }, ?_, fT, nF, n0, ub, tb, uu⟩
  constructor
  all_goals first | assumption | exact Vm.findClass_boot fT kTat | exact Cond.initialized_spec fT kTat (w (d := .initialized tN) 0 rfl) | exact par sigF (by decide +kernel) | exact par sig0 (by decide +kernel) | (rw [pO]; rfl) | (rw [dsO]; exact lookupSpecial_of_named nO mOg stO)
end OwnThr
section OwnFill
open Jvm.Free.Exc LibCode.Throwable
theorem own_takes {s : State} {cell : Cell} {k : Class} {f : Field} {v : Value} (hk : s.vm.classes[cell.cls]? = some k) (ho : k.kind = .ordinary) (hty : k.instanceTypes[f.slot]? = some f.type) (hv : fits f.type v = true) (hvm : cell.vm = .none) (hsz : cell.slots.size = k.instanceTypes.size) : Jvm.Takes s cell f v := by
  obtain ⟨q1, q2⟩ := Takes.of_laid (v := v) hk ho hty hv
  exact ⟨by rw [hsz]; simpa using q1, by rw [hvm]; exact q2⟩
theorem own_thOk {rc : String} : (own_thA rc).all xOk = true := rfl
def own_3L (Z : State) (a : Addr) : List Loc := [⟨a, Jvm.RoadKit.slotOf Z tN "backtrace" obD⟩, ⟨a, Jvm.RoadKit.slotOf Z tN "depth" "I"⟩, ⟨a, Jvm.RoadKit.slotOf Z tN "stackTrace" steD⟩]
set_option maxHeartbeats 4000000 in
theorem own_fill {p : Program} {l : Launch} {e : Env} {R : Room} {s : State} {m : MethodId} {args : Array Value} {below : List Frame} {meth : Method} {c : Code} {T : State} {locs : List Loc} {Z : State} {a0 : Array Value} {h : Heap}
    (X : Stand p l e R s m args below meth c T locs 0 0) (hx : p.tables.exec = Jvm.exec) (hl : l.stackTraces = true) (hZ : Z.Warmed39 s.vm) {rc : String} {nI : Nat} (W : ∀ d ∈ own_thA rc, d.before a0 Z = true) (wi : (Cond.instantiable rc nI).before a0 Z = true) (hown : s.vm.findClass tN = some m.cls) (hT0 : ThS Z s.heap) (hTK : s.vm.MethodsKnown) (hBel : s.vm.FramesKnown below)
    (eT : T.heap = h) {a : Addr} (hLa : ∀ y ∈ locs, y.base = a) (E : Exa Z h a rc) (N : Unt h a) (B : Fld Z h a tN "backtrace" obD .null) {u : Value} (S : Fld Z h a tN "stackTrace" steD u) (F : Sta Z h tN "UNASSIGNED_STACK" steD u) (hu : u.isRef = true)
    {g : JFrame} (hg : g.method = m) (hsize : g.locals.size = c.maxLocals) (hs : g.stack = [.ref a]) (hm0 : g.monitorRoom = 0) (hd : decode c.code g.pc = .ok (.invokevirtual 27, 3)) (hf : 3 ≤ R.frames) (hlo : 42 ≤ R.locals) (hc : 1 ≤ R.cells) (hsl : 2752 ≤ R.slots) :
    ∃ (T' : State) (h' : Heap), Stand p l e R s m args below meth c T' (locs ++ own_3L Z a) 1 2752 ∧ T'.heap = h' ∧ Keep h h' [a] ∧ (∀ {O n d : String} {v : Value} {t : FieldType}, Laid Z a0 rc O n d → n ≠ "backtrace" → n ≠ "depth" → n ≠ "stackTrace" → parseFieldDescriptor d = some t → Fld Z h a O n d v → Fld Z h' a O n d v) ∧
      ∀ target, Steps p.tables e below (T'.setTop { g with pc := g.pc + 3, stack := [.ref a] }) target → Steps p.tables e below (T.setTop g) target := by
  have Ws : ∀ d ∈ own_thA rc, d.before args s = true := fun d hd => mvX hT0 hZ (List.all_eq_true.mp own_thOk d hd) (W d hd)
  have w : ∀ {d : Cond} (i : Nat), (own_thA rc)[i]? = some d → d.holds args s none s [] = true := fun {d} i q => Ws d (List.mem_of_getElem? q)
  have o3 : e.platform.magicAccessors = ({} : Platform).magicAccessors := by rw [X.admits.platform]
  obtain ⟨K, L, fT, nF, n0, ub, tb, uu⟩ := own_thr (pl := e.platform) (by rw [X.admits.platform]) (by rw [X.admits.platform]) o3 Ws
  have ride : ∀ {n d : String} {q : ClassId × Class × Nat × Field}, Z.fieldFound? tN n d = some q → ∃ k', s.fieldFound? tN n d = some (q.1, k', q.2.2.1, q.2.2.2) ∧ k'.statics = q.2.1.statics := fun {n d q} y => by
    obtain ⟨k', y1, y2⟩ := State.fieldFound?_setVm (s := Z) hZ.alike (show Z.fieldFound? tN n d = some (q.1, q.2.1, q.2.2.1, q.2.2.2) from y)
    exact ⟨k', y1, by rw [y2]⟩
  -- the receiver
  obtain ⟨cell, k1, v1, v2⟩ := N
  obtain ⟨cell', kR, k1', k2, k3, -, k5⟩ := E
  obtain rfl : cell = cell' := Option.some.inj (k1.symm.trans k1')
  obtain ⟨kX, kXa, kXe⟩ := hZ.alike.2.2 _ _ k3
  obtain ⟨_, kI, i1, i2, i3, -⟩ := Cond.instantiable_spec (show (Cond.instantiable rc nI).holds a0 Z none Z [] = true from wi)
  obtain rfl : kI = kR := by
    have := Option.some.inj (i1.symm.trans k2); subst this
    exact Option.some.inj (i2.symm.trans k3)
  have ho : kX.kind = .ordinary := by rw [kXe]; exact i3
  have hz : cell.slots.size = kX.instanceTypes.size := by rw [kXe]; exact k5 i3
  have fR : s.vm.findClass rc = some cell.cls := by rw [hZ.alike.findClass]; exact k2
  -- its three fields
  obtain ⟨cellS', _, _, _, fS, g1, g2, -, -, -, -, g3⟩ := S
  obtain rfl : cell = cellS' := Option.some.inj (k1.symm.trans g1)
  obtain ⟨_, g4, -⟩ := ride g2
  have eS : fS = K.fStack := by have := Option.some.inj (g4.symm.trans ub); simp only [Prod.mk.injEq] at this; exact this.2.2.2
  obtain ⟨cellB, _, _, _, fB, b1, b2, -, -, -, -, b3⟩ := B
  obtain rfl : cell = cellB := Option.some.inj (k1.symm.trans b1)
  obtain ⟨_, b4, -⟩ := ride b2
  obtain ⟨c198, i198, fB', l198, r198, a198, s198, -, n198, t198, u198⟩ := Cond.ownField (t := .object "java/lang/Object") fT L.cls (by decide +kernel) (w (d := .fieldLink tN 198 tN "backtrace" obD) 24 rfl) (w (d := .lays rc tN "backtrace" obD) 22 rfl) e.platform o3
  have eB : fB = fB' := by have := Option.some.inj (b4.symm.trans u198); simp only [Prod.mk.injEq] at this; exact this.2.2.2
  subst eB
  obtain ⟨_, _, cD, kD, iD, fD, -, -, d1, d2, -, -, d3, -⟩ := Cond.lays_spec (w (d := .lays rc tN "depth" "I") 23 rfl)
  obtain rfl : cD = K.cT := Option.some.inj ((Cond.lays_declared (w (d := .lays rc tN "depth" "I") 23 rfl) d1).symm.trans fT)
  obtain ⟨d4, d5⟩ := State.fieldFound?_spec d1
  obtain rfl : kD = K.kT := Option.some.inj (d4.symm.trans L.cls)
  obtain ⟨d6, d7⟩ := State.fieldFound?_type d1 (t := .int) (by decide +kernel)
  -- the static
  obtain ⟨_, _, kU, fU, st, cellU, q1, -, -, q4, q5, q6, q7⟩ := F
  obtain ⟨kU', q8, q9⟩ := ride q1
  have eU := Option.some.inj (q8.symm.trans uu)
  simp only [Prod.mk.injEq] at eU
  obtain ⟨-, rfl, -, eU⟩ := eU
  have est : st = K.aS := Option.some.inj (Eq.trans (Eq.symm q4) (Eq.trans (Eq.symm q9) L.statics))
  subst est
  have hne : K.aS ≠ a := fun z => by rw [z, k1] at q5; rw [← Option.some.inj q5, v1] at q6; cases q6
  have hTh : T.heap[a]? = some cell := by rw [eT]; exact k1
  have hTS : T.heap[K.aS]? = some cellU := by rw [eT]; exact q5
  have sel0 : selectMethod e.platform s.vm cell.cls K.fill0 = .method K.fill0 := by
    obtain ⟨c2, r2, m2, y1, y2, y3, y4, -⟩ := Cond.selects_spec (w (d := .selects rc tFill0 tFill0) 26 rfl)
    cases Option.some.inj (y1.symm.trans fR)
    cases Option.some.inj (y2.symm.trans (State.methodFound?_of_named n0 (by decide)))
    cases Option.some.inj (y3.symm.trans n0)
    rw [Launch.admits_selectMethod X.admits]; exact y4
  obtain ⟨comp, cO, kO, -, -, kOa, kOk, kOf⟩ := Cond.arrayOver_spec (w (d := .arrayOver (.object "java/lang/Object")) 28 rfl)
  have laid : ∀ {n d : String} {q : ClassId × Class × Nat × Field}, s.fieldFound? tN n d = some (q.1, q.2.1, q.2.2.1, q.2.2.2) → (Cond.lays rc tN n d).holds args s none s [] = true → kX.instanceTypes[q.2.2.2.slot]? = some q.2.2.2.type := fun {n d q} y z => (Cond.laysAt fR kXa y z).1
  have hSE := Ws (.selects rc tFill tFill) (List.mem_of_getElem? (i := 27) rfl)
  obtain ⟨v6, vm6, ⟨T6, L6, c6, n6⟩, -, X6, ⟨hv6, C6, n, hn, hD6, y1, y2, y3, y4, hL6, hc6, hn6⟩, come⟩ := X.virtualBack hx (own := tN) (C := rc) (index := 27) (y := tFill) (z := tFill) hown (Ws (.methodLink tN 27 tFill) (List.mem_of_getElem? (i := 9) rfl)) (Ws (.declares tFill) (List.mem_of_getElem? (i := 25) rfl)) (notFace_of_selects hSE) hSE (Ws (.instanceMethod tFill) (List.mem_of_getElem? (i := 2) rfl)) (by decide)
    (fillPaysAny (l := l) (R := R) (sargs := args) (len := 3) (W := 0) hx (by rw [X.admits.platform]; exact hl) K L nF (u0 := ⟨u, hu⟩) (self := a) (cell := cell) (cellS := cellU) (fun _ => by rw [v1]; simp) (by rw [v1]; simp) (by rw [v2]) (by rw [v2]) (eS ▸ g3) sel0 hne (fun z => by rw [z] at q6; cases q6) (eU ▸ q7)
      (own_takes kXa ho (laid (q := (_, _, _, _)) ub (w (d := .lays rc tN "stackTrace" steD) 19 rfl)) (by rw [tb]; exact fits_refV_array _ ⟨u, hu⟩) v1 hz)
      ⟨{ ci198 := c198, i198 := i198, fBack := fB }, ⟨l198, r198, a198, s198⟩, b3⟩ hTK hBel fT kOf kOa kOk (Cond.soleField_find fT L.cls (w (d := .soleField tN "backtrace") 29 rfl) a198 n198 s198) (Cond.soleField_find fT L.cls (w (d := .soleField tN "depth") 30 rfl) d5 d6 d2)
      (fun x => own_takes kXa ho (laid (q := (_, _, _, _)) u198 (w (d := .lays rc tN "backtrace" obD) 22 rfl)) (by rw [t198]; rfl) v1 hz) (fun x => own_takes kXa ho (laid (q := (_, _, _, _)) d1 (w (d := .lays rc tN "depth" "I") 23 rfl)) (by rw [d7]; rfl) v1 hz) (by omega) (by omega))
    (b := a) (cB := cell.cls) fR ⟨cell, hTh, rfl, by rw [v1]; rfl⟩ (g := g) hg hsize (Steps.refl _) (argsL := []) (rest := []) (fun sig z => by rw [show parseMethodDescriptor tFill.desc = some ⟨[], some (.object tN)⟩ from by decide +kernel] at z; rw [← Option.some.inj z]; rfl) hs (by rw [hm0]; exact Nat.le_refl _) hd
    (fun vmx _ => ⟨rfl, by show 0 + 1 ≤ R.cells; omega, by show 0 + 2752 ≤ R.slots; omega, hTh, hTS⟩)
  dsimp only [Pt.U, Pt.locs, Pt.cells, Pt.slots] at X6 hD6 hL6 hc6 hn6 come
  subst hv6 hL6 hc6 hn6
  have sB : Jvm.RoadKit.slotOf Z tN "backtrace" obD = fB.slot := by simp [Jvm.RoadKit.slotOf, b2]
  have sS : Jvm.RoadKit.slotOf Z tN "stackTrace" steD = K.fStack.slot := by simp [Jvm.RoadKit.slotOf, g2, eS]
  have sD : Jvm.RoadKit.slotOf Z tN "depth" "I" = fD.slot := by
    obtain ⟨kz, z1, -⟩ := State.fieldFound?_setVm (s := s.setVm s.vm) (vm' := Z.vm) hZ.alike.symm (show (s.setVm s.vm).fieldFound? tN "depth" "I" = _ from d1)
    have z2 : Z.fieldFound? tN "depth" "I" = some (K.cT, kz, iD, fD) := z1
    simp [Jvm.RoadKit.slotOf, z2]
  have e3L : own_3L Z a = [⟨a, fB.slot⟩, ⟨a, fD.slot⟩, ⟨a, K.fStack.slot⟩] := by rw [own_3L, sB, sS, sD]
  have hbase : ∀ y ∈ locs ++ own_3L Z a, y.base = a := fun y hy => by
    rcases List.mem_append.mp hy with z | z
    · exact hLa y z
    · simp only [own_3L, List.mem_cons, List.not_mem_nil, or_false] at z
      rcases z with rfl | rfl | rfl <;> rfl
  rw [← e3L] at X6
  have same0 : ∀ {x : Addr} {cx : Cell}, x ≠ a → T.heap[x]? = some cx → s.heap[x]? = some cx := fun {x cx} hxa z => by
    have hlt := (Array.getElem?_eq_some_iff.mp z).1
    have hsz0 : T.heap.size ≤ s.heap.size + 0 := X.same.2.2.1
    have hlt' : x < s.heap.size := Nat.lt_of_lt_of_le hlt hsz0
    have z1 := State.sameButNew.kept_off X.same (a := x) (c := s.heap[x]) (fun i hi => hxa (hLa _ hi)) (Array.getElem?_eq_getElem hlt')
    have z2 : T.heap[x]? = some s.heap[x] := z1
    rw [Array.getElem?_eq_getElem hlt', ← z2]; exact z
  refine ⟨T6, T6.heap, own_standW X6 (Nat.le_refl _) (by omega), rfl, ⟨?_, fun x cx z hxa => ?_, fun x cx z => ?_⟩, ?_, fun target z => come.trans z⟩
  · have z1 : T.heap.size ≤ s.heap.size + 0 := X.same.2.2.1
    have z2 : s.heap.size ≤ T6.heap.size := X6.same.2.1
    rw [← eT]; omega
  · have hxa' : x ≠ a := fun y => hxa (by rw [y]; exact List.mem_cons_self ..)
    rw [← eT] at z
    exact State.sameButNew.kept_off X6.same (fun i hi => hxa' (hbase _ hi)) (same0 hxa' z)
  · by_cases hxa : x = a
    · subst hxa
      obtain rfl : cx = cell := Option.some.inj (z.symm.trans k1)
      exact ⟨C6, hD6, y1, y2, y3⟩
    · rw [← eT] at z
      exact ⟨cx, State.sameButNew.kept_off X6.same (fun i hi => hxa (hbase _ hi)) (same0 hxa z), rfl, rfl, rfl⟩
  · intro O nm d v t hLd m1 m2 m3 ht Fl
    obtain ⟨cc, cf, k, i, f, f1, f2, f3, f4, f5, f6, f7⟩ := Fl
    obtain rfl : cell = cc := Option.some.inj (k1.symm.trans f1)
    have sf : Jvm.RoadKit.slotOf Z O nm d = f.slot := by simp [Jvm.RoadKit.slotOf, f2]
    have ne : ∀ {n' d' : String} {t' : FieldType}, (Cond.lays rc tN n' d').before a0 Z = true → nm ≠ n' → parseFieldDescriptor d' = some t' → f.slot ≠ Jvm.RoadKit.slotOf Z tN n' d' := fun {n' d' t'} wl hn' ht' => by rw [← sf]; exact Jvm.RoadKit.slot_ne hLd (Or.inl wl) hn' ht ht'
    have e1 := ne (W _ (List.mem_of_getElem? (i := 22) rfl)) m1 (t' := .object "java/lang/Object") (by decide +kernel)
    have e2 := ne (W _ (List.mem_of_getElem? (i := 23) rfl)) m2 (t' := .int) (by decide +kernel)
    have e3 := ne (W _ (List.mem_of_getElem? (i := 19) rfl)) m3 (t' := .array (.object "java/lang/StackTraceElement")) (by decide +kernel)
    rw [sB] at e1; rw [sD] at e2; rw [sS] at e3
    exact ⟨C6, cf, k, i, f, hD6, f2, f3, by rw [y2]; exact f4, by rw [y2]; exact f5, by rw [y1]; exact f6, (y4 _ e1 e2 e3).trans f7⟩
end OwnFill

theorem own_3Lf {Z : State} {k : Nat} {a : Addr} (q : k ≤ a) : Fr k (own_3L Z a) := fun y hy => by
  simp only [own_3L, List.mem_cons, List.not_mem_nil, or_false] at hy
  rcases hy with rfl | rfl | rfl <;> exact q
theorem own_thW : ∀ d ∈ own_thA "com/example/hinagata/hinagata/RefusedException", d ∈ tables_1 ++ jdkStatics_1 := by decide +kernel

theorem own_ch255 (x : Int32) : ¬ ((x &&& (255 : Int32)).toUInt32.toUInt16.toUInt32.toInt32) < 0 ∧ ¬ (255 : Int32) < ((x &&& (255 : Int32)).toUInt32.toUInt16.toUInt32.toInt32) := by
  have h1 := c_mask x 255 8 (by decide) (by decide)
  have h4 := c_i2c (x &&& 255)
  have e2 : (255 : Int32).toInt = 255 := by decide
  have e3 : (0 : Int32).toInt = 0 := by decide
  simp only [Int32.lt_iff_toInt_lt, e2, e3]
  omega
theorem own_n4 (x : Int32) : (x &&& (3 : Int32)) = 0 ∨ (x &&& (3 : Int32)) = 1 ∨ (x &&& (3 : Int32)) = 2 ∨ (x &&& (3 : Int32)) = 3 := by
  have h1 := c_mask x 3 2 (by decide) (by decide)
  generalize (x &&& (3 : Int32)) = z at h1 ⊢
  have e0 : (0 : Int32).toInt = 0 := by decide
  have e1 : (1 : Int32).toInt = 1 := by decide
  have e2 : (2 : Int32).toInt = 2 := by decide
  have e3 : (3 : Int32).toInt = 3 := by decide
  simp only [← Int32.toInt_inj, e0, e1, e2, e3]
  omega

theorem pn_0 : plainName "java/lang/String" = true := by first | (simp [plainName, overriddenIn]; done) | decide +kernel
theorem ef_1 (m : MethodId) (x0 : Nat) (x1 : Nat) (x2 : Int32) (x3 : Int32) : entryFrame m #[(.ref x0), (.ref x1), (.int x2), (.int x3), .null] 6 = mkF m 0 #[.val (.ref x0), .val (.ref x1), .val (.int x2), .val (.int x3), .val .null, .unset] [] := by first | (simp [entryFrame, mkF, argsToLocals, Value.category]; done) | rfl
theorem dj42_149_0 : decode cJ6 0 = .ok (.aload_n 0, 1) := by decide +kernel
theorem dj42_149_1 : decode cJ6 1 = .ok (.invokespecial 1, 3) := by decide +kernel
theorem dj42_149_4 : decode cJ6 4 = .ok (.iload_n 3, 1) := by decide +kernel
theorem dj42_149_5 : decode cJ6 5 = .ok (.ifCond .ne 22, 3) := by decide +kernel
theorem dj42_149_8 : decode cJ6 8 = .ok (.aload_n 0, 1) := by decide +kernel
theorem dj42_149_9 : decode cJ6 9 = .ok (.ldc 7, 2) := by decide +kernel
theorem dj42_149_11 : decode cJ6 11 = .ok (.getfield 9, 3) := by decide +kernel
theorem dj42_149_14 : decode cJ6 14 = .ok (.putfield 9, 3) := by decide +kernel
theorem dj42_149_17 : decode cJ6 17 = .ok (.aload_n 0, 1) := by decide +kernel
theorem dj42_149_18 : decode cJ6 18 = .ok (.ldc 7, 2) := by decide +kernel
theorem dj42_149_20 : decode cJ6 20 = .ok (.getfield 15, 3) := by decide +kernel
theorem dj42_149_23 : decode cJ6 23 = .ok (.putfield 15, 3) := by decide +kernel
theorem dj42_149_26 : decode cJ6 26 = .ok (.return_, 1) := by decide +kernel
def Q_init4e (Z : State) (a1 : Nat) (a2 : Nat) (h0 : Heap) (v : Option Value) (h : Heap) (L : List Loc) : Prop := ∃ (t : Nat), v = none ∧ Fr Z.heap.size L ∧ Keep h0 h [a1] ∧ own_Str Z h a1 t []
set_option maxRecDepth 65536 in
set_option maxHeartbeats 40000000 in
theorem rm_init4e (l : Launch) (Z : State) (a0 : Array Value) (hw : ∀ d ∈ tables_1, d.before a0 Z = true) (ws : List Jvm.Cond) (a1 : Nat) (a2 : Nat) (h0 : Heap) (hEL : EW Z a0 consts_1) (OL : Old Z Z.heap.size h0) (p0_ : Exa Z h0 a1 "java/lang/String") (p1_ : Fld Z h0 a1 "java/lang/String" "value" "[B" .null) (p2_ : Fld Z h0 a1 "java/lang/String" "coder" "B" (.int (0 : Int32))) (hn0 : Z.heap.size ≤ a1) :
    MetFree l mN18 (head1 (Jvm.Cond.code mN18 jdk_42_method_149_code 6 none :: ws) rM2) (fun a U => a = #[(.ref a1), (.ref a2), (.int (0 : Int32)), (.int (0 : Int32)), .null] ∧ Z.Warmed39 U.vm ∧ U.heap = h0 ∧ CHv Z consts_1 U.vm h0) (fun _ _ _ _ _ => True) (fun _ U o U' => ∃ v L, o = .returned v ∧ Q_init4e Z a1 a2 h0 v U'.heap L ∧ CHr Z consts_1 U.vm U.heap U'.vm U'.heap ∧ ReturnedEndW U o U' L rM2.cells rM2.slots) := by
  refine MetFree.of_bodySF (plainFor_of_name pn_0) hisR ?_
  intro p e s m args below meth c s₁ Bd hml0 hP hK
  obtain ⟨rfl, hZ, hh, hC0⟩ := hP
  have hx := Bd.exec
  have hby := Bd.bytes
  have hml : c.maxLocals = 6 := hml0
  have hown : s.vm.findClass "java/lang/String" = some m.cls := findClass_of_methodNamed Bd.named
  have hnm := (name_of_methodNamed Bd.named Bd.method).1
  have X0 : Stand p l e rM2 (s.setVm s.vm) m #[(.ref a1), (.ref a2), (.int (0 : Int32)), (.int (0 : Int32)), .null] below meth c s₁ [] 0 0 := Stand.of_body Bd
  have e0 : s₁.heap = h0 := by rw [← hh, Bd.state]; rfl
  have N0 := Fr.nil Z.heap.size
  have Z0 : Z.heap.size ≤ h0.size := OL.2.1
  have hS0 : s.Since s.vm h0.size := (State.WarmedH.refl s).since _
  have wS := own_wS hw
  have R0 : CHr Z consts_1 s.vm h0 s.vm h0 := CHr.refl hC0
  have lt_0 : @LT.lt Nat _ a1 h0.size := p0_.lt
  have lt_1 : @LT.lt Nat _ a1 h0.size := p1_.lt
  have lt_2 : @LT.lt Nat _ a1 h0.size := p2_.lt
  show oG p.tables e below (fun o tE => ∃ v L, o = .returned v ∧ Q_init4e Z a1 a2 h0 v tE.heap L ∧ CHr Z consts_1 s.vm s.heap tE.vm tE.heap ∧ ReturnedEndW s o tE L rM2.cells rM2.slots) (s₁.setTop (entryFrame m #[(.ref a1), (.ref a2), (.int (0 : Int32)), (.int (0 : Int32)), .null] 6))
  refine own_hd (fun PP hPP => ?_)
  refine oG.st (fun t k => castTop (ef_1 m a1 a2 (0 : Int32) (0 : Int32)) k) ?_
  refine oG.st (fun _ k => XS.aloadN X0.here hx rfl (hb hby dj42_149_0) rfl rfl k) ?_
  show oG _ _ _ _ (s₁.setTop (mkF m 1 #[.val (.ref a1), .val (.ref a2), .val (.int (0 : Int32)), .val (.int (0 : Int32)), .val .null, .unset] [(.ref a1)]))
  obtain ⟨T101, X101, e101, st101⟩ := initO X0 hx hZ hown (own_w hw 21 rfl) (own_w hw 22 rfl) (own_w hw 23 rfl) e0 (g := (mkF m 1 #[.val (.ref a1), .val (.ref a2), .val (.int (0 : Int32)), .val (.int (0 : Int32)), .val .null, .unset] [(.ref a1)])) rfl (by rw [hml]; rfl) rfl (hb hby dj42_149_1) (by decide) (W := 0) (by show 2 * 0 + _ ≤ _; exact Nat.le_of_eq rfl) (by decide)
  refine oG.st st101 ?_
  refine oG.st (fun _ k => XS.iloadN X101.here hx rfl (hb hby dj42_149_4) rfl k) ?_
  show oG _ _ _ _ (T101.setTop (mkF m 5 #[.val (.ref a1), .val (.ref a2), .val (.int (0 : Int32)), .val (.int (0 : Int32)), .val .null, .unset] [(.int (0 : Int32))]))
  refine oG.st (fun _ k => XS.ifNo X101.here hx rfl (hb hby dj42_149_5) rfl ((if0 _ _).trans (teq (rfl : (0 : Int32) = (0 : Int32))).2) k) ?_
  refine oG.st (fun _ k => XS.aloadN X101.here hx rfl (hb hby dj42_149_8) rfl rfl k) ?_
  show oG _ _ _ _ (T101.setTop (mkF m 9 #[.val (.ref a1), .val (.ref a2), .val (.int (0 : Int32)), .val (.int (0 : Int32)), .val .null, .unset] [(.ref a1)]))
  obtain ⟨a102, T102, h102, kk102, t102, kb102, X102, e102, E102, hS102, hk102, hZ102, hown102, A102, C102, V102, B102, la102, lb102, ch102, Li102, sf102, st102⟩ := ldcCH X101 hx hZ hown (own_w hw 24 rfl) wS e101 hS0 (by omega) hEL (by decide) R0.1 (vs := []) (z := (0 : Int32)) (by decide) (by decide) (by decide) (g := (mkF m 9 #[.val (.ref a1), .val (.ref a2), .val (.int (0 : Int32)), .val (.int (0 : Int32)), .val .null, .unset] [(.ref a1)])) rfl (hb hby dj42_149_9) (n := 0) (by decide) (by decide) (by decide) (by decide)
  refine oG.st st102 ?_
  have z102 : h0.size ≤ h102.size := E102.1
  have la102' : @LT.lt Nat _ a102 h102.size := la102
  have lb102' : @LT.lt Nat _ t102 h102.size := lb102
  have R102 : CHr Z consts_1 s.vm h0 T102.vm h102 := R0.trans ch102
  have fT102 : own_Str Z h102 a102 t102 ([] : List Int32) := ⟨kb102, 0, (0 : Int32), [], A102, V102, C102, B102, Or.inl ⟨rfl, rfl, rfl, (by decide)⟩, (by decide), (by decide)⟩
  show oG _ _ _ _ (T102.setTop (mkF m 11 #[.val (.ref a1), .val (.ref a2), .val (.int (0 : Int32)), .val (.int (0 : Int32)), .val .null, .unset] [(.ref a102), (.ref a1)]))
  obtain ⟨T103, X103, e103, st103⟩ := getF X102 hx hZ102 hown102 (host := "") (Or.inl (own_w hw 30 rfl)) Via.refl e102 V102 (g := (mkF m 11 #[.val (.ref a1), .val (.ref a2), .val (.int (0 : Int32)), .val (.int (0 : Int32)), .val .null, .unset] [(.ref a102), (.ref a1)])) rfl rfl (hb hby dj42_149_11)
  refine oG.st st103 ?_
  show oG _ _ _ _ (T103.setTop (mkF m 14 #[.val (.ref a1), .val (.ref a2), .val (.int (0 : Int32)), .val (.int (0 : Int32)), .val .null, .unset] [(.ref t102), (.ref a1)]))
  have f104 : Fld Z h102 a1 "java/lang/String" "value" "[B" .null := p1_.ext E102
  have f105 : Exa Z h102 a1 "java/lang/String" := p0_.ext E102
  obtain ⟨T106, h106, X106, e106, W106, st106⟩ := putF X103 hx hZ102 hown102 (host := "") (Or.inl (own_w hw 30 rfl)) Via.refl e103 f104 f105 (Or.inr ⟨(own_w hw 26 rfl), rfl, hnm⟩) (own_w hw 11 rfl) (ty := (.array .byte)) (by decide) rfl rfl (g := (mkF m 14 #[.val (.ref a1), .val (.ref a2), .val (.int (0 : Int32)), .val (.int (0 : Int32)), .val .null, .unset] [(.ref t102), (.ref a1)])) rfl rfl (hb hby dj42_149_14)
  refine oG.st st106 ?_
  have gz107 : Z.heap.size ≤ a1 := by omega
  have N106 := Fr.snoc X106 N0 gz107
  have Sf109 : Safe Z consts_1 T102.vm h102 a1 := own_safeNull hZ102.alike f105 f104
  have z106 : h102.size ≤ h106.size := Nat.le_of_eq W106.size.symm
  have f108 : Fld Z h106 a1 "java/lang/String" "value" "[B" (.ref t102) := f104.same W106
  have R106 : CHr Z consts_1 s.vm h0 T102.vm h106 := R102.trans (CHr.wr W106 Sf109 R102.1)
  have Sf110 : Safe Z consts_1 T102.vm h106 a1 := Safe.wr W106 Sf109 R102.1 Sf109
  refine oG.st (fun _ k => XS.aloadN X106.here hx rfl (hb hby dj42_149_17) rfl rfl k) ?_
  show oG _ _ _ _ (T106.setTop (mkF m 18 #[.val (.ref a1), .val (.ref a2), .val (.int (0 : Int32)), .val (.int (0 : Int32)), .val .null, .unset] [(.ref a1)]))
  obtain ⟨a111, T111, h111, kk111, t111, kb111, X111, e111, E111, hS111, hk111, hZ111, hown111, A111, C111, V111, B111, la111, lb111, ch111, Li111, sf111, st111⟩ := ldcCH X106 hx hZ102 hown102 (own_w hw 24 rfl) wS e106 hS102 (by omega) hEL (by decide) R106.1 (vs := []) (z := (0 : Int32)) (by decide) (by decide) (by decide) (g := (mkF m 18 #[.val (.ref a1), .val (.ref a2), .val (.int (0 : Int32)), .val (.int (0 : Int32)), .val .null, .unset] [(.ref a1)])) rfl (hb hby dj42_149_18) (n := 0) (by decide) (by decide) (by decide) (by decide)
  refine oG.st st111 ?_
  have z111 : h106.size ≤ h111.size := E111.1
  have la111' : @LT.lt Nat _ a111 h111.size := la111
  have lb111' : @LT.lt Nat _ t111 h111.size := lb111
  have R111 : CHr Z consts_1 s.vm h0 T111.vm h111 := R106.trans ch111
  have Sf112 : Safe Z consts_1 T111.vm h111 a1 := ch111.safe (by show @LT.lt Nat _ a1 _; omega) Sf110
  have fT111 : own_Str Z h111 a111 t111 ([] : List Int32) := ⟨kb111, 0, (0 : Int32), [], A111, V111, C111, B111, Or.inl ⟨rfl, rfl, rfl, (by decide)⟩, (by decide), (by decide)⟩
  have nl113 := sf111 a1 Sf112
  have nl113a : @Ne Nat a1 a111 := nl113.1
  have nl113b : @Ne Nat a1 t111 := nl113.2
  show oG _ _ _ _ (T111.setTop (mkF m 20 #[.val (.ref a1), .val (.ref a2), .val (.int (0 : Int32)), .val (.int (0 : Int32)), .val .null, .unset] [(.ref a111), (.ref a1)]))
  obtain ⟨T114, X114, e114, st114⟩ := getF X111 hx hZ111 hown111 (host := "") (Or.inl (own_w hw 31 rfl)) Via.refl e111 C111 (g := (mkF m 20 #[.val (.ref a1), .val (.ref a2), .val (.int (0 : Int32)), .val (.int (0 : Int32)), .val .null, .unset] [(.ref a111), (.ref a1)])) rfl rfl (hb hby dj42_149_20)
  refine oG.st st114 ?_
  show oG _ _ _ _ (T114.setTop (mkF m 23 #[.val (.ref a1), .val (.ref a2), .val (.int (0 : Int32)), .val (.int (0 : Int32)), .val .null, .unset] [(.int 0), (.ref a1)]))
  have f115 : Fld Z h102 a1 "java/lang/String" "coder" "B" (.int (0 : Int32)) := p2_.ext E102
  have f116 : Fld Z h106 a1 "java/lang/String" "coder" "B" (.int (0 : Int32)) := f115.other W106 (Or.inr (slot_ne (Or.inr (own_w hw 27 rfl)) (Or.inr (own_w hw 26 rfl)) (by decide) (t := .byte) (t' := (.array .byte)) (by decide) (by decide)))
  have f117 : Fld Z h111 a1 "java/lang/String" "coder" "B" (.int (0 : Int32)) := f116.ext E111
  have f118 : Exa Z h106 a1 "java/lang/String" := f105.wr W106
  have f119 : Exa Z h111 a1 "java/lang/String" := f118.ext E111
  obtain ⟨T120, h120, X120, e120, W120, st120⟩ := putF X114 hx hZ111 hown111 (host := "") (Or.inl (own_w hw 31 rfl)) Via.refl e114 f117 f119 (Or.inr ⟨(own_w hw 27 rfl), rfl, hnm⟩) (own_w hw 11 rfl) (ty := .byte) (by decide) rfl (by decide) (g := (mkF m 23 #[.val (.ref a1), .val (.ref a2), .val (.int (0 : Int32)), .val (.int (0 : Int32)), .val .null, .unset] [(.int 0), (.ref a1)])) rfl rfl (hb hby dj42_149_23)
  refine oG.st st120 ?_
  have N120 := Fr.snoc X120 N106 gz107
  have z120 : h111.size ≤ h120.size := Nat.le_of_eq W120.size.symm
  have f121 : Fld Z h120 a1 "java/lang/String" "coder" "B" (.int 0) := f117.same W120
  have R120 : CHr Z consts_1 s.vm h0 T111.vm h120 := R111.trans (CHr.wr W120 Sf112 R111.1)
  have Sf122 : Safe Z consts_1 T111.vm h120 a1 := Safe.wr W120 Sf112 R111.1 Sf112
  show oG _ _ _ _ (T120.setTop (mkF m 26 #[.val (.ref a1), .val (.ref a2), .val (.int (0 : Int32)), .val (.int (0 : Int32)), .val .null, .unset] []))
  obtain ⟨fs123, hr123, hrun123, hend123, hret123⟩ := X120.leaveW hS111 (by rw [e120]; exact (by omega)) (v := none) (fun _ => rfl)
  have f124 : Fld Z h111 a1 "java/lang/String" "value" "[B" (.ref t102) := f108.ext E111
  have f125 : Fld Z h120 a1 "java/lang/String" "value" "[B" (.ref t102) := f124.other W120 (Or.inr (slot_ne (Or.inr (own_w hw 26 rfl)) (Or.inr (own_w hw 27 rfl)) (by decide) (t := (.array .byte)) (t' := .byte) (by decide) (by decide)))
  have f126 : Exa Z h120 a1 "java/lang/String" := f119.wr W120
  have ne127 : @Ne Nat a1 t102 := Exa.neArv f105 B102 (own_w hw 11 rfl)
  have f128 : Arv Z h106 t102 kb102 .byte (0 : Int32) [] (.int 0) := B102.other W106 (Ne.symm ne127)
  have f129 : Arv Z h111 t102 kb102 .byte (0 : Int32) [] (.int 0) := f128.ext E111
  have f130 : Arv Z h120 t102 kb102 .byte (0 : Int32) [] (.int 0) := f129.other W120 (Ne.symm ne127)
  have K131 : Keep h0 h102 [a1] := (Keep.refl h0 [a1]).ext E102
  have K132 : Keep h0 h106 [a1] := K131.wr W106 (Or.inl (List.mem_of_getElem? (i := 0) rfl))
  have K133 : Keep h0 h111 [a1] := K132.ext E111
  have K134 : Keep h0 h120 [a1] := K133.wr W120 (Or.inl (List.mem_of_getElem? (i := 0) rfl))
  subst hPP
  refine ⟨_, _, X120.returnOut hx Bd.returns (hb hby dj42_149_26) hr123, hrun123, hend123, _, _, rfl, ?_, ?_, hret123.1, hret123.2.1, hret123.2.2.1, hret123.2.2.2.mono (by decide) (by decide)⟩
  · show Q_init4e Z _ _ h0 _ T120.heap _
    rw [e120]
    exact ⟨t102, rfl, N120, K134, ⟨kb102, 0, 0, [], f126, f125, f121, f130, Or.inl ⟨rfl, rfl, rfl, own_a0⟩, own_a0, by decide⟩⟩
  · have hfin := R120.trans (CHv.at X120 hZ111 hEL R120.1)
    rw [← hh] at hfin
    show CHr Z consts_1 s.vm s.heap T120.vm T120.heap
    rw [e120]
    exact hfin
theorem ef_15 (m : MethodId) (x0 : Nat) (x1 : Nat) : entryFrame m #[(.ref x0), (.ref x1)] 2 = mkF m 0 #[.val (.ref x0), .val (.ref x1)] [] := by first | (simp [entryFrame, mkF, argsToLocals, Value.category]; done) | rfl
theorem dj42_3_0 : decode cJ7 0 = .ok (.aload_n 0, 1) := by decide +kernel
theorem dj42_3_1 : decode cJ7 1 = .ok (.aload_n 1, 1) := by decide +kernel
theorem dj42_3_2 : decode cJ7 2 = .ok (.iconst 0, 1) := by decide +kernel
theorem dj42_3_3 : decode cJ7 3 = .ok (.aload_n 1, 1) := by decide +kernel
theorem dj42_3_4 : decode cJ7 4 = .ok (.arraylength, 1) := by decide +kernel
theorem dj42_3_5 : decode cJ7 5 = .ok (.aconst_null, 1) := by decide +kernel
theorem pd_22 : parseMethodDescriptor "([CIILjava/lang/Void;)V" = some ⟨[(.array .char), .int, .int, (.object "java/lang/Void")], none⟩ := by decide +kernel
theorem dj42_3_6 : decode cJ7 6 = .ok (.invokespecial 27, 3) := by decide +kernel
theorem dj42_3_9 : decode cJ7 9 = .ok (.return_, 1) := by decide +kernel
def Q_init1e (Z : State) (a1 : Nat) (a2 : Nat) (k : ClassId) (vs : List Value) (d : Value) (h0 : Heap) (v : Option Value) (h : Heap) (L : List Loc) : Prop := ∃ (t : Nat), v = none ∧ Fr Z.heap.size L ∧ Keep h0 h [a1] ∧ own_Str Z h a1 t []
set_option maxRecDepth 65536 in
set_option maxHeartbeats 40000000 in
theorem rm_init1e (l : Launch) (Z : State) (a0 : Array Value) (hw : ∀ d ∈ tables_1, d.before a0 Z = true) (ws : List Jvm.Cond) (a1 : Nat) (a2 : Nat) (k : ClassId) (vs : List Value) (d : Value) (h0 : Heap) (hEL : EW Z a0 consts_1) (OL : Old Z Z.heap.size h0) (p0_ : Exa Z h0 a1 "java/lang/String") (p1_ : Fld Z h0 a1 "java/lang/String" "value" "[B" .null) (p2_ : Fld Z h0 a1 "java/lang/String" "coder" "B" (.int (0 : Int32))) (p3_ : Arv Z h0 a2 k .char (0 : Int32) vs d) (hn0 : Z.heap.size ≤ a1) :
    MetFree l mN17 (head1 (Jvm.Cond.code mN17 jdk_42_method_3_code 2 none :: ws) rM5) (fun a U => a = #[(.ref a1), (.ref a2)] ∧ Z.Warmed39 U.vm ∧ U.heap = h0 ∧ CHv Z consts_1 U.vm h0) (fun _ _ _ _ _ => True) (fun _ U o U' => ∃ v L, o = .returned v ∧ Q_init1e Z a1 a2 k vs d h0 v U'.heap L ∧ CHr Z consts_1 U.vm U.heap U'.vm U'.heap ∧ ReturnedEndW U o U' L rM5.cells rM5.slots) := by
  refine MetFree.of_bodySF (plainFor_of_name pn_0) hisR ?_
  intro p e s m args below meth c s₁ Bd hml0 hP hK
  obtain ⟨rfl, hZ, hh, hC0⟩ := hP
  have hx := Bd.exec
  have hby := Bd.bytes
  have hml : c.maxLocals = 2 := hml0
  have hown : s.vm.findClass "java/lang/String" = some m.cls := findClass_of_methodNamed Bd.named
  have hnm := (name_of_methodNamed Bd.named Bd.method).1
  have X0 : Stand p l e rM5 (s.setVm s.vm) m #[(.ref a1), (.ref a2)] below meth c s₁ [] 0 0 := Stand.of_body Bd
  have e0 : s₁.heap = h0 := by rw [← hh, Bd.state]; rfl
  have N0 := Fr.nil Z.heap.size
  have Z0 : Z.heap.size ≤ h0.size := OL.2.1
  have hS0 : s.Since s.vm h0.size := (State.WarmedH.refl s).since _
  have wS := own_wS hw
  have R0 : CHr Z consts_1 s.vm h0 s.vm h0 := CHr.refl hC0
  have lt_0 : @LT.lt Nat _ a1 h0.size := p0_.lt
  have lt_1 : @LT.lt Nat _ a1 h0.size := p1_.lt
  have lt_2 : @LT.lt Nat _ a1 h0.size := p2_.lt
  have lt_3 : @LT.lt Nat _ a2 h0.size := p3_.lt
  show oG p.tables e below (fun o tE => ∃ v L, o = .returned v ∧ Q_init1e Z a1 a2 k vs d h0 v tE.heap L ∧ CHr Z consts_1 s.vm s.heap tE.vm tE.heap ∧ ReturnedEndW s o tE L rM5.cells rM5.slots) (s₁.setTop (entryFrame m #[(.ref a1), (.ref a2)] 2))
  refine own_hd (fun PP hPP => ?_)
  refine oG.st (fun t k => castTop (ef_15 m a1 a2) k) ?_
  refine oG.st (fun _ k => XS.aloadN X0.here hx rfl (hb hby dj42_3_0) rfl rfl (XS.aloadN X0.here hx rfl (hb hby dj42_3_1) rfl rfl (XS.iconst X0.here hx rfl (hb hby dj42_3_2) (XS.aloadN X0.here hx rfl (hb hby dj42_3_3) rfl rfl k)))) ?_
  show oG _ _ _ _ (s₁.setTop (mkF m 4 #[.val (.ref a1), .val (.ref a2)] [(.ref a2), (.int (0 : Int32)), (.ref a2), (.ref a1)]))
  obtain ⟨c135, Ar135, q135, S135, Nn135, H135, G135⟩ := id p3_
  refine oG.st (X0.arraylength hx (own_rwE e0 Ar135.1) (State.isArrayOf_alike hZ.alike Ar135.2.1) (g := (mkF m 4 #[.val (.ref a1), .val (.ref a2)] [(.ref a2), (.int (0 : Int32)), (.ref a2), (.ref a1)])) rfl rfl (hb hby dj42_3_4)) ?_
  rw [len_of S135 Nn135]
  refine oG.st (fun _ k => XS.aconstNull X0.here hx rfl (hb hby dj42_3_5) k) ?_
  show oG _ _ _ _ (s₁.setTop (mkF m 6 #[.val (.ref a1), .val (.ref a2)] [.null, (.int (0 : Int32)), (.int (0 : Int32)), (.ref a2), (.ref a1)]))
  obtain ⟨_, _, ⟨T136, L136, k136, n136⟩, -, X136, hs136, hg136, ⟨Lc136, hQ136, l136, y136, z136, ch136⟩, st136⟩ := X0.specialBackS hx (y := mN18) rfl hown (own_v hZ hw 17 rfl) (own_v hZ hw 18 rfl) (own_v hZ hw 20 rfl) (by decide) (backOfSH (s := s) (vm0 := s.vm) (W := 0) (rm_init4e l Z a0 hw [] a1 a2 h0 hEL OL p0_ p1_ p2_ hn0) hZ (own_w hw 20 rfl) (own_w hw 12 rfl) (by decide) (by decide) hEL R0.1) (g := (mkF m 6 #[.val (.ref a1), .val (.ref a2)] [.null, (.int (0 : Int32)), (.int (0 : Int32)), (.ref a2), (.ref a1)])) rfl (by rw [hml]; rfl) (Steps.refl _) (a := a1) (argsL := [(.ref a2), (.int (0 : Int32)), (.int (0 : Int32)), .null]) (rest := []) (lenOf pd_22 rfl) rfl (by show 2 * 0 + _ ≤ _; exact Nat.le_of_eq rfl) (hb hby dj42_3_6) (fun _ _ => ⟨rfl, e0, (by decide : 0 + 4 ≤ _), (by decide : 0 + 8 ≤ _)⟩)
  dsimp only [Pt.U, Pt.locs, Pt.cells, Pt.slots] at X136 l136 y136 z136 st136 hQ136 hs136 hg136 ch136
  subst l136 y136 z136
  obtain ⟨t_136, rfl, N136q, K136, f136_0⟩ := hQ136
  have N136 := Fr.app N0 N136q
  obtain ⟨Y136, hS136, hZ136, hown136⟩ := rebS hS0 (n1 := h0.size) (by omega) X136 hs136 (by have := hg136; first | exact this | (rw [← e0]; exact this)) hZ hown
  have z136 : h0.size ≤ T136.heap.size := K136.1
  have R136 : CHr Z consts_1 s.vm h0 T136.vm T136.heap := R0.trans ch136
  have lt136_0 : @LT.lt Nat _ a1 T136.heap.size := f136_0.lt
  have ltv136_0 : @LT.lt Nat _ t_136 T136.heap.size := f136_0.ltv
  refine oG.tr st136 ?_
  show oG _ _ _ _ (T136.setTop (mkF m 9 #[.val (.ref a1), .val (.ref a2)] []))
  obtain ⟨fs137, hr137, hrun137, hend137, hret137⟩ := Y136.leaveW hS136 (by omega) (v := none) (fun _ => rfl)
  have K138 : Keep h0 T136.heap [a1] := (Keep.refl h0 [a1]).trans K136 (allS (Or.inl (List.mem_of_getElem? (i := 0) rfl)) all0)
  subst hPP
  refine ⟨_, _, Y136.returnOut hx Bd.returns (hb hby dj42_3_9) hr137, hrun137, hend137, _, _, rfl, ?_, ?_, hret137.1, hret137.2.1, hret137.2.2.1, hret137.2.2.2.mono (by decide) (by decide)⟩
  · show Q_init1e Z _ _ _ _ _ h0 _ T136.heap _
    exact ⟨t_136, rfl, N136, K138, f136_0⟩
  · have hfin := R136.trans (CHv.at Y136 hZ136 hEL R136.1)
    rw [← hh] at hfin
    show CHr Z consts_1 s.vm s.heap T136.vm T136.heap
    exact hfin
theorem pn_25 : plainName "com/example/hinagata/hinagata/RefusedExceptionToOutcomePinLaw" = true := by first | (simp [plainName, overriddenIn]; done) | decide +kernel
theorem ef_26 (m : MethodId) (x0 : Int32) : entryFrame m #[(.int x0)] 1 = mkF m 0 #[.val (.int x0)] [] := by first | (simp [entryFrame, mkF, argsToLocals, Value.category]; done) | rfl
theorem d_method_2_0 : decode cJ9 0 = .ok (.iload_n 0, 1) := by decide +kernel
theorem d_method_2_1 : decode cJ9 1 = .ok (.ifCond .ne 7, 3) := by decide +kernel
theorem d_method_2_4 : decode cJ9 4 = .ok (.getstatic 7, 3) := by decide +kernel
theorem d_method_2_7 : decode cJ9 7 = .ok (.areturn, 1) := by decide +kernel
theorem d_method_2_8 : decode cJ9 8 = .ok (.iload_n 0, 1) := by decide +kernel
theorem d_method_2_9 : decode cJ9 9 = .ok (.iconst 1, 1) := by decide +kernel
theorem d_method_2_10 : decode cJ9 10 = .ok (.if_icmp .ne 7, 3) := by decide +kernel
theorem d_method_2_13 : decode cJ9 13 = .ok (.getstatic 13, 3) := by decide +kernel
theorem d_method_2_16 : decode cJ9 16 = .ok (.areturn, 1) := by decide +kernel
theorem d_method_2_17 : decode cJ9 17 = .ok (.iload_n 0, 1) := by decide +kernel
theorem d_method_2_18 : decode cJ9 18 = .ok (.iconst 2, 1) := by decide +kernel
theorem d_method_2_19 : decode cJ9 19 = .ok (.if_icmp .ne 7, 3) := by decide +kernel
theorem d_method_2_22 : decode cJ9 22 = .ok (.getstatic 16, 3) := by decide +kernel
theorem d_method_2_25 : decode cJ9 25 = .ok (.areturn, 1) := by decide +kernel
theorem d_method_2_26 : decode cJ9 26 = .ok (.getstatic 19, 3) := by decide +kernel
theorem d_method_2_29 : decode cJ9 29 = .ok (.areturn, 1) := by decide +kernel
def Q_pick (Z : State) (p1 : Int32) (r1 : Nat) (r2 : Nat) (r3 : Nat) (r4 : Nat) (h0 : Heap) (v : Option Value) (h : Heap) (L : List Loc) : Prop := ∃ (x : Nat), v = some (.ref x) ∧ Fr Z.heap.size L ∧ h = h0
set_option maxRecDepth 65536 in
set_option maxHeartbeats 40000000 in
theorem rm_pick (l : Launch) (Z : State) (a0 : Array Value) (hw : ∀ d ∈ tables_1, d.before a0 Z = true) (ws : List Jvm.Cond) (p1 : Int32) (r1 : Nat) (r2 : Nat) (r3 : Nat) (r4 : Nat) (h0 : Heap) (OL : Old Z Z.heap.size h0) (st_RESOURCE : Sta Z Z.heap "com/example/hinagata/hinagata/ErrorClass" "RESOURCE" "Lcom/example/hinagata/hinagata/ErrorClass;" (.ref r1)) (st_STRUCTURAL : Sta Z Z.heap "com/example/hinagata/hinagata/ErrorClass" "STRUCTURAL" "Lcom/example/hinagata/hinagata/ErrorClass;" (.ref r2)) (st_SCHEMA : Sta Z Z.heap "com/example/hinagata/hinagata/ErrorClass" "SCHEMA" "Lcom/example/hinagata/hinagata/ErrorClass;" (.ref r3)) (st_AUTHORIZATION : Sta Z Z.heap "com/example/hinagata/hinagata/ErrorClass" "AUTHORIZATION" "Lcom/example/hinagata/hinagata/ErrorClass;" (.ref r4)) :
    MetFree l mN11 (head1 (Jvm.Cond.code mN11 method_2_code 1 (some (.object "com/example/hinagata/hinagata/ErrorClass")) :: ws) rM0) (fun a U => a = #[(.int p1)] ∧ Z.Warmed39 U.vm ∧ U.heap = h0) (fun _ _ _ _ _ => True) (fun _ U o U' => ∃ v L, o = .returned v ∧ Q_pick Z p1 r1 r2 r3 r4 h0 v U'.heap L ∧ FrameEnd U o U' L rM0.cells rM0.slots) := by
  refine MetFree.of_bodySF (plainFor_of_name pn_25) hisR ?_
  intro p e s m args below meth c s₁ Bd hml0 hP hK
  obtain ⟨rfl, hZ, hh⟩ := hP
  have hx := Bd.exec
  have hby := Bd.bytes
  have hml : c.maxLocals = 1 := hml0
  have hown : s.vm.findClass "com/example/hinagata/hinagata/RefusedExceptionToOutcomePinLaw" = some m.cls := findClass_of_methodNamed Bd.named
  have hnm := (name_of_methodNamed Bd.named Bd.method).1
  have X0 : Stand p l e rM0 s m #[(.int p1)] below meth c s₁ [] 0 0 := Stand.of_body Bd
  have e0 : s₁.heap = h0 := by rw [← hh, Bd.state]; rfl
  have N0 := Fr.nil Z.heap.size
  have Z0 : Z.heap.size ≤ h0.size := OL.2.1
  show oG p.tables e below (fun o tE => ∃ v L, o = .returned v ∧ Q_pick Z p1 r1 r2 r3 r4 h0 v tE.heap L ∧ FrameEnd s o tE L rM0.cells rM0.slots) (s₁.setTop (entryFrame m #[(.int p1)] 1))
  refine own_hd (fun PP hPP => ?_)
  refine oG.st (fun t k => castTop (ef_26 m p1) k) ?_
  refine oG.st (fun _ k => XS.iloadN X0.here hx rfl (hb hby d_method_2_0) rfl k) ?_
  show oG _ _ _ _ (s₁.setTop (mkF m 1 #[.val (.int p1)] [(.int p1)]))
  by_cases hc139 : p1 = (0 : Int32)
  ·
    refine oG.st (fun _ k => XS.ifNo X0.here hx rfl (hb hby d_method_2_1) rfl ((if0 _ _).trans (teq hc139).2) k) ?_
    show oG _ _ _ _ (s₁.setTop (mkF m 4 #[.val (.int p1)] []))
    obtain ⟨T140, X140, e140, st140⟩ := getS2 X0 hx hZ hown (host := "") (Or.inl (own_w hw 4 rfl)) Via.refl e0 (st_RESOURCE.ext OL.2) (g := (mkF m 4 #[.val (.int p1)] [])) rfl (hb hby d_method_2_4)
    refine oG.st st140 ?_
    show oG _ _ _ _ (T140.setTop (mkF m 7 #[.val (.int p1)] [(.ref r1)]))
    obtain ⟨fs141, hr141, hrun141, hend141, hW141, hsm141⟩ := X140.leave (v := some (.ref r1)) (fun h => by rw [Bd.returns] at h; cases h)
    subst hPP
    refine ⟨_, _, own_retA X140 hx Bd.returns rfl rfl (hb hby d_method_2_7) hr141, hrun141, hend141, _, _, rfl, ?_, ⟨_, rfl⟩, hW141, hsm141.mono (by decide) (by decide)⟩
    · show Q_pick Z _ _ _ _ _ h0 _ T140.heap _
      rw [e140]
      exact ⟨r1, rfl, N0, rfl⟩
  ·
    refine oG.st (fun _ k => XS.ifYes X0.here hx rfl (pc0 := 1) (pc' := 8) rfl (hb hby d_method_2_1) rfl ((if0 _ _).trans (feq hc139).2) (by decide) (by decide) k) ?_
    refine oG.st (fun _ k => XS.iloadN X0.here hx rfl (hb hby d_method_2_8) rfl (XS.iconst X0.here hx rfl (hb hby d_method_2_9) k)) ?_
    show oG _ _ _ _ (s₁.setTop (mkF m 10 #[.val (.int p1)] [(.int (1 : Int32)), (.int p1)]))
    by_cases hc142 : p1 = (1 : Int32)
    ·
      refine oG.st (fun _ k => XS.icmpNo X0.here hx rfl (hb hby d_method_2_10) rfl (teq hc142).2 k) ?_
      show oG _ _ _ _ (s₁.setTop (mkF m 13 #[.val (.int p1)] []))
      obtain ⟨T143, X143, e143, st143⟩ := getS2 X0 hx hZ hown (host := "") (Or.inl (own_w hw 231 rfl)) Via.refl e0 (st_STRUCTURAL.ext OL.2) (g := (mkF m 13 #[.val (.int p1)] [])) rfl (hb hby d_method_2_13)
      refine oG.st st143 ?_
      show oG _ _ _ _ (T143.setTop (mkF m 16 #[.val (.int p1)] [(.ref r2)]))
      obtain ⟨fs144, hr144, hrun144, hend144, hW144, hsm144⟩ := X143.leave (v := some (.ref r2)) (fun h => by rw [Bd.returns] at h; cases h)
      subst hPP
      refine ⟨_, _, own_retA X143 hx Bd.returns rfl rfl (hb hby d_method_2_16) hr144, hrun144, hend144, _, _, rfl, ?_, ⟨_, rfl⟩, hW144, hsm144.mono (by decide) (by decide)⟩
      · show Q_pick Z _ _ _ _ _ h0 _ T143.heap _
        rw [e143]
        exact ⟨r2, rfl, N0, rfl⟩
    ·
      refine oG.st (fun _ k => XS.icmpYes X0.here hx rfl (pc0 := 10) (pc' := 17) rfl (hb hby d_method_2_10) rfl (feq hc142).2 (by decide) (by decide) k) ?_
      refine oG.st (fun _ k => XS.iloadN X0.here hx rfl (hb hby d_method_2_17) rfl (XS.iconst X0.here hx rfl (hb hby d_method_2_18) k)) ?_
      show oG _ _ _ _ (s₁.setTop (mkF m 19 #[.val (.int p1)] [(.int (2 : Int32)), (.int p1)]))
      by_cases hc145 : p1 = (2 : Int32)
      ·
        refine oG.st (fun _ k => XS.icmpNo X0.here hx rfl (hb hby d_method_2_19) rfl (teq hc145).2 k) ?_
        show oG _ _ _ _ (s₁.setTop (mkF m 22 #[.val (.int p1)] []))
        obtain ⟨T146, X146, e146, st146⟩ := getS2 X0 hx hZ hown (host := "") (Or.inl (own_w hw 250 rfl)) Via.refl e0 (st_SCHEMA.ext OL.2) (g := (mkF m 22 #[.val (.int p1)] [])) rfl (hb hby d_method_2_22)
        refine oG.st st146 ?_
        show oG _ _ _ _ (T146.setTop (mkF m 25 #[.val (.int p1)] [(.ref r3)]))
        obtain ⟨fs147, hr147, hrun147, hend147, hW147, hsm147⟩ := X146.leave (v := some (.ref r3)) (fun h => by rw [Bd.returns] at h; cases h)
        subst hPP
        refine ⟨_, _, own_retA X146 hx Bd.returns rfl rfl (hb hby d_method_2_25) hr147, hrun147, hend147, _, _, rfl, ?_, ⟨_, rfl⟩, hW147, hsm147.mono (by decide) (by decide)⟩
        · show Q_pick Z _ _ _ _ _ h0 _ T146.heap _
          rw [e146]
          exact ⟨r3, rfl, N0, rfl⟩
      ·
        refine oG.st (fun _ k => XS.icmpYes X0.here hx rfl (pc0 := 19) (pc' := 26) rfl (hb hby d_method_2_19) rfl (feq hc145).2 (by decide) (by decide) k) ?_
        show oG _ _ _ _ (s₁.setTop (mkF m 26 #[.val (.int p1)] []))
        obtain ⟨T148, X148, e148, st148⟩ := getS2 X0 hx hZ hown (host := "") (Or.inl (own_w hw 237 rfl)) Via.refl e0 (st_AUTHORIZATION.ext OL.2) (g := (mkF m 26 #[.val (.int p1)] [])) rfl (hb hby d_method_2_26)
        refine oG.st st148 ?_
        show oG _ _ _ _ (T148.setTop (mkF m 29 #[.val (.int p1)] [(.ref r4)]))
        obtain ⟨fs149, hr149, hrun149, hend149, hW149, hsm149⟩ := X148.leave (v := some (.ref r4)) (fun h => by rw [Bd.returns] at h; cases h)
        subst hPP
        refine ⟨_, _, own_retA X148 hx Bd.returns rfl rfl (hb hby d_method_2_29) hr149, hrun149, hend149, _, _, rfl, ?_, ⟨_, rfl⟩, hW149, hsm149.mono (by decide) (by decide)⟩
        · show Q_pick Z _ _ _ _ _ h0 _ T148.heap _
          rw [e148]
          exact ⟨r4, rfl, N0, rfl⟩
theorem ef_43 (m : MethodId) (x0 : Int32) : entryFrame m #[(.int x0)] 5 = mkF m 0 #[.val (.int x0), .unset, .unset, .unset, .unset] [] := by first | (simp [entryFrame, mkF, argsToLocals, Value.category]; done) | rfl
theorem d_method_3_35 : decode cJ10 35 = .ok (.iload_n 1, 1) := by decide +kernel
theorem d_method_3_36 : decode cJ10 36 = .ok (.ifCond .ne 14, 3) := by decide +kernel
theorem d_method_3_39 : decode cJ10 39 = .ok (.new 22, 3) := by decide +kernel
theorem d_method_3_42 : decode cJ10 42 = .ok (.dup, 1) := by decide +kernel
theorem d_method_3_43 : decode cJ10 43 = .ok (.iconst 0, 1) := by decide +kernel
theorem d_method_3_44 : decode cJ10 44 = .ok (.newarray .char, 2) := by decide +kernel
theorem pd_50 : parseMethodDescriptor "([C)V" = some ⟨[(.array .char)], none⟩ := by decide +kernel
theorem d_method_3_46 : decode cJ10 46 = .ok (.invokespecial 24, 3) := by decide +kernel
theorem d_method_3_49 : decode cJ10 49 = .ok (.areturn, 1) := by decide +kernel
theorem d_method_3_50 : decode cJ10 50 = .ok (.iload_n 1, 1) := by decide +kernel
theorem d_method_3_51 : decode cJ10 51 = .ok (.iconst 1, 1) := by decide +kernel
theorem d_method_3_52 : decode cJ10 52 = .ok (.if_icmp .ne 18, 3) := by decide +kernel
theorem d_method_3_55 : decode cJ10 55 = .ok (.new 22, 3) := by decide +kernel
theorem d_method_3_58 : decode cJ10 58 = .ok (.dup, 1) := by decide +kernel
theorem d_method_3_59 : decode cJ10 59 = .ok (.iconst 1, 1) := by decide +kernel
theorem d_method_3_60 : decode cJ10 60 = .ok (.newarray .char, 2) := by decide +kernel
theorem d_method_3_62 : decode cJ10 62 = .ok (.dup, 1) := by decide +kernel
theorem d_method_3_63 : decode cJ10 63 = .ok (.iconst 0, 1) := by decide +kernel
theorem d_method_3_64 : decode cJ10 64 = .ok (.iload_n 2, 1) := by decide +kernel
theorem d_method_3_65 : decode cJ10 65 = .ok (.castore, 1) := by decide +kernel
theorem d_method_3_66 : decode cJ10 66 = .ok (.invokespecial 24, 3) := by decide +kernel
theorem d_method_3_69 : decode cJ10 69 = .ok (.areturn, 1) := by decide +kernel
theorem d_method_3_70 : decode cJ10 70 = .ok (.iload_n 1, 1) := by decide +kernel
theorem d_method_3_71 : decode cJ10 71 = .ok (.iconst 2, 1) := by decide +kernel
theorem d_method_3_72 : decode cJ10 72 = .ok (.if_icmp .ne 22, 3) := by decide +kernel
theorem d_method_3_75 : decode cJ10 75 = .ok (.new 22, 3) := by decide +kernel
theorem d_method_3_78 : decode cJ10 78 = .ok (.dup, 1) := by decide +kernel
theorem d_method_3_79 : decode cJ10 79 = .ok (.iconst 2, 1) := by decide +kernel
theorem d_method_3_80 : decode cJ10 80 = .ok (.newarray .char, 2) := by decide +kernel
theorem d_method_3_82 : decode cJ10 82 = .ok (.dup, 1) := by decide +kernel
theorem d_method_3_83 : decode cJ10 83 = .ok (.iconst 0, 1) := by decide +kernel
theorem d_method_3_84 : decode cJ10 84 = .ok (.iload_n 2, 1) := by decide +kernel
theorem d_method_3_85 : decode cJ10 85 = .ok (.castore, 1) := by decide +kernel
theorem d_method_3_86 : decode cJ10 86 = .ok (.dup, 1) := by decide +kernel
theorem d_method_3_87 : decode cJ10 87 = .ok (.iconst 1, 1) := by decide +kernel
theorem d_method_3_88 : decode cJ10 88 = .ok (.iload_n 3, 1) := by decide +kernel
theorem d_method_3_89 : decode cJ10 89 = .ok (.castore, 1) := by decide +kernel
theorem d_method_3_90 : decode cJ10 90 = .ok (.invokespecial 24, 3) := by decide +kernel
theorem d_method_3_93 : decode cJ10 93 = .ok (.areturn, 1) := by decide +kernel
theorem d_method_3_94 : decode cJ10 94 = .ok (.new 22, 3) := by decide +kernel
theorem d_method_3_97 : decode cJ10 97 = .ok (.dup, 1) := by decide +kernel
theorem d_method_3_98 : decode cJ10 98 = .ok (.iconst 3, 1) := by decide +kernel
theorem d_method_3_99 : decode cJ10 99 = .ok (.newarray .char, 2) := by decide +kernel
theorem d_method_3_101 : decode cJ10 101 = .ok (.dup, 1) := by decide +kernel
theorem d_method_3_102 : decode cJ10 102 = .ok (.iconst 0, 1) := by decide +kernel
theorem d_method_3_103 : decode cJ10 103 = .ok (.iload_n 2, 1) := by decide +kernel
theorem d_method_3_104 : decode cJ10 104 = .ok (.castore, 1) := by decide +kernel
theorem d_method_3_105 : decode cJ10 105 = .ok (.dup, 1) := by decide +kernel
theorem d_method_3_106 : decode cJ10 106 = .ok (.iconst 1, 1) := by decide +kernel
theorem d_method_3_107 : decode cJ10 107 = .ok (.iload_n 3, 1) := by decide +kernel
theorem d_method_3_108 : decode cJ10 108 = .ok (.castore, 1) := by decide +kernel
theorem d_method_3_109 : decode cJ10 109 = .ok (.dup, 1) := by decide +kernel
theorem d_method_3_110 : decode cJ10 110 = .ok (.iconst 2, 1) := by decide +kernel
theorem d_method_3_111 : decode cJ10 111 = .ok (.iload 4, 2) := by decide +kernel
theorem d_method_3_113 : decode cJ10 113 = .ok (.castore, 1) := by decide +kernel
theorem d_method_3_114 : decode cJ10 114 = .ok (.invokespecial 24, 3) := by decide +kernel
theorem d_method_3_117 : decode cJ10 117 = .ok (.areturn, 1) := by decide +kernel
theorem d_method_3_0 : decode cJ10 0 = .ok (.iload_n 0, 1) := by decide +kernel
theorem d_method_3_1 : decode cJ10 1 = .ok (.bipush 24, 2) := by decide +kernel
theorem d_method_3_3 : decode cJ10 3 = .ok (.iushr, 1) := by decide +kernel
theorem d_method_3_4 : decode cJ10 4 = .ok (.iconst 3, 1) := by decide +kernel
theorem d_method_3_5 : decode cJ10 5 = .ok (.iand, 1) := by decide +kernel
theorem d_method_3_6 : decode cJ10 6 = .ok (.istore_n 1, 1) := by decide +kernel
theorem d_method_3_7 : decode cJ10 7 = .ok (.iload_n 0, 1) := by decide +kernel
theorem d_method_3_8 : decode cJ10 8 = .ok (.sipush 255, 3) := by decide +kernel
theorem d_method_3_11 : decode cJ10 11 = .ok (.iand, 1) := by decide +kernel
theorem d_method_3_12 : decode cJ10 12 = .ok (.i2c, 1) := by decide +kernel
theorem d_method_3_13 : decode cJ10 13 = .ok (.istore_n 2, 1) := by decide +kernel
theorem d_method_3_14 : decode cJ10 14 = .ok (.iload_n 0, 1) := by decide +kernel
theorem d_method_3_15 : decode cJ10 15 = .ok (.bipush 8, 2) := by decide +kernel
theorem d_method_3_17 : decode cJ10 17 = .ok (.iushr, 1) := by decide +kernel
theorem d_method_3_18 : decode cJ10 18 = .ok (.sipush 255, 3) := by decide +kernel
theorem d_method_3_21 : decode cJ10 21 = .ok (.iand, 1) := by decide +kernel
theorem d_method_3_22 : decode cJ10 22 = .ok (.i2c, 1) := by decide +kernel
theorem d_method_3_23 : decode cJ10 23 = .ok (.istore_n 3, 1) := by decide +kernel
theorem d_method_3_24 : decode cJ10 24 = .ok (.iload_n 0, 1) := by decide +kernel
theorem d_method_3_25 : decode cJ10 25 = .ok (.bipush 16, 2) := by decide +kernel
theorem d_method_3_27 : decode cJ10 27 = .ok (.iushr, 1) := by decide +kernel
theorem d_method_3_28 : decode cJ10 28 = .ok (.sipush 255, 3) := by decide +kernel
theorem d_method_3_31 : decode cJ10 31 = .ok (.iand, 1) := by decide +kernel
theorem d_method_3_32 : decode cJ10 32 = .ok (.i2c, 1) := by decide +kernel
theorem d_method_3_33 : decode cJ10 33 = .ok (.istore 4, 2) := by decide +kernel
def Q_text (Z : State) (p1 : Int32) (zc : Int32) (h0 : Heap) (v : Option Value) (h : Heap) (L : List Loc) : Prop := ∃ (x : Nat), ∃ (t : Nat), ∃ (cs : List Int32), v = some (.ref x) ∧ Fr Z.heap.size L ∧ Keep h0 h [] ∧ own_Str Z h x t cs
set_option maxRecDepth 65536 in
set_option maxHeartbeats 40000000 in
theorem rm_text (l : Launch) (Z : State) (a0 : Array Value) (hw : ∀ d ∈ tables_1, d.before a0 Z = true) (ws : List Jvm.Cond) (p1 : Int32) (zc : Int32) (h0 : Heap) (hEL : EW Z a0 consts_1) (OL : Old Z Z.heap.size h0) (st_C : Sta Z Z.heap "java/lang/String" "COMPACT_STRINGS" "Z" (.int zc)) (hzc : ¬ zc = 0) :
    MetFree l mN12 (head1 (Jvm.Cond.code mN12 method_3_code 5 (some (.object "java/lang/String")) :: ws) rM11) (fun a U => a = #[(.int p1)] ∧ Z.Warmed39 U.vm ∧ U.heap = h0 ∧ CHv Z consts_1 U.vm h0) (fun _ _ _ _ _ => True) (fun _ U o U' => ∃ v L, o = .returned v ∧ Q_text Z p1 zc h0 v U'.heap L ∧ CHr Z consts_1 U.vm U.heap U'.vm U'.heap ∧ ReturnedEndW U o U' L rM11.cells rM11.slots) := by
  refine MetFree.of_bodySF (plainFor_of_name pn_25) hisR ?_
  intro p e s m args below meth c s₁ Bd hml0 hP hK
  obtain ⟨rfl, hZ, hh, hC0⟩ := hP
  have hx := Bd.exec
  have hby := Bd.bytes
  have hml : c.maxLocals = 5 := hml0
  have hown : s.vm.findClass "com/example/hinagata/hinagata/RefusedExceptionToOutcomePinLaw" = some m.cls := findClass_of_methodNamed Bd.named
  have hnm := (name_of_methodNamed Bd.named Bd.method).1
  have X0 : Stand p l e rM11 (s.setVm s.vm) m #[(.int p1)] below meth c s₁ [] 0 0 := Stand.of_body Bd
  have e0 : s₁.heap = h0 := by rw [← hh, Bd.state]; rfl
  have N0 := Fr.nil Z.heap.size
  have Z0 : Z.heap.size ≤ h0.size := OL.2.1
  have hS0 : s.Since s.vm h0.size := (State.WarmedH.refl s).since _
  have wS := own_wS hw
  have R0 : CHr Z consts_1 s.vm h0 s.vm h0 := CHr.refl hC0
  show oG p.tables e below (fun o tE => ∃ v L, o = .returned v ∧ Q_text Z p1 zc h0 v tE.heap L ∧ CHr Z consts_1 s.vm s.heap tE.vm tE.heap ∧ ReturnedEndW s o tE L rM11.cells rM11.slots) (s₁.setTop (entryFrame m #[(.int p1)] 5))
  refine own_hd (fun PP hPP => ?_)
  refine oG.st (fun t k => castTop (ef_43 m p1) k) ?_
  show oG _ _ _ _ (s₁.setTop (mkF m 0 #[.val (.int p1), .unset, .unset, .unset, .unset] []))
  have J150 : ∀ (ln : Int32) (u0 : Int32) (u1 : Int32) (u2 : Int32), ((ln = 0 ∨ ln = 1 ∨ ln = 2 ∨ ln = 3) ∧ (¬ u0 < 0 ∧ ¬ (255 : Int32) < u0) ∧ (¬ u1 < 0 ∧ ¬ (255 : Int32) < u1) ∧ (¬ u2 < 0 ∧ ¬ (255 : Int32) < u2)) → oG p.tables e below PP (s₁.setTop (mkF m 35 #[.val (.int p1), .val (.int ln), .val (.int u0), .val (.int u1), .val (.int u2)] [])) := by
    intro ln u0 u1 u2 hJ150
    obtain ⟨hln, hu0, hu1, hu2⟩ := hJ150
    refine oG.st (fun _ k => XS.iloadN X0.here hx rfl (hb hby d_method_3_35) rfl k) ?_
    show oG _ _ _ _ (s₁.setTop (mkF m 36 #[.val (.int p1), .val (.int ln), .val (.int u0), .val (.int u1), .val (.int u2)] [(.int ln)]))
    by_cases hc151 : ln = (0 : Int32)
    ·
      refine oG.st (fun _ k => XS.ifNo X0.here hx rfl (hb hby d_method_3_36) rfl ((if0 _ _).trans (teq hc151).2) k) ?_
      show oG _ _ _ _ (s₁.setTop (mkF m 39 #[.val (.int p1), .val (.int ln), .val (.int u0), .val (.int u1), .val (.int u2)] []))
      obtain ⟨T152, h152, X152, e152, E152, A152, D152, U152, st152⟩ := newO X0 hx hZ hown (own_w hw 10 rfl) (own_w hw 11 rfl) (own_w hw 12 rfl) e0 (g := (mkF m 39 #[.val (.int p1), .val (.int ln), .val (.int u0), .val (.int u1), .val (.int u2)] [])) rfl (hb hby d_method_3_39) (by decide) (by decide)
      obtain ⟨b152, g152⟩ : ∃ z, z = h0.size := ⟨_, rfl⟩
      rw [← g152] at A152 D152 U152 st152
      refine oG.st st152 ?_
      have z152 : h0.size ≤ h152.size := E152.1
      have lt_b152 : @LT.lt Nat _ b152 h152.size := A152.lt
      have f153 : Fld Z h152 b152 "java/lang/String" "value" "[B" .null := D152 (Or.inr (own_w hw 26 rfl)) (ty := (.array .byte)) (by decide)
      have f154 : Fld Z h152 b152 "java/lang/String" "coder" "B" (.int (0 : Int32)) := D152 (Or.inr (own_w hw 27 rfl)) (ty := .byte) (by decide)
      have R152 : CHr Z consts_1 s.vm h0 s.vm h152 := R0.trans (CHr.ext E152 R0.1)
      have Sf152 : Safe Z consts_1 s.vm h152 b152 := (Safe.new (Nat.le_of_eq g152.symm)).ext E152 R0.1
      refine oG.st (fun _ k => XS.dup X152.here hx rfl (hb hby d_method_3_42) rfl rfl (XS.iconst X152.here hx rfl (hb hby d_method_3_43) k)) ?_
      show oG _ _ _ _ (T152.setTop (mkF m 44 #[.val (.int p1), .val (.int ln), .val (.int u0), .val (.int u1), .val (.int u2)] [(.int (0 : Int32)), (.ref b152), (.ref b152)]))
      obtain ⟨T155, h155, k155, X155, e155, E155, A155, st155⟩ := newP X152 hx hZ (own_w hw 13 rfl) e152 (g := (mkF m 44 #[.val (.int p1), .val (.int ln), .val (.int u0), .val (.int u1), .val (.int u2)] [(.int (0 : Int32)), (.ref b152), (.ref b152)])) rfl (hb hby d_method_3_44) rfl (by decide) (cap := 0) (by decide) (by decide) (by decide) (by decide)
      obtain ⟨b155, g155⟩ : ∃ z, z = h152.size := ⟨_, rfl⟩
      rw [← g155] at A155 st155
      refine oG.st st155 ?_
      have z155 : h152.size ≤ h155.size := E155.1
      have f156 : Arv Z h155 b155 k155 .char (0 : Int32) [] (.int (0 : Int32)) := (Arv.new A155 (by decide)).pad (pad_rep [] (.int (0 : Int32)) 0)
      have lt_b155 : @LT.lt Nat _ b155 h155.size := f156.lt
      have R155 : CHr Z consts_1 s.vm h0 s.vm h155 := R152.trans (CHr.ext E155 R152.1)
      have Sf157 : Safe Z consts_1 s.vm h155 b152 := Safe.ext E155 R152.1 Sf152
      show oG _ _ _ _ (T155.setTop (mkF m 46 #[.val (.int p1), .val (.int ln), .val (.int u0), .val (.int u1), .val (.int u2)] [(.ref b155), (.ref b152), (.ref b152)]))
      have f159 : Exa Z h155 b152 "java/lang/String" := A152.ext E155
      have f160 : Fld Z h155 b152 "java/lang/String" "value" "[B" .null := f153.ext E155
      have f161 : Fld Z h155 b152 "java/lang/String" "coder" "B" (.int (0 : Int32)) := f154.ext E155
      have f162 : Old Z Z.heap.size h152 := OL.ext E152
      have f163 : Old Z Z.heap.size h155 := f162.ext E155
      obtain ⟨_, _, ⟨T158, L158, k158, n158⟩, -, X158, hs158, hg158, ⟨Lc158, hQ158, l158, y158, z158, ch158⟩, st158⟩ := X155.specialBackS hx (y := mN17) rfl hown (own_v hZ hw 14 rfl) (own_v hZ hw 15 rfl) (own_v hZ hw 16 rfl) (by decide) (backOfSH (s := s) (vm0 := s.vm) (W := 1) (rm_init1e l Z a0 hw [] b152 b155 k155 [] (.int (0 : Int32)) h155 hEL f163 f159 f160 f161 f156 (by omega)) hZ (own_w hw 16 rfl) (own_w hw 12 rfl) (by decide) (by decide) hEL R155.1) (g := (mkF m 46 #[.val (.int p1), .val (.int ln), .val (.int u0), .val (.int u1), .val (.int u2)] [(.ref b155), (.ref b152), (.ref b152)])) rfl (by rw [hml]; rfl) (Steps.refl _) (a := b152) (argsL := [(.ref b155)]) (rest := [(.ref b152)]) (lenOf pd_50 rfl) rfl (by show 2 * 0 + _ ≤ _; exact Nat.le_of_eq rfl) (hb hby d_method_3_46) (fun _ _ => ⟨rfl, e155, (by decide : 2 + 4 ≤ _), (by decide : 4 + 8 ≤ _)⟩)
      dsimp only [Pt.U, Pt.locs, Pt.cells, Pt.slots] at X158 l158 y158 z158 st158 hQ158 hs158 hg158 ch158
      subst l158 y158 z158
      obtain ⟨t_158, rfl, N158q, K158, f158_0⟩ := hQ158
      have N158 := Fr.app N0 N158q
      obtain ⟨Y158, hS158, hZ158, hown158⟩ := rebS hS0 (n1 := h155.size) (by omega) X158 hs158 (by have := hg158; first | exact this | (rw [← e155]; exact this)) hZ hown
      have z158 : h155.size ≤ T158.heap.size := K158.1
      have R158 : CHr Z consts_1 s.vm h0 T158.vm T158.heap := R155.trans ch158
      have Sf164 : Safe Z consts_1 T158.vm T158.heap b152 := ch158.safe (by show @LT.lt Nat _ b152 _; omega) Sf157
      have lt158_0 : @LT.lt Nat _ b152 T158.heap.size := f158_0.lt
      have ltv158_0 : @LT.lt Nat _ t_158 T158.heap.size := f158_0.ltv
      refine oG.tr st158 ?_
      show oG _ _ _ _ (T158.setTop (mkF m 49 #[.val (.int p1), .val (.int ln), .val (.int u0), .val (.int u1), .val (.int u2)] [(.ref b152)]))
      obtain ⟨fs165, hr165, hrun165, hend165, hret165⟩ := Y158.leaveW hS158 (by omega) (v := some (.ref b152)) (fun h => by rw [Bd.returns] at h; cases h)
      have K166 : Keep h0 h152 [] := (Keep.refl h0 []).ext E152
      have K167 : Keep h0 h155 [] := K166.ext E155
      have gz168 : h0.size ≤ b152 := by omega
      have K169 : Keep h0 T158.heap [] := K167.trans K158 (allS (Or.inr gz168) all0)
      subst hPP
      refine ⟨_, _, own_retA Y158 hx Bd.returns rfl rfl (hb hby d_method_3_49) hr165, hrun165, hend165, _, _, rfl, ?_, ?_, hret165.1, hret165.2.1, hret165.2.2.1, hret165.2.2.2.mono (by decide) (by decide)⟩
      · show Q_text Z _ _ h0 _ T158.heap _
        exact ⟨b152, t_158, [], rfl, N158, K169, f158_0⟩
      · have hfin := R158.trans (CHv.at Y158 hZ158 hEL R158.1)
        rw [← hh] at hfin
        show CHr Z consts_1 s.vm s.heap T158.vm T158.heap
        exact hfin
    ·
      refine oG.st (fun _ k => XS.ifYes X0.here hx rfl (pc0 := 36) (pc' := 50) rfl (hb hby d_method_3_36) rfl ((if0 _ _).trans (feq hc151).2) (by decide) (by decide) k) ?_
      refine oG.st (fun _ k => XS.iloadN X0.here hx rfl (hb hby d_method_3_50) rfl (XS.iconst X0.here hx rfl (hb hby d_method_3_51) k)) ?_
      show oG _ _ _ _ (s₁.setTop (mkF m 52 #[.val (.int p1), .val (.int ln), .val (.int u0), .val (.int u1), .val (.int u2)] [(.int (1 : Int32)), (.int ln)]))
      by_cases hc170 : ln = (1 : Int32)
      ·
        refine oG.st (fun _ k => XS.icmpNo X0.here hx rfl (hb hby d_method_3_52) rfl (teq hc170).2 k) ?_
        show oG _ _ _ _ (s₁.setTop (mkF m 55 #[.val (.int p1), .val (.int ln), .val (.int u0), .val (.int u1), .val (.int u2)] []))
        obtain ⟨T171, h171, X171, e171, E171, A171, D171, U171, st171⟩ := newO X0 hx hZ hown (own_w hw 10 rfl) (own_w hw 11 rfl) (own_w hw 12 rfl) e0 (g := (mkF m 55 #[.val (.int p1), .val (.int ln), .val (.int u0), .val (.int u1), .val (.int u2)] [])) rfl (hb hby d_method_3_55) (by decide) (by decide)
        obtain ⟨b171, g171⟩ : ∃ z, z = h0.size := ⟨_, rfl⟩
        rw [← g171] at A171 D171 U171 st171
        refine oG.st st171 ?_
        have z171 : h0.size ≤ h171.size := E171.1
        have lt_b171 : @LT.lt Nat _ b171 h171.size := A171.lt
        have f172 : Fld Z h171 b171 "java/lang/String" "value" "[B" .null := D171 (Or.inr (own_w hw 26 rfl)) (ty := (.array .byte)) (by decide)
        have f173 : Fld Z h171 b171 "java/lang/String" "coder" "B" (.int (0 : Int32)) := D171 (Or.inr (own_w hw 27 rfl)) (ty := .byte) (by decide)
        have R171 : CHr Z consts_1 s.vm h0 s.vm h171 := R0.trans (CHr.ext E171 R0.1)
        have Sf171 : Safe Z consts_1 s.vm h171 b171 := (Safe.new (Nat.le_of_eq g171.symm)).ext E171 R0.1
        refine oG.st (fun _ k => XS.dup X171.here hx rfl (hb hby d_method_3_58) rfl rfl (XS.iconst X171.here hx rfl (hb hby d_method_3_59) k)) ?_
        show oG _ _ _ _ (T171.setTop (mkF m 60 #[.val (.int p1), .val (.int ln), .val (.int u0), .val (.int u1), .val (.int u2)] [(.int (1 : Int32)), (.ref b171), (.ref b171)]))
        obtain ⟨T174, h174, k174, X174, e174, E174, A174, st174⟩ := newP X171 hx hZ (own_w hw 13 rfl) e171 (g := (mkF m 60 #[.val (.int p1), .val (.int ln), .val (.int u0), .val (.int u1), .val (.int u2)] [(.int (1 : Int32)), (.ref b171), (.ref b171)])) rfl (hb hby d_method_3_60) rfl (by decide) (cap := 1) (by decide) (by decide) (by decide) (by decide)
        obtain ⟨b174, g174⟩ : ∃ z, z = h171.size := ⟨_, rfl⟩
        rw [← g174] at A174 st174
        refine oG.st st174 ?_
        have z174 : h171.size ≤ h174.size := E174.1
        have f175 : Arv Z h174 b174 k174 .char (1 : Int32) [(.int (0 : Int32))] (.int (0 : Int32)) := (Arv.new A174 (by decide)).pad (pad_rep [] (.int (0 : Int32)) 1)
        have lt_b174 : @LT.lt Nat _ b174 h174.size := f175.lt
        have R174 : CHr Z consts_1 s.vm h0 s.vm h174 := R171.trans (CHr.ext E174 R171.1)
        have Sf176 : Safe Z consts_1 s.vm h174 b171 := Safe.ext E174 R171.1 Sf171
        refine oG.st (fun _ k => XS.dup X174.here hx rfl (hb hby d_method_3_62) rfl rfl (XS.iconst X174.here hx rfl (hb hby d_method_3_63) (XS.iloadN X174.here hx rfl (hb hby d_method_3_64) rfl k))) ?_
        show oG _ _ _ _ (T174.setTop (mkF m 65 #[.val (.int p1), .val (.int ln), .val (.int u0), .val (.int u1), .val (.int u2)] [(.int u0), (.int (0 : Int32)), (.ref b174), (.ref b174), (.ref b171), (.ref b171)]))
        obtain ⟨c177, Ar177, q177, S177, Nn177, H177, G177⟩ := id f175
        have hin177 : ¬ ((0 : Int32) < 0 ∨ c177.slots.size ≤ ((0 : Int32)).toNatClampNeg) := inb_of S177 ⟨by decide, by decide⟩
        obtain ⟨T177, h177, X177, e177, W177, st177⟩ := stC X174 hx hZ e174 Ar177 (j := (0 : Int32)) hin177 (g := (mkF m 65 #[.val (.int p1), .val (.int ln), .val (.int u0), .val (.int u1), .val (.int u2)] [(.int u0), (.int (0 : Int32)), (.ref b174), (.ref b174), (.ref b171), (.ref b171)])) rfl rfl (hb hby d_method_3_65)
        refine oG.st st177 ?_
        have gz178 : Z.heap.size ≤ b174 := by omega
        have N177 := Fr.snoc X177 N0 gz178
        have Sf180 : Safe Z consts_1 s.vm h174 b174 := Safe.arv hZ.alike f175 (by decide)
        have z177 : h174.size ≤ h177.size := Nat.le_of_eq W177.size.symm
        have f179 := Arv.set Ar177 q177 S177 Nn177 H177 G177 (fits_nar_char _) W177 0 rfl (Nat.le_of_ble_eq_true rfl)
        rw [own_nar (own_up hu0)] at f179
        have f181 : Arv Z h177 b174 k174 .char (1 : Int32) [(.int u0)] (.int (0 : Int32)) := f179
        have R177 : CHr Z consts_1 s.vm h0 s.vm h177 := R174.trans (CHr.wr W177 Sf180 R174.1)
        have Sf182 : Safe Z consts_1 s.vm h177 b171 := Safe.wr W177 Sf180 R174.1 Sf176
        show oG _ _ _ _ (T177.setTop (mkF m 66 #[.val (.int p1), .val (.int ln), .val (.int u0), .val (.int u1), .val (.int u2)] [(.ref b174), (.ref b171), (.ref b171)]))
        have f184 : Exa Z h174 b171 "java/lang/String" := A171.ext E174
        have f185 : Exa Z h177 b171 "java/lang/String" := f184.wr W177
        have f186 : Fld Z h174 b171 "java/lang/String" "value" "[B" .null := f172.ext E174
        have no187 : @Ne Nat b171 b174 := by omega
        have f188 : Fld Z h177 b171 "java/lang/String" "value" "[B" .null := f186.other W177 (Or.inl no187)
        have f189 : Fld Z h174 b171 "java/lang/String" "coder" "B" (.int (0 : Int32)) := f173.ext E174
        have f190 : Fld Z h177 b171 "java/lang/String" "coder" "B" (.int (0 : Int32)) := f189.other W177 (Or.inl no187)
        have f191 : Old Z Z.heap.size h171 := OL.ext E171
        have f192 : Old Z Z.heap.size h174 := f191.ext E174
        have f193 : Old Z Z.heap.size h177 := f192.wr W177 gz178
        have hp183 : ∀ c ∈ ([u0] : List Int32), ¬ c < 0 ∧ ¬ (255 : Int32) < c := (own_aS hu0 own_a0)
        obtain ⟨_, _, ⟨T183, L183, k183, n183⟩, -, X183, ⟨Lc183, hQ183, l183, y183, z183⟩, st183⟩ := X177.specialBack hx (y := mN17) rfl hown (own_v hZ hw 14 rfl) (own_v hZ hw 15 rfl) (own_v hZ hw 16 rfl) (by decide) (StrChars.Road.backV (W := 1) hZ (own_hws hw) (kI := 4) (own_w hw 11 rfl) (cs := ([u0] : List Int32)) (bs := (([u0] : List Int32)).map (fun c => c.toInt8.toInt32)) (n := 1) (n0 := Z.heap.size) (by omega) (by omega) f185 f188 f190 f181 (st_C.ext f193.2) hzc rfl rfl (by decide) (by decide) hp183 rfl (by decide) (by decide)) (g := (mkF m 66 #[.val (.int p1), .val (.int ln), .val (.int u0), .val (.int u1), .val (.int u2)] [(.ref b174), (.ref b171), (.ref b171)])) rfl (by rw [hml]; rfl) (Steps.refl _) (a := b171) (argsL := [(.ref b174)]) (rest := [(.ref b171)]) (lenOf pd_50 rfl) rfl (by show 2 * 0 + _ ≤ _; exact Nat.le_of_eq rfl) (hb hby d_method_3_66) (fun _ _ => ⟨rfl, e177, (by decide : 2 + 1 ≤ _), (by decide : 5 + 1 ≤ _)⟩)
        dsimp only [Pt.U, Pt.locs, Pt.cells, Pt.slots] at X183 l183 y183 z183 st183 hQ183
        subst l183 y183 z183
        obtain ⟨rfl, N183q, K183, Ex183, Cd183, t183, kb183, u183, v183, w183, Vl183, Ar183⟩ := hQ183
        have N183 := Fr.app N177 N183q
        have z183 : h177.size ≤ T183.heap.size := K183.1
        have R183 : CHr Z consts_1 s.vm h0 s.vm T183.heap := R177.trans (CHr.keep K183 (sfS Sf182 sf0) R177.1)
        have Sf194 : Safe Z consts_1 s.vm T183.heap b171 := Safe.keep K183 (sfS Sf182 sf0) R177.1 Sf182
        have fT183 : own_Str Z T183.heap b171 t183 ([u0] : List Int32) := ⟨kb183, 0, (1 : Int32), _, Ex183, Vl183, Cd183, Ar183, StrChars.Road.codOf rfl (fun c q => (hp183 c q).2), own_upL hp183, (Nat.le_of_ble_eq_true rfl)⟩
        have lt183 : @LT.lt Nat _ t183 T183.heap.size := fT183.ltv
        refine oG.tr st183 ?_
        show oG _ _ _ _ (T183.setTop (mkF m 69 #[.val (.int p1), .val (.int ln), .val (.int u0), .val (.int u1), .val (.int u2)] [(.ref b171)]))
        obtain ⟨fs195, hr195, hrun195, hend195, hret195⟩ := X183.leaveW hS0 (by omega) (v := some (.ref b171)) (fun h => by rw [Bd.returns] at h; cases h)
        have K196 : Keep h0 h171 [] := (Keep.refl h0 []).ext E171
        have K197 : Keep h0 h174 [] := K196.ext E174
        have gz198 : h0.size ≤ b174 := by omega
        have K199 : Keep h0 h177 [] := K197.wr W177 (Or.inr gz198)
        have gz200 : h0.size ≤ b171 := by omega
        have K201 : Keep h0 T183.heap [] := K199.trans K183 (allS (Or.inr gz200) all0)
        subst hPP
        refine ⟨_, _, own_retA X183 hx Bd.returns rfl rfl (hb hby d_method_3_69) hr195, hrun195, hend195, _, _, rfl, ?_, ?_, hret195.1, hret195.2.1, hret195.2.2.1, hret195.2.2.2.mono (by decide) (by decide)⟩
        · show Q_text Z _ _ h0 _ T183.heap _
          exact ⟨b171, t183, ([u0] : List Int32), rfl, N183, K201, fT183⟩
        · have hfin := R183.trans (CHv.at X183 hZ hEL R183.1)
          rw [← hh] at hfin
          show CHr Z consts_1 s.vm s.heap T183.vm T183.heap
          exact hfin
      ·
        refine oG.st (fun _ k => XS.icmpYes X0.here hx rfl (pc0 := 52) (pc' := 70) rfl (hb hby d_method_3_52) rfl (feq hc170).2 (by decide) (by decide) k) ?_
        refine oG.st (fun _ k => XS.iloadN X0.here hx rfl (hb hby d_method_3_70) rfl (XS.iconst X0.here hx rfl (hb hby d_method_3_71) k)) ?_
        show oG _ _ _ _ (s₁.setTop (mkF m 72 #[.val (.int p1), .val (.int ln), .val (.int u0), .val (.int u1), .val (.int u2)] [(.int (2 : Int32)), (.int ln)]))
        by_cases hc202 : ln = (2 : Int32)
        ·
          refine oG.st (fun _ k => XS.icmpNo X0.here hx rfl (hb hby d_method_3_72) rfl (teq hc202).2 k) ?_
          show oG _ _ _ _ (s₁.setTop (mkF m 75 #[.val (.int p1), .val (.int ln), .val (.int u0), .val (.int u1), .val (.int u2)] []))
          obtain ⟨T203, h203, X203, e203, E203, A203, D203, U203, st203⟩ := newO X0 hx hZ hown (own_w hw 10 rfl) (own_w hw 11 rfl) (own_w hw 12 rfl) e0 (g := (mkF m 75 #[.val (.int p1), .val (.int ln), .val (.int u0), .val (.int u1), .val (.int u2)] [])) rfl (hb hby d_method_3_75) (by decide) (by decide)
          obtain ⟨b203, g203⟩ : ∃ z, z = h0.size := ⟨_, rfl⟩
          rw [← g203] at A203 D203 U203 st203
          refine oG.st st203 ?_
          have z203 : h0.size ≤ h203.size := E203.1
          have lt_b203 : @LT.lt Nat _ b203 h203.size := A203.lt
          have f204 : Fld Z h203 b203 "java/lang/String" "value" "[B" .null := D203 (Or.inr (own_w hw 26 rfl)) (ty := (.array .byte)) (by decide)
          have f205 : Fld Z h203 b203 "java/lang/String" "coder" "B" (.int (0 : Int32)) := D203 (Or.inr (own_w hw 27 rfl)) (ty := .byte) (by decide)
          have R203 : CHr Z consts_1 s.vm h0 s.vm h203 := R0.trans (CHr.ext E203 R0.1)
          have Sf203 : Safe Z consts_1 s.vm h203 b203 := (Safe.new (Nat.le_of_eq g203.symm)).ext E203 R0.1
          refine oG.st (fun _ k => XS.dup X203.here hx rfl (hb hby d_method_3_78) rfl rfl (XS.iconst X203.here hx rfl (hb hby d_method_3_79) k)) ?_
          show oG _ _ _ _ (T203.setTop (mkF m 80 #[.val (.int p1), .val (.int ln), .val (.int u0), .val (.int u1), .val (.int u2)] [(.int (2 : Int32)), (.ref b203), (.ref b203)]))
          obtain ⟨T206, h206, k206, X206, e206, E206, A206, st206⟩ := newP X203 hx hZ (own_w hw 13 rfl) e203 (g := (mkF m 80 #[.val (.int p1), .val (.int ln), .val (.int u0), .val (.int u1), .val (.int u2)] [(.int (2 : Int32)), (.ref b203), (.ref b203)])) rfl (hb hby d_method_3_80) rfl (by decide) (cap := 2) (by decide) (by decide) (by decide) (by decide)
          obtain ⟨b206, g206⟩ : ∃ z, z = h203.size := ⟨_, rfl⟩
          rw [← g206] at A206 st206
          refine oG.st st206 ?_
          have z206 : h203.size ≤ h206.size := E206.1
          have f207 : Arv Z h206 b206 k206 .char (2 : Int32) [(.int (0 : Int32)), (.int (0 : Int32))] (.int (0 : Int32)) := (Arv.new A206 (by decide)).pad (pad_rep [] (.int (0 : Int32)) 2)
          have lt_b206 : @LT.lt Nat _ b206 h206.size := f207.lt
          have R206 : CHr Z consts_1 s.vm h0 s.vm h206 := R203.trans (CHr.ext E206 R203.1)
          have Sf208 : Safe Z consts_1 s.vm h206 b203 := Safe.ext E206 R203.1 Sf203
          refine oG.st (fun _ k => XS.dup X206.here hx rfl (hb hby d_method_3_82) rfl rfl (XS.iconst X206.here hx rfl (hb hby d_method_3_83) (XS.iloadN X206.here hx rfl (hb hby d_method_3_84) rfl k))) ?_
          show oG _ _ _ _ (T206.setTop (mkF m 85 #[.val (.int p1), .val (.int ln), .val (.int u0), .val (.int u1), .val (.int u2)] [(.int u0), (.int (0 : Int32)), (.ref b206), (.ref b206), (.ref b203), (.ref b203)]))
          obtain ⟨c209, Ar209, q209, S209, Nn209, H209, G209⟩ := id f207
          have hin209 : ¬ ((0 : Int32) < 0 ∨ c209.slots.size ≤ ((0 : Int32)).toNatClampNeg) := inb_of S209 ⟨by decide, by decide⟩
          obtain ⟨T209, h209, X209, e209, W209, st209⟩ := stC X206 hx hZ e206 Ar209 (j := (0 : Int32)) hin209 (g := (mkF m 85 #[.val (.int p1), .val (.int ln), .val (.int u0), .val (.int u1), .val (.int u2)] [(.int u0), (.int (0 : Int32)), (.ref b206), (.ref b206), (.ref b203), (.ref b203)])) rfl rfl (hb hby d_method_3_85)
          refine oG.st st209 ?_
          have gz210 : Z.heap.size ≤ b206 := by omega
          have N209 := Fr.snoc X209 N0 gz210
          have Sf212 : Safe Z consts_1 s.vm h206 b206 := Safe.arv hZ.alike f207 (by decide)
          have z209 : h206.size ≤ h209.size := Nat.le_of_eq W209.size.symm
          have f211 := Arv.set Ar209 q209 S209 Nn209 H209 G209 (fits_nar_char _) W209 0 rfl (Nat.le_of_ble_eq_true rfl)
          rw [own_nar (own_up hu0)] at f211
          have f213 : Arv Z h209 b206 k206 .char (2 : Int32) [(.int u0), (.int (0 : Int32))] (.int (0 : Int32)) := f211
          have R209 : CHr Z consts_1 s.vm h0 s.vm h209 := R206.trans (CHr.wr W209 Sf212 R206.1)
          have Sf214 : Safe Z consts_1 s.vm h209 b203 := Safe.wr W209 Sf212 R206.1 Sf208
          refine oG.st (fun _ k => XS.dup X209.here hx rfl (hb hby d_method_3_86) rfl rfl (XS.iconst X209.here hx rfl (hb hby d_method_3_87) (XS.iloadN X209.here hx rfl (hb hby d_method_3_88) rfl k))) ?_
          show oG _ _ _ _ (T209.setTop (mkF m 89 #[.val (.int p1), .val (.int ln), .val (.int u0), .val (.int u1), .val (.int u2)] [(.int u1), (.int (1 : Int32)), (.ref b206), (.ref b206), (.ref b203), (.ref b203)]))
          obtain ⟨c215, Ar215, q215, S215, Nn215, H215, G215⟩ := id f213
          have hin215 : ¬ ((1 : Int32) < 0 ∨ c215.slots.size ≤ ((1 : Int32)).toNatClampNeg) := inb_of S215 ⟨by decide, by decide⟩
          obtain ⟨T215, h215, X215, e215, W215, st215⟩ := stC X209 hx hZ e209 Ar215 (j := (1 : Int32)) hin215 (g := (mkF m 89 #[.val (.int p1), .val (.int ln), .val (.int u0), .val (.int u1), .val (.int u2)] [(.int u1), (.int (1 : Int32)), (.ref b206), (.ref b206), (.ref b203), (.ref b203)])) rfl rfl (hb hby d_method_3_89)
          refine oG.st st215 ?_
          have N215 := Fr.snoc X215 N209 gz210
          have Sf217 : Safe Z consts_1 s.vm h209 b206 := Safe.arv hZ.alike f213 (by decide)
          have z215 : h209.size ≤ h215.size := Nat.le_of_eq W215.size.symm
          have f216 := Arv.set Ar215 q215 S215 Nn215 H215 G215 (fits_nar_char _) W215 1 rfl (Nat.le_of_ble_eq_true rfl)
          rw [own_nar (own_up hu1)] at f216
          have f218 : Arv Z h215 b206 k206 .char (2 : Int32) [(.int u0), (.int u1)] (.int (0 : Int32)) := f216
          have R215 : CHr Z consts_1 s.vm h0 s.vm h215 := R209.trans (CHr.wr W215 Sf217 R209.1)
          have Sf219 : Safe Z consts_1 s.vm h215 b203 := Safe.wr W215 Sf217 R209.1 Sf214
          show oG _ _ _ _ (T215.setTop (mkF m 90 #[.val (.int p1), .val (.int ln), .val (.int u0), .val (.int u1), .val (.int u2)] [(.ref b206), (.ref b203), (.ref b203)]))
          have f221 : Exa Z h206 b203 "java/lang/String" := A203.ext E206
          have f222 : Exa Z h209 b203 "java/lang/String" := f221.wr W209
          have f223 : Exa Z h215 b203 "java/lang/String" := f222.wr W215
          have f224 : Fld Z h206 b203 "java/lang/String" "value" "[B" .null := f204.ext E206
          have no225 : @Ne Nat b203 b206 := by omega
          have f226 : Fld Z h209 b203 "java/lang/String" "value" "[B" .null := f224.other W209 (Or.inl no225)
          have f227 : Fld Z h215 b203 "java/lang/String" "value" "[B" .null := f226.other W215 (Or.inl no225)
          have f228 : Fld Z h206 b203 "java/lang/String" "coder" "B" (.int (0 : Int32)) := f205.ext E206
          have f229 : Fld Z h209 b203 "java/lang/String" "coder" "B" (.int (0 : Int32)) := f228.other W209 (Or.inl no225)
          have f230 : Fld Z h215 b203 "java/lang/String" "coder" "B" (.int (0 : Int32)) := f229.other W215 (Or.inl no225)
          have f231 : Old Z Z.heap.size h203 := OL.ext E203
          have f232 : Old Z Z.heap.size h206 := f231.ext E206
          have f233 : Old Z Z.heap.size h209 := f232.wr W209 gz210
          have f234 : Old Z Z.heap.size h215 := f233.wr W215 gz210
          have hp220 : ∀ c ∈ ([u0, u1] : List Int32), ¬ c < 0 ∧ ¬ (255 : Int32) < c := (own_aS hu0 (own_aS hu1 own_a0))
          obtain ⟨_, _, ⟨T220, L220, k220, n220⟩, -, X220, ⟨Lc220, hQ220, l220, y220, z220⟩, st220⟩ := X215.specialBack hx (y := mN17) rfl hown (own_v hZ hw 14 rfl) (own_v hZ hw 15 rfl) (own_v hZ hw 16 rfl) (by decide) (StrChars.Road.backV (W := 1) hZ (own_hws hw) (kI := 4) (own_w hw 11 rfl) (cs := ([u0, u1] : List Int32)) (bs := (([u0, u1] : List Int32)).map (fun c => c.toInt8.toInt32)) (n := 2) (n0 := Z.heap.size) (by omega) (by omega) f223 f227 f230 f218 (st_C.ext f234.2) hzc rfl rfl (by decide) (by decide) hp220 rfl (by decide) (by decide)) (g := (mkF m 90 #[.val (.int p1), .val (.int ln), .val (.int u0), .val (.int u1), .val (.int u2)] [(.ref b206), (.ref b203), (.ref b203)])) rfl (by rw [hml]; rfl) (Steps.refl _) (a := b203) (argsL := [(.ref b206)]) (rest := [(.ref b203)]) (lenOf pd_50 rfl) rfl (by show 2 * 0 + _ ≤ _; exact Nat.le_of_eq rfl) (hb hby d_method_3_90) (fun _ _ => ⟨rfl, e215, (by decide : 2 + 1 ≤ _), (by decide : 6 + 2 ≤ _)⟩)
          dsimp only [Pt.U, Pt.locs, Pt.cells, Pt.slots] at X220 l220 y220 z220 st220 hQ220
          subst l220 y220 z220
          obtain ⟨rfl, N220q, K220, Ex220, Cd220, t220, kb220, u220, v220, w220, Vl220, Ar220⟩ := hQ220
          have N220 := Fr.app N215 N220q
          have z220 : h215.size ≤ T220.heap.size := K220.1
          have R220 : CHr Z consts_1 s.vm h0 s.vm T220.heap := R215.trans (CHr.keep K220 (sfS Sf219 sf0) R215.1)
          have Sf235 : Safe Z consts_1 s.vm T220.heap b203 := Safe.keep K220 (sfS Sf219 sf0) R215.1 Sf219
          have fT220 : own_Str Z T220.heap b203 t220 ([u0, u1] : List Int32) := ⟨kb220, 0, (2 : Int32), _, Ex220, Vl220, Cd220, Ar220, StrChars.Road.codOf rfl (fun c q => (hp220 c q).2), own_upL hp220, (Nat.le_of_ble_eq_true rfl)⟩
          have lt220 : @LT.lt Nat _ t220 T220.heap.size := fT220.ltv
          refine oG.tr st220 ?_
          show oG _ _ _ _ (T220.setTop (mkF m 93 #[.val (.int p1), .val (.int ln), .val (.int u0), .val (.int u1), .val (.int u2)] [(.ref b203)]))
          obtain ⟨fs236, hr236, hrun236, hend236, hret236⟩ := X220.leaveW hS0 (by omega) (v := some (.ref b203)) (fun h => by rw [Bd.returns] at h; cases h)
          have K237 : Keep h0 h203 [] := (Keep.refl h0 []).ext E203
          have K238 : Keep h0 h206 [] := K237.ext E206
          have gz239 : h0.size ≤ b206 := by omega
          have K240 : Keep h0 h209 [] := K238.wr W209 (Or.inr gz239)
          have K241 : Keep h0 h215 [] := K240.wr W215 (Or.inr gz239)
          have gz242 : h0.size ≤ b203 := by omega
          have K243 : Keep h0 T220.heap [] := K241.trans K220 (allS (Or.inr gz242) all0)
          subst hPP
          refine ⟨_, _, own_retA X220 hx Bd.returns rfl rfl (hb hby d_method_3_93) hr236, hrun236, hend236, _, _, rfl, ?_, ?_, hret236.1, hret236.2.1, hret236.2.2.1, hret236.2.2.2.mono (by decide) (by decide)⟩
          · show Q_text Z _ _ h0 _ T220.heap _
            exact ⟨b203, t220, ([u0, u1] : List Int32), rfl, N220, K243, fT220⟩
          · have hfin := R220.trans (CHv.at X220 hZ hEL R220.1)
            rw [← hh] at hfin
            show CHr Z consts_1 s.vm s.heap T220.vm T220.heap
            exact hfin
        ·
          refine oG.st (fun _ k => XS.icmpYes X0.here hx rfl (pc0 := 72) (pc' := 94) rfl (hb hby d_method_3_72) rfl (feq hc202).2 (by decide) (by decide) k) ?_
          show oG _ _ _ _ (s₁.setTop (mkF m 94 #[.val (.int p1), .val (.int ln), .val (.int u0), .val (.int u1), .val (.int u2)] []))
          obtain ⟨T244, h244, X244, e244, E244, A244, D244, U244, st244⟩ := newO X0 hx hZ hown (own_w hw 10 rfl) (own_w hw 11 rfl) (own_w hw 12 rfl) e0 (g := (mkF m 94 #[.val (.int p1), .val (.int ln), .val (.int u0), .val (.int u1), .val (.int u2)] [])) rfl (hb hby d_method_3_94) (by decide) (by decide)
          obtain ⟨b244, g244⟩ : ∃ z, z = h0.size := ⟨_, rfl⟩
          rw [← g244] at A244 D244 U244 st244
          refine oG.st st244 ?_
          have z244 : h0.size ≤ h244.size := E244.1
          have lt_b244 : @LT.lt Nat _ b244 h244.size := A244.lt
          have f245 : Fld Z h244 b244 "java/lang/String" "value" "[B" .null := D244 (Or.inr (own_w hw 26 rfl)) (ty := (.array .byte)) (by decide)
          have f246 : Fld Z h244 b244 "java/lang/String" "coder" "B" (.int (0 : Int32)) := D244 (Or.inr (own_w hw 27 rfl)) (ty := .byte) (by decide)
          have R244 : CHr Z consts_1 s.vm h0 s.vm h244 := R0.trans (CHr.ext E244 R0.1)
          have Sf244 : Safe Z consts_1 s.vm h244 b244 := (Safe.new (Nat.le_of_eq g244.symm)).ext E244 R0.1
          refine oG.st (fun _ k => XS.dup X244.here hx rfl (hb hby d_method_3_97) rfl rfl (XS.iconst X244.here hx rfl (hb hby d_method_3_98) k)) ?_
          show oG _ _ _ _ (T244.setTop (mkF m 99 #[.val (.int p1), .val (.int ln), .val (.int u0), .val (.int u1), .val (.int u2)] [(.int (3 : Int32)), (.ref b244), (.ref b244)]))
          obtain ⟨T247, h247, k247, X247, e247, E247, A247, st247⟩ := newP X244 hx hZ (own_w hw 13 rfl) e244 (g := (mkF m 99 #[.val (.int p1), .val (.int ln), .val (.int u0), .val (.int u1), .val (.int u2)] [(.int (3 : Int32)), (.ref b244), (.ref b244)])) rfl (hb hby d_method_3_99) rfl (by decide) (cap := 3) (by decide) (by decide) (by decide) (by decide)
          obtain ⟨b247, g247⟩ : ∃ z, z = h244.size := ⟨_, rfl⟩
          rw [← g247] at A247 st247
          refine oG.st st247 ?_
          have z247 : h244.size ≤ h247.size := E247.1
          have f248 : Arv Z h247 b247 k247 .char (3 : Int32) [(.int (0 : Int32)), (.int (0 : Int32)), (.int (0 : Int32))] (.int (0 : Int32)) := (Arv.new A247 (by decide)).pad (pad_rep [] (.int (0 : Int32)) 3)
          have lt_b247 : @LT.lt Nat _ b247 h247.size := f248.lt
          have R247 : CHr Z consts_1 s.vm h0 s.vm h247 := R244.trans (CHr.ext E247 R244.1)
          have Sf249 : Safe Z consts_1 s.vm h247 b244 := Safe.ext E247 R244.1 Sf244
          refine oG.st (fun _ k => XS.dup X247.here hx rfl (hb hby d_method_3_101) rfl rfl (XS.iconst X247.here hx rfl (hb hby d_method_3_102) (XS.iloadN X247.here hx rfl (hb hby d_method_3_103) rfl k))) ?_
          show oG _ _ _ _ (T247.setTop (mkF m 104 #[.val (.int p1), .val (.int ln), .val (.int u0), .val (.int u1), .val (.int u2)] [(.int u0), (.int (0 : Int32)), (.ref b247), (.ref b247), (.ref b244), (.ref b244)]))
          obtain ⟨c250, Ar250, q250, S250, Nn250, H250, G250⟩ := id f248
          have hin250 : ¬ ((0 : Int32) < 0 ∨ c250.slots.size ≤ ((0 : Int32)).toNatClampNeg) := inb_of S250 ⟨by decide, by decide⟩
          obtain ⟨T250, h250, X250, e250, W250, st250⟩ := stC X247 hx hZ e247 Ar250 (j := (0 : Int32)) hin250 (g := (mkF m 104 #[.val (.int p1), .val (.int ln), .val (.int u0), .val (.int u1), .val (.int u2)] [(.int u0), (.int (0 : Int32)), (.ref b247), (.ref b247), (.ref b244), (.ref b244)])) rfl rfl (hb hby d_method_3_104)
          refine oG.st st250 ?_
          have gz251 : Z.heap.size ≤ b247 := by omega
          have N250 := Fr.snoc X250 N0 gz251
          have Sf253 : Safe Z consts_1 s.vm h247 b247 := Safe.arv hZ.alike f248 (by decide)
          have z250 : h247.size ≤ h250.size := Nat.le_of_eq W250.size.symm
          have f252 := Arv.set Ar250 q250 S250 Nn250 H250 G250 (fits_nar_char _) W250 0 rfl (Nat.le_of_ble_eq_true rfl)
          rw [own_nar (own_up hu0)] at f252
          have f254 : Arv Z h250 b247 k247 .char (3 : Int32) [(.int u0), (.int (0 : Int32)), (.int (0 : Int32))] (.int (0 : Int32)) := f252
          have R250 : CHr Z consts_1 s.vm h0 s.vm h250 := R247.trans (CHr.wr W250 Sf253 R247.1)
          have Sf255 : Safe Z consts_1 s.vm h250 b244 := Safe.wr W250 Sf253 R247.1 Sf249
          refine oG.st (fun _ k => XS.dup X250.here hx rfl (hb hby d_method_3_105) rfl rfl (XS.iconst X250.here hx rfl (hb hby d_method_3_106) (XS.iloadN X250.here hx rfl (hb hby d_method_3_107) rfl k))) ?_
          show oG _ _ _ _ (T250.setTop (mkF m 108 #[.val (.int p1), .val (.int ln), .val (.int u0), .val (.int u1), .val (.int u2)] [(.int u1), (.int (1 : Int32)), (.ref b247), (.ref b247), (.ref b244), (.ref b244)]))
          obtain ⟨c256, Ar256, q256, S256, Nn256, H256, G256⟩ := id f254
          have hin256 : ¬ ((1 : Int32) < 0 ∨ c256.slots.size ≤ ((1 : Int32)).toNatClampNeg) := inb_of S256 ⟨by decide, by decide⟩
          obtain ⟨T256, h256, X256, e256, W256, st256⟩ := stC X250 hx hZ e250 Ar256 (j := (1 : Int32)) hin256 (g := (mkF m 108 #[.val (.int p1), .val (.int ln), .val (.int u0), .val (.int u1), .val (.int u2)] [(.int u1), (.int (1 : Int32)), (.ref b247), (.ref b247), (.ref b244), (.ref b244)])) rfl rfl (hb hby d_method_3_108)
          refine oG.st st256 ?_
          have N256 := Fr.snoc X256 N250 gz251
          have Sf258 : Safe Z consts_1 s.vm h250 b247 := Safe.arv hZ.alike f254 (by decide)
          have z256 : h250.size ≤ h256.size := Nat.le_of_eq W256.size.symm
          have f257 := Arv.set Ar256 q256 S256 Nn256 H256 G256 (fits_nar_char _) W256 1 rfl (Nat.le_of_ble_eq_true rfl)
          rw [own_nar (own_up hu1)] at f257
          have f259 : Arv Z h256 b247 k247 .char (3 : Int32) [(.int u0), (.int u1), (.int (0 : Int32))] (.int (0 : Int32)) := f257
          have R256 : CHr Z consts_1 s.vm h0 s.vm h256 := R250.trans (CHr.wr W256 Sf258 R250.1)
          have Sf260 : Safe Z consts_1 s.vm h256 b244 := Safe.wr W256 Sf258 R250.1 Sf255
          refine oG.st (fun _ k => XS.dup X256.here hx rfl (hb hby d_method_3_109) rfl rfl (XS.iconst X256.here hx rfl (hb hby d_method_3_110) (XS.iload X256.here hx rfl (hb hby d_method_3_111) rfl k))) ?_
          show oG _ _ _ _ (T256.setTop (mkF m 113 #[.val (.int p1), .val (.int ln), .val (.int u0), .val (.int u1), .val (.int u2)] [(.int u2), (.int (2 : Int32)), (.ref b247), (.ref b247), (.ref b244), (.ref b244)]))
          obtain ⟨c261, Ar261, q261, S261, Nn261, H261, G261⟩ := id f259
          have hin261 : ¬ ((2 : Int32) < 0 ∨ c261.slots.size ≤ ((2 : Int32)).toNatClampNeg) := inb_of S261 ⟨by decide, by decide⟩
          obtain ⟨T261, h261, X261, e261, W261, st261⟩ := stC X256 hx hZ e256 Ar261 (j := (2 : Int32)) hin261 (g := (mkF m 113 #[.val (.int p1), .val (.int ln), .val (.int u0), .val (.int u1), .val (.int u2)] [(.int u2), (.int (2 : Int32)), (.ref b247), (.ref b247), (.ref b244), (.ref b244)])) rfl rfl (hb hby d_method_3_113)
          refine oG.st st261 ?_
          have N261 := Fr.snoc X261 N256 gz251
          have Sf263 : Safe Z consts_1 s.vm h256 b247 := Safe.arv hZ.alike f259 (by decide)
          have z261 : h256.size ≤ h261.size := Nat.le_of_eq W261.size.symm
          have f262 := Arv.set Ar261 q261 S261 Nn261 H261 G261 (fits_nar_char _) W261 2 rfl (Nat.le_of_ble_eq_true rfl)
          rw [own_nar (own_up hu2)] at f262
          have f264 : Arv Z h261 b247 k247 .char (3 : Int32) [(.int u0), (.int u1), (.int u2)] (.int (0 : Int32)) := f262
          have R261 : CHr Z consts_1 s.vm h0 s.vm h261 := R256.trans (CHr.wr W261 Sf263 R256.1)
          have Sf265 : Safe Z consts_1 s.vm h261 b244 := Safe.wr W261 Sf263 R256.1 Sf260
          show oG _ _ _ _ (T261.setTop (mkF m 114 #[.val (.int p1), .val (.int ln), .val (.int u0), .val (.int u1), .val (.int u2)] [(.ref b247), (.ref b244), (.ref b244)]))
          have f267 : Exa Z h247 b244 "java/lang/String" := A244.ext E247
          have f268 : Exa Z h250 b244 "java/lang/String" := f267.wr W250
          have f269 : Exa Z h256 b244 "java/lang/String" := f268.wr W256
          have f270 : Exa Z h261 b244 "java/lang/String" := f269.wr W261
          have f271 : Fld Z h247 b244 "java/lang/String" "value" "[B" .null := f245.ext E247
          have no272 : @Ne Nat b244 b247 := by omega
          have f273 : Fld Z h250 b244 "java/lang/String" "value" "[B" .null := f271.other W250 (Or.inl no272)
          have f274 : Fld Z h256 b244 "java/lang/String" "value" "[B" .null := f273.other W256 (Or.inl no272)
          have f275 : Fld Z h261 b244 "java/lang/String" "value" "[B" .null := f274.other W261 (Or.inl no272)
          have f276 : Fld Z h247 b244 "java/lang/String" "coder" "B" (.int (0 : Int32)) := f246.ext E247
          have f277 : Fld Z h250 b244 "java/lang/String" "coder" "B" (.int (0 : Int32)) := f276.other W250 (Or.inl no272)
          have f278 : Fld Z h256 b244 "java/lang/String" "coder" "B" (.int (0 : Int32)) := f277.other W256 (Or.inl no272)
          have f279 : Fld Z h261 b244 "java/lang/String" "coder" "B" (.int (0 : Int32)) := f278.other W261 (Or.inl no272)
          have f280 : Old Z Z.heap.size h244 := OL.ext E244
          have f281 : Old Z Z.heap.size h247 := f280.ext E247
          have f282 : Old Z Z.heap.size h250 := f281.wr W250 gz251
          have f283 : Old Z Z.heap.size h256 := f282.wr W256 gz251
          have f284 : Old Z Z.heap.size h261 := f283.wr W261 gz251
          have hp266 : ∀ c ∈ ([u0, u1, u2] : List Int32), ¬ c < 0 ∧ ¬ (255 : Int32) < c := (own_aS hu0 (own_aS hu1 (own_aS hu2 own_a0)))
          obtain ⟨_, _, ⟨T266, L266, k266, n266⟩, -, X266, ⟨Lc266, hQ266, l266, y266, z266⟩, st266⟩ := X261.specialBack hx (y := mN17) rfl hown (own_v hZ hw 14 rfl) (own_v hZ hw 15 rfl) (own_v hZ hw 16 rfl) (by decide) (StrChars.Road.backV (W := 1) hZ (own_hws hw) (kI := 4) (own_w hw 11 rfl) (cs := ([u0, u1, u2] : List Int32)) (bs := (([u0, u1, u2] : List Int32)).map (fun c => c.toInt8.toInt32)) (n := 3) (n0 := Z.heap.size) (by omega) (by omega) f270 f275 f279 f264 (st_C.ext f284.2) hzc rfl rfl (by decide) (by decide) hp266 rfl (by decide) (by decide)) (g := (mkF m 114 #[.val (.int p1), .val (.int ln), .val (.int u0), .val (.int u1), .val (.int u2)] [(.ref b247), (.ref b244), (.ref b244)])) rfl (by rw [hml]; rfl) (Steps.refl _) (a := b244) (argsL := [(.ref b247)]) (rest := [(.ref b244)]) (lenOf pd_50 rfl) rfl (by show 2 * 0 + _ ≤ _; exact Nat.le_of_eq rfl) (hb hby d_method_3_114) (fun _ _ => ⟨rfl, e261, (by decide : 2 + 1 ≤ _), (by decide : 7 + 3 ≤ _)⟩)
          dsimp only [Pt.U, Pt.locs, Pt.cells, Pt.slots] at X266 l266 y266 z266 st266 hQ266
          subst l266 y266 z266
          obtain ⟨rfl, N266q, K266, Ex266, Cd266, t266, kb266, u266, v266, w266, Vl266, Ar266⟩ := hQ266
          have N266 := Fr.app N261 N266q
          have z266 : h261.size ≤ T266.heap.size := K266.1
          have R266 : CHr Z consts_1 s.vm h0 s.vm T266.heap := R261.trans (CHr.keep K266 (sfS Sf265 sf0) R261.1)
          have Sf285 : Safe Z consts_1 s.vm T266.heap b244 := Safe.keep K266 (sfS Sf265 sf0) R261.1 Sf265
          have fT266 : own_Str Z T266.heap b244 t266 ([u0, u1, u2] : List Int32) := ⟨kb266, 0, (3 : Int32), _, Ex266, Vl266, Cd266, Ar266, StrChars.Road.codOf rfl (fun c q => (hp266 c q).2), own_upL hp266, (Nat.le_of_ble_eq_true rfl)⟩
          have lt266 : @LT.lt Nat _ t266 T266.heap.size := fT266.ltv
          refine oG.tr st266 ?_
          show oG _ _ _ _ (T266.setTop (mkF m 117 #[.val (.int p1), .val (.int ln), .val (.int u0), .val (.int u1), .val (.int u2)] [(.ref b244)]))
          obtain ⟨fs286, hr286, hrun286, hend286, hret286⟩ := X266.leaveW hS0 (by omega) (v := some (.ref b244)) (fun h => by rw [Bd.returns] at h; cases h)
          have K287 : Keep h0 h244 [] := (Keep.refl h0 []).ext E244
          have K288 : Keep h0 h247 [] := K287.ext E247
          have gz289 : h0.size ≤ b247 := by omega
          have K290 : Keep h0 h250 [] := K288.wr W250 (Or.inr gz289)
          have K291 : Keep h0 h256 [] := K290.wr W256 (Or.inr gz289)
          have K292 : Keep h0 h261 [] := K291.wr W261 (Or.inr gz289)
          have gz293 : h0.size ≤ b244 := by omega
          have K294 : Keep h0 T266.heap [] := K292.trans K266 (allS (Or.inr gz293) all0)
          subst hPP
          refine ⟨_, _, own_retA X266 hx Bd.returns rfl rfl (hb hby d_method_3_117) hr286, hrun286, hend286, _, _, rfl, ?_, ?_, hret286.1, hret286.2.1, hret286.2.2.1, hret286.2.2.2.mono (by decide) (by decide)⟩
          · show Q_text Z _ _ h0 _ T266.heap _
            exact ⟨b244, t266, ([u0, u1, u2] : List Int32), rfl, N266, K294, fT266⟩
          · have hfin := R266.trans (CHv.at X266 hZ hEL R266.1)
            rw [← hh] at hfin
            show CHr Z consts_1 s.vm s.heap T266.vm T266.heap
            exact hfin
  refine oG.st (fun _ k => XS.iloadN X0.here hx rfl (hb hby d_method_3_0) rfl (XS.bipush X0.here hx rfl (hb hby d_method_3_1) (XS.iushr X0.here hx rfl (hb hby d_method_3_3) rfl (XS.iconst X0.here hx rfl (hb hby d_method_3_4) (XS.iand X0.here hx rfl (hb hby d_method_3_5) rfl (XS.istoreN X0.here hx rfl (hb hby d_method_3_6) rfl (l' := #[.val (.int p1), .val (.int (((p1.toUInt32 >>> ((24 : Int32) &&& 31).toUInt32).toInt32) &&& (3 : Int32))), .unset, .unset, .unset]) rfl k)))))) ?_
  show oG _ _ _ _ (s₁.setTop (mkF m 7 #[.val (.int p1), .val (.int (((p1.toUInt32 >>> ((24 : Int32) &&& 31).toUInt32).toInt32) &&& (3 : Int32))), .unset, .unset, .unset] []))
  refine oG.st (fun _ k => XS.iloadN X0.here hx rfl (hb hby d_method_3_7) rfl (XS.sipush X0.here hx rfl (hb hby d_method_3_8) (XS.iand X0.here hx rfl (hb hby d_method_3_11) rfl (XS.i2c X0.here hx rfl (hb hby d_method_3_12) rfl (XS.istoreN X0.here hx rfl (hb hby d_method_3_13) rfl (l' := #[.val (.int p1), .val (.int (((p1.toUInt32 >>> ((24 : Int32) &&& 31).toUInt32).toInt32) &&& (3 : Int32))), .val (.int ((p1 &&& (255 : Int32)).toUInt32.toUInt16.toUInt32.toInt32)), .unset, .unset]) rfl (XS.iloadN X0.here hx rfl (hb hby d_method_3_14) rfl k)))))) ?_
  show oG _ _ _ _ (s₁.setTop (mkF m 15 #[.val (.int p1), .val (.int (((p1.toUInt32 >>> ((24 : Int32) &&& 31).toUInt32).toInt32) &&& (3 : Int32))), .val (.int ((p1 &&& (255 : Int32)).toUInt32.toUInt16.toUInt32.toInt32)), .unset, .unset] [(.int p1)]))
  refine oG.st (fun _ k => XS.bipush X0.here hx rfl (hb hby d_method_3_15) (XS.iushr X0.here hx rfl (hb hby d_method_3_17) rfl (XS.sipush X0.here hx rfl (hb hby d_method_3_18) (XS.iand X0.here hx rfl (hb hby d_method_3_21) rfl (XS.i2c X0.here hx rfl (hb hby d_method_3_22) rfl (XS.istoreN X0.here hx rfl (hb hby d_method_3_23) rfl (l' := #[.val (.int p1), .val (.int (((p1.toUInt32 >>> ((24 : Int32) &&& 31).toUInt32).toInt32) &&& (3 : Int32))), .val (.int ((p1 &&& (255 : Int32)).toUInt32.toUInt16.toUInt32.toInt32)), .val (.int ((((p1.toUInt32 >>> ((8 : Int32) &&& 31).toUInt32).toInt32) &&& (255 : Int32)).toUInt32.toUInt16.toUInt32.toInt32)), .unset]) rfl k)))))) ?_
  show oG _ _ _ _ (s₁.setTop (mkF m 24 #[.val (.int p1), .val (.int (((p1.toUInt32 >>> ((24 : Int32) &&& 31).toUInt32).toInt32) &&& (3 : Int32))), .val (.int ((p1 &&& (255 : Int32)).toUInt32.toUInt16.toUInt32.toInt32)), .val (.int ((((p1.toUInt32 >>> ((8 : Int32) &&& 31).toUInt32).toInt32) &&& (255 : Int32)).toUInt32.toUInt16.toUInt32.toInt32)), .unset] []))
  refine oG.st (fun _ k => XS.iloadN X0.here hx rfl (hb hby d_method_3_24) rfl (XS.bipush X0.here hx rfl (hb hby d_method_3_25) (XS.iushr X0.here hx rfl (hb hby d_method_3_27) rfl (XS.sipush X0.here hx rfl (hb hby d_method_3_28) (XS.iand X0.here hx rfl (hb hby d_method_3_31) rfl (XS.i2c X0.here hx rfl (hb hby d_method_3_32) rfl k)))))) ?_
  show oG _ _ _ _ (s₁.setTop (mkF m 33 #[.val (.int p1), .val (.int (((p1.toUInt32 >>> ((24 : Int32) &&& 31).toUInt32).toInt32) &&& (3 : Int32))), .val (.int ((p1 &&& (255 : Int32)).toUInt32.toUInt16.toUInt32.toInt32)), .val (.int ((((p1.toUInt32 >>> ((8 : Int32) &&& 31).toUInt32).toInt32) &&& (255 : Int32)).toUInt32.toUInt16.toUInt32.toInt32)), .unset] [(.int ((((p1.toUInt32 >>> ((16 : Int32) &&& 31).toUInt32).toInt32) &&& (255 : Int32)).toUInt32.toUInt16.toUInt32.toInt32))]))
  refine oG.st (fun _ k => XS.istore X0.here hx rfl (hb hby d_method_3_33) rfl (l' := #[.val (.int p1), .val (.int (((p1.toUInt32 >>> ((24 : Int32) &&& 31).toUInt32).toInt32) &&& (3 : Int32))), .val (.int ((p1 &&& (255 : Int32)).toUInt32.toUInt16.toUInt32.toInt32)), .val (.int ((((p1.toUInt32 >>> ((8 : Int32) &&& 31).toUInt32).toInt32) &&& (255 : Int32)).toUInt32.toUInt16.toUInt32.toInt32)), .val (.int ((((p1.toUInt32 >>> ((16 : Int32) &&& 31).toUInt32).toInt32) &&& (255 : Int32)).toUInt32.toUInt16.toUInt32.toInt32))]) rfl k) ?_
  show oG _ _ _ _ (s₁.setTop (mkF m 35 #[.val (.int p1), .val (.int (((p1.toUInt32 >>> ((24 : Int32) &&& 31).toUInt32).toInt32) &&& (3 : Int32))), .val (.int ((p1 &&& (255 : Int32)).toUInt32.toUInt16.toUInt32.toInt32)), .val (.int ((((p1.toUInt32 >>> ((8 : Int32) &&& 31).toUInt32).toInt32) &&& (255 : Int32)).toUInt32.toUInt16.toUInt32.toInt32)), .val (.int ((((p1.toUInt32 >>> ((16 : Int32) &&& 31).toUInt32).toInt32) &&& (255 : Int32)).toUInt32.toUInt16.toUInt32.toInt32))] []))
  exact J150 (((p1.toUInt32 >>> ((24 : Int32) &&& 31).toUInt32).toInt32) &&& (3 : Int32)) ((p1 &&& (255 : Int32)).toUInt32.toUInt16.toUInt32.toInt32) ((((p1.toUInt32 >>> ((8 : Int32) &&& 31).toUInt32).toInt32) &&& (255 : Int32)).toUInt32.toUInt16.toUInt32.toInt32) ((((p1.toUInt32 >>> ((16 : Int32) &&& 31).toUInt32).toInt32) &&& (255 : Int32)).toUInt32.toUInt16.toUInt32.toInt32) ⟨own_n4 _, own_ch255 _, own_ch255 _, own_ch255 _⟩
theorem pn_126 : plainName "java/lang/Throwable" = true := by first | (simp [plainName, overriddenIn]; done) | decide +kernel
theorem dj78_2_0 : decode cJ8 0 = .ok (.aload_n 0, 1) := by decide +kernel
theorem dj78_2_1 : decode cJ8 1 = .ok (.invokespecial 1, 3) := by decide +kernel
theorem dj78_2_4 : decode cJ8 4 = .ok (.aload_n 0, 1) := by decide +kernel
theorem dj78_2_5 : decode cJ8 5 = .ok (.aload_n 0, 1) := by decide +kernel
theorem dj78_2_6 : decode cJ8 6 = .ok (.putfield 7, 3) := by decide +kernel
theorem dj78_2_9 : decode cJ8 9 = .ok (.aload_n 0, 1) := by decide +kernel
theorem dj78_2_10 : decode cJ8 10 = .ok (.getstatic 13, 3) := by decide +kernel
theorem dj78_2_13 : decode cJ8 13 = .ok (.putfield 17, 3) := by decide +kernel
theorem dj78_2_16 : decode cJ8 16 = .ok (.aload_n 0, 1) := by decide +kernel
theorem dj78_2_17 : decode cJ8 17 = .ok (.getstatic 20, 3) := by decide +kernel
theorem dj78_2_20 : decode cJ8 20 = .ok (.putfield 24, 3) := by decide +kernel
theorem dj78_2_23 : decode cJ8 23 = .ok (.aload_n 0, 1) := by decide +kernel
theorem dj78_2_24 : decode cJ8 24 = .ok (.invokevirtual 27, 3) := by decide +kernel
theorem dj78_2_27 : decode cJ8 27 = .ok (.pop, 1) := by decide +kernel
theorem dj78_2_28 : decode cJ8 28 = .ok (.aload_n 0, 1) := by decide +kernel
theorem dj78_2_29 : decode cJ8 29 = .ok (.aload_n 1, 1) := by decide +kernel
theorem dj78_2_30 : decode cJ8 30 = .ok (.putfield 31, 3) := by decide +kernel
theorem dj78_2_33 : decode cJ8 33 = .ok (.return_, 1) := by decide +kernel
def Q_thinit (Z : State) (a1 : Nat) (a4 : Nat) (us : Nat) (sn : Nat) (h0 : Heap) (v : Option Value) (h : Heap) (L : List Loc) : Prop := v = none ∧ Fr Z.heap.size L ∧ Keep h0 h [a1] ∧ Exa Z h a1 "com/example/hinagata/hinagata/RefusedException" ∧ Fld Z h a1 "java/lang/Throwable" "detailMessage" "Ljava/lang/String;" (.ref a4) ∧ Fld Z h a1 "com/example/hinagata/hinagata/RefusedException" "errorClass" "Lcom/example/hinagata/hinagata/ErrorClass;" .null ∧ Fld Z h a1 "com/example/hinagata/hinagata/RefusedException" "index" "I" (.int (0 : Int32))
set_option maxRecDepth 65536 in
set_option maxHeartbeats 40000000 in
theorem rm_thinit (l : Launch) (Z : State) (a0 : Array Value) (hw : ∀ d ∈ tables_1, d.before a0 Z = true) (ws : List Jvm.Cond) (a1 : Nat) (a4 : Nat) (us : Nat) (sn : Nat) (h0 : Heap) (OL : Old Z Z.heap.size h0) (p0_ : Exa Z h0 a1 "com/example/hinagata/hinagata/RefusedException") (p1_ : Fld Z h0 a1 "java/lang/Throwable" "backtrace" "Ljava/lang/Object;" .null) (p2_ : Fld Z h0 a1 "java/lang/Throwable" "detailMessage" "Ljava/lang/String;" .null) (p3_ : Fld Z h0 a1 "com/example/hinagata/hinagata/RefusedException" "errorClass" "Lcom/example/hinagata/hinagata/ErrorClass;" .null) (p4_ : Fld Z h0 a1 "com/example/hinagata/hinagata/RefusedException" "index" "I" (.int (0 : Int32))) (p5_ : Fld Z h0 a1 "java/lang/Throwable" "cause" "Ljava/lang/Throwable;" .null) (p6_ : Fld Z h0 a1 "java/lang/Throwable" "stackTrace" "[Ljava/lang/StackTraceElement;" .null) (p7_ : Fld Z h0 a1 "java/lang/Throwable" "suppressedExceptions" "Ljava/util/List;" .null) (st_UNASSIGNED_STACK : Sta Z Z.heap "java/lang/Throwable" "UNASSIGNED_STACK" "[Ljava/lang/StackTraceElement;" (.ref us)) (st_SUPPRESSED_SENTINEL : Sta Z Z.heap "java/lang/Throwable" "SUPPRESSED_SENTINEL" "Ljava/util/List;" (.ref sn)) (hU : Unt h0 a1) (hTh : ThS Z h0) (hst : l.stackTraces = true) (hwA : ∀ d ∈ own_thA "com/example/hinagata/hinagata/RefusedException", d.before a0 Z = true) (hn0 : Z.heap.size ≤ a1) :
    MetFree l mN20 (head1 (Jvm.Cond.code mN20 jdk_78_method_2_code 2 none :: ws) rM6) (fun a U => a = #[(.ref a1), (.ref a4)] ∧ Z.Warmed39 U.vm ∧ U.heap = h0) (fun _ _ bl s _ => s.vm.MethodsKnown ∧ s.vm.FramesKnown bl) (fun _ U o U' => ∃ v L, o = .returned v ∧ Q_thinit Z a1 a4 us sn h0 v U'.heap L ∧ FrameEnd U o U' L rM6.cells rM6.slots) := by
  refine MetFree.of_bodySF (plainFor_of_name pn_126) hisR ?_
  intro p e s m args below meth c s₁ Bd hml0 hP hK
  obtain ⟨rfl, hZ, hh⟩ := hP
  have hx := Bd.exec
  have hby := Bd.bytes
  have hml : c.maxLocals = 2 := hml0
  have hown : s.vm.findClass "java/lang/Throwable" = some m.cls := findClass_of_methodNamed Bd.named
  have hnm := (name_of_methodNamed Bd.named Bd.method).1
  have X0 : Stand p l e rM6 s m #[(.ref a1), (.ref a4)] below meth c s₁ [] 0 0 := Stand.of_body Bd
  obtain ⟨hTK, hBel⟩ := hK
  have e0 : s₁.heap = h0 := by rw [← hh, Bd.state]; rfl
  have N0 := Fr.nil Z.heap.size
  have Z0 : Z.heap.size ≤ h0.size := OL.2.1
  have lt_0 : @LT.lt Nat _ a1 h0.size := p0_.lt
  have lt_1 : @LT.lt Nat _ a1 h0.size := p1_.lt
  have lt_2 : @LT.lt Nat _ a1 h0.size := p2_.lt
  have lt_3 : @LT.lt Nat _ a1 h0.size := p3_.lt
  have lt_4 : @LT.lt Nat _ a1 h0.size := p4_.lt
  have lt_5 : @LT.lt Nat _ a1 h0.size := p5_.lt
  have lt_6 : @LT.lt Nat _ a1 h0.size := p6_.lt
  have lt_7 : @LT.lt Nat _ a1 h0.size := p7_.lt
  show oG p.tables e below (fun o tE => ∃ v L, o = .returned v ∧ Q_thinit Z a1 a4 us sn h0 v tE.heap L ∧ FrameEnd s o tE L rM6.cells rM6.slots) (s₁.setTop (entryFrame m #[(.ref a1), (.ref a4)] 2))
  refine own_hd (fun PP hPP => ?_)
  refine oG.st (fun t k => castTop (ef_15 m a1 a4) k) ?_
  refine oG.st (fun _ k => XS.aloadN X0.here hx rfl (hb hby dj78_2_0) rfl rfl k) ?_
  show oG _ _ _ _ (s₁.setTop (mkF m 1 #[.val (.ref a1), .val (.ref a4)] [(.ref a1)]))
  obtain ⟨T295, X295, e295, st295⟩ := initO X0 hx hZ hown (own_w hw 61 rfl) (own_w hw 22 rfl) (own_w hw 23 rfl) e0 (g := (mkF m 1 #[.val (.ref a1), .val (.ref a4)] [(.ref a1)])) rfl (by rw [hml]; rfl) rfl (hb hby dj78_2_1) (by decide) (W := 0) (by show 2 * 0 + _ ≤ _; exact Nat.le_of_eq rfl) (by decide)
  refine oG.st st295 ?_
  refine oG.st (fun _ k => XS.aloadN X295.here hx rfl (hb hby dj78_2_4) rfl rfl (XS.aloadN X295.here hx rfl (hb hby dj78_2_5) rfl rfl k)) ?_
  show oG _ _ _ _ (T295.setTop (mkF m 6 #[.val (.ref a1), .val (.ref a4)] [(.ref a1), (.ref a1)]))
  obtain ⟨T296, h296, X296, e296, W296, st296⟩ := putF X295 hx hZ hown (host := "") (Or.inl (own_w hw 62 rfl)) Via.refl e295 p5_ p0_ (Or.inl (own_w hw 63 rfl)) (own_w hw 33 rfl) (ty := (.object "java/lang/Throwable")) (by decide) rfl rfl (g := (mkF m 6 #[.val (.ref a1), .val (.ref a4)] [(.ref a1), (.ref a1)])) rfl rfl (hb hby dj78_2_6)
  refine oG.st st296 ?_
  have gz297 : Z.heap.size ≤ a1 := by omega
  have N296 := Fr.snoc X296 N0 gz297
  have z296 : h0.size ≤ h296.size := Nat.le_of_eq W296.size.symm
  have f298 : Fld Z h296 a1 "java/lang/Throwable" "cause" "Ljava/lang/Throwable;" (.ref a1) := p5_.same W296
  refine oG.st (fun _ k => XS.aloadN X296.here hx rfl (hb hby dj78_2_9) rfl rfl k) ?_
  show oG _ _ _ _ (T296.setTop (mkF m 10 #[.val (.ref a1), .val (.ref a4)] [(.ref a1)]))
  have f299 : Old Z Z.heap.size h296 := OL.wr W296 gz297
  obtain ⟨T300, X300, e300, st300⟩ := getS2 X296 hx hZ hown (host := "") (Or.inl (own_w hw 64 rfl)) Via.refl e296 (st_UNASSIGNED_STACK.ext f299.2) (g := (mkF m 10 #[.val (.ref a1), .val (.ref a4)] [(.ref a1)])) rfl (hb hby dj78_2_10)
  refine oG.st st300 ?_
  show oG _ _ _ _ (T300.setTop (mkF m 13 #[.val (.ref a1), .val (.ref a4)] [(.ref us), (.ref a1)]))
  have f301 : Fld Z h296 a1 "java/lang/Throwable" "stackTrace" "[Ljava/lang/StackTraceElement;" .null := p6_.other W296 (Or.inr (slot_ne (Or.inl (own_w hw 66 rfl)) (Or.inl (own_w hw 63 rfl)) (by decide) (t := (.array (.object "java/lang/StackTraceElement"))) (t' := (.object "java/lang/Throwable")) (by decide) (by decide)))
  have f302 : Exa Z h296 a1 "com/example/hinagata/hinagata/RefusedException" := p0_.wr W296
  obtain ⟨T303, h303, X303, e303, W303, st303⟩ := putF X300 hx hZ hown (host := "") (Or.inl (own_w hw 65 rfl)) Via.refl e300 f301 f302 (Or.inl (own_w hw 66 rfl)) (own_w hw 33 rfl) (ty := (.array (.object "java/lang/StackTraceElement"))) (by decide) rfl rfl (g := (mkF m 13 #[.val (.ref a1), .val (.ref a4)] [(.ref us), (.ref a1)])) rfl rfl (hb hby dj78_2_13)
  refine oG.st st303 ?_
  have N303 := Fr.snoc X303 N296 gz297
  have z303 : h296.size ≤ h303.size := Nat.le_of_eq W303.size.symm
  have f304 : Fld Z h303 a1 "java/lang/Throwable" "stackTrace" "[Ljava/lang/StackTraceElement;" (.ref us) := f301.same W303
  refine oG.st (fun _ k => XS.aloadN X303.here hx rfl (hb hby dj78_2_16) rfl rfl k) ?_
  show oG _ _ _ _ (T303.setTop (mkF m 17 #[.val (.ref a1), .val (.ref a4)] [(.ref a1)]))
  have f305 : Old Z Z.heap.size h303 := f299.wr W303 gz297
  obtain ⟨T306, X306, e306, st306⟩ := getS2 X303 hx hZ hown (host := "") (Or.inl (own_w hw 67 rfl)) Via.refl e303 (st_SUPPRESSED_SENTINEL.ext f305.2) (g := (mkF m 17 #[.val (.ref a1), .val (.ref a4)] [(.ref a1)])) rfl (hb hby dj78_2_17)
  refine oG.st st306 ?_
  show oG _ _ _ _ (T306.setTop (mkF m 20 #[.val (.ref a1), .val (.ref a4)] [(.ref sn), (.ref a1)]))
  have f307 : Fld Z h296 a1 "java/lang/Throwable" "suppressedExceptions" "Ljava/util/List;" .null := p7_.other W296 (Or.inr (slot_ne (Or.inl (own_w hw 69 rfl)) (Or.inl (own_w hw 63 rfl)) (by decide) (t := (.object "java/util/List")) (t' := (.object "java/lang/Throwable")) (by decide) (by decide)))
  have f308 : Fld Z h303 a1 "java/lang/Throwable" "suppressedExceptions" "Ljava/util/List;" .null := f307.other W303 (Or.inr (slot_ne (Or.inl (own_w hw 69 rfl)) (Or.inl (own_w hw 66 rfl)) (by decide) (t := (.object "java/util/List")) (t' := (.array (.object "java/lang/StackTraceElement"))) (by decide) (by decide)))
  have f309 : Exa Z h303 a1 "com/example/hinagata/hinagata/RefusedException" := f302.wr W303
  obtain ⟨T310, h310, X310, e310, W310, st310⟩ := putF X306 hx hZ hown (host := "") (Or.inl (own_w hw 68 rfl)) Via.refl e306 f308 f309 (Or.inl (own_w hw 69 rfl)) (own_w hw 33 rfl) (ty := (.object "java/util/List")) (by decide) rfl rfl (g := (mkF m 20 #[.val (.ref a1), .val (.ref a4)] [(.ref sn), (.ref a1)])) rfl rfl (hb hby dj78_2_20)
  refine oG.st st310 ?_
  have N310 := Fr.snoc X310 N303 gz297
  have z310 : h303.size ≤ h310.size := Nat.le_of_eq W310.size.symm
  have f311 : Fld Z h310 a1 "java/lang/Throwable" "suppressedExceptions" "Ljava/util/List;" (.ref sn) := f308.same W310
  refine oG.st (fun _ k => XS.aloadN X310.here hx rfl (hb hby dj78_2_23) rfl rfl k) ?_
  show oG _ _ _ _ (T310.setTop (mkF m 24 #[.val (.ref a1), .val (.ref a4)] [(.ref a1)]))
  have f313 : Exa Z h310 a1 "com/example/hinagata/hinagata/RefusedException" := f309.wr W310
  have f314 : Fld Z h296 a1 "java/lang/Throwable" "backtrace" "Ljava/lang/Object;" .null := p1_.other W296 (Or.inr (slot_ne (Or.inl (own_w hw 94 rfl)) (Or.inl (own_w hw 63 rfl)) (by decide) (t := (.object "java/lang/Object")) (t' := (.object "java/lang/Throwable")) (by decide) (by decide)))
  have f315 : Fld Z h303 a1 "java/lang/Throwable" "backtrace" "Ljava/lang/Object;" .null := f314.other W303 (Or.inr (slot_ne (Or.inl (own_w hw 94 rfl)) (Or.inl (own_w hw 66 rfl)) (by decide) (t := (.object "java/lang/Object")) (t' := (.array (.object "java/lang/StackTraceElement"))) (by decide) (by decide)))
  have f316 : Fld Z h310 a1 "java/lang/Throwable" "backtrace" "Ljava/lang/Object;" .null := f315.other W310 (Or.inr (slot_ne (Or.inl (own_w hw 94 rfl)) (Or.inl (own_w hw 69 rfl)) (by decide) (t := (.object "java/lang/Object")) (t' := (.object "java/util/List")) (by decide) (by decide)))
  have f317 : Fld Z h310 a1 "java/lang/Throwable" "stackTrace" "[Ljava/lang/StackTraceElement;" (.ref us) := f304.other W310 (Or.inr (slot_ne (Or.inl (own_w hw 66 rfl)) (Or.inl (own_w hw 69 rfl)) (by decide) (t := (.array (.object "java/lang/StackTraceElement"))) (t' := (.object "java/util/List")) (by decide) (by decide)))
  have f318 : Old Z Z.heap.size h310 := f305.wr W310 gz297
  have f319 : Fld Z h296 a1 "java/lang/Throwable" "detailMessage" "Ljava/lang/String;" .null := p2_.other W296 (Or.inr (slot_ne (Or.inl (own_w hw 93 rfl)) (Or.inl (own_w hw 63 rfl)) (by decide) (t := (.object "java/lang/String")) (t' := (.object "java/lang/Throwable")) (by decide) (by decide)))
  have f320 : Fld Z h303 a1 "java/lang/Throwable" "detailMessage" "Ljava/lang/String;" .null := f319.other W303 (Or.inr (slot_ne (Or.inl (own_w hw 93 rfl)) (Or.inl (own_w hw 66 rfl)) (by decide) (t := (.object "java/lang/String")) (t' := (.array (.object "java/lang/StackTraceElement"))) (by decide) (by decide)))
  have f321 : Fld Z h310 a1 "java/lang/Throwable" "detailMessage" "Ljava/lang/String;" .null := f320.other W310 (Or.inr (slot_ne (Or.inl (own_w hw 93 rfl)) (Or.inl (own_w hw 69 rfl)) (by decide) (t := (.object "java/lang/String")) (t' := (.object "java/util/List")) (by decide) (by decide)))
  have f322 : Fld Z h296 a1 "com/example/hinagata/hinagata/RefusedException" "errorClass" "Lcom/example/hinagata/hinagata/ErrorClass;" .null := p3_.other W296 (Or.inr (slot_ne (Or.inr (own_w hw 99 rfl)) (Or.inl (own_w hw 63 rfl)) (by decide) (t := (.object "com/example/hinagata/hinagata/ErrorClass")) (t' := (.object "java/lang/Throwable")) (by decide) (by decide)))
  have f323 : Fld Z h303 a1 "com/example/hinagata/hinagata/RefusedException" "errorClass" "Lcom/example/hinagata/hinagata/ErrorClass;" .null := f322.other W303 (Or.inr (slot_ne (Or.inr (own_w hw 99 rfl)) (Or.inl (own_w hw 66 rfl)) (by decide) (t := (.object "com/example/hinagata/hinagata/ErrorClass")) (t' := (.array (.object "java/lang/StackTraceElement"))) (by decide) (by decide)))
  have f324 : Fld Z h310 a1 "com/example/hinagata/hinagata/RefusedException" "errorClass" "Lcom/example/hinagata/hinagata/ErrorClass;" .null := f323.other W310 (Or.inr (slot_ne (Or.inr (own_w hw 99 rfl)) (Or.inl (own_w hw 69 rfl)) (by decide) (t := (.object "com/example/hinagata/hinagata/ErrorClass")) (t' := (.object "java/util/List")) (by decide) (by decide)))
  have f325 : Fld Z h296 a1 "com/example/hinagata/hinagata/RefusedException" "index" "I" (.int (0 : Int32)) := p4_.other W296 (Or.inr (slot_ne (Or.inr (own_w hw 101 rfl)) (Or.inl (own_w hw 63 rfl)) (by decide) (t := .int) (t' := (.object "java/lang/Throwable")) (by decide) (by decide)))
  have f326 : Fld Z h303 a1 "com/example/hinagata/hinagata/RefusedException" "index" "I" (.int (0 : Int32)) := f325.other W303 (Or.inr (slot_ne (Or.inr (own_w hw 101 rfl)) (Or.inl (own_w hw 66 rfl)) (by decide) (t := .int) (t' := (.array (.object "java/lang/StackTraceElement"))) (by decide) (by decide)))
  have f327 : Fld Z h310 a1 "com/example/hinagata/hinagata/RefusedException" "index" "I" (.int (0 : Int32)) := f326.other W310 (Or.inr (slot_ne (Or.inr (own_w hw 101 rfl)) (Or.inl (own_w hw 69 rfl)) (by decide) (t := .int) (t' := (.object "java/util/List")) (by decide) (by decide)))
  obtain ⟨T312, h312, X312, e312, K312, Fk312, st312⟩ := own_fill X310 hx hst hZ hwA (own_w hw 33 rfl) hown (by rw [hh]; exact hTh) hTK hBel e310 (fun y hy => by simp only [List.mem_append, List.mem_cons, List.not_mem_nil, or_false, false_or, List.nil_append, or_assoc] at hy; rcases hy with rfl | rfl | rfl <;> rfl) f313 (Unt.wr W310 (Unt.wr W303 (Unt.wr W296 hU))) f316 f317 (st_UNASSIGNED_STACK.ext f318.2) rfl (g := (mkF m 24 #[.val (.ref a1), .val (.ref a4)] [(.ref a1)])) rfl (by rw [hml]; rfl) rfl rfl (hb hby dj78_2_24) (by decide) (by decide) (by decide) (by decide)
  have N312 := Fr.app N310 (own_3Lf (Z := Z) (a := a1) hn0)
  refine oG.st st312 ?_
  have z312 : h310.size ≤ h312.size := K312.1
  have f328 : Fld Z h312 a1 "java/lang/Throwable" "detailMessage" "Ljava/lang/String;" .null := Fk312 (Or.inl (own_w hw 93 rfl)) (by decide) (by decide) (by decide) (t := (.object "java/lang/String")) (by decide +kernel) f321
  have f329 : Fld Z h312 a1 "com/example/hinagata/hinagata/RefusedException" "errorClass" "Lcom/example/hinagata/hinagata/ErrorClass;" .null := Fk312 (Or.inr (own_w hw 99 rfl)) (by decide) (by decide) (by decide) (t := (.object "com/example/hinagata/hinagata/ErrorClass")) (by decide +kernel) f324
  have f330 : Fld Z h312 a1 "com/example/hinagata/hinagata/RefusedException" "index" "I" (.int (0 : Int32)) := Fk312 (Or.inr (own_w hw 101 rfl)) (by decide) (by decide) (by decide) (t := .int) (by decide +kernel) f327
  refine oG.st (fun _ k => XS.pop X312.here hx rfl (hb hby dj78_2_27) rfl rfl (XS.aloadN X312.here hx rfl (hb hby dj78_2_28) rfl rfl (XS.aloadN X312.here hx rfl (hb hby dj78_2_29) rfl rfl k))) ?_
  show oG _ _ _ _ (T312.setTop (mkF m 30 #[.val (.ref a1), .val (.ref a4)] [(.ref a4), (.ref a1)]))
  have f331 : Exa Z h312 a1 "com/example/hinagata/hinagata/RefusedException" := f313.keep K312
  obtain ⟨T332, h332, X332, e332, W332, st332⟩ := putF X312 hx hZ hown (host := "") (Or.inl (own_w hw 97 rfl)) Via.refl e312 f328 f331 (Or.inl (own_w hw 93 rfl)) (own_w hw 33 rfl) (ty := (.object "java/lang/String")) (by decide) rfl rfl (g := (mkF m 30 #[.val (.ref a1), .val (.ref a4)] [(.ref a4), (.ref a1)])) rfl rfl (hb hby dj78_2_30)
  refine oG.st st332 ?_
  have N332 := Fr.snoc X332 N312 gz297
  have z332 : h312.size ≤ h332.size := Nat.le_of_eq W332.size.symm
  have f333 : Fld Z h332 a1 "java/lang/Throwable" "detailMessage" "Ljava/lang/String;" (.ref a4) := f328.same W332
  show oG _ _ _ _ (T332.setTop (mkF m 33 #[.val (.ref a1), .val (.ref a4)] []))
  obtain ⟨fs334, hr334, hrun334, hend334, hW334, hsm334⟩ := X332.leave (v := none) (fun _ => rfl)
  have K335 : Keep h0 h296 [a1] := (Keep.refl h0 [a1]).wr W296 (Or.inl (List.mem_of_getElem? (i := 0) rfl))
  have K336 : Keep h0 h303 [a1] := K335.wr W303 (Or.inl (List.mem_of_getElem? (i := 0) rfl))
  have K337 : Keep h0 h310 [a1] := K336.wr W310 (Or.inl (List.mem_of_getElem? (i := 0) rfl))
  have K338 : Keep h0 h312 [a1] := K337.trans K312 (allS (Or.inl (List.mem_of_getElem? (i := 0) rfl)) all0)
  have K339 : Keep h0 h332 [a1] := K338.wr W332 (Or.inl (List.mem_of_getElem? (i := 0) rfl))
  have f340 : Exa Z h332 a1 "com/example/hinagata/hinagata/RefusedException" := f331.wr W332
  have f341 : Fld Z h332 a1 "com/example/hinagata/hinagata/RefusedException" "errorClass" "Lcom/example/hinagata/hinagata/ErrorClass;" .null := f329.other W332 (Or.inr (slot_ne (Or.inr (own_w hw 99 rfl)) (Or.inl (own_w hw 93 rfl)) (by decide) (t := (.object "com/example/hinagata/hinagata/ErrorClass")) (t' := (.object "java/lang/String")) (by decide) (by decide)))
  have f342 : Fld Z h332 a1 "com/example/hinagata/hinagata/RefusedException" "index" "I" (.int (0 : Int32)) := f330.other W332 (Or.inr (slot_ne (Or.inr (own_w hw 101 rfl)) (Or.inl (own_w hw 93 rfl)) (by decide) (t := .int) (t' := (.object "java/lang/String")) (by decide) (by decide)))
  subst hPP
  refine ⟨_, _, X332.returnOut hx Bd.returns (hb hby dj78_2_33) hr334, hrun334, hend334, _, _, rfl, ?_, ⟨_, rfl⟩, hW334, hsm334.mono (by decide) (by decide)⟩
  · show Q_thinit Z _ _ _ _ h0 _ T332.heap _
    rw [e332]
    exact ⟨rfl, N332, K339, f340, f333, f341, f342⟩
theorem pn_145 : plainName "java/lang/Exception" = true := by first | (simp [plainName, overriddenIn]; done) | decide +kernel
theorem dj59_2_0 : decode jdk_59_method_2_code 0 = .ok (.aload_n 0, 1) := by decide +kernel
theorem dj59_2_1 : decode jdk_59_method_2_code 1 = .ok (.aload_n 1, 1) := by decide +kernel
theorem pd_148 : parseMethodDescriptor "(Ljava/lang/String;)V" = some ⟨[(.object "java/lang/String")], none⟩ := by decide +kernel
theorem dj59_2_2 : decode jdk_59_method_2_code 2 = .ok (.invokespecial 7, 3) := by decide +kernel
theorem dj59_2_5 : decode jdk_59_method_2_code 5 = .ok (.return_, 1) := by decide +kernel
def Q_exinit (Z : State) (a1 : Nat) (a4 : Nat) (us : Nat) (sn : Nat) (h0 : Heap) (v : Option Value) (h : Heap) (L : List Loc) : Prop := v = none ∧ Fr Z.heap.size L ∧ Keep h0 h [a1] ∧ Exa Z h a1 "com/example/hinagata/hinagata/RefusedException" ∧ Fld Z h a1 "java/lang/Throwable" "detailMessage" "Ljava/lang/String;" (.ref a4) ∧ Fld Z h a1 "com/example/hinagata/hinagata/RefusedException" "errorClass" "Lcom/example/hinagata/hinagata/ErrorClass;" .null ∧ Fld Z h a1 "com/example/hinagata/hinagata/RefusedException" "index" "I" (.int (0 : Int32))
set_option maxRecDepth 65536 in
set_option maxHeartbeats 40000000 in
theorem rm_exinit (l : Launch) (Z : State) (a0 : Array Value) (hw : ∀ d ∈ tables_1, d.before a0 Z = true) (ws : List Jvm.Cond) (a1 : Nat) (a4 : Nat) (us : Nat) (sn : Nat) (h0 : Heap) (OL : Old Z Z.heap.size h0) (p0_ : Exa Z h0 a1 "com/example/hinagata/hinagata/RefusedException") (p1_ : Fld Z h0 a1 "java/lang/Throwable" "backtrace" "Ljava/lang/Object;" .null) (p2_ : Fld Z h0 a1 "java/lang/Throwable" "detailMessage" "Ljava/lang/String;" .null) (p3_ : Fld Z h0 a1 "com/example/hinagata/hinagata/RefusedException" "errorClass" "Lcom/example/hinagata/hinagata/ErrorClass;" .null) (p4_ : Fld Z h0 a1 "com/example/hinagata/hinagata/RefusedException" "index" "I" (.int (0 : Int32))) (p5_ : Fld Z h0 a1 "java/lang/Throwable" "cause" "Ljava/lang/Throwable;" .null) (p6_ : Fld Z h0 a1 "java/lang/Throwable" "stackTrace" "[Ljava/lang/StackTraceElement;" .null) (p7_ : Fld Z h0 a1 "java/lang/Throwable" "suppressedExceptions" "Ljava/util/List;" .null) (st_UNASSIGNED_STACK : Sta Z Z.heap "java/lang/Throwable" "UNASSIGNED_STACK" "[Ljava/lang/StackTraceElement;" (.ref us)) (st_SUPPRESSED_SENTINEL : Sta Z Z.heap "java/lang/Throwable" "SUPPRESSED_SENTINEL" "Ljava/util/List;" (.ref sn)) (hU : Unt h0 a1) (hTh : ThS Z h0) (hst : l.stackTraces = true) (hwA : ∀ d ∈ own_thA "com/example/hinagata/hinagata/RefusedException", d.before a0 Z = true) (hn0 : Z.heap.size ≤ a1) :
    MetFree l mN13 (head1 (Jvm.Cond.code mN13 jdk_59_method_2_code 2 none :: ws) rM9) (fun a U => a = #[(.ref a1), (.ref a4)] ∧ Z.Warmed39 U.vm ∧ U.heap = h0) (fun _ _ bl s _ => s.vm.MethodsKnown ∧ s.vm.FramesKnown bl) (fun _ U o U' => ∃ v L, o = .returned v ∧ Q_exinit Z a1 a4 us sn h0 v U'.heap L ∧ FrameEnd U o U' L rM9.cells rM9.slots) := by
  refine MetFree.of_bodySF (plainFor_of_name pn_145) hisR ?_
  intro p e s m args below meth c s₁ Bd hml0 hP hK
  obtain ⟨rfl, hZ, hh⟩ := hP
  have hx := Bd.exec
  have hby := Bd.bytes
  have hml : c.maxLocals = 2 := hml0
  have hown : s.vm.findClass "java/lang/Exception" = some m.cls := findClass_of_methodNamed Bd.named
  have hnm := (name_of_methodNamed Bd.named Bd.method).1
  have X0 : Stand p l e rM9 s m #[(.ref a1), (.ref a4)] below meth c s₁ [] 0 0 := Stand.of_body Bd
  obtain ⟨hTK, hBel⟩ := hK
  have e0 : s₁.heap = h0 := by rw [← hh, Bd.state]; rfl
  have N0 := Fr.nil Z.heap.size
  have Z0 : Z.heap.size ≤ h0.size := OL.2.1
  have lt_0 : @LT.lt Nat _ a1 h0.size := p0_.lt
  have lt_1 : @LT.lt Nat _ a1 h0.size := p1_.lt
  have lt_2 : @LT.lt Nat _ a1 h0.size := p2_.lt
  have lt_3 : @LT.lt Nat _ a1 h0.size := p3_.lt
  have lt_4 : @LT.lt Nat _ a1 h0.size := p4_.lt
  have lt_5 : @LT.lt Nat _ a1 h0.size := p5_.lt
  have lt_6 : @LT.lt Nat _ a1 h0.size := p6_.lt
  have lt_7 : @LT.lt Nat _ a1 h0.size := p7_.lt
  show oG p.tables e below (fun o tE => ∃ v L, o = .returned v ∧ Q_exinit Z a1 a4 us sn h0 v tE.heap L ∧ FrameEnd s o tE L rM9.cells rM9.slots) (s₁.setTop (entryFrame m #[(.ref a1), (.ref a4)] 2))
  refine own_hd (fun PP hPP => ?_)
  refine oG.st (fun t k => castTop (ef_15 m a1 a4) k) ?_
  refine oG.st (fun _ k => XS.aloadN X0.here hx rfl (hb hby dj59_2_0) rfl rfl (XS.aloadN X0.here hx rfl (hb hby dj59_2_1) rfl rfl k)) ?_
  show oG _ _ _ _ (s₁.setTop (mkF m 2 #[.val (.ref a1), .val (.ref a4)] [(.ref a4), (.ref a1)]))
  obtain ⟨_, _, ⟨T343, L343, k343, n343⟩, -, X343, ⟨Lc343, hQ343, l343, y343, z343⟩, st343⟩ := X0.specialBack hx (y := mN20) rfl hown (own_v hZ hw 55 rfl) (own_v hZ hw 56 rfl) (own_v hZ hw 60 rfl) (by decide) (backOfKL (W := 0) (rm_thinit l Z a0 hw [] a1 a4 us sn h0 OL p0_ p1_ p2_ p3_ p4_ p5_ p6_ p7_ st_UNASSIGNED_STACK st_SUPPRESSED_SENTINEL hU hTh hst hwA hn0) hZ (own_w hw 60 rfl) (own_w hw 59 rfl) (by decide) (by decide) hTK hBel) (g := (mkF m 2 #[.val (.ref a1), .val (.ref a4)] [(.ref a4), (.ref a1)])) rfl (by rw [hml]; rfl) (Steps.refl _) (a := a1) (argsL := [(.ref a4)]) (rest := []) (lenOf pd_148 rfl) rfl (by show 2 * 0 + _ ≤ _; exact Nat.le_of_eq rfl) (hb hby dj59_2_2) (fun _ _ => ⟨rfl, e0, (by decide : 0 + 1 ≤ _), (by decide : 0 + 2752 ≤ _)⟩)
  dsimp only [Pt.U, Pt.locs, Pt.cells, Pt.slots] at X343 l343 y343 z343 st343 hQ343
  subst l343 y343 z343
  obtain ⟨rfl, N343q, K343, f343_0, f343_1, f343_2, f343_3⟩ := hQ343
  have N343 := Fr.app N0 N343q
  have z343 : h0.size ≤ T343.heap.size := K343.1
  have lt343_0 : @LT.lt Nat _ a1 T343.heap.size := f343_0.lt
  have lt343_1 : @LT.lt Nat _ a1 T343.heap.size := f343_1.lt
  have lt343_2 : @LT.lt Nat _ a1 T343.heap.size := f343_2.lt
  have lt343_3 : @LT.lt Nat _ a1 T343.heap.size := f343_3.lt
  refine oG.tr st343 ?_
  show oG _ _ _ _ (T343.setTop (mkF m 5 #[.val (.ref a1), .val (.ref a4)] []))
  obtain ⟨fs344, hr344, hrun344, hend344, hW344, hsm344⟩ := X343.leave (v := none) (fun _ => rfl)
  have K345 : Keep h0 T343.heap [a1] := (Keep.refl h0 [a1]).trans K343 (allS (Or.inl (List.mem_of_getElem? (i := 0) rfl)) all0)
  subst hPP
  refine ⟨_, _, X343.returnOut hx Bd.returns (hb hby dj59_2_5) hr344, hrun344, hend344, _, _, rfl, ?_, ⟨_, rfl⟩, hW344, hsm344.mono (by decide) (by decide)⟩
  · show Q_exinit Z _ _ _ _ h0 _ T343.heap _
    exact ⟨rfl, N343, K345, f343_0, f343_1, f343_2, f343_3⟩
theorem pn_151 : plainName "java/lang/RuntimeException" = true := by first | (simp [plainName, overriddenIn]; done) | decide +kernel
theorem dj58_2_0 : decode jdk_58_method_2_code 0 = .ok (.aload_n 0, 1) := by decide +kernel
theorem dj58_2_1 : decode jdk_58_method_2_code 1 = .ok (.aload_n 1, 1) := by decide +kernel
theorem dj58_2_2 : decode jdk_58_method_2_code 2 = .ok (.invokespecial 7, 3) := by decide +kernel
theorem dj58_2_5 : decode jdk_58_method_2_code 5 = .ok (.return_, 1) := by decide +kernel
def Q_rtinit (Z : State) (a1 : Nat) (a4 : Nat) (us : Nat) (sn : Nat) (h0 : Heap) (v : Option Value) (h : Heap) (L : List Loc) : Prop := v = none ∧ Fr Z.heap.size L ∧ Keep h0 h [a1] ∧ Exa Z h a1 "com/example/hinagata/hinagata/RefusedException" ∧ Fld Z h a1 "java/lang/Throwable" "detailMessage" "Ljava/lang/String;" (.ref a4) ∧ Fld Z h a1 "com/example/hinagata/hinagata/RefusedException" "errorClass" "Lcom/example/hinagata/hinagata/ErrorClass;" .null ∧ Fld Z h a1 "com/example/hinagata/hinagata/RefusedException" "index" "I" (.int (0 : Int32))
set_option maxRecDepth 65536 in
set_option maxHeartbeats 40000000 in
theorem rm_rtinit (l : Launch) (Z : State) (a0 : Array Value) (hw : ∀ d ∈ tables_1, d.before a0 Z = true) (ws : List Jvm.Cond) (a1 : Nat) (a4 : Nat) (us : Nat) (sn : Nat) (h0 : Heap) (OL : Old Z Z.heap.size h0) (p0_ : Exa Z h0 a1 "com/example/hinagata/hinagata/RefusedException") (p1_ : Fld Z h0 a1 "java/lang/Throwable" "backtrace" "Ljava/lang/Object;" .null) (p2_ : Fld Z h0 a1 "java/lang/Throwable" "detailMessage" "Ljava/lang/String;" .null) (p3_ : Fld Z h0 a1 "com/example/hinagata/hinagata/RefusedException" "errorClass" "Lcom/example/hinagata/hinagata/ErrorClass;" .null) (p4_ : Fld Z h0 a1 "com/example/hinagata/hinagata/RefusedException" "index" "I" (.int (0 : Int32))) (p5_ : Fld Z h0 a1 "java/lang/Throwable" "cause" "Ljava/lang/Throwable;" .null) (p6_ : Fld Z h0 a1 "java/lang/Throwable" "stackTrace" "[Ljava/lang/StackTraceElement;" .null) (p7_ : Fld Z h0 a1 "java/lang/Throwable" "suppressedExceptions" "Ljava/util/List;" .null) (st_UNASSIGNED_STACK : Sta Z Z.heap "java/lang/Throwable" "UNASSIGNED_STACK" "[Ljava/lang/StackTraceElement;" (.ref us)) (st_SUPPRESSED_SENTINEL : Sta Z Z.heap "java/lang/Throwable" "SUPPRESSED_SENTINEL" "Ljava/util/List;" (.ref sn)) (hU : Unt h0 a1) (hTh : ThS Z h0) (hst : l.stackTraces = true) (hwA : ∀ d ∈ own_thA "com/example/hinagata/hinagata/RefusedException", d.before a0 Z = true) (hn0 : Z.heap.size ≤ a1) :
    MetFree l mN16 (head1 (Jvm.Cond.code mN16 jdk_58_method_2_code 2 none :: ws) rM10) (fun a U => a = #[(.ref a1), (.ref a4)] ∧ Z.Warmed39 U.vm ∧ U.heap = h0) (fun _ _ bl s _ => s.vm.MethodsKnown ∧ s.vm.FramesKnown bl) (fun _ U o U' => ∃ v L, o = .returned v ∧ Q_rtinit Z a1 a4 us sn h0 v U'.heap L ∧ FrameEnd U o U' L rM10.cells rM10.slots) := by
  refine MetFree.of_bodySF (plainFor_of_name pn_151) hisR ?_
  intro p e s m args below meth c s₁ Bd hml0 hP hK
  obtain ⟨rfl, hZ, hh⟩ := hP
  have hx := Bd.exec
  have hby := Bd.bytes
  have hml : c.maxLocals = 2 := hml0
  have hown : s.vm.findClass "java/lang/RuntimeException" = some m.cls := findClass_of_methodNamed Bd.named
  have hnm := (name_of_methodNamed Bd.named Bd.method).1
  have X0 : Stand p l e rM10 s m #[(.ref a1), (.ref a4)] below meth c s₁ [] 0 0 := Stand.of_body Bd
  obtain ⟨hTK, hBel⟩ := hK
  have e0 : s₁.heap = h0 := by rw [← hh, Bd.state]; rfl
  have N0 := Fr.nil Z.heap.size
  have Z0 : Z.heap.size ≤ h0.size := OL.2.1
  have lt_0 : @LT.lt Nat _ a1 h0.size := p0_.lt
  have lt_1 : @LT.lt Nat _ a1 h0.size := p1_.lt
  have lt_2 : @LT.lt Nat _ a1 h0.size := p2_.lt
  have lt_3 : @LT.lt Nat _ a1 h0.size := p3_.lt
  have lt_4 : @LT.lt Nat _ a1 h0.size := p4_.lt
  have lt_5 : @LT.lt Nat _ a1 h0.size := p5_.lt
  have lt_6 : @LT.lt Nat _ a1 h0.size := p6_.lt
  have lt_7 : @LT.lt Nat _ a1 h0.size := p7_.lt
  show oG p.tables e below (fun o tE => ∃ v L, o = .returned v ∧ Q_rtinit Z a1 a4 us sn h0 v tE.heap L ∧ FrameEnd s o tE L rM10.cells rM10.slots) (s₁.setTop (entryFrame m #[(.ref a1), (.ref a4)] 2))
  refine own_hd (fun PP hPP => ?_)
  refine oG.st (fun t k => castTop (ef_15 m a1 a4) k) ?_
  refine oG.st (fun _ k => XS.aloadN X0.here hx rfl (hb hby dj58_2_0) rfl rfl (XS.aloadN X0.here hx rfl (hb hby dj58_2_1) rfl rfl k)) ?_
  show oG _ _ _ _ (s₁.setTop (mkF m 2 #[.val (.ref a1), .val (.ref a4)] [(.ref a4), (.ref a1)]))
  obtain ⟨_, _, ⟨T346, L346, k346, n346⟩, -, X346, ⟨Lc346, hQ346, l346, y346, z346⟩, st346⟩ := X0.specialBack hx (y := mN13) rfl hown (own_v hZ hw 49 rfl) (own_v hZ hw 50 rfl) (own_v hZ hw 54 rfl) (by decide) (backOfKL (W := 0) (rm_exinit l Z a0 hw [] a1 a4 us sn h0 OL p0_ p1_ p2_ p3_ p4_ p5_ p6_ p7_ st_UNASSIGNED_STACK st_SUPPRESSED_SENTINEL hU hTh hst hwA hn0) hZ (own_w hw 54 rfl) (own_w hw 53 rfl) (by decide) (by decide) hTK hBel) (g := (mkF m 2 #[.val (.ref a1), .val (.ref a4)] [(.ref a4), (.ref a1)])) rfl (by rw [hml]; rfl) (Steps.refl _) (a := a1) (argsL := [(.ref a4)]) (rest := []) (lenOf pd_148 rfl) rfl (by show 2 * 0 + _ ≤ _; exact Nat.le_of_eq rfl) (hb hby dj58_2_2) (fun _ _ => ⟨rfl, e0, (by decide : 0 + 1 ≤ _), (by decide : 0 + 2752 ≤ _)⟩)
  dsimp only [Pt.U, Pt.locs, Pt.cells, Pt.slots] at X346 l346 y346 z346 st346 hQ346
  subst l346 y346 z346
  obtain ⟨rfl, N346q, K346, f346_0, f346_1, f346_2, f346_3⟩ := hQ346
  have N346 := Fr.app N0 N346q
  have z346 : h0.size ≤ T346.heap.size := K346.1
  have lt346_0 : @LT.lt Nat _ a1 T346.heap.size := f346_0.lt
  have lt346_1 : @LT.lt Nat _ a1 T346.heap.size := f346_1.lt
  have lt346_2 : @LT.lt Nat _ a1 T346.heap.size := f346_2.lt
  have lt346_3 : @LT.lt Nat _ a1 T346.heap.size := f346_3.lt
  refine oG.tr st346 ?_
  show oG _ _ _ _ (T346.setTop (mkF m 5 #[.val (.ref a1), .val (.ref a4)] []))
  obtain ⟨fs347, hr347, hrun347, hend347, hW347, hsm347⟩ := X346.leave (v := none) (fun _ => rfl)
  have K348 : Keep h0 T346.heap [a1] := (Keep.refl h0 [a1]).trans K346 (allS (Or.inl (List.mem_of_getElem? (i := 0) rfl)) all0)
  subst hPP
  refine ⟨_, _, X346.returnOut hx Bd.returns (hb hby dj58_2_5) hr347, hrun347, hend347, _, _, rfl, ?_, ⟨_, rfl⟩, hW347, hsm347.mono (by decide) (by decide)⟩
  · show Q_rtinit Z _ _ _ _ h0 _ T346.heap _
    exact ⟨rfl, N346, K348, f346_0, f346_1, f346_2, f346_3⟩
theorem pn_156 : plainName "java/lang/IllegalArgumentException" = true := by first | (simp [plainName, overriddenIn]; done) | decide +kernel
theorem dj57_2_0 : decode jdk_57_method_2_code 0 = .ok (.aload_n 0, 1) := by decide +kernel
theorem dj57_2_1 : decode jdk_57_method_2_code 1 = .ok (.aload_n 1, 1) := by decide +kernel
theorem dj57_2_2 : decode jdk_57_method_2_code 2 = .ok (.invokespecial 7, 3) := by decide +kernel
theorem dj57_2_5 : decode jdk_57_method_2_code 5 = .ok (.return_, 1) := by decide +kernel
def Q_iainit (Z : State) (a1 : Nat) (a4 : Nat) (us : Nat) (sn : Nat) (h0 : Heap) (v : Option Value) (h : Heap) (L : List Loc) : Prop := v = none ∧ Fr Z.heap.size L ∧ Keep h0 h [a1] ∧ Exa Z h a1 "com/example/hinagata/hinagata/RefusedException" ∧ Fld Z h a1 "java/lang/Throwable" "detailMessage" "Ljava/lang/String;" (.ref a4) ∧ Fld Z h a1 "com/example/hinagata/hinagata/RefusedException" "errorClass" "Lcom/example/hinagata/hinagata/ErrorClass;" .null ∧ Fld Z h a1 "com/example/hinagata/hinagata/RefusedException" "index" "I" (.int (0 : Int32))
set_option maxRecDepth 65536 in
set_option maxHeartbeats 40000000 in
theorem rm_iainit (l : Launch) (Z : State) (a0 : Array Value) (hw : ∀ d ∈ tables_1, d.before a0 Z = true) (ws : List Jvm.Cond) (a1 : Nat) (a4 : Nat) (us : Nat) (sn : Nat) (h0 : Heap) (OL : Old Z Z.heap.size h0) (p0_ : Exa Z h0 a1 "com/example/hinagata/hinagata/RefusedException") (p1_ : Fld Z h0 a1 "java/lang/Throwable" "backtrace" "Ljava/lang/Object;" .null) (p2_ : Fld Z h0 a1 "java/lang/Throwable" "detailMessage" "Ljava/lang/String;" .null) (p3_ : Fld Z h0 a1 "com/example/hinagata/hinagata/RefusedException" "errorClass" "Lcom/example/hinagata/hinagata/ErrorClass;" .null) (p4_ : Fld Z h0 a1 "com/example/hinagata/hinagata/RefusedException" "index" "I" (.int (0 : Int32))) (p5_ : Fld Z h0 a1 "java/lang/Throwable" "cause" "Ljava/lang/Throwable;" .null) (p6_ : Fld Z h0 a1 "java/lang/Throwable" "stackTrace" "[Ljava/lang/StackTraceElement;" .null) (p7_ : Fld Z h0 a1 "java/lang/Throwable" "suppressedExceptions" "Ljava/util/List;" .null) (st_UNASSIGNED_STACK : Sta Z Z.heap "java/lang/Throwable" "UNASSIGNED_STACK" "[Ljava/lang/StackTraceElement;" (.ref us)) (st_SUPPRESSED_SENTINEL : Sta Z Z.heap "java/lang/Throwable" "SUPPRESSED_SENTINEL" "Ljava/util/List;" (.ref sn)) (hU : Unt h0 a1) (hTh : ThS Z h0) (hst : l.stackTraces = true) (hwA : ∀ d ∈ own_thA "com/example/hinagata/hinagata/RefusedException", d.before a0 Z = true) (hn0 : Z.heap.size ≤ a1) :
    MetFree l mN14 (head1 (Jvm.Cond.code mN14 jdk_57_method_2_code 2 none :: ws) rM12) (fun a U => a = #[(.ref a1), (.ref a4)] ∧ Z.Warmed39 U.vm ∧ U.heap = h0) (fun _ _ bl s _ => s.vm.MethodsKnown ∧ s.vm.FramesKnown bl) (fun _ U o U' => ∃ v L, o = .returned v ∧ Q_iainit Z a1 a4 us sn h0 v U'.heap L ∧ FrameEnd U o U' L rM12.cells rM12.slots) := by
  refine MetFree.of_bodySF (plainFor_of_name pn_156) hisR ?_
  intro p e s m args below meth c s₁ Bd hml0 hP hK
  obtain ⟨rfl, hZ, hh⟩ := hP
  have hx := Bd.exec
  have hby := Bd.bytes
  have hml : c.maxLocals = 2 := hml0
  have hown : s.vm.findClass "java/lang/IllegalArgumentException" = some m.cls := findClass_of_methodNamed Bd.named
  have hnm := (name_of_methodNamed Bd.named Bd.method).1
  have X0 : Stand p l e rM12 s m #[(.ref a1), (.ref a4)] below meth c s₁ [] 0 0 := Stand.of_body Bd
  obtain ⟨hTK, hBel⟩ := hK
  have e0 : s₁.heap = h0 := by rw [← hh, Bd.state]; rfl
  have N0 := Fr.nil Z.heap.size
  have Z0 : Z.heap.size ≤ h0.size := OL.2.1
  have lt_0 : @LT.lt Nat _ a1 h0.size := p0_.lt
  have lt_1 : @LT.lt Nat _ a1 h0.size := p1_.lt
  have lt_2 : @LT.lt Nat _ a1 h0.size := p2_.lt
  have lt_3 : @LT.lt Nat _ a1 h0.size := p3_.lt
  have lt_4 : @LT.lt Nat _ a1 h0.size := p4_.lt
  have lt_5 : @LT.lt Nat _ a1 h0.size := p5_.lt
  have lt_6 : @LT.lt Nat _ a1 h0.size := p6_.lt
  have lt_7 : @LT.lt Nat _ a1 h0.size := p7_.lt
  show oG p.tables e below (fun o tE => ∃ v L, o = .returned v ∧ Q_iainit Z a1 a4 us sn h0 v tE.heap L ∧ FrameEnd s o tE L rM12.cells rM12.slots) (s₁.setTop (entryFrame m #[(.ref a1), (.ref a4)] 2))
  refine own_hd (fun PP hPP => ?_)
  refine oG.st (fun t k => castTop (ef_15 m a1 a4) k) ?_
  refine oG.st (fun _ k => XS.aloadN X0.here hx rfl (hb hby dj57_2_0) rfl rfl (XS.aloadN X0.here hx rfl (hb hby dj57_2_1) rfl rfl k)) ?_
  show oG _ _ _ _ (s₁.setTop (mkF m 2 #[.val (.ref a1), .val (.ref a4)] [(.ref a4), (.ref a1)]))
  obtain ⟨_, _, ⟨T349, L349, k349, n349⟩, -, X349, ⟨Lc349, hQ349, l349, y349, z349⟩, st349⟩ := X0.specialBack hx (y := mN16) rfl hown (own_v hZ hw 43 rfl) (own_v hZ hw 44 rfl) (own_v hZ hw 48 rfl) (by decide) (backOfKL (W := 0) (rm_rtinit l Z a0 hw [] a1 a4 us sn h0 OL p0_ p1_ p2_ p3_ p4_ p5_ p6_ p7_ st_UNASSIGNED_STACK st_SUPPRESSED_SENTINEL hU hTh hst hwA hn0) hZ (own_w hw 48 rfl) (own_w hw 47 rfl) (by decide) (by decide) hTK hBel) (g := (mkF m 2 #[.val (.ref a1), .val (.ref a4)] [(.ref a4), (.ref a1)])) rfl (by rw [hml]; rfl) (Steps.refl _) (a := a1) (argsL := [(.ref a4)]) (rest := []) (lenOf pd_148 rfl) rfl (by show 2 * 0 + _ ≤ _; exact Nat.le_of_eq rfl) (hb hby dj57_2_2) (fun _ _ => ⟨rfl, e0, (by decide : 0 + 1 ≤ _), (by decide : 0 + 2752 ≤ _)⟩)
  dsimp only [Pt.U, Pt.locs, Pt.cells, Pt.slots] at X349 l349 y349 z349 st349 hQ349
  subst l349 y349 z349
  obtain ⟨rfl, N349q, K349, f349_0, f349_1, f349_2, f349_3⟩ := hQ349
  have N349 := Fr.app N0 N349q
  have z349 : h0.size ≤ T349.heap.size := K349.1
  have lt349_0 : @LT.lt Nat _ a1 T349.heap.size := f349_0.lt
  have lt349_1 : @LT.lt Nat _ a1 T349.heap.size := f349_1.lt
  have lt349_2 : @LT.lt Nat _ a1 T349.heap.size := f349_2.lt
  have lt349_3 : @LT.lt Nat _ a1 T349.heap.size := f349_3.lt
  refine oG.tr st349 ?_
  show oG _ _ _ _ (T349.setTop (mkF m 5 #[.val (.ref a1), .val (.ref a4)] []))
  obtain ⟨fs350, hr350, hrun350, hend350, hW350, hsm350⟩ := X349.leave (v := none) (fun _ => rfl)
  have K351 : Keep h0 T349.heap [a1] := (Keep.refl h0 [a1]).trans K349 (allS (Or.inl (List.mem_of_getElem? (i := 0) rfl)) all0)
  subst hPP
  refine ⟨_, _, X349.returnOut hx Bd.returns (hb hby dj57_2_5) hr350, hrun350, hend350, _, _, rfl, ?_, ⟨_, rfl⟩, hW350, hsm350.mono (by decide) (by decide)⟩
  · show Q_iainit Z _ _ _ _ h0 _ T349.heap _
    exact ⟨rfl, N349, K351, f349_0, f349_1, f349_2, f349_3⟩
theorem pn_161 : plainName "com/example/hinagata/hinagata/RefusedException" = true := by first | (simp [plainName, overriddenIn]; done) | decide +kernel
theorem ef_162 (m : MethodId) (x0 : Nat) (x1 : Nat) (x2 : Int32) (x3 : Nat) : entryFrame m #[(.ref x0), (.ref x1), (.int x2), (.ref x3)] 4 = mkF m 0 #[.val (.ref x0), .val (.ref x1), .val (.int x2), .val (.ref x3)] [] := by first | (simp [entryFrame, mkF, argsToLocals, Value.category]; done) | rfl
theorem dp16_1_0 : decode cJ14 0 = .ok (.aload_n 0, 1) := by decide +kernel
theorem dp16_1_1 : decode cJ14 1 = .ok (.aload_n 3, 1) := by decide +kernel
theorem dp16_1_2 : decode cJ14 2 = .ok (.invokespecial 1, 3) := by decide +kernel
theorem dp16_1_5 : decode cJ14 5 = .ok (.aload_n 0, 1) := by decide +kernel
theorem dp16_1_6 : decode cJ14 6 = .ok (.aload_n 1, 1) := by decide +kernel
theorem dp16_1_7 : decode cJ14 7 = .ok (.putfield 7, 3) := by decide +kernel
theorem dp16_1_10 : decode cJ14 10 = .ok (.aload_n 0, 1) := by decide +kernel
theorem dp16_1_11 : decode cJ14 11 = .ok (.iload_n 2, 1) := by decide +kernel
theorem dp16_1_12 : decode cJ14 12 = .ok (.putfield 13, 3) := by decide +kernel
theorem dp16_1_15 : decode cJ14 15 = .ok (.return_, 1) := by decide +kernel
def Q_rexinit (Z : State) (a1 : Nat) (a2 : Nat) (p3 : Int32) (a4 : Nat) (us : Nat) (sn : Nat) (h0 : Heap) (v : Option Value) (h : Heap) (L : List Loc) : Prop := v = none ∧ Fr Z.heap.size L ∧ Keep h0 h [a1] ∧ Exa Z h a1 "com/example/hinagata/hinagata/RefusedException" ∧ Fld Z h a1 "java/lang/Throwable" "detailMessage" "Ljava/lang/String;" (.ref a4) ∧ Fld Z h a1 "com/example/hinagata/hinagata/RefusedException" "errorClass" "Lcom/example/hinagata/hinagata/ErrorClass;" (.ref a2) ∧ Fld Z h a1 "com/example/hinagata/hinagata/RefusedException" "index" "I" (.int p3)
set_option maxRecDepth 65536 in
set_option maxHeartbeats 40000000 in
theorem rm_rexinit (l : Launch) (Z : State) (a0 : Array Value) (hw : ∀ d ∈ tables_1, d.before a0 Z = true) (ws : List Jvm.Cond) (a1 : Nat) (a2 : Nat) (p3 : Int32) (a4 : Nat) (us : Nat) (sn : Nat) (h0 : Heap) (OL : Old Z Z.heap.size h0) (p0_ : Exa Z h0 a1 "com/example/hinagata/hinagata/RefusedException") (p1_ : Fld Z h0 a1 "java/lang/Throwable" "backtrace" "Ljava/lang/Object;" .null) (p2_ : Fld Z h0 a1 "java/lang/Throwable" "detailMessage" "Ljava/lang/String;" .null) (p3_ : Fld Z h0 a1 "com/example/hinagata/hinagata/RefusedException" "errorClass" "Lcom/example/hinagata/hinagata/ErrorClass;" .null) (p4_ : Fld Z h0 a1 "com/example/hinagata/hinagata/RefusedException" "index" "I" (.int (0 : Int32))) (p5_ : Fld Z h0 a1 "java/lang/Throwable" "cause" "Ljava/lang/Throwable;" .null) (p6_ : Fld Z h0 a1 "java/lang/Throwable" "stackTrace" "[Ljava/lang/StackTraceElement;" .null) (p7_ : Fld Z h0 a1 "java/lang/Throwable" "suppressedExceptions" "Ljava/util/List;" .null) (st_UNASSIGNED_STACK : Sta Z Z.heap "java/lang/Throwable" "UNASSIGNED_STACK" "[Ljava/lang/StackTraceElement;" (.ref us)) (st_SUPPRESSED_SENTINEL : Sta Z Z.heap "java/lang/Throwable" "SUPPRESSED_SENTINEL" "Ljava/util/List;" (.ref sn)) (hU : Unt h0 a1) (hTh : ThS Z h0) (hst : l.stackTraces = true) (hwA : ∀ d ∈ own_thA "com/example/hinagata/hinagata/RefusedException", d.before a0 Z = true) (hn0 : Z.heap.size ≤ a1) :
    MetFree l mN8 (head1 (Jvm.Cond.code mN8 prog_16_method_1_code 4 none :: ws) rM13) (fun a U => a = #[(.ref a1), (.ref a2), (.int p3), (.ref a4)] ∧ Z.Warmed39 U.vm ∧ U.heap = h0) (fun _ _ bl s _ => s.vm.MethodsKnown ∧ s.vm.FramesKnown bl) (fun _ U o U' => ∃ v L, o = .returned v ∧ Q_rexinit Z a1 a2 p3 a4 us sn h0 v U'.heap L ∧ FrameEnd U o U' L rM13.cells rM13.slots) := by
  refine MetFree.of_bodySF (plainFor_of_name pn_161) hisR ?_
  intro p e s m args below meth c s₁ Bd hml0 hP hK
  obtain ⟨rfl, hZ, hh⟩ := hP
  have hx := Bd.exec
  have hby := Bd.bytes
  have hml : c.maxLocals = 4 := hml0
  have hown : s.vm.findClass "com/example/hinagata/hinagata/RefusedException" = some m.cls := findClass_of_methodNamed Bd.named
  have hnm := (name_of_methodNamed Bd.named Bd.method).1
  have X0 : Stand p l e rM13 s m #[(.ref a1), (.ref a2), (.int p3), (.ref a4)] below meth c s₁ [] 0 0 := Stand.of_body Bd
  obtain ⟨hTK, hBel⟩ := hK
  have e0 : s₁.heap = h0 := by rw [← hh, Bd.state]; rfl
  have N0 := Fr.nil Z.heap.size
  have Z0 : Z.heap.size ≤ h0.size := OL.2.1
  have lt_0 : @LT.lt Nat _ a1 h0.size := p0_.lt
  have lt_1 : @LT.lt Nat _ a1 h0.size := p1_.lt
  have lt_2 : @LT.lt Nat _ a1 h0.size := p2_.lt
  have lt_3 : @LT.lt Nat _ a1 h0.size := p3_.lt
  have lt_4 : @LT.lt Nat _ a1 h0.size := p4_.lt
  have lt_5 : @LT.lt Nat _ a1 h0.size := p5_.lt
  have lt_6 : @LT.lt Nat _ a1 h0.size := p6_.lt
  have lt_7 : @LT.lt Nat _ a1 h0.size := p7_.lt
  show oG p.tables e below (fun o tE => ∃ v L, o = .returned v ∧ Q_rexinit Z a1 a2 p3 a4 us sn h0 v tE.heap L ∧ FrameEnd s o tE L rM13.cells rM13.slots) (s₁.setTop (entryFrame m #[(.ref a1), (.ref a2), (.int p3), (.ref a4)] 4))
  refine own_hd (fun PP hPP => ?_)
  refine oG.st (fun t k => castTop (ef_162 m a1 a2 p3 a4) k) ?_
  refine oG.st (fun _ k => XS.aloadN X0.here hx rfl (hb hby dp16_1_0) rfl rfl (XS.aloadN X0.here hx rfl (hb hby dp16_1_1) rfl rfl k)) ?_
  show oG _ _ _ _ (s₁.setTop (mkF m 2 #[.val (.ref a1), .val (.ref a2), .val (.int p3), .val (.ref a4)] [(.ref a4), (.ref a1)]))
  obtain ⟨_, _, ⟨T352, L352, k352, n352⟩, -, X352, ⟨Lc352, hQ352, l352, y352, z352⟩, st352⟩ := X0.specialBack hx (y := mN14) rfl hown (own_v hZ hw 38 rfl) (own_v hZ hw 39 rfl) (own_v hZ hw 42 rfl) (by decide) (backOfKL (W := 0) (rm_iainit l Z a0 hw [] a1 a4 us sn h0 OL p0_ p1_ p2_ p3_ p4_ p5_ p6_ p7_ st_UNASSIGNED_STACK st_SUPPRESSED_SENTINEL hU hTh hst hwA hn0) hZ (own_w hw 42 rfl) (own_w hw 41 rfl) (by decide) (by decide) hTK hBel) (g := (mkF m 2 #[.val (.ref a1), .val (.ref a2), .val (.int p3), .val (.ref a4)] [(.ref a4), (.ref a1)])) rfl (by rw [hml]; rfl) (Steps.refl _) (a := a1) (argsL := [(.ref a4)]) (rest := []) (lenOf pd_148 rfl) rfl (by show 2 * 0 + _ ≤ _; exact Nat.le_of_eq rfl) (hb hby dp16_1_2) (fun _ _ => ⟨rfl, e0, (by decide : 0 + 1 ≤ _), (by decide : 0 + 2752 ≤ _)⟩)
  dsimp only [Pt.U, Pt.locs, Pt.cells, Pt.slots] at X352 l352 y352 z352 st352 hQ352
  subst l352 y352 z352
  obtain ⟨rfl, N352q, K352, f352_0, f352_1, f352_2, f352_3⟩ := hQ352
  have N352 := Fr.app N0 N352q
  have z352 : h0.size ≤ T352.heap.size := K352.1
  have lt352_0 : @LT.lt Nat _ a1 T352.heap.size := f352_0.lt
  have lt352_1 : @LT.lt Nat _ a1 T352.heap.size := f352_1.lt
  have lt352_2 : @LT.lt Nat _ a1 T352.heap.size := f352_2.lt
  have lt352_3 : @LT.lt Nat _ a1 T352.heap.size := f352_3.lt
  refine oG.tr st352 ?_
  refine oG.st (fun _ k => XS.aloadN X352.here hx rfl (hb hby dp16_1_5) rfl rfl (XS.aloadN X352.here hx rfl (hb hby dp16_1_6) rfl rfl k)) ?_
  show oG _ _ _ _ (T352.setTop (mkF m 7 #[.val (.ref a1), .val (.ref a2), .val (.int p3), .val (.ref a4)] [(.ref a2), (.ref a1)]))
  obtain ⟨T353, h353, X353, e353, W353, st353⟩ := putF X352 hx hZ hown (host := "") (Or.inl (own_w hw 98 rfl)) Via.refl rfl f352_2 f352_0 (Or.inr ⟨(own_w hw 99 rfl), rfl, hnm⟩) (own_w hw 33 rfl) (ty := (.object "com/example/hinagata/hinagata/ErrorClass")) (by decide) rfl rfl (g := (mkF m 7 #[.val (.ref a1), .val (.ref a2), .val (.int p3), .val (.ref a4)] [(.ref a2), (.ref a1)])) rfl rfl (hb hby dp16_1_7)
  refine oG.st st353 ?_
  have gz354 : Z.heap.size ≤ a1 := by omega
  have N353 := Fr.snoc X353 N352 gz354
  have z353 : T352.heap.size ≤ h353.size := Nat.le_of_eq W353.size.symm
  have f355 : Fld Z h353 a1 "com/example/hinagata/hinagata/RefusedException" "errorClass" "Lcom/example/hinagata/hinagata/ErrorClass;" (.ref a2) := f352_2.same W353
  refine oG.st (fun _ k => XS.aloadN X353.here hx rfl (hb hby dp16_1_10) rfl rfl (XS.iloadN X353.here hx rfl (hb hby dp16_1_11) rfl k)) ?_
  show oG _ _ _ _ (T353.setTop (mkF m 12 #[.val (.ref a1), .val (.ref a2), .val (.int p3), .val (.ref a4)] [(.int p3), (.ref a1)]))
  have f356 : Fld Z h353 a1 "com/example/hinagata/hinagata/RefusedException" "index" "I" (.int (0 : Int32)) := f352_3.other W353 (Or.inr (slot_ne (Or.inr (own_w hw 101 rfl)) (Or.inr (own_w hw 99 rfl)) (by decide) (t := .int) (t' := (.object "com/example/hinagata/hinagata/ErrorClass")) (by decide) (by decide)))
  have f357 : Exa Z h353 a1 "com/example/hinagata/hinagata/RefusedException" := f352_0.wr W353
  obtain ⟨T358, h358, X358, e358, W358, st358⟩ := putF X353 hx hZ hown (host := "") (Or.inl (own_w hw 100 rfl)) Via.refl e353 f356 f357 (Or.inr ⟨(own_w hw 101 rfl), rfl, hnm⟩) (own_w hw 33 rfl) (ty := .int) (by decide) rfl rfl (g := (mkF m 12 #[.val (.ref a1), .val (.ref a2), .val (.int p3), .val (.ref a4)] [(.int p3), (.ref a1)])) rfl rfl (hb hby dp16_1_12)
  refine oG.st st358 ?_
  have N358 := Fr.snoc X358 N353 gz354
  have z358 : h353.size ≤ h358.size := Nat.le_of_eq W358.size.symm
  have f359 : Fld Z h358 a1 "com/example/hinagata/hinagata/RefusedException" "index" "I" (.int p3) := f356.same W358
  show oG _ _ _ _ (T358.setTop (mkF m 15 #[.val (.ref a1), .val (.ref a2), .val (.int p3), .val (.ref a4)] []))
  obtain ⟨fs360, hr360, hrun360, hend360, hW360, hsm360⟩ := X358.leave (v := none) (fun _ => rfl)
  have K361 : Keep h0 T352.heap [a1] := (Keep.refl h0 [a1]).trans K352 (allS (Or.inl (List.mem_of_getElem? (i := 0) rfl)) all0)
  have K362 : Keep h0 h353 [a1] := K361.wr W353 (Or.inl (List.mem_of_getElem? (i := 0) rfl))
  have K363 : Keep h0 h358 [a1] := K362.wr W358 (Or.inl (List.mem_of_getElem? (i := 0) rfl))
  have f364 : Exa Z h358 a1 "com/example/hinagata/hinagata/RefusedException" := f357.wr W358
  have f365 : Fld Z h353 a1 "java/lang/Throwable" "detailMessage" "Ljava/lang/String;" (.ref a4) := f352_1.other W353 (Or.inr (slot_ne (Or.inl (own_w hw 93 rfl)) (Or.inr (own_w hw 99 rfl)) (by decide) (t := (.object "java/lang/String")) (t' := (.object "com/example/hinagata/hinagata/ErrorClass")) (by decide) (by decide)))
  have f366 : Fld Z h358 a1 "java/lang/Throwable" "detailMessage" "Ljava/lang/String;" (.ref a4) := f365.other W358 (Or.inr (slot_ne (Or.inl (own_w hw 93 rfl)) (Or.inr (own_w hw 101 rfl)) (by decide) (t := (.object "java/lang/String")) (t' := .int) (by decide) (by decide)))
  have f367 : Fld Z h358 a1 "com/example/hinagata/hinagata/RefusedException" "errorClass" "Lcom/example/hinagata/hinagata/ErrorClass;" (.ref a2) := f355.other W358 (Or.inr (slot_ne (Or.inr (own_w hw 99 rfl)) (Or.inr (own_w hw 101 rfl)) (by decide) (t := (.object "com/example/hinagata/hinagata/ErrorClass")) (t' := .int) (by decide) (by decide)))
  subst hPP
  refine ⟨_, _, X358.returnOut hx Bd.returns (hb hby dp16_1_15) hr360, hrun360, hend360, _, _, rfl, ?_, ⟨_, rfl⟩, hW360, hsm360.mono (by decide) (by decide)⟩
  · show Q_rexinit Z _ _ _ _ _ _ h0 _ T358.heap _
    rw [e358]
    exact ⟨rfl, N358, K363, f364, f366, f367, f359⟩
theorem ef_173 (m : MethodId) (x0 : Nat) : entryFrame m #[(.ref x0)] 1 = mkF m 0 #[.val (.ref x0)] [] := by first | (simp [entryFrame, mkF, argsToLocals, Value.category]; done) | rfl
theorem dj78_6_0 : decode jdk_78_method_6_code 0 = .ok (.aload_n 0, 1) := by decide +kernel
theorem dj78_6_1 : decode jdk_78_method_6_code 1 = .ok (.getfield 31, 3) := by decide +kernel
theorem dj78_6_4 : decode jdk_78_method_6_code 4 = .ok (.areturn, 1) := by decide +kernel
def Q_getMessage (Z : State) (a1 : Nat) (a2 : Nat) (h0 : Heap) (v : Option Value) (h : Heap) (L : List Loc) : Prop := v = some (.ref a2) ∧ Fr Z.heap.size L ∧ h = h0
set_option maxRecDepth 65536 in
set_option maxHeartbeats 40000000 in
theorem rm_getMessage (l : Launch) (Z : State) (a0 : Array Value) (hw : ∀ d ∈ tables_1, d.before a0 Z = true) (ws : List Jvm.Cond) (a1 : Nat) (a2 : Nat) (h0 : Heap) (OL : Old Z Z.heap.size h0) (p0_ : Fld Z h0 a1 "java/lang/Throwable" "detailMessage" "Ljava/lang/String;" (.ref a2)) :
    MetFree l mN21 (head1 (Jvm.Cond.code mN21 jdk_78_method_6_code 1 (some (.object "java/lang/String")) :: ws) rM0) (fun a U => a = #[(.ref a1)] ∧ Z.Warmed39 U.vm ∧ U.heap = h0) (fun _ _ _ _ _ => True) (fun _ U o U' => ∃ v L, o = .returned v ∧ Q_getMessage Z a1 a2 h0 v U'.heap L ∧ FrameEnd U o U' L rM0.cells rM0.slots) := by
  refine MetFree.of_bodySF (plainFor_of_name pn_126) hisR ?_
  intro p e s m args below meth c s₁ Bd hml0 hP hK
  obtain ⟨rfl, hZ, hh⟩ := hP
  have hx := Bd.exec
  have hby := Bd.bytes
  have hml : c.maxLocals = 1 := hml0
  have hown : s.vm.findClass "java/lang/Throwable" = some m.cls := findClass_of_methodNamed Bd.named
  have hnm := (name_of_methodNamed Bd.named Bd.method).1
  have X0 : Stand p l e rM0 s m #[(.ref a1)] below meth c s₁ [] 0 0 := Stand.of_body Bd
  have e0 : s₁.heap = h0 := by rw [← hh, Bd.state]; rfl
  have N0 := Fr.nil Z.heap.size
  have Z0 : Z.heap.size ≤ h0.size := OL.2.1
  have lt_0 : @LT.lt Nat _ a1 h0.size := p0_.lt
  show oG p.tables e below (fun o tE => ∃ v L, o = .returned v ∧ Q_getMessage Z a1 a2 h0 v tE.heap L ∧ FrameEnd s o tE L rM0.cells rM0.slots) (s₁.setTop (entryFrame m #[(.ref a1)] 1))
  refine own_hd (fun PP hPP => ?_)
  refine oG.st (fun t k => castTop (ef_173 m a1) k) ?_
  refine oG.st (fun _ k => XS.aloadN X0.here hx rfl (hb hby dj78_6_0) rfl rfl k) ?_
  show oG _ _ _ _ (s₁.setTop (mkF m 1 #[.val (.ref a1)] [(.ref a1)]))
  obtain ⟨T368, X368, e368, st368⟩ := getF X0 hx hZ hown (host := "") (Or.inl (own_w hw 97 rfl)) Via.refl e0 p0_ (g := (mkF m 1 #[.val (.ref a1)] [(.ref a1)])) rfl rfl (hb hby dj78_6_1)
  refine oG.st st368 ?_
  show oG _ _ _ _ (T368.setTop (mkF m 4 #[.val (.ref a1)] [(.ref a2)]))
  obtain ⟨fs369, hr369, hrun369, hend369, hW369, hsm369⟩ := X368.leave (v := some (.ref a2)) (fun h => by rw [Bd.returns] at h; cases h)
  subst hPP
  refine ⟨_, _, own_retA X368 hx Bd.returns rfl rfl (hb hby dj78_6_4) hr369, hrun369, hend369, _, _, rfl, ?_, ⟨_, rfl⟩, hW369, hsm369.mono (by decide) (by decide)⟩
  · show Q_getMessage Z _ _ h0 _ T368.heap _
    rw [e368]
    exact ⟨rfl, N0, rfl⟩
theorem pn_177 : plainName "java/lang/Record" = true := by first | (simp [plainName, overriddenIn]; done) | decide +kernel
theorem dj30_1_0 : decode jdk_30_method_1_code 0 = .ok (.aload_n 0, 1) := by decide +kernel
theorem dj30_1_1 : decode jdk_30_method_1_code 1 = .ok (.invokespecial 1, 3) := by decide +kernel
theorem dj30_1_4 : decode jdk_30_method_1_code 4 = .ok (.return_, 1) := by decide +kernel
def Q_record (Z : State) (a1 : Nat) (h0 : Heap) (v : Option Value) (h : Heap) (L : List Loc) : Prop := v = none ∧ Fr Z.heap.size L ∧ h = h0
set_option maxRecDepth 65536 in
set_option maxHeartbeats 40000000 in
theorem rm_record (l : Launch) (Z : State) (a0 : Array Value) (hw : ∀ d ∈ tables_1, d.before a0 Z = true) (ws : List Jvm.Cond) (a1 : Nat) (h0 : Heap) (OL : Old Z Z.heap.size h0) :
    MetFree l mN15 (head1 (Jvm.Cond.code mN15 jdk_30_method_1_code 1 none :: ws) rM1) (fun a U => a = #[(.ref a1)] ∧ Z.Warmed39 U.vm ∧ U.heap = h0) (fun _ _ _ _ _ => True) (fun _ U o U' => ∃ v L, o = .returned v ∧ Q_record Z a1 h0 v U'.heap L ∧ FrameEnd U o U' L rM1.cells rM1.slots) := by
  refine MetFree.of_bodySF (plainFor_of_name pn_177) hisR ?_
  intro p e s m args below meth c s₁ Bd hml0 hP hK
  obtain ⟨rfl, hZ, hh⟩ := hP
  have hx := Bd.exec
  have hby := Bd.bytes
  have hml : c.maxLocals = 1 := hml0
  have hown : s.vm.findClass "java/lang/Record" = some m.cls := findClass_of_methodNamed Bd.named
  have hnm := (name_of_methodNamed Bd.named Bd.method).1
  have X0 : Stand p l e rM1 s m #[(.ref a1)] below meth c s₁ [] 0 0 := Stand.of_body Bd
  have e0 : s₁.heap = h0 := by rw [← hh, Bd.state]; rfl
  have N0 := Fr.nil Z.heap.size
  have Z0 : Z.heap.size ≤ h0.size := OL.2.1
  show oG p.tables e below (fun o tE => ∃ v L, o = .returned v ∧ Q_record Z a1 h0 v tE.heap L ∧ FrameEnd s o tE L rM1.cells rM1.slots) (s₁.setTop (entryFrame m #[(.ref a1)] 1))
  refine own_hd (fun PP hPP => ?_)
  refine oG.st (fun t k => castTop (ef_173 m a1) k) ?_
  refine oG.st (fun _ k => XS.aloadN X0.here hx rfl (hb hby dj30_1_0) rfl rfl k) ?_
  show oG _ _ _ _ (s₁.setTop (mkF m 1 #[.val (.ref a1)] [(.ref a1)]))
  obtain ⟨T370, X370, e370, st370⟩ := initO X0 hx hZ hown (own_w hw 139 rfl) (own_w hw 22 rfl) (own_w hw 23 rfl) e0 (g := (mkF m 1 #[.val (.ref a1)] [(.ref a1)])) rfl (by rw [hml]; rfl) rfl (hb hby dj30_1_1) (by decide) (W := 0) (by show 2 * 0 + _ ≤ _; exact Nat.le_of_eq rfl) (by decide)
  refine oG.st st370 ?_
  show oG _ _ _ _ (T370.setTop (mkF m 4 #[.val (.ref a1)] []))
  obtain ⟨fs371, hr371, hrun371, hend371, hW371, hsm371⟩ := X370.leave (v := none) (fun _ => rfl)
  subst hPP
  refine ⟨_, _, X370.returnOut hx Bd.returns (hb hby dj30_1_4) hr371, hrun371, hend371, _, _, rfl, ?_, ⟨_, rfl⟩, hW371, hsm371.mono (by decide) (by decide)⟩
  · show Q_record Z _ h0 _ T370.heap _
    rw [e370]
    exact ⟨rfl, N0, rfl⟩
theorem pn_181 : plainName "java/util/Objects" = true := by first | (simp [plainName, overriddenIn]; done) | decide +kernel
theorem dj31_10_0 : decode jdk_31_method_10_code 0 = .ok (.aload_n 0, 1) := by decide +kernel
theorem dj31_10_1 : decode jdk_31_method_10_code 1 = .ok (.ifnonnull 11, 3) := by decide +kernel
theorem dj31_10_12 : decode jdk_31_method_10_code 12 = .ok (.aload_n 0, 1) := by decide +kernel
theorem dj31_10_13 : decode jdk_31_method_10_code 13 = .ok (.areturn, 1) := by decide +kernel
def Q_rnn (Z : State) (a1 : Nat) (h0 : Heap) (v : Option Value) (h : Heap) (L : List Loc) : Prop := v = some (.ref a1) ∧ Fr Z.heap.size L ∧ h = h0
set_option maxRecDepth 65536 in
set_option maxHeartbeats 40000000 in
theorem rm_rnn (l : Launch) (Z : State) (a0 : Array Value) (hw : ∀ d ∈ tables_1, d.before a0 Z = true) (ws : List Jvm.Cond) (a1 : Nat) (h0 : Heap) (OL : Old Z Z.heap.size h0) :
    MetFree l mN22 (head1 (Jvm.Cond.code mN22 jdk_31_method_10_code 1 (some (.object "java/lang/Object")) :: ws) rM0) (fun a U => a = #[(.ref a1)] ∧ Z.Warmed39 U.vm ∧ U.heap = h0) (fun _ _ _ _ _ => True) (fun _ U o U' => ∃ v L, o = .returned v ∧ Q_rnn Z a1 h0 v U'.heap L ∧ FrameEnd U o U' L rM0.cells rM0.slots) := by
  refine MetFree.of_bodySF (plainFor_of_name pn_181) hisR ?_
  intro p e s m args below meth c s₁ Bd hml0 hP hK
  obtain ⟨rfl, hZ, hh⟩ := hP
  have hx := Bd.exec
  have hby := Bd.bytes
  have hml : c.maxLocals = 1 := hml0
  have hown : s.vm.findClass "java/util/Objects" = some m.cls := findClass_of_methodNamed Bd.named
  have hnm := (name_of_methodNamed Bd.named Bd.method).1
  have X0 : Stand p l e rM0 s m #[(.ref a1)] below meth c s₁ [] 0 0 := Stand.of_body Bd
  have e0 : s₁.heap = h0 := by rw [← hh, Bd.state]; rfl
  have N0 := Fr.nil Z.heap.size
  have Z0 : Z.heap.size ≤ h0.size := OL.2.1
  show oG p.tables e below (fun o tE => ∃ v L, o = .returned v ∧ Q_rnn Z a1 h0 v tE.heap L ∧ FrameEnd s o tE L rM0.cells rM0.slots) (s₁.setTop (entryFrame m #[(.ref a1)] 1))
  refine own_hd (fun PP hPP => ?_)
  refine oG.st (fun t k => castTop (ef_173 m a1) k) ?_
  refine oG.st (fun _ k => XS.aloadN X0.here hx rfl (hb hby dj31_10_0) rfl rfl k) ?_
  show oG _ _ _ _ (s₁.setTop (mkF m 1 #[.val (.ref a1)] [(.ref a1)]))
  refine oG.st (fun _ k => XS.ifnonnullYes X0.here hx rfl (pc0 := 1) (pc' := 12) rfl (hb hby dj31_10_1) rfl (by decide) (by decide) k) ?_
  refine oG.st (fun _ k => XS.aloadN X0.here hx rfl (hb hby dj31_10_12) rfl rfl k) ?_
  show oG _ _ _ _ (s₁.setTop (mkF m 13 #[.val (.ref a1)] [(.ref a1)]))
  obtain ⟨fs372, hr372, hrun372, hend372, hW372, hsm372⟩ := X0.leave (v := some (.ref a1)) (fun h => by rw [Bd.returns] at h; cases h)
  subst hPP
  refine ⟨_, _, own_retA X0 hx Bd.returns rfl rfl (hb hby dj31_10_13) hr372, hrun372, hend372, _, _, rfl, ?_, ⟨_, rfl⟩, hW372, hsm372.mono (by decide) (by decide)⟩
  · show Q_rnn Z _ h0 _ s₁.heap _
    rw [e0]
    exact ⟨rfl, N0, rfl⟩
theorem pn_186 : plainName "java/util/OptionalInt" = true := by first | (simp [plainName, overriddenIn]; done) | decide +kernel
theorem ef_187 (m : MethodId) (x0 : Nat) (x1 : Int32) : entryFrame m #[(.ref x0), (.int x1)] 2 = mkF m 0 #[.val (.ref x0), .val (.int x1)] [] := by first | (simp [entryFrame, mkF, argsToLocals, Value.category]; done) | rfl
theorem dj2649_3_0 : decode cJ0 0 = .ok (.aload_n 0, 1) := by decide +kernel
theorem dj2649_3_1 : decode cJ0 1 = .ok (.invokespecial 1, 3) := by decide +kernel
theorem dj2649_3_4 : decode cJ0 4 = .ok (.aload_n 0, 1) := by decide +kernel
theorem dj2649_3_5 : decode cJ0 5 = .ok (.iconst 1, 1) := by decide +kernel
theorem dj2649_3_6 : decode cJ0 6 = .ok (.putfield 7, 3) := by decide +kernel
theorem dj2649_3_9 : decode cJ0 9 = .ok (.aload_n 0, 1) := by decide +kernel
theorem dj2649_3_10 : decode cJ0 10 = .ok (.iload_n 1, 1) := by decide +kernel
theorem dj2649_3_11 : decode cJ0 11 = .ok (.putfield 13, 3) := by decide +kernel
theorem dj2649_3_14 : decode cJ0 14 = .ok (.return_, 1) := by decide +kernel
def Q_oiinit (Z : State) (a1 : Nat) (p2 : Int32) (h0 : Heap) (v : Option Value) (h : Heap) (L : List Loc) : Prop := v = none ∧ Fr Z.heap.size L ∧ Keep h0 h [a1] ∧ Exa Z h a1 "java/util/OptionalInt" ∧ Fld Z h a1 "java/util/OptionalInt" "isPresent" "Z" (.int (1 : Int32)) ∧ Fld Z h a1 "java/util/OptionalInt" "value" "I" (.int p2)
set_option maxRecDepth 65536 in
set_option maxHeartbeats 40000000 in
theorem rm_oiinit (l : Launch) (Z : State) (a0 : Array Value) (hw : ∀ d ∈ tables_1, d.before a0 Z = true) (ws : List Jvm.Cond) (a1 : Nat) (p2 : Int32) (h0 : Heap) (OL : Old Z Z.heap.size h0) (p0_ : Exa Z h0 a1 "java/util/OptionalInt") (p1_ : Fld Z h0 a1 "java/util/OptionalInt" "isPresent" "Z" (.int (0 : Int32))) (p2_ : Fld Z h0 a1 "java/util/OptionalInt" "value" "I" (.int (0 : Int32))) (hn0 : Z.heap.size ≤ a1) :
    MetFree l mN27 (head1 (Jvm.Cond.code mN27 jdk_2649_method_3_code 2 none :: ws) rM1) (fun a U => a = #[(.ref a1), (.int p2)] ∧ Z.Warmed39 U.vm ∧ U.heap = h0) (fun _ _ _ _ _ => True) (fun _ U o U' => ∃ v L, o = .returned v ∧ Q_oiinit Z a1 p2 h0 v U'.heap L ∧ FrameEnd U o U' L rM1.cells rM1.slots) := by
  refine MetFree.of_bodySF (plainFor_of_name pn_186) hisR ?_
  intro p e s m args below meth c s₁ Bd hml0 hP hK
  obtain ⟨rfl, hZ, hh⟩ := hP
  have hx := Bd.exec
  have hby := Bd.bytes
  have hml : c.maxLocals = 2 := hml0
  have hown : s.vm.findClass "java/util/OptionalInt" = some m.cls := findClass_of_methodNamed Bd.named
  have hnm := (name_of_methodNamed Bd.named Bd.method).1
  have X0 : Stand p l e rM1 s m #[(.ref a1), (.int p2)] below meth c s₁ [] 0 0 := Stand.of_body Bd
  have e0 : s₁.heap = h0 := by rw [← hh, Bd.state]; rfl
  have N0 := Fr.nil Z.heap.size
  have Z0 : Z.heap.size ≤ h0.size := OL.2.1
  have lt_0 : @LT.lt Nat _ a1 h0.size := p0_.lt
  have lt_1 : @LT.lt Nat _ a1 h0.size := p1_.lt
  have lt_2 : @LT.lt Nat _ a1 h0.size := p2_.lt
  show oG p.tables e below (fun o tE => ∃ v L, o = .returned v ∧ Q_oiinit Z a1 p2 h0 v tE.heap L ∧ FrameEnd s o tE L rM1.cells rM1.slots) (s₁.setTop (entryFrame m #[(.ref a1), (.int p2)] 2))
  refine own_hd (fun PP hPP => ?_)
  refine oG.st (fun t k => castTop (ef_187 m a1 p2) k) ?_
  refine oG.st (fun _ k => XS.aloadN X0.here hx rfl (hb hby dj2649_3_0) rfl rfl k) ?_
  show oG _ _ _ _ (s₁.setTop (mkF m 1 #[.val (.ref a1), .val (.int p2)] [(.ref a1)]))
  obtain ⟨T373, X373, e373, st373⟩ := initO X0 hx hZ hown (own_w hw 117 rfl) (own_w hw 22 rfl) (own_w hw 23 rfl) e0 (g := (mkF m 1 #[.val (.ref a1), .val (.int p2)] [(.ref a1)])) rfl (by rw [hml]; rfl) rfl (hb hby dj2649_3_1) (by decide) (W := 0) (by show 2 * 0 + _ ≤ _; exact Nat.le_of_eq rfl) (by decide)
  refine oG.st st373 ?_
  refine oG.st (fun _ k => XS.aloadN X373.here hx rfl (hb hby dj2649_3_4) rfl rfl (XS.iconst X373.here hx rfl (hb hby dj2649_3_5) k)) ?_
  show oG _ _ _ _ (T373.setTop (mkF m 6 #[.val (.ref a1), .val (.int p2)] [(.int (1 : Int32)), (.ref a1)]))
  obtain ⟨T374, h374, X374, e374, W374, st374⟩ := putF X373 hx hZ hown (host := "") (Or.inl (own_w hw 118 rfl)) Via.refl e373 p1_ p0_ (Or.inr ⟨(own_w hw 119 rfl), rfl, hnm⟩) (own_w hw 112 rfl) (ty := .boolean) (by decide) rfl (by decide) (g := (mkF m 6 #[.val (.ref a1), .val (.int p2)] [(.int (1 : Int32)), (.ref a1)])) rfl rfl (hb hby dj2649_3_6)
  refine oG.st st374 ?_
  have gz375 : Z.heap.size ≤ a1 := by omega
  have N374 := Fr.snoc X374 N0 gz375
  have z374 : h0.size ≤ h374.size := Nat.le_of_eq W374.size.symm
  have f376 : Fld Z h374 a1 "java/util/OptionalInt" "isPresent" "Z" (.int (1 : Int32)) := p1_.same W374
  refine oG.st (fun _ k => XS.aloadN X374.here hx rfl (hb hby dj2649_3_9) rfl rfl (XS.iloadN X374.here hx rfl (hb hby dj2649_3_10) rfl k)) ?_
  show oG _ _ _ _ (T374.setTop (mkF m 11 #[.val (.ref a1), .val (.int p2)] [(.int p2), (.ref a1)]))
  have f377 : Fld Z h374 a1 "java/util/OptionalInt" "value" "I" (.int (0 : Int32)) := p2_.other W374 (Or.inr (slot_ne (Or.inr (own_w hw 121 rfl)) (Or.inr (own_w hw 119 rfl)) (by decide) (t := .int) (t' := .boolean) (by decide) (by decide)))
  have f378 : Exa Z h374 a1 "java/util/OptionalInt" := p0_.wr W374
  obtain ⟨T379, h379, X379, e379, W379, st379⟩ := putF X374 hx hZ hown (host := "") (Or.inl (own_w hw 120 rfl)) Via.refl e374 f377 f378 (Or.inr ⟨(own_w hw 121 rfl), rfl, hnm⟩) (own_w hw 112 rfl) (ty := .int) (by decide) rfl rfl (g := (mkF m 11 #[.val (.ref a1), .val (.int p2)] [(.int p2), (.ref a1)])) rfl rfl (hb hby dj2649_3_11)
  refine oG.st st379 ?_
  have N379 := Fr.snoc X379 N374 gz375
  have z379 : h374.size ≤ h379.size := Nat.le_of_eq W379.size.symm
  have f380 : Fld Z h379 a1 "java/util/OptionalInt" "value" "I" (.int p2) := f377.same W379
  show oG _ _ _ _ (T379.setTop (mkF m 14 #[.val (.ref a1), .val (.int p2)] []))
  obtain ⟨fs381, hr381, hrun381, hend381, hW381, hsm381⟩ := X379.leave (v := none) (fun _ => rfl)
  have K382 : Keep h0 h374 [a1] := (Keep.refl h0 [a1]).wr W374 (Or.inl (List.mem_of_getElem? (i := 0) rfl))
  have K383 : Keep h0 h379 [a1] := K382.wr W379 (Or.inl (List.mem_of_getElem? (i := 0) rfl))
  have f384 : Exa Z h379 a1 "java/util/OptionalInt" := f378.wr W379
  have f385 : Fld Z h379 a1 "java/util/OptionalInt" "isPresent" "Z" (.int (1 : Int32)) := f376.other W379 (Or.inr (slot_ne (Or.inr (own_w hw 119 rfl)) (Or.inr (own_w hw 121 rfl)) (by decide) (t := .boolean) (t' := .int) (by decide) (by decide)))
  subst hPP
  refine ⟨_, _, X379.returnOut hx Bd.returns (hb hby dj2649_3_14) hr381, hrun381, hend381, _, _, rfl, ?_, ⟨_, rfl⟩, hW381, hsm381.mono (by decide) (by decide)⟩
  · show Q_oiinit Z _ _ h0 _ T379.heap _
    rw [e379]
    exact ⟨rfl, N379, K383, f384, f385, f380⟩
theorem dj2649_4_0 : decode jdk_2649_method_4_code 0 = .ok (.new 8, 3) := by decide +kernel
theorem dj2649_4_3 : decode jdk_2649_method_4_code 3 = .ok (.dup, 1) := by decide +kernel
theorem dj2649_4_4 : decode jdk_2649_method_4_code 4 = .ok (.iload_n 0, 1) := by decide +kernel
theorem pd_200 : parseMethodDescriptor "(I)V" = some ⟨[.int], none⟩ := by decide +kernel
theorem dj2649_4_5 : decode jdk_2649_method_4_code 5 = .ok (.invokespecial 21, 3) := by decide +kernel
theorem dj2649_4_8 : decode jdk_2649_method_4_code 8 = .ok (.areturn, 1) := by decide +kernel
def Q_oiof (Z : State) (p1 : Int32) (h0 : Heap) (v : Option Value) (h : Heap) (L : List Loc) : Prop := ∃ (x : Nat), v = some (.ref x) ∧ Fr Z.heap.size L ∧ Keep h0 h [] ∧ Exa Z h x "java/util/OptionalInt" ∧ Fld Z h x "java/util/OptionalInt" "isPresent" "Z" (.int (1 : Int32)) ∧ Fld Z h x "java/util/OptionalInt" "value" "I" (.int p1) ∧ (h0.size ≤ x)
set_option maxRecDepth 65536 in
set_option maxHeartbeats 40000000 in
theorem rm_oiof (l : Launch) (Z : State) (a0 : Array Value) (hw : ∀ d ∈ tables_1, d.before a0 Z = true) (ws : List Jvm.Cond) (p1 : Int32) (h0 : Heap) (OL : Old Z Z.heap.size h0) :
    MetFree l mN31 (head1 (Jvm.Cond.code mN31 jdk_2649_method_4_code 1 (some (.object "java/util/OptionalInt")) :: ws) rM4) (fun a U => a = #[(.int p1)] ∧ Z.Warmed39 U.vm ∧ U.heap = h0) (fun _ _ _ _ _ => True) (fun _ U o U' => ∃ v L, o = .returned v ∧ Q_oiof Z p1 h0 v U'.heap L ∧ FrameEnd U o U' L rM4.cells rM4.slots) := by
  refine MetFree.of_bodySF (plainFor_of_name pn_186) hisR ?_
  intro p e s m args below meth c s₁ Bd hml0 hP hK
  obtain ⟨rfl, hZ, hh⟩ := hP
  have hx := Bd.exec
  have hby := Bd.bytes
  have hml : c.maxLocals = 1 := hml0
  have hown : s.vm.findClass "java/util/OptionalInt" = some m.cls := findClass_of_methodNamed Bd.named
  have hnm := (name_of_methodNamed Bd.named Bd.method).1
  have X0 : Stand p l e rM4 s m #[(.int p1)] below meth c s₁ [] 0 0 := Stand.of_body Bd
  have e0 : s₁.heap = h0 := by rw [← hh, Bd.state]; rfl
  have N0 := Fr.nil Z.heap.size
  have Z0 : Z.heap.size ≤ h0.size := OL.2.1
  show oG p.tables e below (fun o tE => ∃ v L, o = .returned v ∧ Q_oiof Z p1 h0 v tE.heap L ∧ FrameEnd s o tE L rM4.cells rM4.slots) (s₁.setTop (entryFrame m #[(.int p1)] 1))
  refine own_hd (fun PP hPP => ?_)
  refine oG.st (fun t k => castTop (ef_26 m p1) k) ?_
  show oG _ _ _ _ (s₁.setTop (mkF m 0 #[.val (.int p1)] []))
  obtain ⟨T386, h386, X386, e386, E386, A386, D386, U386, st386⟩ := newO X0 hx hZ hown (own_w hw 111 rfl) (own_w hw 112 rfl) (own_w hw 109 rfl) e0 (g := (mkF m 0 #[.val (.int p1)] [])) rfl (hb hby dj2649_4_0) (by decide) (by decide)
  obtain ⟨b386, g386⟩ : ∃ z, z = h0.size := ⟨_, rfl⟩
  rw [← g386] at A386 D386 U386 st386
  refine oG.st st386 ?_
  have z386 : h0.size ≤ h386.size := E386.1
  have lt_b386 : @LT.lt Nat _ b386 h386.size := A386.lt
  have f387 : Fld Z h386 b386 "java/util/OptionalInt" "isPresent" "Z" (.int (0 : Int32)) := D386 (Or.inr (own_w hw 119 rfl)) (ty := .boolean) (by decide)
  have f388 : Fld Z h386 b386 "java/util/OptionalInt" "value" "I" (.int (0 : Int32)) := D386 (Or.inr (own_w hw 121 rfl)) (ty := .int) (by decide)
  refine oG.st (fun _ k => XS.dup X386.here hx rfl (hb hby dj2649_4_3) rfl rfl (XS.iloadN X386.here hx rfl (hb hby dj2649_4_4) rfl k)) ?_
  show oG _ _ _ _ (T386.setTop (mkF m 5 #[.val (.int p1)] [(.int p1), (.ref b386), (.ref b386)]))
  have f390 : Old Z Z.heap.size h386 := OL.ext E386
  obtain ⟨_, _, ⟨T389, L389, k389, n389⟩, -, X389, ⟨Lc389, hQ389, l389, y389, z389⟩, st389⟩ := X386.specialBack hx (y := mN27) rfl hown (own_v hZ hw 113 rfl) (own_v hZ hw 114 rfl) (own_v hZ hw 116 rfl) (by decide) (backOf (W := 1) (rm_oiinit l Z a0 hw [] b386 p1 h386 f390 A386 f387 f388 (by omega)) hZ (own_w hw 116 rfl) (own_w hw 109 rfl) (by decide) (by decide)) (g := (mkF m 5 #[.val (.int p1)] [(.int p1), (.ref b386), (.ref b386)])) rfl (by rw [hml]; rfl) (Steps.refl _) (a := b386) (argsL := [(.int p1)]) (rest := [(.ref b386)]) (lenOf pd_200 rfl) rfl (by show 2 * 0 + _ ≤ _; exact Nat.le_of_eq rfl) (hb hby dj2649_4_5) (fun _ _ => ⟨rfl, e386, (by decide : 1 + 0 ≤ _), (by decide : 2 + 0 ≤ _)⟩)
  dsimp only [Pt.U, Pt.locs, Pt.cells, Pt.slots] at X389 l389 y389 z389 st389 hQ389
  subst l389 y389 z389
  obtain ⟨rfl, N389q, K389, f389_0, f389_1, f389_2⟩ := hQ389
  have N389 := Fr.app N0 N389q
  have z389 : h386.size ≤ T389.heap.size := K389.1
  have lt389_0 : @LT.lt Nat _ b386 T389.heap.size := f389_0.lt
  have lt389_1 : @LT.lt Nat _ b386 T389.heap.size := f389_1.lt
  have lt389_2 : @LT.lt Nat _ b386 T389.heap.size := f389_2.lt
  refine oG.tr st389 ?_
  show oG _ _ _ _ (T389.setTop (mkF m 8 #[.val (.int p1)] [(.ref b386)]))
  obtain ⟨fs391, hr391, hrun391, hend391, hW391, hsm391⟩ := X389.leave (v := some (.ref b386)) (fun h => by rw [Bd.returns] at h; cases h)
  have K392 : Keep h0 h386 [] := (Keep.refl h0 []).ext E386
  have gz393 : h0.size ≤ b386 := by omega
  have K394 : Keep h0 T389.heap [] := K392.trans K389 (allS (Or.inr gz393) all0)
  subst hPP
  refine ⟨_, _, own_retA X389 hx Bd.returns rfl rfl (hb hby dj2649_4_8) hr391, hrun391, hend391, _, _, rfl, ?_, ⟨_, rfl⟩, hW391, hsm391.mono (by decide) (by decide)⟩
  · show Q_oiof Z _ h0 _ T389.heap _
    exact ⟨b386, rfl, N389, K394, f389_0, f389_1, f389_2, (by omega)⟩
theorem ef_203 (m : MethodId)  : entryFrame m #[] 0 = mkF m 0 #[] [] := by first | (simp [entryFrame, mkF, argsToLocals, Value.category]; done) | rfl
theorem dj2649_2_0 : decode jdk_2649_method_2_code 0 = .ok (.getstatic 17, 3) := by decide +kernel
theorem dj2649_2_3 : decode jdk_2649_method_2_code 3 = .ok (.areturn, 1) := by decide +kernel
def Q_oiempty (Z : State) (oe : Nat) (h0 : Heap) (v : Option Value) (h : Heap) (L : List Loc) : Prop := v = some (.ref oe) ∧ Fr Z.heap.size L ∧ h = h0
set_option maxRecDepth 65536 in
set_option maxHeartbeats 40000000 in
theorem rm_oiempty (l : Launch) (Z : State) (a0 : Array Value) (hw : ∀ d ∈ tables_1, d.before a0 Z = true) (ws : List Jvm.Cond) (oe : Nat) (h0 : Heap) (OL : Old Z Z.heap.size h0) (st_EMPTY : Sta Z Z.heap "java/util/OptionalInt" "EMPTY" "Ljava/util/OptionalInt;" (.ref oe)) :
    MetFree l mN28 (head1 (Jvm.Cond.code mN28 jdk_2649_method_2_code 0 (some (.object "java/util/OptionalInt")) :: ws) rM0) (fun a U => a = #[] ∧ Z.Warmed39 U.vm ∧ U.heap = h0) (fun _ _ _ _ _ => True) (fun _ U o U' => ∃ v L, o = .returned v ∧ Q_oiempty Z oe h0 v U'.heap L ∧ FrameEnd U o U' L rM0.cells rM0.slots) := by
  refine MetFree.of_bodySF (plainFor_of_name pn_186) hisR ?_
  intro p e s m args below meth c s₁ Bd hml0 hP hK
  obtain ⟨rfl, hZ, hh⟩ := hP
  have hx := Bd.exec
  have hby := Bd.bytes
  have hml : c.maxLocals = 0 := hml0
  have hown : s.vm.findClass "java/util/OptionalInt" = some m.cls := findClass_of_methodNamed Bd.named
  have hnm := (name_of_methodNamed Bd.named Bd.method).1
  have X0 : Stand p l e rM0 s m #[] below meth c s₁ [] 0 0 := Stand.of_body Bd
  have e0 : s₁.heap = h0 := by rw [← hh, Bd.state]; rfl
  have N0 := Fr.nil Z.heap.size
  have Z0 : Z.heap.size ≤ h0.size := OL.2.1
  show oG p.tables e below (fun o tE => ∃ v L, o = .returned v ∧ Q_oiempty Z oe h0 v tE.heap L ∧ FrameEnd s o tE L rM0.cells rM0.slots) (s₁.setTop (entryFrame m #[] 0))
  refine own_hd (fun PP hPP => ?_)
  refine oG.st (fun t k => castTop (ef_203 m ) k) ?_
  show oG _ _ _ _ (s₁.setTop (mkF m 0 #[] []))
  obtain ⟨T395, X395, e395, st395⟩ := getS2 X0 hx hZ hown (host := "") (Or.inl (own_w hw 236 rfl)) Via.refl e0 (st_EMPTY.ext OL.2) (g := (mkF m 0 #[] [])) rfl (hb hby dj2649_2_0)
  refine oG.st st395 ?_
  show oG _ _ _ _ (T395.setTop (mkF m 3 #[] [(.ref oe)]))
  obtain ⟨fs396, hr396, hrun396, hend396, hW396, hsm396⟩ := X395.leave (v := some (.ref oe)) (fun h => by rw [Bd.returns] at h; cases h)
  subst hPP
  refine ⟨_, _, own_retA X395 hx Bd.returns rfl rfl (hb hby dj2649_2_3) hr396, hrun396, hend396, _, _, rfl, ?_, ⟨_, rfl⟩, hW396, hsm396.mono (by decide) (by decide)⟩
  · show Q_oiempty Z _ h0 _ T395.heap _
    rw [e395]
    exact ⟨rfl, N0, rfl⟩
theorem pn_206 : plainName "com/example/hinagata/hinagata/Refusal" = true := by first | (simp [plainName, overriddenIn]; done) | decide +kernel
theorem ef_207 (m : MethodId) (x0 : Nat) (x1 : Nat) (x2 : Nat) (x3 : Nat) : entryFrame m #[(.ref x0), (.ref x1), (.ref x2), (.ref x3)] 4 = mkF m 0 #[.val (.ref x0), .val (.ref x1), .val (.ref x2), .val (.ref x3)] [] := by first | (simp [entryFrame, mkF, argsToLocals, Value.category]; done) | rfl
theorem dp15_1_0 : decode cJ13 0 = .ok (.aload_n 0, 1) := by decide +kernel
theorem pd_209 : parseMethodDescriptor "()V" = some ⟨[], none⟩ := by decide +kernel
theorem dp15_1_1 : decode cJ13 1 = .ok (.invokespecial 1, 3) := by decide +kernel
theorem dp15_1_4 : decode cJ13 4 = .ok (.aload_n 1, 1) := by decide +kernel
theorem pd_212 : parseMethodDescriptor "(Ljava/lang/Object;)Ljava/lang/Object;" = some ⟨[(.object "java/lang/Object")], some (.object "java/lang/Object")⟩ := by decide +kernel
theorem dp15_1_5 : decode cJ13 5 = .ok (.invokestatic 7, 3) := by decide +kernel
theorem dp15_1_8 : decode cJ13 8 = .ok (.pop, 1) := by decide +kernel
theorem dp15_1_9 : decode cJ13 9 = .ok (.aload_n 2, 1) := by decide +kernel
theorem dp15_1_10 : decode cJ13 10 = .ok (.invokestatic 7, 3) := by decide +kernel
theorem dp15_1_13 : decode cJ13 13 = .ok (.pop, 1) := by decide +kernel
theorem dp15_1_14 : decode cJ13 14 = .ok (.aload_n 3, 1) := by decide +kernel
theorem dp15_1_15 : decode cJ13 15 = .ok (.invokestatic 7, 3) := by decide +kernel
theorem dp15_1_18 : decode cJ13 18 = .ok (.pop, 1) := by decide +kernel
theorem dp15_1_19 : decode cJ13 19 = .ok (.aload_n 0, 1) := by decide +kernel
theorem dp15_1_20 : decode cJ13 20 = .ok (.aload_n 1, 1) := by decide +kernel
theorem dp15_1_21 : decode cJ13 21 = .ok (.putfield 13, 3) := by decide +kernel
theorem dp15_1_24 : decode cJ13 24 = .ok (.aload_n 0, 1) := by decide +kernel
theorem dp15_1_25 : decode cJ13 25 = .ok (.aload_n 2, 1) := by decide +kernel
theorem dp15_1_26 : decode cJ13 26 = .ok (.putfield 19, 3) := by decide +kernel
theorem dp15_1_29 : decode cJ13 29 = .ok (.aload_n 0, 1) := by decide +kernel
theorem dp15_1_30 : decode cJ13 30 = .ok (.aload_n 3, 1) := by decide +kernel
theorem dp15_1_31 : decode cJ13 31 = .ok (.putfield 23, 3) := by decide +kernel
theorem dp15_1_34 : decode cJ13 34 = .ok (.return_, 1) := by decide +kernel
def Q_rfinit (Z : State) (a1 : Nat) (a2 : Nat) (a3 : Nat) (a4 : Nat) (h0 : Heap) (v : Option Value) (h : Heap) (L : List Loc) : Prop := v = none ∧ Fr Z.heap.size L ∧ Keep h0 h [a1] ∧ Exa Z h a1 "com/example/hinagata/hinagata/Refusal" ∧ Fld Z h a1 "com/example/hinagata/hinagata/Refusal" "errorClass" "Lcom/example/hinagata/hinagata/ErrorClass;" (.ref a2) ∧ Fld Z h a1 "com/example/hinagata/hinagata/Refusal" "operation" "Ljava/util/OptionalInt;" (.ref a3) ∧ Fld Z h a1 "com/example/hinagata/hinagata/Refusal" "reason" "Ljava/lang/String;" (.ref a4)
set_option maxRecDepth 65536 in
set_option maxHeartbeats 40000000 in
theorem rm_rfinit (l : Launch) (Z : State) (a0 : Array Value) (hw : ∀ d ∈ tables_1, d.before a0 Z = true) (ws : List Jvm.Cond) (a1 : Nat) (a2 : Nat) (a3 : Nat) (a4 : Nat) (h0 : Heap) (OL : Old Z Z.heap.size h0) (p0_ : Exa Z h0 a1 "com/example/hinagata/hinagata/Refusal") (p1_ : Fld Z h0 a1 "com/example/hinagata/hinagata/Refusal" "errorClass" "Lcom/example/hinagata/hinagata/ErrorClass;" .null) (p2_ : Fld Z h0 a1 "com/example/hinagata/hinagata/Refusal" "operation" "Ljava/util/OptionalInt;" .null) (p3_ : Fld Z h0 a1 "com/example/hinagata/hinagata/Refusal" "reason" "Ljava/lang/String;" .null) (hn0 : Z.heap.size ≤ a1) :
    MetFree l mN4 (head1 (Jvm.Cond.code mN4 prog_15_method_1_code 4 none :: ws) rM3) (fun a U => a = #[(.ref a1), (.ref a2), (.ref a3), (.ref a4)] ∧ Z.Warmed39 U.vm ∧ U.heap = h0) (fun _ _ _ _ _ => True) (fun _ U o U' => ∃ v L, o = .returned v ∧ Q_rfinit Z a1 a2 a3 a4 h0 v U'.heap L ∧ FrameEnd U o U' L rM3.cells rM3.slots) := by
  refine MetFree.of_bodySF (plainFor_of_name pn_206) hisR ?_
  intro p e s m args below meth c s₁ Bd hml0 hP hK
  obtain ⟨rfl, hZ, hh⟩ := hP
  have hx := Bd.exec
  have hby := Bd.bytes
  have hml : c.maxLocals = 4 := hml0
  have hown : s.vm.findClass "com/example/hinagata/hinagata/Refusal" = some m.cls := findClass_of_methodNamed Bd.named
  have hnm := (name_of_methodNamed Bd.named Bd.method).1
  have X0 : Stand p l e rM3 s m #[(.ref a1), (.ref a2), (.ref a3), (.ref a4)] below meth c s₁ [] 0 0 := Stand.of_body Bd
  have e0 : s₁.heap = h0 := by rw [← hh, Bd.state]; rfl
  have N0 := Fr.nil Z.heap.size
  have Z0 : Z.heap.size ≤ h0.size := OL.2.1
  have lt_0 : @LT.lt Nat _ a1 h0.size := p0_.lt
  have lt_1 : @LT.lt Nat _ a1 h0.size := p1_.lt
  have lt_2 : @LT.lt Nat _ a1 h0.size := p2_.lt
  have lt_3 : @LT.lt Nat _ a1 h0.size := p3_.lt
  show oG p.tables e below (fun o tE => ∃ v L, o = .returned v ∧ Q_rfinit Z a1 a2 a3 a4 h0 v tE.heap L ∧ FrameEnd s o tE L rM3.cells rM3.slots) (s₁.setTop (entryFrame m #[(.ref a1), (.ref a2), (.ref a3), (.ref a4)] 4))
  refine own_hd (fun PP hPP => ?_)
  refine oG.st (fun t k => castTop (ef_207 m a1 a2 a3 a4) k) ?_
  refine oG.st (fun _ k => XS.aloadN X0.here hx rfl (hb hby dp15_1_0) rfl rfl k) ?_
  show oG _ _ _ _ (s₁.setTop (mkF m 1 #[.val (.ref a1), .val (.ref a2), .val (.ref a3), .val (.ref a4)] [(.ref a1)]))
  obtain ⟨_, _, ⟨T397, L397, k397, n397⟩, -, X397, ⟨Lc397, hQ397, l397, y397, z397⟩, st397⟩ := X0.specialBack hx (y := mN15) rfl hown (own_v hZ hw 134 rfl) (own_v hZ hw 135 rfl) (own_v hZ hw 138 rfl) (by decide) (backOf (W := 0) (rm_record l Z a0 hw [] a1 h0 OL ) hZ (own_w hw 138 rfl) (own_w hw 137 rfl) (by decide) (by decide)) (g := (mkF m 1 #[.val (.ref a1), .val (.ref a2), .val (.ref a3), .val (.ref a4)] [(.ref a1)])) rfl (by rw [hml]; rfl) (Steps.refl _) (a := a1) (argsL := []) (rest := []) (lenOf pd_209 rfl) rfl (by show 2 * 0 + _ ≤ _; exact Nat.le_of_eq rfl) (hb hby dp15_1_1) (fun _ _ => ⟨rfl, e0, (by decide : 0 + 0 ≤ _), (by decide : 0 + 0 ≤ _)⟩)
  dsimp only [Pt.U, Pt.locs, Pt.cells, Pt.slots] at X397 l397 y397 z397 st397 hQ397
  subst l397 y397 z397
  obtain ⟨rfl, N397q, K397⟩ := hQ397
  have N397 := Fr.app N0 N397q
  refine oG.tr st397 ?_
  refine oG.st (fun _ k => XS.aloadN X397.here hx rfl (hb hby dp15_1_4) rfl rfl k) ?_
  show oG _ _ _ _ (T397.setTop (mkF m 5 #[.val (.ref a1), .val (.ref a2), .val (.ref a3), .val (.ref a4)] [(.ref a2)]))
  obtain ⟨_, _, ⟨T398, L398, k398, n398⟩, -, X398, ⟨Lc398, hQ398, l398, y398, z398⟩, st398⟩ := Jvm.LawKit.callS X397 hx (y := mN22) hown (own_v hZ hw 140 rfl) (own_v hZ hw 141 rfl) (own_v hZ hw 142 rfl) (own_v hZ hw 143 rfl) (by decide) (backOf (W := 0) (rm_rnn l Z a0 hw [] a2 h0 OL ) hZ (own_w hw 143 rfl) (own_w hw 142 rfl) (by decide) (by decide)) (g := (mkF m 5 #[.val (.ref a1), .val (.ref a2), .val (.ref a3), .val (.ref a4)] [(.ref a2)])) rfl (by rw [hml]; rfl) (argsL := [(.ref a2)]) (rest := []) (lenOf pd_212 rfl) rfl (by show 2 * 0 + _ ≤ _; exact Nat.le_of_eq rfl) (hb hby dp15_1_5) (fun _ _ => ⟨rfl, K397, (by decide : 0 + 0 ≤ _), (by decide : 0 + 0 ≤ _)⟩)
  dsimp only [Pt.U, Pt.locs, Pt.cells, Pt.slots] at X398 l398 y398 z398 st398 hQ398
  subst l398 y398 z398
  obtain ⟨rfl, N398q, K398⟩ := hQ398
  have N398 := Fr.app N397 N398q
  refine oG.st st398 ?_
  refine oG.st (fun _ k => XS.pop X398.here hx rfl (hb hby dp15_1_8) rfl rfl (XS.aloadN X398.here hx rfl (hb hby dp15_1_9) rfl rfl k)) ?_
  show oG _ _ _ _ (T398.setTop (mkF m 10 #[.val (.ref a1), .val (.ref a2), .val (.ref a3), .val (.ref a4)] [(.ref a3)]))
  obtain ⟨_, _, ⟨T399, L399, k399, n399⟩, -, X399, ⟨Lc399, hQ399, l399, y399, z399⟩, st399⟩ := Jvm.LawKit.callS X398 hx (y := mN22) hown (own_v hZ hw 140 rfl) (own_v hZ hw 141 rfl) (own_v hZ hw 142 rfl) (own_v hZ hw 143 rfl) (by decide) (backOf (W := 0) (rm_rnn l Z a0 hw [] a3 h0 OL ) hZ (own_w hw 143 rfl) (own_w hw 142 rfl) (by decide) (by decide)) (g := (mkF m 10 #[.val (.ref a1), .val (.ref a2), .val (.ref a3), .val (.ref a4)] [(.ref a3)])) rfl (by rw [hml]; rfl) (argsL := [(.ref a3)]) (rest := []) (lenOf pd_212 rfl) rfl (by show 2 * 0 + _ ≤ _; exact Nat.le_of_eq rfl) (hb hby dp15_1_10) (fun _ _ => ⟨rfl, K398, (by decide : 0 + 0 ≤ _), (by decide : 0 + 0 ≤ _)⟩)
  dsimp only [Pt.U, Pt.locs, Pt.cells, Pt.slots] at X399 l399 y399 z399 st399 hQ399
  subst l399 y399 z399
  obtain ⟨rfl, N399q, K399⟩ := hQ399
  have N399 := Fr.app N398 N399q
  refine oG.st st399 ?_
  refine oG.st (fun _ k => XS.pop X399.here hx rfl (hb hby dp15_1_13) rfl rfl (XS.aloadN X399.here hx rfl (hb hby dp15_1_14) rfl rfl k)) ?_
  show oG _ _ _ _ (T399.setTop (mkF m 15 #[.val (.ref a1), .val (.ref a2), .val (.ref a3), .val (.ref a4)] [(.ref a4)]))
  obtain ⟨_, _, ⟨T400, L400, k400, n400⟩, -, X400, ⟨Lc400, hQ400, l400, y400, z400⟩, st400⟩ := Jvm.LawKit.callS X399 hx (y := mN22) hown (own_v hZ hw 140 rfl) (own_v hZ hw 141 rfl) (own_v hZ hw 142 rfl) (own_v hZ hw 143 rfl) (by decide) (backOf (W := 0) (rm_rnn l Z a0 hw [] a4 h0 OL ) hZ (own_w hw 143 rfl) (own_w hw 142 rfl) (by decide) (by decide)) (g := (mkF m 15 #[.val (.ref a1), .val (.ref a2), .val (.ref a3), .val (.ref a4)] [(.ref a4)])) rfl (by rw [hml]; rfl) (argsL := [(.ref a4)]) (rest := []) (lenOf pd_212 rfl) rfl (by show 2 * 0 + _ ≤ _; exact Nat.le_of_eq rfl) (hb hby dp15_1_15) (fun _ _ => ⟨rfl, K399, (by decide : 0 + 0 ≤ _), (by decide : 0 + 0 ≤ _)⟩)
  dsimp only [Pt.U, Pt.locs, Pt.cells, Pt.slots] at X400 l400 y400 z400 st400 hQ400
  subst l400 y400 z400
  obtain ⟨rfl, N400q, K400⟩ := hQ400
  have N400 := Fr.app N399 N400q
  refine oG.st st400 ?_
  refine oG.st (fun _ k => XS.pop X400.here hx rfl (hb hby dp15_1_18) rfl rfl (XS.aloadN X400.here hx rfl (hb hby dp15_1_19) rfl rfl (XS.aloadN X400.here hx rfl (hb hby dp15_1_20) rfl rfl k))) ?_
  show oG _ _ _ _ (T400.setTop (mkF m 21 #[.val (.ref a1), .val (.ref a2), .val (.ref a3), .val (.ref a4)] [(.ref a2), (.ref a1)]))
  obtain ⟨T401, h401, X401, e401, W401, st401⟩ := putF X400 hx hZ hown (host := "") (Or.inl (own_w hw 144 rfl)) Via.refl K400 p1_ p0_ (Or.inr ⟨(own_w hw 145 rfl), rfl, hnm⟩) (own_w hw 123 rfl) (ty := (.object "com/example/hinagata/hinagata/ErrorClass")) (by decide) rfl rfl (g := (mkF m 21 #[.val (.ref a1), .val (.ref a2), .val (.ref a3), .val (.ref a4)] [(.ref a2), (.ref a1)])) rfl rfl (hb hby dp15_1_21)
  refine oG.st st401 ?_
  have gz402 : Z.heap.size ≤ a1 := by omega
  have N401 := Fr.snoc X401 N400 gz402
  have z401 : h0.size ≤ h401.size := Nat.le_of_eq W401.size.symm
  have f403 : Fld Z h401 a1 "com/example/hinagata/hinagata/Refusal" "errorClass" "Lcom/example/hinagata/hinagata/ErrorClass;" (.ref a2) := p1_.same W401
  refine oG.st (fun _ k => XS.aloadN X401.here hx rfl (hb hby dp15_1_24) rfl rfl (XS.aloadN X401.here hx rfl (hb hby dp15_1_25) rfl rfl k)) ?_
  show oG _ _ _ _ (T401.setTop (mkF m 26 #[.val (.ref a1), .val (.ref a2), .val (.ref a3), .val (.ref a4)] [(.ref a3), (.ref a1)]))
  have f404 : Fld Z h401 a1 "com/example/hinagata/hinagata/Refusal" "operation" "Ljava/util/OptionalInt;" .null := p2_.other W401 (Or.inr (slot_ne (Or.inr (own_w hw 147 rfl)) (Or.inr (own_w hw 145 rfl)) (by decide) (t := (.object "java/util/OptionalInt")) (t' := (.object "com/example/hinagata/hinagata/ErrorClass")) (by decide) (by decide)))
  have f405 : Exa Z h401 a1 "com/example/hinagata/hinagata/Refusal" := p0_.wr W401
  obtain ⟨T406, h406, X406, e406, W406, st406⟩ := putF X401 hx hZ hown (host := "") (Or.inl (own_w hw 146 rfl)) Via.refl e401 f404 f405 (Or.inr ⟨(own_w hw 147 rfl), rfl, hnm⟩) (own_w hw 123 rfl) (ty := (.object "java/util/OptionalInt")) (by decide) rfl rfl (g := (mkF m 26 #[.val (.ref a1), .val (.ref a2), .val (.ref a3), .val (.ref a4)] [(.ref a3), (.ref a1)])) rfl rfl (hb hby dp15_1_26)
  refine oG.st st406 ?_
  have N406 := Fr.snoc X406 N401 gz402
  have z406 : h401.size ≤ h406.size := Nat.le_of_eq W406.size.symm
  have f407 : Fld Z h406 a1 "com/example/hinagata/hinagata/Refusal" "operation" "Ljava/util/OptionalInt;" (.ref a3) := f404.same W406
  refine oG.st (fun _ k => XS.aloadN X406.here hx rfl (hb hby dp15_1_29) rfl rfl (XS.aloadN X406.here hx rfl (hb hby dp15_1_30) rfl rfl k)) ?_
  show oG _ _ _ _ (T406.setTop (mkF m 31 #[.val (.ref a1), .val (.ref a2), .val (.ref a3), .val (.ref a4)] [(.ref a4), (.ref a1)]))
  have f408 : Fld Z h401 a1 "com/example/hinagata/hinagata/Refusal" "reason" "Ljava/lang/String;" .null := p3_.other W401 (Or.inr (slot_ne (Or.inr (own_w hw 149 rfl)) (Or.inr (own_w hw 145 rfl)) (by decide) (t := (.object "java/lang/String")) (t' := (.object "com/example/hinagata/hinagata/ErrorClass")) (by decide) (by decide)))
  have f409 : Fld Z h406 a1 "com/example/hinagata/hinagata/Refusal" "reason" "Ljava/lang/String;" .null := f408.other W406 (Or.inr (slot_ne (Or.inr (own_w hw 149 rfl)) (Or.inr (own_w hw 147 rfl)) (by decide) (t := (.object "java/lang/String")) (t' := (.object "java/util/OptionalInt")) (by decide) (by decide)))
  have f410 : Exa Z h406 a1 "com/example/hinagata/hinagata/Refusal" := f405.wr W406
  obtain ⟨T411, h411, X411, e411, W411, st411⟩ := putF X406 hx hZ hown (host := "") (Or.inl (own_w hw 148 rfl)) Via.refl e406 f409 f410 (Or.inr ⟨(own_w hw 149 rfl), rfl, hnm⟩) (own_w hw 123 rfl) (ty := (.object "java/lang/String")) (by decide) rfl rfl (g := (mkF m 31 #[.val (.ref a1), .val (.ref a2), .val (.ref a3), .val (.ref a4)] [(.ref a4), (.ref a1)])) rfl rfl (hb hby dp15_1_31)
  refine oG.st st411 ?_
  have N411 := Fr.snoc X411 N406 gz402
  have z411 : h406.size ≤ h411.size := Nat.le_of_eq W411.size.symm
  have f412 : Fld Z h411 a1 "com/example/hinagata/hinagata/Refusal" "reason" "Ljava/lang/String;" (.ref a4) := f409.same W411
  show oG _ _ _ _ (T411.setTop (mkF m 34 #[.val (.ref a1), .val (.ref a2), .val (.ref a3), .val (.ref a4)] []))
  obtain ⟨fs413, hr413, hrun413, hend413, hW413, hsm413⟩ := X411.leave (v := none) (fun _ => rfl)
  have K414 : Keep h0 h401 [a1] := (Keep.refl h0 [a1]).wr W401 (Or.inl (List.mem_of_getElem? (i := 0) rfl))
  have K415 : Keep h0 h406 [a1] := K414.wr W406 (Or.inl (List.mem_of_getElem? (i := 0) rfl))
  have K416 : Keep h0 h411 [a1] := K415.wr W411 (Or.inl (List.mem_of_getElem? (i := 0) rfl))
  have f417 : Exa Z h411 a1 "com/example/hinagata/hinagata/Refusal" := f410.wr W411
  have f418 : Fld Z h406 a1 "com/example/hinagata/hinagata/Refusal" "errorClass" "Lcom/example/hinagata/hinagata/ErrorClass;" (.ref a2) := f403.other W406 (Or.inr (slot_ne (Or.inr (own_w hw 145 rfl)) (Or.inr (own_w hw 147 rfl)) (by decide) (t := (.object "com/example/hinagata/hinagata/ErrorClass")) (t' := (.object "java/util/OptionalInt")) (by decide) (by decide)))
  have f419 : Fld Z h411 a1 "com/example/hinagata/hinagata/Refusal" "errorClass" "Lcom/example/hinagata/hinagata/ErrorClass;" (.ref a2) := f418.other W411 (Or.inr (slot_ne (Or.inr (own_w hw 145 rfl)) (Or.inr (own_w hw 149 rfl)) (by decide) (t := (.object "com/example/hinagata/hinagata/ErrorClass")) (t' := (.object "java/lang/String")) (by decide) (by decide)))
  have f420 : Fld Z h411 a1 "com/example/hinagata/hinagata/Refusal" "operation" "Ljava/util/OptionalInt;" (.ref a3) := f407.other W411 (Or.inr (slot_ne (Or.inr (own_w hw 147 rfl)) (Or.inr (own_w hw 149 rfl)) (by decide) (t := (.object "java/util/OptionalInt")) (t' := (.object "java/lang/String")) (by decide) (by decide)))
  subst hPP
  refine ⟨_, _, X411.returnOut hx Bd.returns (hb hby dp15_1_34) hr413, hrun413, hend413, _, _, rfl, ?_, ⟨_, rfl⟩, hW413, hsm413.mono (by decide) (by decide)⟩
  · show Q_rfinit Z _ _ _ _ h0 _ T411.heap _
    rw [e411]
    exact ⟨rfl, N411, K416, f417, f419, f420, f412⟩
theorem pn_231 : plainName "com/example/hinagata/hinagata/Outcome" = true := by first | (simp [plainName, overriddenIn]; done) | decide +kernel
theorem ef_232 (m : MethodId) (x0 : Nat) (x2 : Nat) : entryFrame m #[(.ref x0), .null, (.ref x2)] 3 = mkF m 0 #[.val (.ref x0), .val .null, .val (.ref x2)] [] := by first | (simp [entryFrame, mkF, argsToLocals, Value.category]; done) | rfl
theorem dp14_1_0 : decode cJ11 0 = .ok (.aload_n 0, 1) := by decide +kernel
theorem dp14_1_1 : decode cJ11 1 = .ok (.invokespecial 1, 3) := by decide +kernel
theorem dp14_1_4 : decode cJ11 4 = .ok (.aload_n 0, 1) := by decide +kernel
theorem dp14_1_5 : decode cJ11 5 = .ok (.aload_n 1, 1) := by decide +kernel
theorem dp14_1_6 : decode cJ11 6 = .ok (.putfield 7, 3) := by decide +kernel
theorem dp14_1_9 : decode cJ11 9 = .ok (.aload_n 0, 1) := by decide +kernel
theorem dp14_1_10 : decode cJ11 10 = .ok (.aload_n 2, 1) := by decide +kernel
theorem dp14_1_11 : decode cJ11 11 = .ok (.putfield 13, 3) := by decide +kernel
theorem dp14_1_14 : decode cJ11 14 = .ok (.return_, 1) := by decide +kernel
def Q_ocinit (Z : State) (a1 : Nat) (a3 : Nat) (h0 : Heap) (v : Option Value) (h : Heap) (L : List Loc) : Prop := v = none ∧ Fr Z.heap.size L ∧ Keep h0 h [a1] ∧ Exa Z h a1 "com/example/hinagata/hinagata/Outcome" ∧ Fld Z h a1 "com/example/hinagata/hinagata/Outcome" "refusal" "Lcom/example/hinagata/hinagata/Refusal;" (.ref a3)
set_option maxRecDepth 65536 in
set_option maxHeartbeats 40000000 in
theorem rm_ocinit (l : Launch) (Z : State) (a0 : Array Value) (hw : ∀ d ∈ tables_1, d.before a0 Z = true) (ws : List Jvm.Cond) (a1 : Nat) (a3 : Nat) (h0 : Heap) (OL : Old Z Z.heap.size h0) (p0_ : Exa Z h0 a1 "com/example/hinagata/hinagata/Outcome") (p1_ : Fld Z h0 a1 "com/example/hinagata/hinagata/Outcome" "value" "Ljava/lang/Object;" .null) (p2_ : Fld Z h0 a1 "com/example/hinagata/hinagata/Outcome" "refusal" "Lcom/example/hinagata/hinagata/Refusal;" .null) (hn0 : Z.heap.size ≤ a1) :
    MetFree l mN0 (head1 (Jvm.Cond.code mN0 prog_14_method_1_code 3 none :: ws) rM1) (fun a U => a = #[(.ref a1), .null, (.ref a3)] ∧ Z.Warmed39 U.vm ∧ U.heap = h0) (fun _ _ _ _ _ => True) (fun _ U o U' => ∃ v L, o = .returned v ∧ Q_ocinit Z a1 a3 h0 v U'.heap L ∧ FrameEnd U o U' L rM1.cells rM1.slots) := by
  refine MetFree.of_bodySF (plainFor_of_name pn_231) hisR ?_
  intro p e s m args below meth c s₁ Bd hml0 hP hK
  obtain ⟨rfl, hZ, hh⟩ := hP
  have hx := Bd.exec
  have hby := Bd.bytes
  have hml : c.maxLocals = 3 := hml0
  have hown : s.vm.findClass "com/example/hinagata/hinagata/Outcome" = some m.cls := findClass_of_methodNamed Bd.named
  have hnm := (name_of_methodNamed Bd.named Bd.method).1
  have X0 : Stand p l e rM1 s m #[(.ref a1), .null, (.ref a3)] below meth c s₁ [] 0 0 := Stand.of_body Bd
  have e0 : s₁.heap = h0 := by rw [← hh, Bd.state]; rfl
  have N0 := Fr.nil Z.heap.size
  have Z0 : Z.heap.size ≤ h0.size := OL.2.1
  have lt_0 : @LT.lt Nat _ a1 h0.size := p0_.lt
  have lt_1 : @LT.lt Nat _ a1 h0.size := p1_.lt
  have lt_2 : @LT.lt Nat _ a1 h0.size := p2_.lt
  show oG p.tables e below (fun o tE => ∃ v L, o = .returned v ∧ Q_ocinit Z a1 a3 h0 v tE.heap L ∧ FrameEnd s o tE L rM1.cells rM1.slots) (s₁.setTop (entryFrame m #[(.ref a1), .null, (.ref a3)] 3))
  refine own_hd (fun PP hPP => ?_)
  refine oG.st (fun t k => castTop (ef_232 m a1 a3) k) ?_
  refine oG.st (fun _ k => XS.aloadN X0.here hx rfl (hb hby dp14_1_0) rfl rfl k) ?_
  show oG _ _ _ _ (s₁.setTop (mkF m 1 #[.val (.ref a1), .val .null, .val (.ref a3)] [(.ref a1)]))
  obtain ⟨T421, X421, e421, st421⟩ := initO X0 hx hZ hown (own_w hw 162 rfl) (own_w hw 22 rfl) (own_w hw 23 rfl) e0 (g := (mkF m 1 #[.val (.ref a1), .val .null, .val (.ref a3)] [(.ref a1)])) rfl (by rw [hml]; rfl) rfl (hb hby dp14_1_1) (by decide) (W := 0) (by show 2 * 0 + _ ≤ _; exact Nat.le_of_eq rfl) (by decide)
  refine oG.st st421 ?_
  refine oG.st (fun _ k => XS.aloadN X421.here hx rfl (hb hby dp14_1_4) rfl rfl (XS.aloadN X421.here hx rfl (hb hby dp14_1_5) rfl rfl k)) ?_
  show oG _ _ _ _ (T421.setTop (mkF m 6 #[.val (.ref a1), .val .null, .val (.ref a3)] [.null, (.ref a1)]))
  obtain ⟨T422, h422, X422, e422, W422, st422⟩ := putF X421 hx hZ hown (host := "") (Or.inl (own_w hw 163 rfl)) Via.refl e421 p1_ p0_ (Or.inr ⟨(own_w hw 164 rfl), rfl, hnm⟩) (own_w hw 155 rfl) (ty := (.object "java/lang/Object")) (by decide) rfl rfl (g := (mkF m 6 #[.val (.ref a1), .val .null, .val (.ref a3)] [.null, (.ref a1)])) rfl rfl (hb hby dp14_1_6)
  refine oG.st st422 ?_
  have gz423 : Z.heap.size ≤ a1 := by omega
  have N422 := Fr.snoc X422 N0 gz423
  have z422 : h0.size ≤ h422.size := Nat.le_of_eq W422.size.symm
  have f424 : Fld Z h422 a1 "com/example/hinagata/hinagata/Outcome" "value" "Ljava/lang/Object;" .null := p1_.same W422
  refine oG.st (fun _ k => XS.aloadN X422.here hx rfl (hb hby dp14_1_9) rfl rfl (XS.aloadN X422.here hx rfl (hb hby dp14_1_10) rfl rfl k)) ?_
  show oG _ _ _ _ (T422.setTop (mkF m 11 #[.val (.ref a1), .val .null, .val (.ref a3)] [(.ref a3), (.ref a1)]))
  have f425 : Fld Z h422 a1 "com/example/hinagata/hinagata/Outcome" "refusal" "Lcom/example/hinagata/hinagata/Refusal;" .null := p2_.other W422 (Or.inr (slot_ne (Or.inr (own_w hw 166 rfl)) (Or.inr (own_w hw 164 rfl)) (by decide) (t := (.object "com/example/hinagata/hinagata/Refusal")) (t' := (.object "java/lang/Object")) (by decide) (by decide)))
  have f426 : Exa Z h422 a1 "com/example/hinagata/hinagata/Outcome" := p0_.wr W422
  obtain ⟨T427, h427, X427, e427, W427, st427⟩ := putF X422 hx hZ hown (host := "") (Or.inl (own_w hw 165 rfl)) Via.refl e422 f425 f426 (Or.inr ⟨(own_w hw 166 rfl), rfl, hnm⟩) (own_w hw 155 rfl) (ty := (.object "com/example/hinagata/hinagata/Refusal")) (by decide) rfl rfl (g := (mkF m 11 #[.val (.ref a1), .val .null, .val (.ref a3)] [(.ref a3), (.ref a1)])) rfl rfl (hb hby dp14_1_11)
  refine oG.st st427 ?_
  have N427 := Fr.snoc X427 N422 gz423
  have z427 : h422.size ≤ h427.size := Nat.le_of_eq W427.size.symm
  have f428 : Fld Z h427 a1 "com/example/hinagata/hinagata/Outcome" "refusal" "Lcom/example/hinagata/hinagata/Refusal;" (.ref a3) := f425.same W427
  show oG _ _ _ _ (T427.setTop (mkF m 14 #[.val (.ref a1), .val .null, .val (.ref a3)] []))
  obtain ⟨fs429, hr429, hrun429, hend429, hW429, hsm429⟩ := X427.leave (v := none) (fun _ => rfl)
  have K430 : Keep h0 h422 [a1] := (Keep.refl h0 [a1]).wr W422 (Or.inl (List.mem_of_getElem? (i := 0) rfl))
  have K431 : Keep h0 h427 [a1] := K430.wr W427 (Or.inl (List.mem_of_getElem? (i := 0) rfl))
  have f432 : Exa Z h427 a1 "com/example/hinagata/hinagata/Outcome" := f426.wr W427
  subst hPP
  refine ⟨_, _, X427.returnOut hx Bd.returns (hb hby dp14_1_14) hr429, hrun429, hend429, _, _, rfl, ?_, ⟨_, rfl⟩, hW429, hsm429.mono (by decide) (by decide)⟩
  · show Q_ocinit Z _ _ h0 _ T427.heap _
    rw [e427]
    exact ⟨rfl, N427, K431, f432, f428⟩
theorem dp14_3_0 : decode cJ12 0 = .ok (.new 8, 3) := by decide +kernel
theorem dp14_3_3 : decode cJ12 3 = .ok (.dup, 1) := by decide +kernel
theorem dp14_3_4 : decode cJ12 4 = .ok (.aconst_null, 1) := by decide +kernel
theorem dp14_3_5 : decode cJ12 5 = .ok (.aload_n 0, 1) := by decide +kernel
theorem dp14_3_6 : decode cJ12 6 = .ok (.invokestatic 17, 3) := by decide +kernel
theorem dp14_3_9 : decode cJ12 9 = .ok (.checkcast 26, 3) := by decide +kernel
theorem pd_248 : parseMethodDescriptor "(Ljava/lang/Object;Lcom/example/hinagata/hinagata/Refusal;)V" = some ⟨[(.object "java/lang/Object"), (.object "com/example/hinagata/hinagata/Refusal")], none⟩ := by decide +kernel
theorem dp14_3_12 : decode cJ12 12 = .ok (.invokespecial 23, 3) := by decide +kernel
theorem dp14_3_15 : decode cJ12 15 = .ok (.areturn, 1) := by decide +kernel
def Q_refused (Z : State) (a1 : Nat) (h0 : Heap) (v : Option Value) (h : Heap) (L : List Loc) : Prop := ∃ (x : Nat), v = some (.ref x) ∧ Fr Z.heap.size L ∧ Keep h0 h [] ∧ Exa Z h x "com/example/hinagata/hinagata/Outcome" ∧ Fld Z h x "com/example/hinagata/hinagata/Outcome" "refusal" "Lcom/example/hinagata/hinagata/Refusal;" (.ref a1) ∧ (h0.size ≤ x)
set_option maxRecDepth 65536 in
set_option maxHeartbeats 40000000 in
theorem rm_refused (l : Launch) (Z : State) (a0 : Array Value) (hw : ∀ d ∈ tables_1, d.before a0 Z = true) (ws : List Jvm.Cond) (a1 : Nat) (h0 : Heap) (OL : Old Z Z.heap.size h0) (p0_ : Exa Z h0 a1 "com/example/hinagata/hinagata/Refusal") :
    MetFree l mN3 (head1 (Jvm.Cond.code mN3 prog_14_method_3_code 1 (some (.object "com/example/hinagata/hinagata/Outcome")) :: ws) rM4) (fun a U => a = #[(.ref a1)] ∧ Z.Warmed39 U.vm ∧ U.heap = h0) (fun _ _ _ _ _ => True) (fun _ U o U' => ∃ v L, o = .returned v ∧ Q_refused Z a1 h0 v U'.heap L ∧ FrameEnd U o U' L rM4.cells rM4.slots) := by
  refine MetFree.of_bodySF (plainFor_of_name pn_231) hisR ?_
  intro p e s m args below meth c s₁ Bd hml0 hP hK
  obtain ⟨rfl, hZ, hh⟩ := hP
  have hx := Bd.exec
  have hby := Bd.bytes
  have hml : c.maxLocals = 1 := hml0
  have hown : s.vm.findClass "com/example/hinagata/hinagata/Outcome" = some m.cls := findClass_of_methodNamed Bd.named
  have hnm := (name_of_methodNamed Bd.named Bd.method).1
  have X0 : Stand p l e rM4 s m #[(.ref a1)] below meth c s₁ [] 0 0 := Stand.of_body Bd
  have e0 : s₁.heap = h0 := by rw [← hh, Bd.state]; rfl
  have N0 := Fr.nil Z.heap.size
  have Z0 : Z.heap.size ≤ h0.size := OL.2.1
  have lt_0 : @LT.lt Nat _ a1 h0.size := p0_.lt
  show oG p.tables e below (fun o tE => ∃ v L, o = .returned v ∧ Q_refused Z a1 h0 v tE.heap L ∧ FrameEnd s o tE L rM4.cells rM4.slots) (s₁.setTop (entryFrame m #[(.ref a1)] 1))
  refine own_hd (fun PP hPP => ?_)
  refine oG.st (fun t k => castTop (ef_173 m a1) k) ?_
  show oG _ _ _ _ (s₁.setTop (mkF m 0 #[.val (.ref a1)] []))
  obtain ⟨T433, h433, X433, e433, E433, A433, D433, U433, st433⟩ := newO X0 hx hZ hown (own_w hw 154 rfl) (own_w hw 155 rfl) (own_w hw 152 rfl) e0 (g := (mkF m 0 #[.val (.ref a1)] [])) rfl (hb hby dp14_3_0) (by decide) (by decide)
  obtain ⟨b433, g433⟩ : ∃ z, z = h0.size := ⟨_, rfl⟩
  rw [← g433] at A433 D433 U433 st433
  refine oG.st st433 ?_
  have z433 : h0.size ≤ h433.size := E433.1
  have lt_b433 : @LT.lt Nat _ b433 h433.size := A433.lt
  have f434 : Fld Z h433 b433 "com/example/hinagata/hinagata/Outcome" "value" "Ljava/lang/Object;" .null := D433 (Or.inr (own_w hw 164 rfl)) (ty := (.object "java/lang/Object")) (by decide)
  have f435 : Fld Z h433 b433 "com/example/hinagata/hinagata/Outcome" "refusal" "Lcom/example/hinagata/hinagata/Refusal;" .null := D433 (Or.inr (own_w hw 166 rfl)) (ty := (.object "com/example/hinagata/hinagata/Refusal")) (by decide)
  refine oG.st (fun _ k => XS.dup X433.here hx rfl (hb hby dp14_3_3) rfl rfl (XS.aconstNull X433.here hx rfl (hb hby dp14_3_4) (XS.aloadN X433.here hx rfl (hb hby dp14_3_5) rfl rfl k))) ?_
  show oG _ _ _ _ (T433.setTop (mkF m 6 #[.val (.ref a1)] [(.ref a1), .null, (.ref b433), (.ref b433)]))
  have f437 : Old Z Z.heap.size h433 := OL.ext E433
  obtain ⟨_, _, ⟨T436, L436, k436, n436⟩, -, X436, ⟨Lc436, hQ436, l436, y436, z436⟩, st436⟩ := Jvm.LawKit.callS X433 hx (y := mN22) hown (own_v hZ hw 156 rfl) (own_v hZ hw 141 rfl) (own_v hZ hw 142 rfl) (own_v hZ hw 143 rfl) (by decide) (backOf (W := 3) (rm_rnn l Z a0 hw [] a1 h433 f437 ) hZ (own_w hw 143 rfl) (own_w hw 142 rfl) (by decide) (by decide)) (g := (mkF m 6 #[.val (.ref a1)] [(.ref a1), .null, (.ref b433), (.ref b433)])) rfl (by rw [hml]; rfl) (argsL := [(.ref a1)]) (rest := [.null, (.ref b433), (.ref b433)]) (lenOf pd_212 rfl) rfl (by show 2 * 0 + _ ≤ _; exact Nat.le_of_eq rfl) (hb hby dp14_3_6) (fun _ _ => ⟨rfl, e433, (by decide : 1 + 0 ≤ _), (by decide : 2 + 0 ≤ _)⟩)
  dsimp only [Pt.U, Pt.locs, Pt.cells, Pt.slots] at X436 l436 y436 z436 st436 hQ436
  subst l436 y436 z436
  obtain ⟨rfl, N436q, K436⟩ := hQ436
  have N436 := Fr.app N0 N436q
  refine oG.st st436 ?_
  show oG _ _ _ _ (T436.setTop (mkF m 9 #[.val (.ref a1)] [(.ref a1), .null, (.ref b433), (.ref b433)]))
  have f438 : Exa Z h433 a1 "com/example/hinagata/hinagata/Refusal" := p0_.ext E433
  obtain ⟨T439, X439, e439, st439⟩ := castY X436 hx hZ hown (own_w hw 157 rfl) K436 (Ins.self f438) (g := (mkF m 9 #[.val (.ref a1)] [(.ref a1), .null, (.ref b433), (.ref b433)])) rfl rfl (hb hby dp14_3_9)
  refine oG.st st439 ?_
  show oG _ _ _ _ (T439.setTop (mkF m 12 #[.val (.ref a1)] [(.ref a1), .null, (.ref b433), (.ref b433)]))
  obtain ⟨_, _, ⟨T440, L440, k440, n440⟩, -, X440, ⟨Lc440, hQ440, l440, y440, z440⟩, st440⟩ := X439.specialBack hx (y := mN0) rfl hown (own_v hZ hw 159 rfl) (own_v hZ hw 160 rfl) (own_v hZ hw 161 rfl) (by decide) (backOf (W := 1) (rm_ocinit l Z a0 hw [] b433 a1 h433 f437 A433 f434 f435 (by omega)) hZ (own_w hw 161 rfl) (own_w hw 152 rfl) (by decide) (by decide)) (g := (mkF m 12 #[.val (.ref a1)] [(.ref a1), .null, (.ref b433), (.ref b433)])) rfl (by rw [hml]; rfl) (Steps.refl _) (a := b433) (argsL := [.null, (.ref a1)]) (rest := [(.ref b433)]) (lenOf pd_248 rfl) rfl (by show 2 * 0 + _ ≤ _; exact Nat.le_of_eq rfl) (hb hby dp14_3_12) (fun _ _ => ⟨rfl, e439, (by decide : 1 + 0 ≤ _), (by decide : 2 + 0 ≤ _)⟩)
  dsimp only [Pt.U, Pt.locs, Pt.cells, Pt.slots] at X440 l440 y440 z440 st440 hQ440
  subst l440 y440 z440
  obtain ⟨rfl, N440q, K440, f440_0, f440_1⟩ := hQ440
  have N440 := Fr.app N436 N440q
  have z440 : h433.size ≤ T440.heap.size := K440.1
  have lt440_0 : @LT.lt Nat _ b433 T440.heap.size := f440_0.lt
  have lt440_1 : @LT.lt Nat _ b433 T440.heap.size := f440_1.lt
  refine oG.tr st440 ?_
  show oG _ _ _ _ (T440.setTop (mkF m 15 #[.val (.ref a1)] [(.ref b433)]))
  obtain ⟨fs441, hr441, hrun441, hend441, hW441, hsm441⟩ := X440.leave (v := some (.ref b433)) (fun h => by rw [Bd.returns] at h; cases h)
  have K442 : Keep h0 h433 [] := (Keep.refl h0 []).ext E433
  have gz443 : h0.size ≤ b433 := by omega
  have K444 : Keep h0 T440.heap [] := K442.trans K440 (allS (Or.inr gz443) all0)
  subst hPP
  refine ⟨_, _, own_retA X440 hx Bd.returns rfl rfl (hb hby dp14_3_15) hr441, hrun441, hend441, _, _, rfl, ?_, ⟨_, rfl⟩, hW441, hsm441.mono (by decide) (by decide)⟩
  · show Q_refused Z _ h0 _ T440.heap _
    exact ⟨b433, rfl, N440, K444, f440_0, f440_1, (by omega)⟩
theorem ef_251 (m : MethodId) (x0 : Nat) : entryFrame m #[(.ref x0)] 2 = mkF m 0 #[.val (.ref x0), .unset] [] := by first | (simp [entryFrame, mkF, argsToLocals, Value.category]; done) | rfl
theorem dp16_3_0 : decode cJ15 0 = .ok (.aload_n 0, 1) := by decide +kernel
theorem dp16_3_1 : decode cJ15 1 = .ok (.getfield 13, 3) := by decide +kernel
theorem dp16_3_4 : decode cJ15 4 = .ok (.iconst (-1), 1) := by decide +kernel
theorem dp16_3_5 : decode cJ15 5 = .ok (.if_icmp .ne 9, 3) := by decide +kernel
theorem pd_256 : parseMethodDescriptor "()Ljava/util/OptionalInt;" = some ⟨[], some (.object "java/util/OptionalInt")⟩ := by decide +kernel
theorem dp16_3_8 : decode cJ15 8 = .ok (.invokestatic 17, 3) := by decide +kernel
theorem dp16_3_11 : decode cJ15 11 = .ok (.goto 10, 3) := by decide +kernel
theorem dp16_3_21 : decode cJ15 21 = .ok (.astore_n 1, 1) := by decide +kernel
theorem dp16_3_22 : decode cJ15 22 = .ok (.new 27, 3) := by decide +kernel
theorem dp16_3_25 : decode cJ15 25 = .ok (.dup, 1) := by decide +kernel
theorem dp16_3_26 : decode cJ15 26 = .ok (.aload_n 0, 1) := by decide +kernel
theorem dp16_3_27 : decode cJ15 27 = .ok (.getfield 7, 3) := by decide +kernel
theorem dp16_3_30 : decode cJ15 30 = .ok (.aload_n 1, 1) := by decide +kernel
theorem dp16_3_31 : decode cJ15 31 = .ok (.aload_n 0, 1) := by decide +kernel
theorem pd_266 : parseMethodDescriptor "()Ljava/lang/String;" = some ⟨[], some (.object "java/lang/String")⟩ := by decide +kernel
theorem dp16_3_32 : decode cJ15 32 = .ok (.invokevirtual 29, 3) := by decide +kernel
theorem pd_268 : parseMethodDescriptor "(Lcom/example/hinagata/hinagata/ErrorClass;Ljava/util/OptionalInt;Ljava/lang/String;)V" = some ⟨[(.object "com/example/hinagata/hinagata/ErrorClass"), (.object "java/util/OptionalInt"), (.object "java/lang/String")], none⟩ := by decide +kernel
theorem dp16_3_35 : decode cJ15 35 = .ok (.invokespecial 33, 3) := by decide +kernel
theorem pd_270 : parseMethodDescriptor "(Lcom/example/hinagata/hinagata/Refusal;)Lcom/example/hinagata/hinagata/Outcome;" = some ⟨[(.object "com/example/hinagata/hinagata/Refusal")], some (.object "com/example/hinagata/hinagata/Outcome")⟩ := by decide +kernel
theorem dp16_3_38 : decode cJ15 38 = .ok (.invokestatic 36, 3) := by decide +kernel
theorem dp16_3_41 : decode cJ15 41 = .ok (.areturn, 1) := by decide +kernel
theorem dp16_3_14 : decode cJ15 14 = .ok (.aload_n 0, 1) := by decide +kernel
theorem dp16_3_15 : decode cJ15 15 = .ok (.getfield 13, 3) := by decide +kernel
theorem pd_275 : parseMethodDescriptor "(I)Ljava/util/OptionalInt;" = some ⟨[.int], some (.object "java/util/OptionalInt")⟩ := by decide +kernel
theorem dp16_3_18 : decode cJ15 18 = .ok (.invokestatic 23, 3) := by decide +kernel
def Q_toOutcome (Z : State) (a1 : Nat) (a2 : Nat) (p3 : Int32) (a4 : Nat) (oe : Nat) (h0 : Heap) (v : Option Value) (h : Heap) (L : List Loc) : Prop := ∃ (o : Nat), ∃ (f : Nat), ∃ (q : Nat), ∃ (pb : Int32), ∃ (pv : Int32), v = some (.ref o) ∧ Fr Z.heap.size L ∧ Keep h0 h [] ∧ Exa Z h o "com/example/hinagata/hinagata/Outcome" ∧ Fld Z h o "com/example/hinagata/hinagata/Outcome" "refusal" "Lcom/example/hinagata/hinagata/Refusal;" (.ref f) ∧ Exa Z h f "com/example/hinagata/hinagata/Refusal" ∧ Fld Z h f "com/example/hinagata/hinagata/Refusal" "errorClass" "Lcom/example/hinagata/hinagata/ErrorClass;" (.ref a2) ∧ Fld Z h f "com/example/hinagata/hinagata/Refusal" "operation" "Ljava/util/OptionalInt;" (.ref q) ∧ Fld Z h f "com/example/hinagata/hinagata/Refusal" "reason" "Ljava/lang/String;" (.ref a4) ∧ Exa Z h q "java/util/OptionalInt" ∧ Fld Z h q "java/util/OptionalInt" "isPresent" "Z" (.int pb) ∧ Fld Z h q "java/util/OptionalInt" "value" "I" (.int pv) ∧ ((p3 = -1 ∧ pb = 0) ∨ (¬ p3 = -1 ∧ pb = 1 ∧ pv = p3))
set_option maxRecDepth 65536 in
set_option maxHeartbeats 40000000 in
theorem rm_toOutcome (l : Launch) (Z : State) (a0 : Array Value) (hw : ∀ d ∈ tables_1, d.before a0 Z = true) (ws : List Jvm.Cond) (a1 : Nat) (a2 : Nat) (p3 : Int32) (a4 : Nat) (oe : Nat) (h0 : Heap) (OL : Old Z Z.heap.size h0) (p0_ : Exa Z h0 a1 "com/example/hinagata/hinagata/RefusedException") (p1_ : Fld Z h0 a1 "java/lang/Throwable" "detailMessage" "Ljava/lang/String;" (.ref a4)) (p2_ : Fld Z h0 a1 "com/example/hinagata/hinagata/RefusedException" "errorClass" "Lcom/example/hinagata/hinagata/ErrorClass;" (.ref a2)) (p3_ : Fld Z h0 a1 "com/example/hinagata/hinagata/RefusedException" "index" "I" (.int p3)) (p4_ : Exa Z h0 oe "java/util/OptionalInt") (p5_ : Fld Z h0 oe "java/util/OptionalInt" "isPresent" "Z" (.int (0 : Int32))) (p6_ : Fld Z h0 oe "java/util/OptionalInt" "value" "I" (.int (0 : Int32))) (st_EMPTY : Sta Z Z.heap "java/util/OptionalInt" "EMPTY" "Ljava/util/OptionalInt;" (.ref oe)) :
    MetFree l mN10 (head1 (Jvm.Cond.code mN10 prog_16_method_3_code 2 (some (.object "com/example/hinagata/hinagata/Outcome")) :: ws) rM8) (fun a U => a = #[(.ref a1)] ∧ Z.Warmed39 U.vm ∧ U.heap = h0) (fun _ _ _ _ _ => True) (fun _ U o U' => ∃ v L, o = .returned v ∧ Q_toOutcome Z a1 a2 p3 a4 oe h0 v U'.heap L ∧ FrameEnd U o U' L rM8.cells rM8.slots) := by
  refine MetFree.of_bodySF (plainFor_of_name pn_161) hisR ?_
  intro p e s m args below meth c s₁ Bd hml0 hP hK
  obtain ⟨rfl, hZ, hh⟩ := hP
  have hx := Bd.exec
  have hby := Bd.bytes
  have hml : c.maxLocals = 2 := hml0
  have hown : s.vm.findClass "com/example/hinagata/hinagata/RefusedException" = some m.cls := findClass_of_methodNamed Bd.named
  have hnm := (name_of_methodNamed Bd.named Bd.method).1
  have X0 : Stand p l e rM8 s m #[(.ref a1)] below meth c s₁ [] 0 0 := Stand.of_body Bd
  have e0 : s₁.heap = h0 := by rw [← hh, Bd.state]; rfl
  have N0 := Fr.nil Z.heap.size
  have Z0 : Z.heap.size ≤ h0.size := OL.2.1
  have lt_0 : @LT.lt Nat _ a1 h0.size := p0_.lt
  have lt_1 : @LT.lt Nat _ a1 h0.size := p1_.lt
  have lt_2 : @LT.lt Nat _ a1 h0.size := p2_.lt
  have lt_3 : @LT.lt Nat _ a1 h0.size := p3_.lt
  have lt_4 : @LT.lt Nat _ oe h0.size := p4_.lt
  have lt_5 : @LT.lt Nat _ oe h0.size := p5_.lt
  have lt_6 : @LT.lt Nat _ oe h0.size := p6_.lt
  show oG p.tables e below (fun o tE => ∃ v L, o = .returned v ∧ Q_toOutcome Z a1 a2 p3 a4 oe h0 v tE.heap L ∧ FrameEnd s o tE L rM8.cells rM8.slots) (s₁.setTop (entryFrame m #[(.ref a1)] 2))
  refine own_hd (fun PP hPP => ?_)
  refine oG.st (fun t k => castTop (ef_251 m a1) k) ?_
  refine oG.st (fun _ k => XS.aloadN X0.here hx rfl (hb hby dp16_3_0) rfl rfl k) ?_
  show oG _ _ _ _ (s₁.setTop (mkF m 1 #[.val (.ref a1), .unset] [(.ref a1)]))
  obtain ⟨T445, X445, e445, st445⟩ := getF X0 hx hZ hown (host := "") (Or.inl (own_w hw 100 rfl)) Via.refl e0 p3_ (g := (mkF m 1 #[.val (.ref a1), .unset] [(.ref a1)])) rfl rfl (hb hby dp16_3_1)
  refine oG.st st445 ?_
  refine oG.st (fun _ k => XS.iconst X445.here hx rfl (hb hby dp16_3_4) k) ?_
  show oG _ _ _ _ (T445.setTop (mkF m 5 #[.val (.ref a1), .unset] [(.int (-1 : Int32)), (.int p3)]))
  by_cases h5 : p3 = (-1 : Int32)
  ·
    refine oG.st (fun _ k => XS.icmpNo X445.here hx rfl (hb hby dp16_3_5) rfl (teq h5).2 k) ?_
    show oG _ _ _ _ (T445.setTop (mkF m 8 #[.val (.ref a1), .unset] []))
    obtain ⟨_, _, ⟨T446, L446, k446, n446⟩, -, X446, ⟨Lc446, hQ446, l446, y446, z446⟩, st446⟩ := Jvm.LawKit.callS X445 hx (y := mN28) hown (own_v hZ hw 233 rfl) (own_v hZ hw 234 rfl) (own_v hZ hw 109 rfl) (own_v hZ hw 235 rfl) (by decide) (backOf (W := 0) (rm_oiempty l Z a0 hw [] oe h0 OL st_EMPTY) hZ (own_w hw 235 rfl) (own_w hw 109 rfl) (by decide) (by decide)) (g := (mkF m 8 #[.val (.ref a1), .unset] [])) rfl (by rw [hml]; rfl) (argsL := []) (rest := []) (lenOf pd_256 rfl) rfl (by show 2 * 0 + _ ≤ _; exact Nat.le_of_eq rfl) (hb hby dp16_3_8) (fun _ _ => ⟨rfl, e445, (by decide : 0 + 0 ≤ _), (by decide : 0 + 0 ≤ _)⟩)
    dsimp only [Pt.U, Pt.locs, Pt.cells, Pt.slots] at X446 l446 y446 z446 st446 hQ446
    subst l446 y446 z446
    obtain ⟨rfl, N446q, K446⟩ := hQ446
    have N446 := Fr.app N0 N446q
    refine oG.st st446 ?_
    refine oG.st (fun _ k => XS.goto X446.here hx rfl (pc0 := 11) (pc' := 21) rfl (hb hby dp16_3_11) (by decide) (by decide) (XS.astoreN X446.here hx rfl (hb hby dp16_3_21) rfl rfl (l' := #[.val (.ref a1), .val (.ref oe)]) rfl k)) ?_
    show oG _ _ _ _ (T446.setTop (mkF m 22 #[.val (.ref a1), .val (.ref oe)] []))
    obtain ⟨T447, h447, X447, e447, E447, A447, D447, U447, st447⟩ := newO X446 hx hZ hown (own_w hw 122 rfl) (own_w hw 123 rfl) (own_w hw 124 rfl) K446 (g := (mkF m 22 #[.val (.ref a1), .val (.ref oe)] [])) rfl (hb hby dp16_3_22) (by decide) (by decide)
    obtain ⟨b447, g447⟩ : ∃ z, z = h0.size := ⟨_, rfl⟩
    rw [← g447] at A447 D447 U447 st447
    refine oG.st st447 ?_
    have z447 : h0.size ≤ h447.size := E447.1
    have lt_b447 : @LT.lt Nat _ b447 h447.size := A447.lt
    have f448 : Fld Z h447 b447 "com/example/hinagata/hinagata/Refusal" "errorClass" "Lcom/example/hinagata/hinagata/ErrorClass;" .null := D447 (Or.inr (own_w hw 145 rfl)) (ty := (.object "com/example/hinagata/hinagata/ErrorClass")) (by decide)
    have f449 : Fld Z h447 b447 "com/example/hinagata/hinagata/Refusal" "operation" "Ljava/util/OptionalInt;" .null := D447 (Or.inr (own_w hw 147 rfl)) (ty := (.object "java/util/OptionalInt")) (by decide)
    have f450 : Fld Z h447 b447 "com/example/hinagata/hinagata/Refusal" "reason" "Ljava/lang/String;" .null := D447 (Or.inr (own_w hw 149 rfl)) (ty := (.object "java/lang/String")) (by decide)
    refine oG.st (fun _ k => XS.dup X447.here hx rfl (hb hby dp16_3_25) rfl rfl (XS.aloadN X447.here hx rfl (hb hby dp16_3_26) rfl rfl k)) ?_
    show oG _ _ _ _ (T447.setTop (mkF m 27 #[.val (.ref a1), .val (.ref oe)] [(.ref a1), (.ref b447), (.ref b447)]))
    have f451 : Fld Z h447 a1 "com/example/hinagata/hinagata/RefusedException" "errorClass" "Lcom/example/hinagata/hinagata/ErrorClass;" (.ref a2) := p2_.ext E447
    obtain ⟨T452, X452, e452, st452⟩ := getF X447 hx hZ hown (host := "") (Or.inl (own_w hw 98 rfl)) Via.refl e447 f451 (g := (mkF m 27 #[.val (.ref a1), .val (.ref oe)] [(.ref a1), (.ref b447), (.ref b447)])) rfl rfl (hb hby dp16_3_27)
    refine oG.st st452 ?_
    refine oG.st (fun _ k => XS.aloadN X452.here hx rfl (hb hby dp16_3_30) rfl rfl (XS.aloadN X452.here hx rfl (hb hby dp16_3_31) rfl rfl k)) ?_
    show oG _ _ _ _ (T452.setTop (mkF m 32 #[.val (.ref a1), .val (.ref oe)] [(.ref a1), (.ref oe), (.ref a2), (.ref b447), (.ref b447)]))
    have f454 : Fld Z h447 a1 "java/lang/Throwable" "detailMessage" "Ljava/lang/String;" (.ref a4) := p1_.ext E447
    have f455 : Old Z Z.heap.size h447 := OL.ext E447
    have f456 : Exa Z h447 a1 "com/example/hinagata/hinagata/RefusedException" := p0_.ext E447
    obtain ⟨cq453, kq453, q453a, q453b, q453c⟩ := isOf hZ e452 f456
    obtain ⟨_, _, ⟨T453, L453, k453, n453⟩, -, X453, ⟨Lc453, hQ453, l453, y453, z453⟩, st453⟩ := X452.virtualBackUp hx (x := mN9) (y := mN21) (owner := "java/lang/Throwable") hown (own_v hZ hw 125 rfl) (own_v hZ hw 126 rfl) (own_v hZ hw 127 rfl) (by decide) (own_v hZ hw 129 rfl) (own_v hZ hw 128 rfl) (backOf (W := 4) (rm_getMessage l Z a0 hw [] a1 a4 h447 f455 f454) hZ (own_w hw 130 rfl) (own_w hw 59 rfl) (by decide) (by decide)) q453a q453c (g := (mkF m 32 #[.val (.ref a1), .val (.ref oe)] [(.ref a1), (.ref oe), (.ref a2), (.ref b447), (.ref b447)])) rfl (by rw [hml]; rfl) (Steps.refl _) (argsL := []) (rest := [(.ref oe), (.ref a2), (.ref b447), (.ref b447)]) (lenOf pd_266 rfl) rfl (by show 2 * 0 + _ ≤ _; exact Nat.le_of_eq rfl) (hb hby dp16_3_32) (fun _ _ => ⟨rfl, e452, (by decide : 1 + 0 ≤ _), (by decide : 3 + 0 ≤ _)⟩)
    dsimp only [Pt.U, Pt.locs, Pt.cells, Pt.slots] at X453 l453 y453 z453 st453 hQ453
    subst l453 y453 z453
    obtain ⟨rfl, N453q, K453⟩ := hQ453
    have N453 := Fr.app N446 N453q
    refine oG.tr st453 ?_
    show oG _ _ _ _ (T453.setTop (mkF m 35 #[.val (.ref a1), .val (.ref oe)] [(.ref a4), (.ref oe), (.ref a2), (.ref b447), (.ref b447)]))
    obtain ⟨_, _, ⟨T457, L457, k457, n457⟩, -, X457, ⟨Lc457, hQ457, l457, y457, z457⟩, st457⟩ := X453.specialBack hx (y := mN4) rfl hown (own_v hZ hw 131 rfl) (own_v hZ hw 132 rfl) (own_v hZ hw 133 rfl) (by decide) (backOf (W := 1) (rm_rfinit l Z a0 hw [] b447 a2 oe a4 h447 f455 A447 f448 f449 f450 (by omega)) hZ (own_w hw 133 rfl) (own_w hw 124 rfl) (by decide) (by decide)) (g := (mkF m 35 #[.val (.ref a1), .val (.ref oe)] [(.ref a4), (.ref oe), (.ref a2), (.ref b447), (.ref b447)])) rfl (by rw [hml]; rfl) (Steps.refl _) (a := b447) (argsL := [(.ref a2), (.ref oe), (.ref a4)]) (rest := [(.ref b447)]) (lenOf pd_268 rfl) rfl (by show 2 * 0 + _ ≤ _; exact Nat.le_of_eq rfl) (hb hby dp16_3_35) (fun _ _ => ⟨rfl, K453, (by decide : 1 + 0 ≤ _), (by decide : 3 + 0 ≤ _)⟩)
    dsimp only [Pt.U, Pt.locs, Pt.cells, Pt.slots] at X457 l457 y457 z457 st457 hQ457
    subst l457 y457 z457
    obtain ⟨rfl, N457q, K457, f457_0, f457_1, f457_2, f457_3⟩ := hQ457
    have N457 := Fr.app N453 N457q
    have z457 : h447.size ≤ T457.heap.size := K457.1
    have lt457_0 : @LT.lt Nat _ b447 T457.heap.size := f457_0.lt
    have lt457_1 : @LT.lt Nat _ b447 T457.heap.size := f457_1.lt
    have lt457_2 : @LT.lt Nat _ b447 T457.heap.size := f457_2.lt
    have lt457_3 : @LT.lt Nat _ b447 T457.heap.size := f457_3.lt
    refine oG.tr st457 ?_
    show oG _ _ _ _ (T457.setTop (mkF m 38 #[.val (.ref a1), .val (.ref oe)] [(.ref b447)]))
    have gz459 : Z.heap.size ≤ b447 := by omega
    have f460 : Old Z Z.heap.size T457.heap := f455.keep K457 (allS gz459 all0)
    obtain ⟨_, _, ⟨T458, L458, k458, n458⟩, -, X458, ⟨Lc458, hQ458, l458, y458, z458⟩, st458⟩ := Jvm.LawKit.callS X457 hx (y := mN3) hown (own_v hZ hw 150 rfl) (own_v hZ hw 151 rfl) (own_v hZ hw 152 rfl) (own_v hZ hw 153 rfl) (by decide) (backOf (W := 0) (rm_refused l Z a0 hw [] b447 T457.heap f460 f457_0) hZ (own_w hw 153 rfl) (own_w hw 152 rfl) (by decide) (by decide)) (g := (mkF m 38 #[.val (.ref a1), .val (.ref oe)] [(.ref b447)])) rfl (by rw [hml]; rfl) (argsL := [(.ref b447)]) (rest := []) (lenOf pd_270 rfl) rfl (by show 2 * 0 + _ ≤ _; exact Nat.le_of_eq rfl) (hb hby dp16_3_38) (fun _ _ => ⟨rfl, rfl, (by decide : 1 + 1 ≤ _), (by decide : 3 + 4 ≤ _)⟩)
    dsimp only [Pt.U, Pt.locs, Pt.cells, Pt.slots] at X458 l458 y458 z458 st458 hQ458
    subst l458 y458 z458
    obtain ⟨x_458, rfl, N458q, K458, f458_0, f458_1, pr458_0⟩ := hQ458
    have N458 := Fr.app N457 N458q
    have z458 : T457.heap.size ≤ T458.heap.size := K458.1
    have lt458_0 : @LT.lt Nat _ x_458 T458.heap.size := f458_0.lt
    have lt458_1 : @LT.lt Nat _ x_458 T458.heap.size := f458_1.lt
    refine oG.st st458 ?_
    show oG _ _ _ _ (T458.setTop (mkF m 41 #[.val (.ref a1), .val (.ref oe)] [(.ref x_458)]))
    obtain ⟨fs461, hr461, hrun461, hend461, hW461, hsm461⟩ := X458.leave (v := some (.ref x_458)) (fun h => by rw [Bd.returns] at h; cases h)
    have K462 : Keep h0 h447 [] := (Keep.refl h0 []).ext E447
    have gz463 : h0.size ≤ b447 := by omega
    have K464 : Keep h0 T457.heap [] := K462.trans K457 (allS (Or.inr gz463) all0)
    have K465 : Keep h0 T458.heap [] := K464.trans K458 all0
    have f466 : Exa Z T458.heap b447 "com/example/hinagata/hinagata/Refusal" := f457_0.keep K458
    have f467 : Fld Z T458.heap b447 "com/example/hinagata/hinagata/Refusal" "errorClass" "Lcom/example/hinagata/hinagata/ErrorClass;" (.ref a2) := f457_1.keep K458 nin0
    have f468 : Fld Z T458.heap b447 "com/example/hinagata/hinagata/Refusal" "operation" "Ljava/util/OptionalInt;" (.ref oe) := f457_2.keep K458 nin0
    have f469 : Fld Z T458.heap b447 "com/example/hinagata/hinagata/Refusal" "reason" "Ljava/lang/String;" (.ref a4) := f457_3.keep K458 nin0
    have f470 : Exa Z h447 oe "java/util/OptionalInt" := p4_.ext E447
    have f471 : Exa Z T457.heap oe "java/util/OptionalInt" := f470.keep K457
    have f472 : Exa Z T458.heap oe "java/util/OptionalInt" := f471.keep K458
    have f473 : Fld Z h447 oe "java/util/OptionalInt" "isPresent" "Z" (.int (0 : Int32)) := p5_.ext E447
    have ne474 : @Ne Nat oe b447 := Exa.ne f472 f466 (by decide)
    have f475 : Fld Z T457.heap oe "java/util/OptionalInt" "isPresent" "Z" (.int (0 : Int32)) := f473.keep K457 (ninS ne474 nin0)
    have f476 : Fld Z T458.heap oe "java/util/OptionalInt" "isPresent" "Z" (.int (0 : Int32)) := f475.keep K458 nin0
    have f477 : Fld Z h447 oe "java/util/OptionalInt" "value" "I" (.int (0 : Int32)) := p6_.ext E447
    have f478 : Fld Z T457.heap oe "java/util/OptionalInt" "value" "I" (.int (0 : Int32)) := f477.keep K457 (ninS ne474 nin0)
    have f479 : Fld Z T458.heap oe "java/util/OptionalInt" "value" "I" (.int (0 : Int32)) := f478.keep K458 nin0
    subst hPP
    refine ⟨_, _, own_retA X458 hx Bd.returns rfl rfl (hb hby dp16_3_41) hr461, hrun461, hend461, _, _, rfl, ?_, ⟨_, rfl⟩, hW461, hsm461.mono (by decide) (by decide)⟩
    · show Q_toOutcome Z _ _ _ _ _ h0 _ T458.heap _
      exact ⟨x_458, b447, oe, 0, 0, rfl, N458, K465, f458_0, f458_1, f466, f467, f468, f469, f472, f476, f479, (Or.inl ⟨h5, rfl⟩)⟩
  ·
    refine oG.st (fun _ k => XS.icmpYes X445.here hx rfl (pc0 := 5) (pc' := 14) rfl (hb hby dp16_3_5) rfl (feq h5).2 (by decide) (by decide) k) ?_
    refine oG.st (fun _ k => XS.aloadN X445.here hx rfl (hb hby dp16_3_14) rfl rfl k) ?_
    show oG _ _ _ _ (T445.setTop (mkF m 15 #[.val (.ref a1), .unset] [(.ref a1)]))
    obtain ⟨T480, X480, e480, st480⟩ := getF X445 hx hZ hown (host := "") (Or.inl (own_w hw 100 rfl)) Via.refl e445 p3_ (g := (mkF m 15 #[.val (.ref a1), .unset] [(.ref a1)])) rfl rfl (hb hby dp16_3_15)
    refine oG.st st480 ?_
    show oG _ _ _ _ (T480.setTop (mkF m 18 #[.val (.ref a1), .unset] [(.int p3)]))
    obtain ⟨_, _, ⟨T481, L481, k481, n481⟩, -, X481, ⟨Lc481, hQ481, l481, y481, z481⟩, st481⟩ := Jvm.LawKit.callS X480 hx (y := mN31) hown (own_v hZ hw 107 rfl) (own_v hZ hw 108 rfl) (own_v hZ hw 109 rfl) (own_v hZ hw 110 rfl) (by decide) (backOf (W := 0) (rm_oiof l Z a0 hw [] p3 h0 OL ) hZ (own_w hw 110 rfl) (own_w hw 109 rfl) (by decide) (by decide)) (g := (mkF m 18 #[.val (.ref a1), .unset] [(.int p3)])) rfl (by rw [hml]; rfl) (argsL := [(.int p3)]) (rest := []) (lenOf pd_275 rfl) rfl (by show 2 * 0 + _ ≤ _; exact Nat.le_of_eq rfl) (hb hby dp16_3_18) (fun _ _ => ⟨rfl, e480, (by decide : 0 + 1 ≤ _), (by decide : 0 + 4 ≤ _)⟩)
    dsimp only [Pt.U, Pt.locs, Pt.cells, Pt.slots] at X481 l481 y481 z481 st481 hQ481
    subst l481 y481 z481
    obtain ⟨x_481, rfl, N481q, K481, f481_0, f481_1, f481_2, pr481_0⟩ := hQ481
    have N481 := Fr.app N0 N481q
    have z481 : h0.size ≤ T481.heap.size := K481.1
    have lt481_0 : @LT.lt Nat _ x_481 T481.heap.size := f481_0.lt
    have lt481_1 : @LT.lt Nat _ x_481 T481.heap.size := f481_1.lt
    have lt481_2 : @LT.lt Nat _ x_481 T481.heap.size := f481_2.lt
    refine oG.st st481 ?_
    refine oG.st (fun _ k => XS.astoreN X481.here hx rfl (hb hby dp16_3_21) rfl rfl (l' := #[.val (.ref a1), .val (.ref x_481)]) rfl k) ?_
    show oG _ _ _ _ (T481.setTop (mkF m 22 #[.val (.ref a1), .val (.ref x_481)] []))
    obtain ⟨T482, h482, X482, e482, E482, A482, D482, U482, st482⟩ := newO X481 hx hZ hown (own_w hw 122 rfl) (own_w hw 123 rfl) (own_w hw 124 rfl) rfl (g := (mkF m 22 #[.val (.ref a1), .val (.ref x_481)] [])) rfl (hb hby dp16_3_22) (by decide) (by decide)
    obtain ⟨b482, g482⟩ : ∃ z, z = T481.heap.size := ⟨_, rfl⟩
    rw [← g482] at A482 D482 U482 st482
    refine oG.st st482 ?_
    have z482 : T481.heap.size ≤ h482.size := E482.1
    have lt_b482 : @LT.lt Nat _ b482 h482.size := A482.lt
    have f483 : Fld Z h482 b482 "com/example/hinagata/hinagata/Refusal" "errorClass" "Lcom/example/hinagata/hinagata/ErrorClass;" .null := D482 (Or.inr (own_w hw 145 rfl)) (ty := (.object "com/example/hinagata/hinagata/ErrorClass")) (by decide)
    have f484 : Fld Z h482 b482 "com/example/hinagata/hinagata/Refusal" "operation" "Ljava/util/OptionalInt;" .null := D482 (Or.inr (own_w hw 147 rfl)) (ty := (.object "java/util/OptionalInt")) (by decide)
    have f485 : Fld Z h482 b482 "com/example/hinagata/hinagata/Refusal" "reason" "Ljava/lang/String;" .null := D482 (Or.inr (own_w hw 149 rfl)) (ty := (.object "java/lang/String")) (by decide)
    refine oG.st (fun _ k => XS.dup X482.here hx rfl (hb hby dp16_3_25) rfl rfl (XS.aloadN X482.here hx rfl (hb hby dp16_3_26) rfl rfl k)) ?_
    show oG _ _ _ _ (T482.setTop (mkF m 27 #[.val (.ref a1), .val (.ref x_481)] [(.ref a1), (.ref b482), (.ref b482)]))
    have f486 : Fld Z T481.heap a1 "com/example/hinagata/hinagata/RefusedException" "errorClass" "Lcom/example/hinagata/hinagata/ErrorClass;" (.ref a2) := p2_.keep K481 nin0
    have f487 : Fld Z h482 a1 "com/example/hinagata/hinagata/RefusedException" "errorClass" "Lcom/example/hinagata/hinagata/ErrorClass;" (.ref a2) := f486.ext E482
    obtain ⟨T488, X488, e488, st488⟩ := getF X482 hx hZ hown (host := "") (Or.inl (own_w hw 98 rfl)) Via.refl e482 f487 (g := (mkF m 27 #[.val (.ref a1), .val (.ref x_481)] [(.ref a1), (.ref b482), (.ref b482)])) rfl rfl (hb hby dp16_3_27)
    refine oG.st st488 ?_
    refine oG.st (fun _ k => XS.aloadN X488.here hx rfl (hb hby dp16_3_30) rfl rfl (XS.aloadN X488.here hx rfl (hb hby dp16_3_31) rfl rfl k)) ?_
    show oG _ _ _ _ (T488.setTop (mkF m 32 #[.val (.ref a1), .val (.ref x_481)] [(.ref a1), (.ref x_481), (.ref a2), (.ref b482), (.ref b482)]))
    have f490 : Fld Z T481.heap a1 "java/lang/Throwable" "detailMessage" "Ljava/lang/String;" (.ref a4) := p1_.keep K481 nin0
    have f491 : Fld Z h482 a1 "java/lang/Throwable" "detailMessage" "Ljava/lang/String;" (.ref a4) := f490.ext E482
    have f492 : Old Z Z.heap.size T481.heap := OL.keep K481 all0
    have f493 : Old Z Z.heap.size h482 := f492.ext E482
    have f494 : Exa Z T481.heap a1 "com/example/hinagata/hinagata/RefusedException" := p0_.keep K481
    have f495 : Exa Z h482 a1 "com/example/hinagata/hinagata/RefusedException" := f494.ext E482
    obtain ⟨cq489, kq489, q489a, q489b, q489c⟩ := isOf hZ e488 f495
    obtain ⟨_, _, ⟨T489, L489, k489, n489⟩, -, X489, ⟨Lc489, hQ489, l489, y489, z489⟩, st489⟩ := X488.virtualBackUp hx (x := mN9) (y := mN21) (owner := "java/lang/Throwable") hown (own_v hZ hw 125 rfl) (own_v hZ hw 126 rfl) (own_v hZ hw 127 rfl) (by decide) (own_v hZ hw 129 rfl) (own_v hZ hw 128 rfl) (backOf (W := 4) (rm_getMessage l Z a0 hw [] a1 a4 h482 f493 f491) hZ (own_w hw 130 rfl) (own_w hw 59 rfl) (by decide) (by decide)) q489a q489c (g := (mkF m 32 #[.val (.ref a1), .val (.ref x_481)] [(.ref a1), (.ref x_481), (.ref a2), (.ref b482), (.ref b482)])) rfl (by rw [hml]; rfl) (Steps.refl _) (argsL := []) (rest := [(.ref x_481), (.ref a2), (.ref b482), (.ref b482)]) (lenOf pd_266 rfl) rfl (by show 2 * 0 + _ ≤ _; exact Nat.le_of_eq rfl) (hb hby dp16_3_32) (fun _ _ => ⟨rfl, e488, (by decide : 2 + 0 ≤ _), (by decide : 7 + 0 ≤ _)⟩)
    dsimp only [Pt.U, Pt.locs, Pt.cells, Pt.slots] at X489 l489 y489 z489 st489 hQ489
    subst l489 y489 z489
    obtain ⟨rfl, N489q, K489⟩ := hQ489
    have N489 := Fr.app N481 N489q
    refine oG.tr st489 ?_
    show oG _ _ _ _ (T489.setTop (mkF m 35 #[.val (.ref a1), .val (.ref x_481)] [(.ref a4), (.ref x_481), (.ref a2), (.ref b482), (.ref b482)]))
    obtain ⟨_, _, ⟨T496, L496, k496, n496⟩, -, X496, ⟨Lc496, hQ496, l496, y496, z496⟩, st496⟩ := X489.specialBack hx (y := mN4) rfl hown (own_v hZ hw 131 rfl) (own_v hZ hw 132 rfl) (own_v hZ hw 133 rfl) (by decide) (backOf (W := 1) (rm_rfinit l Z a0 hw [] b482 a2 x_481 a4 h482 f493 A482 f483 f484 f485 (by omega)) hZ (own_w hw 133 rfl) (own_w hw 124 rfl) (by decide) (by decide)) (g := (mkF m 35 #[.val (.ref a1), .val (.ref x_481)] [(.ref a4), (.ref x_481), (.ref a2), (.ref b482), (.ref b482)])) rfl (by rw [hml]; rfl) (Steps.refl _) (a := b482) (argsL := [(.ref a2), (.ref x_481), (.ref a4)]) (rest := [(.ref b482)]) (lenOf pd_268 rfl) rfl (by show 2 * 0 + _ ≤ _; exact Nat.le_of_eq rfl) (hb hby dp16_3_35) (fun _ _ => ⟨rfl, K489, (by decide : 2 + 0 ≤ _), (by decide : 7 + 0 ≤ _)⟩)
    dsimp only [Pt.U, Pt.locs, Pt.cells, Pt.slots] at X496 l496 y496 z496 st496 hQ496
    subst l496 y496 z496
    obtain ⟨rfl, N496q, K496, f496_0, f496_1, f496_2, f496_3⟩ := hQ496
    have N496 := Fr.app N489 N496q
    have z496 : h482.size ≤ T496.heap.size := K496.1
    have lt496_0 : @LT.lt Nat _ b482 T496.heap.size := f496_0.lt
    have lt496_1 : @LT.lt Nat _ b482 T496.heap.size := f496_1.lt
    have lt496_2 : @LT.lt Nat _ b482 T496.heap.size := f496_2.lt
    have lt496_3 : @LT.lt Nat _ b482 T496.heap.size := f496_3.lt
    refine oG.tr st496 ?_
    show oG _ _ _ _ (T496.setTop (mkF m 38 #[.val (.ref a1), .val (.ref x_481)] [(.ref b482)]))
    have gz498 : Z.heap.size ≤ b482 := by omega
    have f499 : Old Z Z.heap.size T496.heap := f493.keep K496 (allS gz498 all0)
    obtain ⟨_, _, ⟨T497, L497, k497, n497⟩, -, X497, ⟨Lc497, hQ497, l497, y497, z497⟩, st497⟩ := Jvm.LawKit.callS X496 hx (y := mN3) hown (own_v hZ hw 150 rfl) (own_v hZ hw 151 rfl) (own_v hZ hw 152 rfl) (own_v hZ hw 153 rfl) (by decide) (backOf (W := 0) (rm_refused l Z a0 hw [] b482 T496.heap f499 f496_0) hZ (own_w hw 153 rfl) (own_w hw 152 rfl) (by decide) (by decide)) (g := (mkF m 38 #[.val (.ref a1), .val (.ref x_481)] [(.ref b482)])) rfl (by rw [hml]; rfl) (argsL := [(.ref b482)]) (rest := []) (lenOf pd_270 rfl) rfl (by show 2 * 0 + _ ≤ _; exact Nat.le_of_eq rfl) (hb hby dp16_3_38) (fun _ _ => ⟨rfl, rfl, (by decide : 2 + 1 ≤ _), (by decide : 7 + 4 ≤ _)⟩)
    dsimp only [Pt.U, Pt.locs, Pt.cells, Pt.slots] at X497 l497 y497 z497 st497 hQ497
    subst l497 y497 z497
    obtain ⟨x_497, rfl, N497q, K497, f497_0, f497_1, pr497_0⟩ := hQ497
    have N497 := Fr.app N496 N497q
    have z497 : T496.heap.size ≤ T497.heap.size := K497.1
    have lt497_0 : @LT.lt Nat _ x_497 T497.heap.size := f497_0.lt
    have lt497_1 : @LT.lt Nat _ x_497 T497.heap.size := f497_1.lt
    refine oG.st st497 ?_
    show oG _ _ _ _ (T497.setTop (mkF m 41 #[.val (.ref a1), .val (.ref x_481)] [(.ref x_497)]))
    obtain ⟨fs500, hr500, hrun500, hend500, hW500, hsm500⟩ := X497.leave (v := some (.ref x_497)) (fun h => by rw [Bd.returns] at h; cases h)
    have K501 : Keep h0 T481.heap [] := (Keep.refl h0 []).trans K481 all0
    have K502 : Keep h0 h482 [] := K501.ext E482
    have gz503 : h0.size ≤ b482 := by omega
    have K504 : Keep h0 T496.heap [] := K502.trans K496 (allS (Or.inr gz503) all0)
    have K505 : Keep h0 T497.heap [] := K504.trans K497 all0
    have f506 : Exa Z T497.heap b482 "com/example/hinagata/hinagata/Refusal" := f496_0.keep K497
    have f507 : Fld Z T497.heap b482 "com/example/hinagata/hinagata/Refusal" "errorClass" "Lcom/example/hinagata/hinagata/ErrorClass;" (.ref a2) := f496_1.keep K497 nin0
    have f508 : Fld Z T497.heap b482 "com/example/hinagata/hinagata/Refusal" "operation" "Ljava/util/OptionalInt;" (.ref x_481) := f496_2.keep K497 nin0
    have f509 : Fld Z T497.heap b482 "com/example/hinagata/hinagata/Refusal" "reason" "Ljava/lang/String;" (.ref a4) := f496_3.keep K497 nin0
    have f510 : Exa Z h482 x_481 "java/util/OptionalInt" := f481_0.ext E482
    have f511 : Exa Z T496.heap x_481 "java/util/OptionalInt" := f510.keep K496
    have f512 : Exa Z T497.heap x_481 "java/util/OptionalInt" := f511.keep K497
    have f513 : Fld Z h482 x_481 "java/util/OptionalInt" "isPresent" "Z" (.int (1 : Int32)) := f481_1.ext E482
    have ne514 : @Ne Nat x_481 b482 := Exa.ne f512 f506 (by decide)
    have f515 : Fld Z T496.heap x_481 "java/util/OptionalInt" "isPresent" "Z" (.int (1 : Int32)) := f513.keep K496 (ninS ne514 nin0)
    have f516 : Fld Z T497.heap x_481 "java/util/OptionalInt" "isPresent" "Z" (.int (1 : Int32)) := f515.keep K497 nin0
    have f517 : Fld Z h482 x_481 "java/util/OptionalInt" "value" "I" (.int p3) := f481_2.ext E482
    have f518 : Fld Z T496.heap x_481 "java/util/OptionalInt" "value" "I" (.int p3) := f517.keep K496 (ninS ne514 nin0)
    have f519 : Fld Z T497.heap x_481 "java/util/OptionalInt" "value" "I" (.int p3) := f518.keep K497 nin0
    subst hPP
    refine ⟨_, _, own_retA X497 hx Bd.returns rfl rfl (hb hby dp16_3_41) hr500, hrun500, hend500, _, _, rfl, ?_, ⟨_, rfl⟩, hW500, hsm500.mono (by decide) (by decide)⟩
    · show Q_toOutcome Z _ _ _ _ _ h0 _ T497.heap _
      exact ⟨x_497, b482, x_481, 1, p3, rfl, N497, K505, f497_0, f497_1, f506, f507, f508, f509, f512, f516, f519, (Or.inr ⟨h5, rfl, rfl⟩)⟩
theorem dp14_4_0 : decode prog_14_method_4_code 0 = .ok (.aload_n 0, 1) := by decide +kernel
theorem dp14_4_1 : decode prog_14_method_4_code 1 = .ok (.getfield 13, 3) := by decide +kernel
theorem dp14_4_4 : decode prog_14_method_4_code 4 = .ok (.ifnonnull 7, 3) := by decide +kernel
theorem dp14_4_11 : decode prog_14_method_4_code 11 = .ok (.iconst 0, 1) := by decide +kernel
theorem dp14_4_12 : decode prog_14_method_4_code 12 = .ok (.ireturn, 1) := by decide +kernel
def Q_isDone (Z : State) (a1 : Nat) (a2 : Nat) (h0 : Heap) (v : Option Value) (h : Heap) (L : List Loc) : Prop := v = some (.int (0 : Int32)) ∧ Fr Z.heap.size L ∧ h = h0
set_option maxRecDepth 65536 in
set_option maxHeartbeats 40000000 in
theorem rm_isDone (l : Launch) (Z : State) (a0 : Array Value) (hw : ∀ d ∈ tables_1, d.before a0 Z = true) (ws : List Jvm.Cond) (a1 : Nat) (a2 : Nat) (h0 : Heap) (OL : Old Z Z.heap.size h0) (p0_ : Fld Z h0 a1 "com/example/hinagata/hinagata/Outcome" "refusal" "Lcom/example/hinagata/hinagata/Refusal;" (.ref a2)) :
    MetFree l mN1 (head1 (Jvm.Cond.code mN1 prog_14_method_4_code 1 (some .boolean) :: ws) rM0) (fun a U => a = #[(.ref a1)] ∧ Z.Warmed39 U.vm ∧ U.heap = h0) (fun _ _ _ _ _ => True) (fun _ U o U' => ∃ v L, o = .returned v ∧ Q_isDone Z a1 a2 h0 v U'.heap L ∧ FrameEnd U o U' L rM0.cells rM0.slots) := by
  refine MetFree.of_bodySF (plainFor_of_name pn_231) hisR ?_
  intro p e s m args below meth c s₁ Bd hml0 hP hK
  obtain ⟨rfl, hZ, hh⟩ := hP
  have hx := Bd.exec
  have hby := Bd.bytes
  have hml : c.maxLocals = 1 := hml0
  have hown : s.vm.findClass "com/example/hinagata/hinagata/Outcome" = some m.cls := findClass_of_methodNamed Bd.named
  have hnm := (name_of_methodNamed Bd.named Bd.method).1
  have X0 : Stand p l e rM0 s m #[(.ref a1)] below meth c s₁ [] 0 0 := Stand.of_body Bd
  have e0 : s₁.heap = h0 := by rw [← hh, Bd.state]; rfl
  have N0 := Fr.nil Z.heap.size
  have Z0 : Z.heap.size ≤ h0.size := OL.2.1
  have lt_0 : @LT.lt Nat _ a1 h0.size := p0_.lt
  show oG p.tables e below (fun o tE => ∃ v L, o = .returned v ∧ Q_isDone Z a1 a2 h0 v tE.heap L ∧ FrameEnd s o tE L rM0.cells rM0.slots) (s₁.setTop (entryFrame m #[(.ref a1)] 1))
  refine own_hd (fun PP hPP => ?_)
  refine oG.st (fun t k => castTop (ef_173 m a1) k) ?_
  refine oG.st (fun _ k => XS.aloadN X0.here hx rfl (hb hby dp14_4_0) rfl rfl k) ?_
  show oG _ _ _ _ (s₁.setTop (mkF m 1 #[.val (.ref a1)] [(.ref a1)]))
  obtain ⟨T520, X520, e520, st520⟩ := getF X0 hx hZ hown (host := "") (Or.inl (own_w hw 165 rfl)) Via.refl e0 p0_ (g := (mkF m 1 #[.val (.ref a1)] [(.ref a1)])) rfl rfl (hb hby dp14_4_1)
  refine oG.st st520 ?_
  show oG _ _ _ _ (T520.setTop (mkF m 4 #[.val (.ref a1)] [(.ref a2)]))
  refine oG.st (fun _ k => XS.ifnonnullYes X520.here hx rfl (pc0 := 4) (pc' := 11) rfl (hb hby dp14_4_4) rfl (by decide) (by decide) k) ?_
  refine oG.st (fun _ k => XS.iconst X520.here hx rfl (hb hby dp14_4_11) k) ?_
  show oG _ _ _ _ (T520.setTop (mkF m 12 #[.val (.ref a1)] [(.int (0 : Int32))]))
  obtain ⟨fs521, hr521, hrun521, hend521, hW521, hsm521⟩ := X520.leave (v := some (.int (nar .boolean (0 : Int32)))) (fun h => by rw [Bd.returns] at h; cases h)
  subst hPP
  refine ⟨_, _, retN X520 hx (t := .boolean) Bd.returns (by simp) (hb hby dp14_4_12) hr521, hrun521, hend521, _, _, rfl, ?_, ⟨_, rfl⟩, hW521, hsm521.mono (by decide) (by decide)⟩
  · show Q_isDone Z _ _ h0 _ T520.heap _
    rw [e520]
    exact ⟨rfl, N0, rfl⟩
theorem pn_282 : plainName "java/util/Optional" = true := by first | (simp [plainName, overriddenIn]; done) | decide +kernel
theorem dj32_2_0 : decode cJ2 0 = .ok (.aload_n 0, 1) := by decide +kernel
theorem dj32_2_1 : decode cJ2 1 = .ok (.invokespecial 7, 3) := by decide +kernel
theorem dj32_2_4 : decode cJ2 4 = .ok (.aload_n 0, 1) := by decide +kernel
theorem dj32_2_5 : decode cJ2 5 = .ok (.aload_n 1, 1) := by decide +kernel
theorem dj32_2_6 : decode cJ2 6 = .ok (.putfield 13, 3) := by decide +kernel
theorem dj32_2_9 : decode cJ2 9 = .ok (.return_, 1) := by decide +kernel
def Q_opinit (Z : State) (a1 : Nat) (a2 : Nat) (h0 : Heap) (v : Option Value) (h : Heap) (L : List Loc) : Prop := v = none ∧ Fr Z.heap.size L ∧ Keep h0 h [a1] ∧ Exa Z h a1 "java/util/Optional" ∧ Fld Z h a1 "java/util/Optional" "value" "Ljava/lang/Object;" (.ref a2)
set_option maxRecDepth 65536 in
set_option maxHeartbeats 40000000 in
theorem rm_opinit (l : Launch) (Z : State) (a0 : Array Value) (hw : ∀ d ∈ tables_1, d.before a0 Z = true) (ws : List Jvm.Cond) (a1 : Nat) (a2 : Nat) (h0 : Heap) (OL : Old Z Z.heap.size h0) (p0_ : Exa Z h0 a1 "java/util/Optional") (p1_ : Fld Z h0 a1 "java/util/Optional" "value" "Ljava/lang/Object;" .null) (hn0 : Z.heap.size ≤ a1) :
    MetFree l mN23 (head1 (Jvm.Cond.code mN23 jdk_32_method_2_code 2 none :: ws) rM1) (fun a U => a = #[(.ref a1), (.ref a2)] ∧ Z.Warmed39 U.vm ∧ U.heap = h0) (fun _ _ _ _ _ => True) (fun _ U o U' => ∃ v L, o = .returned v ∧ Q_opinit Z a1 a2 h0 v U'.heap L ∧ FrameEnd U o U' L rM1.cells rM1.slots) := by
  refine MetFree.of_bodySF (plainFor_of_name pn_282) hisR ?_
  intro p e s m args below meth c s₁ Bd hml0 hP hK
  obtain ⟨rfl, hZ, hh⟩ := hP
  have hx := Bd.exec
  have hby := Bd.bytes
  have hml : c.maxLocals = 2 := hml0
  have hown : s.vm.findClass "java/util/Optional" = some m.cls := findClass_of_methodNamed Bd.named
  have hnm := (name_of_methodNamed Bd.named Bd.method).1
  have X0 : Stand p l e rM1 s m #[(.ref a1), (.ref a2)] below meth c s₁ [] 0 0 := Stand.of_body Bd
  have e0 : s₁.heap = h0 := by rw [← hh, Bd.state]; rfl
  have N0 := Fr.nil Z.heap.size
  have Z0 : Z.heap.size ≤ h0.size := OL.2.1
  have lt_0 : @LT.lt Nat _ a1 h0.size := p0_.lt
  have lt_1 : @LT.lt Nat _ a1 h0.size := p1_.lt
  show oG p.tables e below (fun o tE => ∃ v L, o = .returned v ∧ Q_opinit Z a1 a2 h0 v tE.heap L ∧ FrameEnd s o tE L rM1.cells rM1.slots) (s₁.setTop (entryFrame m #[(.ref a1), (.ref a2)] 2))
  refine own_hd (fun PP hPP => ?_)
  refine oG.st (fun t k => castTop (ef_15 m a1 a2) k) ?_
  refine oG.st (fun _ k => XS.aloadN X0.here hx rfl (hb hby dj32_2_0) rfl rfl k) ?_
  show oG _ _ _ _ (s₁.setTop (mkF m 1 #[.val (.ref a1), .val (.ref a2)] [(.ref a1)]))
  obtain ⟨T522, X522, e522, st522⟩ := initO X0 hx hZ hown (own_w hw 187 rfl) (own_w hw 22 rfl) (own_w hw 23 rfl) e0 (g := (mkF m 1 #[.val (.ref a1), .val (.ref a2)] [(.ref a1)])) rfl (by rw [hml]; rfl) rfl (hb hby dj32_2_1) (by decide) (W := 0) (by show 2 * 0 + _ ≤ _; exact Nat.le_of_eq rfl) (by decide)
  refine oG.st st522 ?_
  refine oG.st (fun _ k => XS.aloadN X522.here hx rfl (hb hby dj32_2_4) rfl rfl (XS.aloadN X522.here hx rfl (hb hby dj32_2_5) rfl rfl k)) ?_
  show oG _ _ _ _ (T522.setTop (mkF m 6 #[.val (.ref a1), .val (.ref a2)] [(.ref a2), (.ref a1)]))
  obtain ⟨T523, h523, X523, e523, W523, st523⟩ := putF X522 hx hZ hown (host := "") (Or.inl (own_w hw 188 rfl)) Via.refl e522 p1_ p0_ (Or.inr ⟨(own_w hw 189 rfl), rfl, hnm⟩) (own_w hw 182 rfl) (ty := (.object "java/lang/Object")) (by decide) rfl rfl (g := (mkF m 6 #[.val (.ref a1), .val (.ref a2)] [(.ref a2), (.ref a1)])) rfl rfl (hb hby dj32_2_6)
  refine oG.st st523 ?_
  have gz524 : Z.heap.size ≤ a1 := by omega
  have N523 := Fr.snoc X523 N0 gz524
  have z523 : h0.size ≤ h523.size := Nat.le_of_eq W523.size.symm
  have f525 : Fld Z h523 a1 "java/util/Optional" "value" "Ljava/lang/Object;" (.ref a2) := p1_.same W523
  show oG _ _ _ _ (T523.setTop (mkF m 9 #[.val (.ref a1), .val (.ref a2)] []))
  obtain ⟨fs526, hr526, hrun526, hend526, hW526, hsm526⟩ := X523.leave (v := none) (fun _ => rfl)
  have K527 : Keep h0 h523 [a1] := (Keep.refl h0 [a1]).wr W523 (Or.inl (List.mem_of_getElem? (i := 0) rfl))
  have f528 : Exa Z h523 a1 "java/util/Optional" := p0_.wr W523
  subst hPP
  refine ⟨_, _, X523.returnOut hx Bd.returns (hb hby dj32_2_9) hr526, hrun526, hend526, _, _, rfl, ?_, ⟨_, rfl⟩, hW526, hsm526.mono (by decide) (by decide)⟩
  · show Q_opinit Z _ _ h0 _ T523.heap _
    rw [e523]
    exact ⟨rfl, N523, K527, f528, f525⟩
theorem dj32_4_0 : decode cJ3 0 = .ok (.aload_n 0, 1) := by decide +kernel
theorem dj32_4_1 : decode cJ3 1 = .ok (.ifnonnull 9, 3) := by decide +kernel
theorem dj32_4_10 : decode cJ3 10 = .ok (.new 2, 3) := by decide +kernel
theorem dj32_4_13 : decode cJ3 13 = .ok (.dup, 1) := by decide +kernel
theorem dj32_4_14 : decode cJ3 14 = .ok (.aload_n 0, 1) := by decide +kernel
theorem pd_294 : parseMethodDescriptor "(Ljava/lang/Object;)V" = some ⟨[(.object "java/lang/Object")], none⟩ := by decide +kernel
theorem dj32_4_15 : decode cJ3 15 = .ok (.invokespecial 23, 3) := by decide +kernel
theorem dj32_4_18 : decode cJ3 18 = .ok (.areturn, 1) := by decide +kernel
def Q_opofn (Z : State) (a1 : Nat) (h0 : Heap) (v : Option Value) (h : Heap) (L : List Loc) : Prop := ∃ (x : Nat), v = some (.ref x) ∧ Fr Z.heap.size L ∧ Keep h0 h [] ∧ Exa Z h x "java/util/Optional" ∧ Fld Z h x "java/util/Optional" "value" "Ljava/lang/Object;" (.ref a1) ∧ (h0.size ≤ x)
set_option maxRecDepth 65536 in
set_option maxHeartbeats 40000000 in
theorem rm_opofn (l : Launch) (Z : State) (a0 : Array Value) (hw : ∀ d ∈ tables_1, d.before a0 Z = true) (ws : List Jvm.Cond) (a1 : Nat) (h0 : Heap) (OL : Old Z Z.heap.size h0) :
    MetFree l mN26 (head1 (Jvm.Cond.code mN26 jdk_32_method_4_code 1 (some (.object "java/util/Optional")) :: ws) rM4) (fun a U => a = #[(.ref a1)] ∧ Z.Warmed39 U.vm ∧ U.heap = h0) (fun _ _ _ _ _ => True) (fun _ U o U' => ∃ v L, o = .returned v ∧ Q_opofn Z a1 h0 v U'.heap L ∧ FrameEnd U o U' L rM4.cells rM4.slots) := by
  refine MetFree.of_bodySF (plainFor_of_name pn_282) hisR ?_
  intro p e s m args below meth c s₁ Bd hml0 hP hK
  obtain ⟨rfl, hZ, hh⟩ := hP
  have hx := Bd.exec
  have hby := Bd.bytes
  have hml : c.maxLocals = 1 := hml0
  have hown : s.vm.findClass "java/util/Optional" = some m.cls := findClass_of_methodNamed Bd.named
  have hnm := (name_of_methodNamed Bd.named Bd.method).1
  have X0 : Stand p l e rM4 s m #[(.ref a1)] below meth c s₁ [] 0 0 := Stand.of_body Bd
  have e0 : s₁.heap = h0 := by rw [← hh, Bd.state]; rfl
  have N0 := Fr.nil Z.heap.size
  have Z0 : Z.heap.size ≤ h0.size := OL.2.1
  show oG p.tables e below (fun o tE => ∃ v L, o = .returned v ∧ Q_opofn Z a1 h0 v tE.heap L ∧ FrameEnd s o tE L rM4.cells rM4.slots) (s₁.setTop (entryFrame m #[(.ref a1)] 1))
  refine own_hd (fun PP hPP => ?_)
  refine oG.st (fun t k => castTop (ef_173 m a1) k) ?_
  refine oG.st (fun _ k => XS.aloadN X0.here hx rfl (hb hby dj32_4_0) rfl rfl k) ?_
  show oG _ _ _ _ (s₁.setTop (mkF m 1 #[.val (.ref a1)] [(.ref a1)]))
  refine oG.st (fun _ k => XS.ifnonnullYes X0.here hx rfl (pc0 := 1) (pc' := 10) rfl (hb hby dj32_4_1) rfl (by decide) (by decide) k) ?_
  show oG _ _ _ _ (s₁.setTop (mkF m 10 #[.val (.ref a1)] []))
  obtain ⟨T529, h529, X529, e529, E529, A529, D529, U529, st529⟩ := newO X0 hx hZ hown (own_w hw 181 rfl) (own_w hw 182 rfl) (own_w hw 179 rfl) e0 (g := (mkF m 10 #[.val (.ref a1)] [])) rfl (hb hby dj32_4_10) (by decide) (by decide)
  obtain ⟨b529, g529⟩ : ∃ z, z = h0.size := ⟨_, rfl⟩
  rw [← g529] at A529 D529 U529 st529
  refine oG.st st529 ?_
  have z529 : h0.size ≤ h529.size := E529.1
  have lt_b529 : @LT.lt Nat _ b529 h529.size := A529.lt
  have f530 : Fld Z h529 b529 "java/util/Optional" "value" "Ljava/lang/Object;" .null := D529 (Or.inr (own_w hw 189 rfl)) (ty := (.object "java/lang/Object")) (by decide)
  refine oG.st (fun _ k => XS.dup X529.here hx rfl (hb hby dj32_4_13) rfl rfl (XS.aloadN X529.here hx rfl (hb hby dj32_4_14) rfl rfl k)) ?_
  show oG _ _ _ _ (T529.setTop (mkF m 15 #[.val (.ref a1)] [(.ref a1), (.ref b529), (.ref b529)]))
  have f532 : Old Z Z.heap.size h529 := OL.ext E529
  obtain ⟨_, _, ⟨T531, L531, k531, n531⟩, -, X531, ⟨Lc531, hQ531, l531, y531, z531⟩, st531⟩ := X529.specialBack hx (y := mN23) rfl hown (own_v hZ hw 183 rfl) (own_v hZ hw 184 rfl) (own_v hZ hw 186 rfl) (by decide) (backOf (W := 1) (rm_opinit l Z a0 hw [] b529 a1 h529 f532 A529 f530 (by omega)) hZ (own_w hw 186 rfl) (own_w hw 179 rfl) (by decide) (by decide)) (g := (mkF m 15 #[.val (.ref a1)] [(.ref a1), (.ref b529), (.ref b529)])) rfl (by rw [hml]; rfl) (Steps.refl _) (a := b529) (argsL := [(.ref a1)]) (rest := [(.ref b529)]) (lenOf pd_294 rfl) rfl (by show 2 * 0 + _ ≤ _; exact Nat.le_of_eq rfl) (hb hby dj32_4_15) (fun _ _ => ⟨rfl, e529, (by decide : 1 + 0 ≤ _), (by decide : 1 + 0 ≤ _)⟩)
  dsimp only [Pt.U, Pt.locs, Pt.cells, Pt.slots] at X531 l531 y531 z531 st531 hQ531
  subst l531 y531 z531
  obtain ⟨rfl, N531q, K531, f531_0, f531_1⟩ := hQ531
  have N531 := Fr.app N0 N531q
  have z531 : h529.size ≤ T531.heap.size := K531.1
  have lt531_0 : @LT.lt Nat _ b529 T531.heap.size := f531_0.lt
  have lt531_1 : @LT.lt Nat _ b529 T531.heap.size := f531_1.lt
  refine oG.tr st531 ?_
  show oG _ _ _ _ (T531.setTop (mkF m 18 #[.val (.ref a1)] [(.ref b529)]))
  obtain ⟨fs533, hr533, hrun533, hend533, hW533, hsm533⟩ := X531.leave (v := some (.ref b529)) (fun h => by rw [Bd.returns] at h; cases h)
  have K534 : Keep h0 h529 [] := (Keep.refl h0 []).ext E529
  have gz535 : h0.size ≤ b529 := by omega
  have K536 : Keep h0 T531.heap [] := K534.trans K531 (allS (Or.inr gz535) all0)
  subst hPP
  refine ⟨_, _, own_retA X531 hx Bd.returns rfl rfl (hb hby dj32_4_18) hr533, hrun533, hend533, _, _, rfl, ?_, ⟨_, rfl⟩, hW533, hsm533.mono (by decide) (by decide)⟩
  · show Q_opofn Z _ h0 _ T531.heap _
    exact ⟨b529, rfl, N531, K536, f531_0, f531_1, (by omega)⟩
theorem dp14_6_0 : decode prog_14_method_6_code 0 = .ok (.aload_n 0, 1) := by decide +kernel
theorem dp14_6_1 : decode prog_14_method_6_code 1 = .ok (.getfield 13, 3) := by decide +kernel
theorem pd_299 : parseMethodDescriptor "(Ljava/lang/Object;)Ljava/util/Optional;" = some ⟨[(.object "java/lang/Object")], some (.object "java/util/Optional")⟩ := by decide +kernel
theorem dp14_6_4 : decode prog_14_method_6_code 4 = .ok (.invokestatic 41, 3) := by decide +kernel
theorem dp14_6_7 : decode prog_14_method_6_code 7 = .ok (.areturn, 1) := by decide +kernel
def Q_refusal (Z : State) (a1 : Nat) (a2 : Nat) (h0 : Heap) (v : Option Value) (h : Heap) (L : List Loc) : Prop := ∃ (x : Nat), v = some (.ref x) ∧ Fr Z.heap.size L ∧ Keep h0 h [] ∧ Exa Z h x "java/util/Optional" ∧ Fld Z h x "java/util/Optional" "value" "Ljava/lang/Object;" (.ref a2) ∧ (h0.size ≤ x)
set_option maxRecDepth 65536 in
set_option maxHeartbeats 40000000 in
theorem rm_refusal (l : Launch) (Z : State) (a0 : Array Value) (hw : ∀ d ∈ tables_1, d.before a0 Z = true) (ws : List Jvm.Cond) (a1 : Nat) (a2 : Nat) (h0 : Heap) (OL : Old Z Z.heap.size h0) (p0_ : Fld Z h0 a1 "com/example/hinagata/hinagata/Outcome" "refusal" "Lcom/example/hinagata/hinagata/Refusal;" (.ref a2)) :
    MetFree l mN2 (head1 (Jvm.Cond.code mN2 prog_14_method_6_code 1 (some (.object "java/util/Optional")) :: ws) rM7) (fun a U => a = #[(.ref a1)] ∧ Z.Warmed39 U.vm ∧ U.heap = h0) (fun _ _ _ _ _ => True) (fun _ U o U' => ∃ v L, o = .returned v ∧ Q_refusal Z a1 a2 h0 v U'.heap L ∧ FrameEnd U o U' L rM7.cells rM7.slots) := by
  refine MetFree.of_bodySF (plainFor_of_name pn_231) hisR ?_
  intro p e s m args below meth c s₁ Bd hml0 hP hK
  obtain ⟨rfl, hZ, hh⟩ := hP
  have hx := Bd.exec
  have hby := Bd.bytes
  have hml : c.maxLocals = 1 := hml0
  have hown : s.vm.findClass "com/example/hinagata/hinagata/Outcome" = some m.cls := findClass_of_methodNamed Bd.named
  have hnm := (name_of_methodNamed Bd.named Bd.method).1
  have X0 : Stand p l e rM7 s m #[(.ref a1)] below meth c s₁ [] 0 0 := Stand.of_body Bd
  have e0 : s₁.heap = h0 := by rw [← hh, Bd.state]; rfl
  have N0 := Fr.nil Z.heap.size
  have Z0 : Z.heap.size ≤ h0.size := OL.2.1
  have lt_0 : @LT.lt Nat _ a1 h0.size := p0_.lt
  show oG p.tables e below (fun o tE => ∃ v L, o = .returned v ∧ Q_refusal Z a1 a2 h0 v tE.heap L ∧ FrameEnd s o tE L rM7.cells rM7.slots) (s₁.setTop (entryFrame m #[(.ref a1)] 1))
  refine own_hd (fun PP hPP => ?_)
  refine oG.st (fun t k => castTop (ef_173 m a1) k) ?_
  refine oG.st (fun _ k => XS.aloadN X0.here hx rfl (hb hby dp14_6_0) rfl rfl k) ?_
  show oG _ _ _ _ (s₁.setTop (mkF m 1 #[.val (.ref a1)] [(.ref a1)]))
  obtain ⟨T537, X537, e537, st537⟩ := getF X0 hx hZ hown (host := "") (Or.inl (own_w hw 165 rfl)) Via.refl e0 p0_ (g := (mkF m 1 #[.val (.ref a1)] [(.ref a1)])) rfl rfl (hb hby dp14_6_1)
  refine oG.st st537 ?_
  show oG _ _ _ _ (T537.setTop (mkF m 4 #[.val (.ref a1)] [(.ref a2)]))
  obtain ⟨_, _, ⟨T538, L538, k538, n538⟩, -, X538, ⟨Lc538, hQ538, l538, y538, z538⟩, st538⟩ := Jvm.LawKit.callS X537 hx (y := mN26) hown (own_v hZ hw 177 rfl) (own_v hZ hw 178 rfl) (own_v hZ hw 179 rfl) (own_v hZ hw 180 rfl) (by decide) (backOf (W := 0) (rm_opofn l Z a0 hw [] a2 h0 OL ) hZ (own_w hw 180 rfl) (own_w hw 179 rfl) (by decide) (by decide)) (g := (mkF m 4 #[.val (.ref a1)] [(.ref a2)])) rfl (by rw [hml]; rfl) (argsL := [(.ref a2)]) (rest := []) (lenOf pd_299 rfl) rfl (by show 2 * 0 + _ ≤ _; exact Nat.le_of_eq rfl) (hb hby dp14_6_4) (fun _ _ => ⟨rfl, e537, (by decide : 0 + 1 ≤ _), (by decide : 0 + 4 ≤ _)⟩)
  dsimp only [Pt.U, Pt.locs, Pt.cells, Pt.slots] at X538 l538 y538 z538 st538 hQ538
  subst l538 y538 z538
  obtain ⟨x_538, rfl, N538q, K538, f538_0, f538_1, pr538_0⟩ := hQ538
  have N538 := Fr.app N0 N538q
  have z538 : h0.size ≤ T538.heap.size := K538.1
  have lt538_0 : @LT.lt Nat _ x_538 T538.heap.size := f538_0.lt
  have lt538_1 : @LT.lt Nat _ x_538 T538.heap.size := f538_1.lt
  refine oG.st st538 ?_
  show oG _ _ _ _ (T538.setTop (mkF m 7 #[.val (.ref a1)] [(.ref x_538)]))
  obtain ⟨fs539, hr539, hrun539, hend539, hW539, hsm539⟩ := X538.leave (v := some (.ref x_538)) (fun h => by rw [Bd.returns] at h; cases h)
  have K540 : Keep h0 T538.heap [] := (Keep.refl h0 []).trans K538 all0
  subst hPP
  refine ⟨_, _, own_retA X538 hx Bd.returns rfl rfl (hb hby dp14_6_7) hr539, hrun539, hend539, _, _, rfl, ?_, ⟨_, rfl⟩, hW539, hsm539.mono (by decide) (by decide)⟩
  · show Q_refusal Z _ _ h0 _ T538.heap _
    exact ⟨x_538, rfl, N538, K540, f538_0, f538_1, (by omega)⟩
theorem dj32_6_0 : decode cJ5 0 = .ok (.aload_n 0, 1) := by decide +kernel
theorem dj32_6_1 : decode cJ5 1 = .ok (.getfield 13, 3) := by decide +kernel
theorem dj32_6_4 : decode cJ5 4 = .ok (.ifnull 7, 3) := by decide +kernel
theorem dj32_6_7 : decode cJ5 7 = .ok (.iconst 1, 1) := by decide +kernel
theorem dj32_6_8 : decode cJ5 8 = .ok (.goto 4, 3) := by decide +kernel
theorem dj32_6_12 : decode cJ5 12 = .ok (.ireturn, 1) := by decide +kernel
def Q_opis (Z : State) (a1 : Nat) (a2 : Nat) (h0 : Heap) (v : Option Value) (h : Heap) (L : List Loc) : Prop := v = some (.int (1 : Int32)) ∧ Fr Z.heap.size L ∧ h = h0
set_option maxRecDepth 65536 in
set_option maxHeartbeats 40000000 in
theorem rm_opis (l : Launch) (Z : State) (a0 : Array Value) (hw : ∀ d ∈ tables_1, d.before a0 Z = true) (ws : List Jvm.Cond) (a1 : Nat) (a2 : Nat) (h0 : Heap) (OL : Old Z Z.heap.size h0) (p0_ : Fld Z h0 a1 "java/util/Optional" "value" "Ljava/lang/Object;" (.ref a2)) :
    MetFree l mN25 (head1 (Jvm.Cond.code mN25 jdk_32_method_6_code 1 (some .boolean) :: ws) rM0) (fun a U => a = #[(.ref a1)] ∧ Z.Warmed39 U.vm ∧ U.heap = h0) (fun _ _ _ _ _ => True) (fun _ U o U' => ∃ v L, o = .returned v ∧ Q_opis Z a1 a2 h0 v U'.heap L ∧ FrameEnd U o U' L rM0.cells rM0.slots) := by
  refine MetFree.of_bodySF (plainFor_of_name pn_282) hisR ?_
  intro p e s m args below meth c s₁ Bd hml0 hP hK
  obtain ⟨rfl, hZ, hh⟩ := hP
  have hx := Bd.exec
  have hby := Bd.bytes
  have hml : c.maxLocals = 1 := hml0
  have hown : s.vm.findClass "java/util/Optional" = some m.cls := findClass_of_methodNamed Bd.named
  have hnm := (name_of_methodNamed Bd.named Bd.method).1
  have X0 : Stand p l e rM0 s m #[(.ref a1)] below meth c s₁ [] 0 0 := Stand.of_body Bd
  have e0 : s₁.heap = h0 := by rw [← hh, Bd.state]; rfl
  have N0 := Fr.nil Z.heap.size
  have Z0 : Z.heap.size ≤ h0.size := OL.2.1
  have lt_0 : @LT.lt Nat _ a1 h0.size := p0_.lt
  show oG p.tables e below (fun o tE => ∃ v L, o = .returned v ∧ Q_opis Z a1 a2 h0 v tE.heap L ∧ FrameEnd s o tE L rM0.cells rM0.slots) (s₁.setTop (entryFrame m #[(.ref a1)] 1))
  refine own_hd (fun PP hPP => ?_)
  refine oG.st (fun t k => castTop (ef_173 m a1) k) ?_
  refine oG.st (fun _ k => XS.aloadN X0.here hx rfl (hb hby dj32_6_0) rfl rfl k) ?_
  show oG _ _ _ _ (s₁.setTop (mkF m 1 #[.val (.ref a1)] [(.ref a1)]))
  obtain ⟨T541, X541, e541, st541⟩ := getF X0 hx hZ hown (host := "") (Or.inl (own_w hw 188 rfl)) Via.refl e0 p0_ (g := (mkF m 1 #[.val (.ref a1)] [(.ref a1)])) rfl rfl (hb hby dj32_6_1)
  refine oG.st st541 ?_
  show oG _ _ _ _ (T541.setTop (mkF m 4 #[.val (.ref a1)] [(.ref a2)]))
  refine oG.st (fun _ k => XS.ifnullNo X541.here hx rfl (hb hby dj32_6_4) rfl k) ?_
  refine oG.st (fun _ k => XS.iconst X541.here hx rfl (hb hby dj32_6_7) (XS.goto X541.here hx rfl (pc0 := 8) (pc' := 12) rfl (hb hby dj32_6_8) (by decide) (by decide) k)) ?_
  show oG _ _ _ _ (T541.setTop (mkF m 12 #[.val (.ref a1)] [(.int (1 : Int32))]))
  obtain ⟨fs542, hr542, hrun542, hend542, hW542, hsm542⟩ := X541.leave (v := some (.int (nar .boolean (1 : Int32)))) (fun h => by rw [Bd.returns] at h; cases h)
  subst hPP
  refine ⟨_, _, retN X541 hx (t := .boolean) Bd.returns (by simp) (hb hby dj32_6_12) hr542, hrun542, hend542, _, _, rfl, ?_, ⟨_, rfl⟩, hW542, hsm542.mono (by decide) (by decide)⟩
  · show Q_opis Z _ _ h0 _ T541.heap _
    rw [e541]
    exact ⟨rfl, N0, rfl⟩
theorem dj32_5_0 : decode cJ4 0 = .ok (.aload_n 0, 1) := by decide +kernel
theorem dj32_5_1 : decode cJ4 1 = .ok (.getfield 13, 3) := by decide +kernel
theorem dj32_5_4 : decode cJ4 4 = .ok (.ifnonnull 13, 3) := by decide +kernel
theorem dj32_5_17 : decode cJ4 17 = .ok (.aload_n 0, 1) := by decide +kernel
theorem dj32_5_18 : decode cJ4 18 = .ok (.getfield 13, 3) := by decide +kernel
theorem dj32_5_21 : decode cJ4 21 = .ok (.areturn, 1) := by decide +kernel
def Q_opget (Z : State) (a1 : Nat) (a2 : Nat) (h0 : Heap) (v : Option Value) (h : Heap) (L : List Loc) : Prop := v = some (.ref a2) ∧ Fr Z.heap.size L ∧ h = h0
set_option maxRecDepth 65536 in
set_option maxHeartbeats 40000000 in
theorem rm_opget (l : Launch) (Z : State) (a0 : Array Value) (hw : ∀ d ∈ tables_1, d.before a0 Z = true) (ws : List Jvm.Cond) (a1 : Nat) (a2 : Nat) (h0 : Heap) (OL : Old Z Z.heap.size h0) (p0_ : Fld Z h0 a1 "java/util/Optional" "value" "Ljava/lang/Object;" (.ref a2)) :
    MetFree l mN24 (head1 (Jvm.Cond.code mN24 jdk_32_method_5_code 1 (some (.object "java/lang/Object")) :: ws) rM0) (fun a U => a = #[(.ref a1)] ∧ Z.Warmed39 U.vm ∧ U.heap = h0) (fun _ _ _ _ _ => True) (fun _ U o U' => ∃ v L, o = .returned v ∧ Q_opget Z a1 a2 h0 v U'.heap L ∧ FrameEnd U o U' L rM0.cells rM0.slots) := by
  refine MetFree.of_bodySF (plainFor_of_name pn_282) hisR ?_
  intro p e s m args below meth c s₁ Bd hml0 hP hK
  obtain ⟨rfl, hZ, hh⟩ := hP
  have hx := Bd.exec
  have hby := Bd.bytes
  have hml : c.maxLocals = 1 := hml0
  have hown : s.vm.findClass "java/util/Optional" = some m.cls := findClass_of_methodNamed Bd.named
  have hnm := (name_of_methodNamed Bd.named Bd.method).1
  have X0 : Stand p l e rM0 s m #[(.ref a1)] below meth c s₁ [] 0 0 := Stand.of_body Bd
  have e0 : s₁.heap = h0 := by rw [← hh, Bd.state]; rfl
  have N0 := Fr.nil Z.heap.size
  have Z0 : Z.heap.size ≤ h0.size := OL.2.1
  have lt_0 : @LT.lt Nat _ a1 h0.size := p0_.lt
  show oG p.tables e below (fun o tE => ∃ v L, o = .returned v ∧ Q_opget Z a1 a2 h0 v tE.heap L ∧ FrameEnd s o tE L rM0.cells rM0.slots) (s₁.setTop (entryFrame m #[(.ref a1)] 1))
  refine own_hd (fun PP hPP => ?_)
  refine oG.st (fun t k => castTop (ef_173 m a1) k) ?_
  refine oG.st (fun _ k => XS.aloadN X0.here hx rfl (hb hby dj32_5_0) rfl rfl k) ?_
  show oG _ _ _ _ (s₁.setTop (mkF m 1 #[.val (.ref a1)] [(.ref a1)]))
  obtain ⟨T543, X543, e543, st543⟩ := getF X0 hx hZ hown (host := "") (Or.inl (own_w hw 188 rfl)) Via.refl e0 p0_ (g := (mkF m 1 #[.val (.ref a1)] [(.ref a1)])) rfl rfl (hb hby dj32_5_1)
  refine oG.st st543 ?_
  show oG _ _ _ _ (T543.setTop (mkF m 4 #[.val (.ref a1)] [(.ref a2)]))
  refine oG.st (fun _ k => XS.ifnonnullYes X543.here hx rfl (pc0 := 4) (pc' := 17) rfl (hb hby dj32_5_4) rfl (by decide) (by decide) k) ?_
  refine oG.st (fun _ k => XS.aloadN X543.here hx rfl (hb hby dj32_5_17) rfl rfl k) ?_
  show oG _ _ _ _ (T543.setTop (mkF m 18 #[.val (.ref a1)] [(.ref a1)]))
  obtain ⟨T544, X544, e544, st544⟩ := getF X543 hx hZ hown (host := "") (Or.inl (own_w hw 188 rfl)) Via.refl e543 p0_ (g := (mkF m 18 #[.val (.ref a1)] [(.ref a1)])) rfl rfl (hb hby dj32_5_18)
  refine oG.st st544 ?_
  show oG _ _ _ _ (T544.setTop (mkF m 21 #[.val (.ref a1)] [(.ref a2)]))
  obtain ⟨fs545, hr545, hrun545, hend545, hW545, hsm545⟩ := X544.leave (v := some (.ref a2)) (fun h => by rw [Bd.returns] at h; cases h)
  subst hPP
  refine ⟨_, _, own_retA X544 hx Bd.returns rfl rfl (hb hby dj32_5_21) hr545, hrun545, hend545, _, _, rfl, ?_, ⟨_, rfl⟩, hW545, hsm545.mono (by decide) (by decide)⟩
  · show Q_opget Z _ _ h0 _ T544.heap _
    rw [e544]
    exact ⟨rfl, N0, rfl⟩
theorem dp15_5_0 : decode prog_15_method_5_code 0 = .ok (.aload_n 0, 1) := by decide +kernel
theorem dp15_5_1 : decode prog_15_method_5_code 1 = .ok (.getfield 13, 3) := by decide +kernel
theorem dp15_5_4 : decode prog_15_method_5_code 4 = .ok (.areturn, 1) := by decide +kernel
def Q_rferr (Z : State) (a1 : Nat) (a2 : Nat) (h0 : Heap) (v : Option Value) (h : Heap) (L : List Loc) : Prop := v = some (.ref a2) ∧ Fr Z.heap.size L ∧ h = h0
set_option maxRecDepth 65536 in
set_option maxHeartbeats 40000000 in
theorem rm_rferr (l : Launch) (Z : State) (a0 : Array Value) (hw : ∀ d ∈ tables_1, d.before a0 Z = true) (ws : List Jvm.Cond) (a1 : Nat) (a2 : Nat) (h0 : Heap) (OL : Old Z Z.heap.size h0) (p0_ : Fld Z h0 a1 "com/example/hinagata/hinagata/Refusal" "errorClass" "Lcom/example/hinagata/hinagata/ErrorClass;" (.ref a2)) :
    MetFree l mN5 (head1 (Jvm.Cond.code mN5 prog_15_method_5_code 1 (some (.object "com/example/hinagata/hinagata/ErrorClass")) :: ws) rM0) (fun a U => a = #[(.ref a1)] ∧ Z.Warmed39 U.vm ∧ U.heap = h0) (fun _ _ _ _ _ => True) (fun _ U o U' => ∃ v L, o = .returned v ∧ Q_rferr Z a1 a2 h0 v U'.heap L ∧ FrameEnd U o U' L rM0.cells rM0.slots) := by
  refine MetFree.of_bodySF (plainFor_of_name pn_206) hisR ?_
  intro p e s m args below meth c s₁ Bd hml0 hP hK
  obtain ⟨rfl, hZ, hh⟩ := hP
  have hx := Bd.exec
  have hby := Bd.bytes
  have hml : c.maxLocals = 1 := hml0
  have hown : s.vm.findClass "com/example/hinagata/hinagata/Refusal" = some m.cls := findClass_of_methodNamed Bd.named
  have hnm := (name_of_methodNamed Bd.named Bd.method).1
  have X0 : Stand p l e rM0 s m #[(.ref a1)] below meth c s₁ [] 0 0 := Stand.of_body Bd
  have e0 : s₁.heap = h0 := by rw [← hh, Bd.state]; rfl
  have N0 := Fr.nil Z.heap.size
  have Z0 : Z.heap.size ≤ h0.size := OL.2.1
  have lt_0 : @LT.lt Nat _ a1 h0.size := p0_.lt
  show oG p.tables e below (fun o tE => ∃ v L, o = .returned v ∧ Q_rferr Z a1 a2 h0 v tE.heap L ∧ FrameEnd s o tE L rM0.cells rM0.slots) (s₁.setTop (entryFrame m #[(.ref a1)] 1))
  refine own_hd (fun PP hPP => ?_)
  refine oG.st (fun t k => castTop (ef_173 m a1) k) ?_
  refine oG.st (fun _ k => XS.aloadN X0.here hx rfl (hb hby dp15_5_0) rfl rfl k) ?_
  show oG _ _ _ _ (s₁.setTop (mkF m 1 #[.val (.ref a1)] [(.ref a1)]))
  obtain ⟨T546, X546, e546, st546⟩ := getF X0 hx hZ hown (host := "") (Or.inl (own_w hw 144 rfl)) Via.refl e0 p0_ (g := (mkF m 1 #[.val (.ref a1)] [(.ref a1)])) rfl rfl (hb hby dp15_5_1)
  refine oG.st st546 ?_
  show oG _ _ _ _ (T546.setTop (mkF m 4 #[.val (.ref a1)] [(.ref a2)]))
  obtain ⟨fs547, hr547, hrun547, hend547, hW547, hsm547⟩ := X546.leave (v := some (.ref a2)) (fun h => by rw [Bd.returns] at h; cases h)
  subst hPP
  refine ⟨_, _, own_retA X546 hx Bd.returns rfl rfl (hb hby dp15_5_4) hr547, hrun547, hend547, _, _, rfl, ?_, ⟨_, rfl⟩, hW547, hsm547.mono (by decide) (by decide)⟩
  · show Q_rferr Z _ _ h0 _ T546.heap _
    rw [e546]
    exact ⟨rfl, N0, rfl⟩
theorem dp15_7_0 : decode prog_15_method_7_code 0 = .ok (.aload_n 0, 1) := by decide +kernel
theorem dp15_7_1 : decode prog_15_method_7_code 1 = .ok (.getfield 23, 3) := by decide +kernel
theorem dp15_7_4 : decode prog_15_method_7_code 4 = .ok (.areturn, 1) := by decide +kernel
def Q_rfreason (Z : State) (a1 : Nat) (a2 : Nat) (h0 : Heap) (v : Option Value) (h : Heap) (L : List Loc) : Prop := v = some (.ref a2) ∧ Fr Z.heap.size L ∧ h = h0
set_option maxRecDepth 65536 in
set_option maxHeartbeats 40000000 in
theorem rm_rfreason (l : Launch) (Z : State) (a0 : Array Value) (hw : ∀ d ∈ tables_1, d.before a0 Z = true) (ws : List Jvm.Cond) (a1 : Nat) (a2 : Nat) (h0 : Heap) (OL : Old Z Z.heap.size h0) (p0_ : Fld Z h0 a1 "com/example/hinagata/hinagata/Refusal" "reason" "Ljava/lang/String;" (.ref a2)) :
    MetFree l mN7 (head1 (Jvm.Cond.code mN7 prog_15_method_7_code 1 (some (.object "java/lang/String")) :: ws) rM0) (fun a U => a = #[(.ref a1)] ∧ Z.Warmed39 U.vm ∧ U.heap = h0) (fun _ _ _ _ _ => True) (fun _ U o U' => ∃ v L, o = .returned v ∧ Q_rfreason Z a1 a2 h0 v U'.heap L ∧ FrameEnd U o U' L rM0.cells rM0.slots) := by
  refine MetFree.of_bodySF (plainFor_of_name pn_206) hisR ?_
  intro p e s m args below meth c s₁ Bd hml0 hP hK
  obtain ⟨rfl, hZ, hh⟩ := hP
  have hx := Bd.exec
  have hby := Bd.bytes
  have hml : c.maxLocals = 1 := hml0
  have hown : s.vm.findClass "com/example/hinagata/hinagata/Refusal" = some m.cls := findClass_of_methodNamed Bd.named
  have hnm := (name_of_methodNamed Bd.named Bd.method).1
  have X0 : Stand p l e rM0 s m #[(.ref a1)] below meth c s₁ [] 0 0 := Stand.of_body Bd
  have e0 : s₁.heap = h0 := by rw [← hh, Bd.state]; rfl
  have N0 := Fr.nil Z.heap.size
  have Z0 : Z.heap.size ≤ h0.size := OL.2.1
  have lt_0 : @LT.lt Nat _ a1 h0.size := p0_.lt
  show oG p.tables e below (fun o tE => ∃ v L, o = .returned v ∧ Q_rfreason Z a1 a2 h0 v tE.heap L ∧ FrameEnd s o tE L rM0.cells rM0.slots) (s₁.setTop (entryFrame m #[(.ref a1)] 1))
  refine own_hd (fun PP hPP => ?_)
  refine oG.st (fun t k => castTop (ef_173 m a1) k) ?_
  refine oG.st (fun _ k => XS.aloadN X0.here hx rfl (hb hby dp15_7_0) rfl rfl k) ?_
  show oG _ _ _ _ (s₁.setTop (mkF m 1 #[.val (.ref a1)] [(.ref a1)]))
  obtain ⟨T548, X548, e548, st548⟩ := getF X0 hx hZ hown (host := "") (Or.inl (own_w hw 148 rfl)) Via.refl e0 p0_ (g := (mkF m 1 #[.val (.ref a1)] [(.ref a1)])) rfl rfl (hb hby dp15_7_1)
  refine oG.st st548 ?_
  show oG _ _ _ _ (T548.setTop (mkF m 4 #[.val (.ref a1)] [(.ref a2)]))
  obtain ⟨fs549, hr549, hrun549, hend549, hW549, hsm549⟩ := X548.leave (v := some (.ref a2)) (fun h => by rw [Bd.returns] at h; cases h)
  subst hPP
  refine ⟨_, _, own_retA X548 hx Bd.returns rfl rfl (hb hby dp15_7_4) hr549, hrun549, hend549, _, _, rfl, ?_, ⟨_, rfl⟩, hW549, hsm549.mono (by decide) (by decide)⟩
  · show Q_rfreason Z _ _ h0 _ T548.heap _
    rw [e548]
    exact ⟨rfl, N0, rfl⟩
theorem dp15_6_0 : decode prog_15_method_6_code 0 = .ok (.aload_n 0, 1) := by decide +kernel
theorem dp15_6_1 : decode prog_15_method_6_code 1 = .ok (.getfield 19, 3) := by decide +kernel
theorem dp15_6_4 : decode prog_15_method_6_code 4 = .ok (.areturn, 1) := by decide +kernel
def Q_rfop (Z : State) (a1 : Nat) (a2 : Nat) (h0 : Heap) (v : Option Value) (h : Heap) (L : List Loc) : Prop := v = some (.ref a2) ∧ Fr Z.heap.size L ∧ h = h0
set_option maxRecDepth 65536 in
set_option maxHeartbeats 40000000 in
theorem rm_rfop (l : Launch) (Z : State) (a0 : Array Value) (hw : ∀ d ∈ tables_1, d.before a0 Z = true) (ws : List Jvm.Cond) (a1 : Nat) (a2 : Nat) (h0 : Heap) (OL : Old Z Z.heap.size h0) (p0_ : Fld Z h0 a1 "com/example/hinagata/hinagata/Refusal" "operation" "Ljava/util/OptionalInt;" (.ref a2)) :
    MetFree l mN6 (head1 (Jvm.Cond.code mN6 prog_15_method_6_code 1 (some (.object "java/util/OptionalInt")) :: ws) rM0) (fun a U => a = #[(.ref a1)] ∧ Z.Warmed39 U.vm ∧ U.heap = h0) (fun _ _ _ _ _ => True) (fun _ U o U' => ∃ v L, o = .returned v ∧ Q_rfop Z a1 a2 h0 v U'.heap L ∧ FrameEnd U o U' L rM0.cells rM0.slots) := by
  refine MetFree.of_bodySF (plainFor_of_name pn_206) hisR ?_
  intro p e s m args below meth c s₁ Bd hml0 hP hK
  obtain ⟨rfl, hZ, hh⟩ := hP
  have hx := Bd.exec
  have hby := Bd.bytes
  have hml : c.maxLocals = 1 := hml0
  have hown : s.vm.findClass "com/example/hinagata/hinagata/Refusal" = some m.cls := findClass_of_methodNamed Bd.named
  have hnm := (name_of_methodNamed Bd.named Bd.method).1
  have X0 : Stand p l e rM0 s m #[(.ref a1)] below meth c s₁ [] 0 0 := Stand.of_body Bd
  have e0 : s₁.heap = h0 := by rw [← hh, Bd.state]; rfl
  have N0 := Fr.nil Z.heap.size
  have Z0 : Z.heap.size ≤ h0.size := OL.2.1
  have lt_0 : @LT.lt Nat _ a1 h0.size := p0_.lt
  show oG p.tables e below (fun o tE => ∃ v L, o = .returned v ∧ Q_rfop Z a1 a2 h0 v tE.heap L ∧ FrameEnd s o tE L rM0.cells rM0.slots) (s₁.setTop (entryFrame m #[(.ref a1)] 1))
  refine own_hd (fun PP hPP => ?_)
  refine oG.st (fun t k => castTop (ef_173 m a1) k) ?_
  refine oG.st (fun _ k => XS.aloadN X0.here hx rfl (hb hby dp15_6_0) rfl rfl k) ?_
  show oG _ _ _ _ (s₁.setTop (mkF m 1 #[.val (.ref a1)] [(.ref a1)]))
  obtain ⟨T550, X550, e550, st550⟩ := getF X0 hx hZ hown (host := "") (Or.inl (own_w hw 146 rfl)) Via.refl e0 p0_ (g := (mkF m 1 #[.val (.ref a1)] [(.ref a1)])) rfl rfl (hb hby dp15_6_1)
  refine oG.st st550 ?_
  show oG _ _ _ _ (T550.setTop (mkF m 4 #[.val (.ref a1)] [(.ref a2)]))
  obtain ⟨fs551, hr551, hrun551, hend551, hW551, hsm551⟩ := X550.leave (v := some (.ref a2)) (fun h => by rw [Bd.returns] at h; cases h)
  subst hPP
  refine ⟨_, _, own_retA X550 hx Bd.returns rfl rfl (hb hby dp15_6_4) hr551, hrun551, hend551, _, _, rfl, ?_, ⟨_, rfl⟩, hW551, hsm551.mono (by decide) (by decide)⟩
  · show Q_rfop Z _ _ h0 _ T550.heap _
    rw [e550]
    exact ⟨rfl, N0, rfl⟩
theorem ef_323 (m : MethodId) (x0 : Nat) (x1 : Nat) : entryFrame m #[(.ref x0), (.ref x1)] 3 = mkF m 0 #[.val (.ref x0), .val (.ref x1), .unset] [] := by first | (simp [entryFrame, mkF, argsToLocals, Value.category]; done) | rfl
theorem dj42_66_0 : decode jdk_42_method_66_code 0 = .ok (.aload_n 0, 1) := by decide +kernel
theorem dj42_66_1 : decode jdk_42_method_66_code 1 = .ok (.aload_n 1, 1) := by decide +kernel
theorem dj42_66_2 : decode jdk_42_method_66_code 2 = .ok (.if_acmp .ne 5, 3) := by decide +kernel
theorem dj42_66_5 : decode jdk_42_method_66_code 5 = .ok (.iconst 1, 1) := by decide +kernel
theorem dj42_66_6 : decode jdk_42_method_66_code 6 = .ok (.ireturn, 1) := by decide +kernel
def Q_eqself (Z : State) (a1 : Nat) (h0 : Heap) (v : Option Value) (h : Heap) (L : List Loc) : Prop := v = some (.int (1 : Int32)) ∧ Fr Z.heap.size L ∧ h = h0
set_option maxRecDepth 65536 in
set_option maxHeartbeats 40000000 in
theorem rm_eqself (l : Launch) (Z : State) (a0 : Array Value) (hw : ∀ d ∈ tables_1, d.before a0 Z = true) (ws : List Jvm.Cond) (a1 : Nat) (h0 : Heap) (OL : Old Z Z.heap.size h0) :
    MetFree l mN19 (head1 (Jvm.Cond.code mN19 jdk_42_method_66_code 3 (some .boolean) :: ws) rM0) (fun a U => a = #[(.ref a1), (.ref a1)] ∧ Z.Warmed39 U.vm ∧ U.heap = h0) (fun _ _ _ _ _ => True) (fun _ U o U' => ∃ v L, o = .returned v ∧ Q_eqself Z a1 h0 v U'.heap L ∧ FrameEnd U o U' L rM0.cells rM0.slots) := by
  refine MetFree.of_bodySF (plainFor_of_name pn_0) hisR ?_
  intro p e s m args below meth c s₁ Bd hml0 hP hK
  obtain ⟨rfl, hZ, hh⟩ := hP
  have hx := Bd.exec
  have hby := Bd.bytes
  have hml : c.maxLocals = 3 := hml0
  have hown : s.vm.findClass "java/lang/String" = some m.cls := findClass_of_methodNamed Bd.named
  have hnm := (name_of_methodNamed Bd.named Bd.method).1
  have X0 : Stand p l e rM0 s m #[(.ref a1), (.ref a1)] below meth c s₁ [] 0 0 := Stand.of_body Bd
  have e0 : s₁.heap = h0 := by rw [← hh, Bd.state]; rfl
  have N0 := Fr.nil Z.heap.size
  have Z0 : Z.heap.size ≤ h0.size := OL.2.1
  show oG p.tables e below (fun o tE => ∃ v L, o = .returned v ∧ Q_eqself Z a1 h0 v tE.heap L ∧ FrameEnd s o tE L rM0.cells rM0.slots) (s₁.setTop (entryFrame m #[(.ref a1), (.ref a1)] 3))
  refine own_hd (fun PP hPP => ?_)
  refine oG.st (fun t k => castTop (ef_323 m a1 a1) k) ?_
  refine oG.st (fun _ k => XS.aloadN X0.here hx rfl (hb hby dj42_66_0) rfl rfl (XS.aloadN X0.here hx rfl (hb hby dj42_66_1) rfl rfl k)) ?_
  show oG _ _ _ _ (s₁.setTop (mkF m 2 #[.val (.ref a1), .val (.ref a1), .unset] [(.ref a1), (.ref a1)]))
  refine oG.st (fun _ k => Jvm.RoadKit.acmp (g := (mkF m 2 #[.val (.ref a1), .val (.ref a1), .unset] [(.ref a1), (.ref a1)])) X0 hx rfl rfl rfl (pc0 := 2) (pc' := 5) (same := true) rfl (hb hby dj42_66_2) rfl (decide_eq_true rfl) (by decide) (by decide) k) ?_
  refine oG.st (fun _ k => XS.iconst X0.here hx rfl (hb hby dj42_66_5) k) ?_
  show oG _ _ _ _ (s₁.setTop (mkF m 6 #[.val (.ref a1), .val (.ref a1), .unset] [(.int (1 : Int32))]))
  obtain ⟨fs552, hr552, hrun552, hend552, hW552, hsm552⟩ := X0.leave (v := some (.int (nar .boolean (1 : Int32)))) (fun h => by rw [Bd.returns] at h; cases h)
  subst hPP
  refine ⟨_, _, retN X0 hx (t := .boolean) Bd.returns (by simp) (hb hby dj42_66_6) hr552, hrun552, hend552, _, _, rfl, ?_, ⟨_, rfl⟩, hW552, hsm552.mono (by decide) (by decide)⟩
  · show Q_eqself Z _ h0 _ s₁.heap _
    rw [e0]
    exact ⟨rfl, N0, rfl⟩
theorem dj2649_6_0 : decode jdk_2649_method_6_code 0 = .ok (.aload_n 0, 1) := by decide +kernel
theorem dj2649_6_1 : decode jdk_2649_method_6_code 1 = .ok (.getfield 7, 3) := by decide +kernel
theorem dj2649_6_4 : decode jdk_2649_method_6_code 4 = .ok (.ireturn, 1) := by decide +kernel
def Q_oiis (Z : State) (a1 : Nat) (pb : Int32) (h0 : Heap) (v : Option Value) (h : Heap) (L : List Loc) : Prop := v = some (.int pb) ∧ Fr Z.heap.size L ∧ h = h0
set_option maxRecDepth 65536 in
set_option maxHeartbeats 40000000 in
theorem rm_oiis (l : Launch) (Z : State) (a0 : Array Value) (hw : ∀ d ∈ tables_1, d.before a0 Z = true) (ws : List Jvm.Cond) (a1 : Nat) (pb : Int32) (h0 : Heap) (OL : Old Z Z.heap.size h0) (p0_ : Fld Z h0 a1 "java/util/OptionalInt" "isPresent" "Z" (.int pb)) (h : pb = 0 ∨ pb = 1) :
    MetFree l mN30 (head1 (Jvm.Cond.code mN30 jdk_2649_method_6_code 1 (some .boolean) :: ws) rM0) (fun a U => a = #[(.ref a1)] ∧ Z.Warmed39 U.vm ∧ U.heap = h0) (fun _ _ _ _ _ => True) (fun _ U o U' => ∃ v L, o = .returned v ∧ Q_oiis Z a1 pb h0 v U'.heap L ∧ FrameEnd U o U' L rM0.cells rM0.slots) := by
  refine MetFree.of_bodySF (plainFor_of_name pn_186) hisR ?_
  intro p e s m args below meth c s₁ Bd hml0 hP hK
  obtain ⟨rfl, hZ, hh⟩ := hP
  have hx := Bd.exec
  have hby := Bd.bytes
  have hml : c.maxLocals = 1 := hml0
  have hown : s.vm.findClass "java/util/OptionalInt" = some m.cls := findClass_of_methodNamed Bd.named
  have hnm := (name_of_methodNamed Bd.named Bd.method).1
  have X0 : Stand p l e rM0 s m #[(.ref a1)] below meth c s₁ [] 0 0 := Stand.of_body Bd
  have e0 : s₁.heap = h0 := by rw [← hh, Bd.state]; rfl
  have N0 := Fr.nil Z.heap.size
  have Z0 : Z.heap.size ≤ h0.size := OL.2.1
  have lt_0 : @LT.lt Nat _ a1 h0.size := p0_.lt
  show oG p.tables e below (fun o tE => ∃ v L, o = .returned v ∧ Q_oiis Z a1 pb h0 v tE.heap L ∧ FrameEnd s o tE L rM0.cells rM0.slots) (s₁.setTop (entryFrame m #[(.ref a1)] 1))
  refine own_hd (fun PP hPP => ?_)
  refine oG.st (fun t k => castTop (ef_173 m a1) k) ?_
  refine oG.st (fun _ k => XS.aloadN X0.here hx rfl (hb hby dj2649_6_0) rfl rfl k) ?_
  show oG _ _ _ _ (s₁.setTop (mkF m 1 #[.val (.ref a1)] [(.ref a1)]))
  obtain ⟨T553, X553, e553, st553⟩ := getF X0 hx hZ hown (host := "") (Or.inl (own_w hw 118 rfl)) Via.refl e0 p0_ (g := (mkF m 1 #[.val (.ref a1)] [(.ref a1)])) rfl rfl (hb hby dj2649_6_1)
  refine oG.st st553 ?_
  show oG _ _ _ _ (T553.setTop (mkF m 4 #[.val (.ref a1)] [(.int pb)]))
  obtain ⟨fs554, hr554, hrun554, hend554, hW554, hsm554⟩ := X553.leave (v := some (.int (nar .boolean pb))) (fun h => by rw [Bd.returns] at h; cases h)
  subst hPP
  refine ⟨_, _, retN X553 hx (t := .boolean) Bd.returns (by simp) (hb hby dj2649_6_4) hr554, hrun554, hend554, _, _, rfl, ?_, ⟨_, rfl⟩, hW554, hsm554.mono (by decide) (by decide)⟩
  · show Q_oiis Z _ _ h0 _ T553.heap _
    rw [e553]
    exact ⟨(by rcases h with rfl | rfl <;> rfl), N0, rfl⟩
theorem dj2649_5_0 : decode cJ1 0 = .ok (.aload_n 0, 1) := by decide +kernel
theorem dj2649_5_1 : decode cJ1 1 = .ok (.getfield 7, 3) := by decide +kernel
theorem dj2649_5_4 : decode cJ1 4 = .ok (.ifCond .ne 13, 3) := by decide +kernel
theorem dj2649_5_17 : decode cJ1 17 = .ok (.aload_n 0, 1) := by decide +kernel
theorem dj2649_5_18 : decode cJ1 18 = .ok (.getfield 13, 3) := by decide +kernel
theorem dj2649_5_21 : decode cJ1 21 = .ok (.ireturn, 1) := by decide +kernel
def Q_oiget (Z : State) (a1 : Nat) (pb : Int32) (pv : Int32) (h0 : Heap) (v : Option Value) (h : Heap) (L : List Loc) : Prop := v = some (.int pv) ∧ Fr Z.heap.size L ∧ h = h0
set_option maxRecDepth 65536 in
set_option maxHeartbeats 40000000 in
theorem rm_oiget (l : Launch) (Z : State) (a0 : Array Value) (hw : ∀ d ∈ tables_1, d.before a0 Z = true) (ws : List Jvm.Cond) (a1 : Nat) (pb : Int32) (pv : Int32) (h0 : Heap) (OL : Old Z Z.heap.size h0) (p0_ : Fld Z h0 a1 "java/util/OptionalInt" "isPresent" "Z" (.int pb)) (p1_ : Fld Z h0 a1 "java/util/OptionalInt" "value" "I" (.int pv)) (h : pb = 1) :
    MetFree l mN29 (head1 (Jvm.Cond.code mN29 jdk_2649_method_5_code 1 (some .int) :: ws) rM0) (fun a U => a = #[(.ref a1)] ∧ Z.Warmed39 U.vm ∧ U.heap = h0) (fun _ _ _ _ _ => True) (fun _ U o U' => ∃ v L, o = .returned v ∧ Q_oiget Z a1 pb pv h0 v U'.heap L ∧ FrameEnd U o U' L rM0.cells rM0.slots) := by
  refine MetFree.of_bodySF (plainFor_of_name pn_186) hisR ?_
  intro p e s m args below meth c s₁ Bd hml0 hP hK
  obtain ⟨rfl, hZ, hh⟩ := hP
  have hx := Bd.exec
  have hby := Bd.bytes
  have hml : c.maxLocals = 1 := hml0
  have hown : s.vm.findClass "java/util/OptionalInt" = some m.cls := findClass_of_methodNamed Bd.named
  have hnm := (name_of_methodNamed Bd.named Bd.method).1
  have X0 : Stand p l e rM0 s m #[(.ref a1)] below meth c s₁ [] 0 0 := Stand.of_body Bd
  have e0 : s₁.heap = h0 := by rw [← hh, Bd.state]; rfl
  have N0 := Fr.nil Z.heap.size
  have Z0 : Z.heap.size ≤ h0.size := OL.2.1
  have lt_0 : @LT.lt Nat _ a1 h0.size := p0_.lt
  have lt_1 : @LT.lt Nat _ a1 h0.size := p1_.lt
  show oG p.tables e below (fun o tE => ∃ v L, o = .returned v ∧ Q_oiget Z a1 pb pv h0 v tE.heap L ∧ FrameEnd s o tE L rM0.cells rM0.slots) (s₁.setTop (entryFrame m #[(.ref a1)] 1))
  refine own_hd (fun PP hPP => ?_)
  refine oG.st (fun t k => castTop (ef_173 m a1) k) ?_
  refine oG.st (fun _ k => XS.aloadN X0.here hx rfl (hb hby dj2649_5_0) rfl rfl k) ?_
  show oG _ _ _ _ (s₁.setTop (mkF m 1 #[.val (.ref a1)] [(.ref a1)]))
  obtain ⟨T555, X555, e555, st555⟩ := getF X0 hx hZ hown (host := "") (Or.inl (own_w hw 118 rfl)) Via.refl e0 p0_ (g := (mkF m 1 #[.val (.ref a1)] [(.ref a1)])) rfl rfl (hb hby dj2649_5_1)
  refine oG.st st555 ?_
  show oG _ _ _ _ (T555.setTop (mkF m 4 #[.val (.ref a1)] [(.int pb)]))
  have hc556 : ¬ (pb = (0 : Int32)) := by rw [h]; decide
  refine oG.st (fun _ k => XS.ifYes X555.here hx rfl (pc0 := 4) (pc' := 17) rfl (hb hby dj2649_5_4) rfl ((if0 _ _).trans (feq hc556).2) (by decide) (by decide) k) ?_
  refine oG.st (fun _ k => XS.aloadN X555.here hx rfl (hb hby dj2649_5_17) rfl rfl k) ?_
  show oG _ _ _ _ (T555.setTop (mkF m 18 #[.val (.ref a1)] [(.ref a1)]))
  obtain ⟨T557, X557, e557, st557⟩ := getF X555 hx hZ hown (host := "") (Or.inl (own_w hw 120 rfl)) Via.refl e555 p1_ (g := (mkF m 18 #[.val (.ref a1)] [(.ref a1)])) rfl rfl (hb hby dj2649_5_18)
  refine oG.st st557 ?_
  show oG _ _ _ _ (T557.setTop (mkF m 21 #[.val (.ref a1)] [(.int pv)]))
  obtain ⟨fs558, hr558, hrun558, hend558, hW558, hsm558⟩ := X557.leave (v := some (.int pv)) (fun h => by rw [Bd.returns] at h; cases h)
  subst hPP
  refine ⟨_, _, own_retI X557 hx Bd.returns (hb hby dj2649_5_21) hr558, hrun558, hend558, _, _, rfl, ?_, ⟨_, rfl⟩, hW558, hsm558.mono (by decide) (by decide)⟩
  · show Q_oiget Z _ _ _ h0 _ T557.heap _
    rw [e557]
    exact ⟨rfl, N0, rfl⟩
theorem ef_338 (m : MethodId) (x0 : Int32) (x1 : Int32) (x2 : Int32) : entryFrame m #[(.int x0), (.int x1), (.int x2)] maxLocals = mkF m 0 #[.val (.int x0), .val (.int x1), .val (.int x2), .unset, .unset, .unset, .unset, .unset, .unset, .unset, .unset] [] := by first | (simp [entryFrame, mkF, argsToLocals, Value.category, maxLocals]; done) | rfl
theorem pd_339 : parseMethodDescriptor "(I)Lcom/example/hinagata/hinagata/ErrorClass;" = some ⟨[.int], some (.object "com/example/hinagata/hinagata/ErrorClass")⟩ := by decide +kernel
theorem pd_340 : parseMethodDescriptor "(I)Ljava/lang/String;" = some ⟨[.int], some (.object "java/lang/String")⟩ := by decide +kernel
theorem pd_341 : parseMethodDescriptor "(Lcom/example/hinagata/hinagata/ErrorClass;ILjava/lang/String;)V" = some ⟨[(.object "com/example/hinagata/hinagata/ErrorClass"), .int, (.object "java/lang/String")], none⟩ := by decide +kernel
theorem pd_342 : parseMethodDescriptor "()Lcom/example/hinagata/hinagata/Outcome;" = some ⟨[], some (.object "com/example/hinagata/hinagata/Outcome")⟩ := by decide +kernel
theorem pd_343 : parseMethodDescriptor "()Z" = some ⟨[], some .boolean⟩ := by decide +kernel
theorem pd_344 : parseMethodDescriptor "()Ljava/util/Optional;" = some ⟨[], some (.object "java/util/Optional")⟩ := by decide +kernel
theorem pd_345 : parseMethodDescriptor "()Ljava/lang/Object;" = some ⟨[], some (.object "java/lang/Object")⟩ := by decide +kernel
theorem pd_346 : parseMethodDescriptor "()Lcom/example/hinagata/hinagata/ErrorClass;" = some ⟨[], some (.object "com/example/hinagata/hinagata/ErrorClass")⟩ := by decide +kernel
theorem pd_347 : parseMethodDescriptor "(Ljava/lang/Object;)Z" = some ⟨[(.object "java/lang/Object")], some .boolean⟩ := by decide +kernel
theorem pd_348 : parseMethodDescriptor "()I" = some ⟨[], some .int⟩ := by decide +kernel
def Q_law (Z : State) (p1 : Int32) (p2 : Int32) (p3 : Int32) (zc : Int32) (r1 : Nat) (r2 : Nat) (r3 : Nat) (r4 : Nat) (oe : Nat) (us : Nat) (sn : Nat) (h0 : Heap) (v : Option Value) (h : Heap) (L : List Loc) : Prop := v = some (.int (1 : Int32)) ∧ Fr Z.heap.size L ∧ Keep h0 h []
set_option maxRecDepth 65536 in
set_option maxHeartbeats 40000000 in
theorem rm_law (l : Launch) (Z : State) (a0 : Array Value) (hw : ∀ d ∈ tables_1, d.before a0 Z = true) (ws : List Jvm.Cond) (p1 : Int32) (p2 : Int32) (p3 : Int32) (zc : Int32) (r1 : Nat) (r2 : Nat) (r3 : Nat) (r4 : Nat) (oe : Nat) (us : Nat) (sn : Nat) (h0 : Heap) (hEL : EW Z a0 consts_1) (OL : Old Z Z.heap.size h0) (p0_ : Exa Z h0 oe "java/util/OptionalInt") (p1_ : Fld Z h0 oe "java/util/OptionalInt" "isPresent" "Z" (.int (0 : Int32))) (p2_ : Fld Z h0 oe "java/util/OptionalInt" "value" "I" (.int (0 : Int32))) (st_C : Sta Z Z.heap "java/lang/String" "COMPACT_STRINGS" "Z" (.int zc)) (st_RESOURCE : Sta Z Z.heap "com/example/hinagata/hinagata/ErrorClass" "RESOURCE" "Lcom/example/hinagata/hinagata/ErrorClass;" (.ref r1)) (st_STRUCTURAL : Sta Z Z.heap "com/example/hinagata/hinagata/ErrorClass" "STRUCTURAL" "Lcom/example/hinagata/hinagata/ErrorClass;" (.ref r2)) (st_SCHEMA : Sta Z Z.heap "com/example/hinagata/hinagata/ErrorClass" "SCHEMA" "Lcom/example/hinagata/hinagata/ErrorClass;" (.ref r3)) (st_AUTHORIZATION : Sta Z Z.heap "com/example/hinagata/hinagata/ErrorClass" "AUTHORIZATION" "Lcom/example/hinagata/hinagata/ErrorClass;" (.ref r4)) (st_EMPTY : Sta Z Z.heap "java/util/OptionalInt" "EMPTY" "Ljava/util/OptionalInt;" (.ref oe)) (st_UNASSIGNED_STACK : Sta Z Z.heap "java/lang/Throwable" "UNASSIGNED_STACK" "[Ljava/lang/StackTraceElement;" (.ref us)) (st_SUPPRESSED_SENTINEL : Sta Z Z.heap "java/lang/Throwable" "SUPPRESSED_SENTINEL" "Ljava/util/List;" (.ref sn)) (hzc : ¬ zc = 0) (hTh0 : ThS Z h0) (hst : l.stackTraces = true) (hwA : ∀ d ∈ own_thA "com/example/hinagata/hinagata/RefusedException", d.before a0 Z = true) :
    MetFree l x (head1 (Jvm.Cond.code x code maxLocals ret :: ws) room_1) (fun a U => a = #[(.int p1), (.int p2), (.int p3)] ∧ Z.Warmed39 U.vm ∧ U.heap = h0 ∧ CHv Z consts_1 U.vm h0) (fun _ _ _ s _ => framesKnown s = true ∧ tablesKnown s = true) (fun _ U o U' => ∃ v L, o = .returned v ∧ Q_law Z p1 p2 p3 zc r1 r2 r3 r4 oe us sn h0 v U'.heap L ∧ CHr Z consts_1 U.vm U.heap U'.vm U'.heap ∧ ReturnedEndW U o U' L 32 6656) := by
  refine MetFree.of_bodySF (plainFor_of_name pn_25) hisR ?_
  intro p e s m args below meth c s₁ Bd hml0 hP hK
  obtain ⟨rfl, hZ, hh, hC0⟩ := hP
  have hx := Bd.exec
  have hby := Bd.bytes
  have hml : c.maxLocals = 11 := hml0
  have hown : s.vm.findClass "com/example/hinagata/hinagata/RefusedExceptionToOutcomePinLaw" = some m.cls := findClass_of_methodNamed Bd.named
  have hnm := (name_of_methodNamed Bd.named Bd.method).1
  have X0 : Stand p l e room_1 (s.setVm s.vm) m #[(.int p1), (.int p2), (.int p3)] below meth c s₁ [] 0 0 := Stand.of_body Bd
  obtain ⟨hTK, hBel⟩ := X0.known hK.2 hK.1
  have e0 : s₁.heap = h0 := by rw [← hh, Bd.state]; rfl
  have N0 := Fr.nil Z.heap.size
  have Z0 : Z.heap.size ≤ h0.size := OL.2.1
  have hS0 : s.Since s.vm h0.size := (State.WarmedH.refl s).since _
  have wS := own_wS hw
  have R0 : CHr Z consts_1 s.vm h0 s.vm h0 := CHr.refl hC0
  have lt_0 : @LT.lt Nat _ oe h0.size := p0_.lt
  have lt_1 : @LT.lt Nat _ oe h0.size := p1_.lt
  have lt_2 : @LT.lt Nat _ oe h0.size := p2_.lt
  show oG p.tables e below (fun o tE => ∃ v L, o = .returned v ∧ Q_law Z p1 p2 p3 zc r1 r2 r3 r4 oe us sn h0 v tE.heap L ∧ CHr Z consts_1 s.vm s.heap tE.vm tE.heap ∧ ReturnedEndW s o tE L 32 6656) (s₁.setTop (entryFrame m #[(.int p1), (.int p2), (.int p3)] maxLocals))
  refine own_hd (fun PP hPP => ?_)
  refine oG.st (fun t k => castTop (ef_338 m p1 p2 p3) k) ?_
  refine oG.st (fun _ k => XS.iloadN X0.here hx rfl (hb hby at_0) rfl (XS.iconst X0.here hx rfl (hb hby at_1) (XS.iand X0.here hx rfl (hb hby at_2) rfl k))) ?_
  show oG _ _ _ _ (s₁.setTop (mkF m 3 #[.val (.int p1), .val (.int p2), .val (.int p3), .unset, .unset, .unset, .unset, .unset, .unset, .unset, .unset] [(.int (p1 &&& (3 : Int32)))]))
  obtain ⟨_, _, ⟨T559, L559, k559, n559⟩, -, X559, ⟨Lc559, hQ559, l559, y559, z559⟩, st559⟩ := Jvm.LawKit.callS X0 hx (y := mN11) hown (own_v hZ hw 0 rfl) (own_v hZ hw 1 rfl) (own_v hZ hw 2 rfl) (own_v hZ hw 3 rfl) (by decide) (backOf (W := 0) (rm_pick l Z a0 hw [] (p1 &&& (3 : Int32)) r1 r2 r3 r4 h0 OL st_RESOURCE st_STRUCTURAL st_SCHEMA st_AUTHORIZATION) hZ (own_w hw 3 rfl) (own_w hw 2 rfl) (by decide) (by decide)) (g := (mkF m 3 #[.val (.int p1), .val (.int p2), .val (.int p3), .unset, .unset, .unset, .unset, .unset, .unset, .unset, .unset] [(.int (p1 &&& (3 : Int32)))])) rfl (by rw [hml]; rfl) (argsL := [(.int (p1 &&& (3 : Int32)))]) (rest := []) (lenOf pd_339 rfl) rfl (by show 2 * 0 + _ ≤ _; exact Nat.le_of_eq rfl) (hb hby at_3) (fun _ _ => ⟨rfl, e0, (by decide : 0 + 0 ≤ _), (by decide : 0 + 0 ≤ _)⟩)
  dsimp only [Pt.U, Pt.locs, Pt.cells, Pt.slots] at X559 l559 y559 z559 st559 hQ559
  subst l559 y559 z559
  obtain ⟨x_559, rfl, N559q, K559⟩ := hQ559
  have N559 := Fr.app N0 N559q
  refine oG.st st559 ?_
  refine oG.st (fun _ k => XS.astoreN X559.here hx rfl (hb hby at_6) rfl rfl (l' := #[.val (.int p1), .val (.int p2), .val (.int p3), .val (.ref x_559), .unset, .unset, .unset, .unset, .unset, .unset, .unset]) rfl (XS.iloadN X559.here hx rfl (hb hby at_7) rfl (XS.iconst X559.here hx rfl (hb hby at_8) (XS.iushr X559.here hx rfl (hb hby at_9) rfl (XS.iconst X559.here hx rfl (hb hby at_10) k))))) ?_
  show oG _ _ _ _ (T559.setTop (mkF m 11 #[.val (.int p1), .val (.int p2), .val (.int p3), .val (.ref x_559), .unset, .unset, .unset, .unset, .unset, .unset, .unset] [(.int (1 : Int32)), (.int ((p1.toUInt32 >>> ((2 : Int32) &&& 31).toUInt32).toInt32))]))
  refine oG.st (fun _ k => XS.iand X559.here hx rfl (hb hby at_11) rfl k) ?_
  show oG _ _ _ _ (T559.setTop (mkF m 12 #[.val (.int p1), .val (.int p2), .val (.int p3), .val (.ref x_559), .unset, .unset, .unset, .unset, .unset, .unset, .unset] [(.int (((p1.toUInt32 >>> ((2 : Int32) &&& 31).toUInt32).toInt32) &&& (1 : Int32)))]))
  have J560 : ∀ (ix : Int32), (True) → oG p.tables e below PP (T559.setTop (mkF m 20 #[.val (.int p1), .val (.int p2), .val (.int p3), .val (.ref x_559), .unset, .unset, .unset, .unset, .unset, .unset, .unset] [(.int ix)])) := by
    intro ix hJ560
    refine oG.st (fun _ k => XS.istore X559.here hx rfl (hb hby at_20) rfl (l' := #[.val (.int p1), .val (.int p2), .val (.int p3), .val (.ref x_559), .val (.int ix), .unset, .unset, .unset, .unset, .unset, .unset]) rfl (XS.iloadN X559.here hx rfl (hb hby at_22) rfl k)) ?_
    show oG _ _ _ _ (T559.setTop (mkF m 23 #[.val (.int p1), .val (.int p2), .val (.int p3), .val (.ref x_559), .val (.int ix), .unset, .unset, .unset, .unset, .unset, .unset] [(.int p3)]))
    obtain ⟨_, _, ⟨T561, L561, k561, n561⟩, -, X561, hs561, hg561, ⟨Lc561, hQ561, l561, y561, z561, ch561⟩, st561⟩ := callSS X559 hx (y := mN12) hown (own_v hZ hw 7 rfl) (own_v hZ hw 8 rfl) (own_v hZ hw 2 rfl) (own_v hZ hw 9 rfl) (by decide) (backOfSH (s := s) (vm0 := s.vm) (W := 0) (rm_text l Z a0 hw [] p3 zc h0 hEL OL st_C hzc) hZ (own_w hw 9 rfl) (own_w hw 2 rfl) (by decide) (by decide) hEL R0.1) (g := (mkF m 23 #[.val (.int p1), .val (.int p2), .val (.int p3), .val (.ref x_559), .val (.int ix), .unset, .unset, .unset, .unset, .unset, .unset] [(.int p3)])) rfl (by rw [hml]; rfl) (argsL := [(.int p3)]) (rest := []) (lenOf pd_340 rfl) rfl (by show 2 * 0 + _ ≤ _; exact Nat.le_of_eq rfl) (hb hby at_23) (fun _ _ => ⟨rfl, K559, (by decide : 0 + 6 ≤ _), (by decide : 0 + 40 ≤ _)⟩)
    dsimp only [Pt.U, Pt.locs, Pt.cells, Pt.slots] at X561 l561 y561 z561 st561 hQ561 hs561 hg561 ch561
    subst l561 y561 z561
    obtain ⟨x_561, t_561, cs_561, rfl, N561q, K561, f561_0⟩ := hQ561
    have N561 := Fr.app N559 N561q
    obtain ⟨Y561, hS561, hZ561, hown561⟩ := rebS hS0 (n1 := h0.size) (by omega) X561 hs561 (by have := hg561; first | exact this | (rw [← K559]; exact this)) hZ hown
    have z561 : h0.size ≤ T561.heap.size := K561.1
    have R561 : CHr Z consts_1 s.vm h0 T561.vm T561.heap := R0.trans ch561
    have lt561_0 : @LT.lt Nat _ x_561 T561.heap.size := f561_0.lt
    have ltv561_0 : @LT.lt Nat _ t_561 T561.heap.size := f561_0.ltv
    refine oG.tr st561 ?_
    refine oG.st (fun _ k => XS.astore Y561.here hx rfl (hb hby at_26) rfl rfl (l' := #[.val (.int p1), .val (.int p2), .val (.int p3), .val (.ref x_559), .val (.int ix), .val (.ref x_561), .unset, .unset, .unset, .unset, .unset]) rfl k) ?_
    show oG _ _ _ _ (T561.setTop (mkF m 28 #[.val (.int p1), .val (.int p2), .val (.int p3), .val (.ref x_559), .val (.int ix), .val (.ref x_561), .unset, .unset, .unset, .unset, .unset] []))
    obtain ⟨T562, h562, X562, e562, E562, A562, D562, U562, st562⟩ := newO Y561 hx hZ561 hown561 (own_w hw 32 rfl) (own_w hw 33 rfl) (own_w hw 34 rfl) rfl (g := (mkF m 28 #[.val (.int p1), .val (.int p2), .val (.int p3), .val (.ref x_559), .val (.int ix), .val (.ref x_561), .unset, .unset, .unset, .unset, .unset] [])) rfl (hb hby at_28) (by decide) (by decide)
    obtain ⟨b562, g562⟩ : ∃ z, z = T561.heap.size := ⟨_, rfl⟩
    rw [← g562] at A562 D562 U562 st562
    refine oG.st st562 ?_
    have z562 : T561.heap.size ≤ h562.size := E562.1
    have lt_b562 : @LT.lt Nat _ b562 h562.size := A562.lt
    have f563 : Fld Z h562 b562 "java/lang/Throwable" "cause" "Ljava/lang/Throwable;" .null := D562 (Or.inl (own_w hw 63 rfl)) (ty := (.object "java/lang/Throwable")) (by decide)
    have f564 : Fld Z h562 b562 "java/lang/Throwable" "stackTrace" "[Ljava/lang/StackTraceElement;" .null := D562 (Or.inl (own_w hw 66 rfl)) (ty := (.array (.object "java/lang/StackTraceElement"))) (by decide)
    have f565 : Fld Z h562 b562 "java/lang/Throwable" "suppressedExceptions" "Ljava/util/List;" .null := D562 (Or.inl (own_w hw 69 rfl)) (ty := (.object "java/util/List")) (by decide)
    have f566 : Fld Z h562 b562 "java/lang/Throwable" "detailMessage" "Ljava/lang/String;" .null := D562 (Or.inl (own_w hw 93 rfl)) (ty := (.object "java/lang/String")) (by decide)
    have f567 : Fld Z h562 b562 "java/lang/Throwable" "backtrace" "Ljava/lang/Object;" .null := D562 (Or.inl (own_w hw 94 rfl)) (ty := (.object "java/lang/Object")) (by decide)
    have f568 : Fld Z h562 b562 "java/lang/Throwable" "depth" "I" (.int (0 : Int32)) := D562 (Or.inl (own_w hw 95 rfl)) (ty := .int) (by decide)
    have f569 : Fld Z h562 b562 "com/example/hinagata/hinagata/RefusedException" "errorClass" "Lcom/example/hinagata/hinagata/ErrorClass;" .null := D562 (Or.inr (own_w hw 99 rfl)) (ty := (.object "com/example/hinagata/hinagata/ErrorClass")) (by decide)
    have f570 : Fld Z h562 b562 "com/example/hinagata/hinagata/RefusedException" "index" "I" (.int (0 : Int32)) := D562 (Or.inr (own_w hw 101 rfl)) (ty := .int) (by decide)
    have R562 : CHr Z consts_1 s.vm h0 T561.vm h562 := R561.trans (CHr.ext E562 R561.1)
    refine oG.st (fun _ k => XS.dup X562.here hx rfl (hb hby at_31) rfl rfl (XS.aloadN X562.here hx rfl (hb hby at_32) rfl rfl (XS.iload X562.here hx rfl (hb hby at_33) rfl (XS.aload X562.here hx rfl (hb hby at_35) rfl rfl k)))) ?_
    show oG _ _ _ _ (T562.setTop (mkF m 37 #[.val (.int p1), .val (.int p2), .val (.int p3), .val (.ref x_559), .val (.int ix), .val (.ref x_561), .unset, .unset, .unset, .unset, .unset] [(.ref x_561), (.int ix), (.ref x_559), (.ref b562), (.ref b562)]))
    have f572 : Old Z Z.heap.size T561.heap := OL.keep K561 all0
    have f573 : Old Z Z.heap.size h562 := f572.ext E562
    obtain ⟨_, _, ⟨T571, L571, k571, n571⟩, -, X571, ⟨Lc571, hQ571, l571, y571, z571⟩, st571⟩ := X562.specialBack hx (y := mN8) rfl hown561 (own_v hZ561 hw 35 rfl) (own_v hZ561 hw 36 rfl) (own_v hZ561 hw 37 rfl) (by decide) (backOfKL (W := 1) (rm_rexinit l Z a0 hw [] b562 x_559 ix x_561 us sn h562 f573 A562 f567 f566 f569 f570 f563 f564 f565 st_UNASSIGNED_STACK st_SUPPRESSED_SENTINEL U562 (ThS.ext E562 (ThS.keep K561 (fun _ q => nomatch q) hTh0)) hst hwA (by omega)) hZ561 (own_w hw 37 rfl) (own_w hw 34 rfl) (by decide) (by decide) (Vm.MethodsKnown.alikeC hS561.1.alike hTK) (Vm.FramesKnown.alikeC hS561.1.alike hBel)) (g := (mkF m 37 #[.val (.int p1), .val (.int p2), .val (.int p3), .val (.ref x_559), .val (.int ix), .val (.ref x_561), .unset, .unset, .unset, .unset, .unset] [(.ref x_561), (.int ix), (.ref x_559), (.ref b562), (.ref b562)])) rfl (by rw [hml]; rfl) (Steps.refl _) (a := b562) (argsL := [(.ref x_559), (.int ix), (.ref x_561)]) (rest := [(.ref b562)]) (lenOf pd_341 rfl) rfl (by show 2 * 0 + _ ≤ _; exact Nat.le_of_eq rfl) (hb hby at_37) (fun _ _ => ⟨rfl, e562, (by decide : 7 + 1 ≤ _), (by decide : 48 + 2752 ≤ _)⟩)
    dsimp only [Pt.U, Pt.locs, Pt.cells, Pt.slots] at X571 l571 y571 z571 st571 hQ571
    subst l571 y571 z571
    obtain ⟨rfl, N571q, K571, f571_0, f571_1, f571_2, f571_3⟩ := hQ571
    have N571 := Fr.app N561 N571q
    have Sf574 : Safe Z consts_1 T561.vm h562 b562 := Safe.exa hZ561.alike A562 (by decide) (by decide)
    have z571 : h562.size ≤ T571.heap.size := K571.1
    have R571 : CHr Z consts_1 s.vm h0 T561.vm T571.heap := R562.trans (CHr.keep K571 (sfS Sf574 sf0) R562.1)
    have lt571_0 : @LT.lt Nat _ b562 T571.heap.size := f571_0.lt
    have lt571_1 : @LT.lt Nat _ b562 T571.heap.size := f571_1.lt
    have lt571_2 : @LT.lt Nat _ b562 T571.heap.size := f571_2.lt
    have lt571_3 : @LT.lt Nat _ b562 T571.heap.size := f571_3.lt
    refine oG.tr st571 ?_
    refine oG.st (fun _ k => XS.astore X571.here hx rfl (hb hby at_40) rfl rfl (l' := #[.val (.int p1), .val (.int p2), .val (.int p3), .val (.ref x_559), .val (.int ix), .val (.ref x_561), .val (.ref b562), .unset, .unset, .unset, .unset]) rfl (XS.aload X571.here hx rfl (hb hby at_42) rfl rfl k)) ?_
    show oG _ _ _ _ (T571.setTop (mkF m 44 #[.val (.int p1), .val (.int p2), .val (.int p3), .val (.ref x_559), .val (.int ix), .val (.ref x_561), .val (.ref b562), .unset, .unset, .unset, .unset] [(.ref b562)]))
    have f576 : Exa Z T561.heap oe "java/util/OptionalInt" := p0_.keep K561
    have f577 : Exa Z h562 oe "java/util/OptionalInt" := f576.ext E562
    have f578 : Exa Z T571.heap oe "java/util/OptionalInt" := f577.keep K571
    have f579 : Fld Z T561.heap oe "java/util/OptionalInt" "isPresent" "Z" (.int (0 : Int32)) := p1_.keep K561 nin0
    have f580 : Fld Z h562 oe "java/util/OptionalInt" "isPresent" "Z" (.int (0 : Int32)) := f579.ext E562
    have ne581 : @Ne Nat oe b562 := Exa.ne f578 f571_0 (by decide)
    have f582 : Fld Z T571.heap oe "java/util/OptionalInt" "isPresent" "Z" (.int (0 : Int32)) := f580.keep K571 (ninS ne581 nin0)
    have f583 : Fld Z T561.heap oe "java/util/OptionalInt" "value" "I" (.int (0 : Int32)) := p2_.keep K561 nin0
    have f584 : Fld Z h562 oe "java/util/OptionalInt" "value" "I" (.int (0 : Int32)) := f583.ext E562
    have f585 : Fld Z T571.heap oe "java/util/OptionalInt" "value" "I" (.int (0 : Int32)) := f584.keep K571 (ninS ne581 nin0)
    have gz586 : Z.heap.size ≤ b562 := by omega
    have f587 : Old Z Z.heap.size T571.heap := f573.keep K571 (allS gz586 all0)
    obtain ⟨cq575, kq575, q575a, q575b, q575c⟩ := isOf hZ561 rfl f571_0
    obtain ⟨_, _, ⟨T575, L575, k575, n575⟩, -, X575, ⟨Lc575, hQ575, l575, y575, z575⟩, st575⟩ := X571.virtualBack hx (y := mN10) (z := mN10) hown561 (own_v hZ561 hw 102 rfl) (own_v hZ561 hw 103 rfl) (notFace_of_selects (args := #[]) (own_v hZ561 hw 105 rfl)) (own_v hZ561 hw 105 rfl) (own_v hZ561 hw 104 rfl) (by decide) (backOf (W := 0) (rm_toOutcome l Z a0 hw [] b562 x_559 ix x_561 oe T571.heap f587 f571_0 f571_1 f571_2 f571_3 f578 f582 f585 st_EMPTY) hZ561 (own_w hw 106 rfl) (own_w hw 34 rfl) (by decide) (by decide)) q575a q575c (g := (mkF m 44 #[.val (.int p1), .val (.int p2), .val (.int p3), .val (.ref x_559), .val (.int ix), .val (.ref x_561), .val (.ref b562), .unset, .unset, .unset, .unset] [(.ref b562)])) rfl (by rw [hml]; rfl) (Steps.refl _) (argsL := []) (rest := []) (lenOf pd_342 rfl) rfl (by show 2 * 0 + _ ≤ _; exact Nat.le_of_eq rfl) (hb hby at_44) (fun _ _ => ⟨rfl, rfl, (by decide : 8 + 8 ≤ _), (by decide : 2800 + 60 ≤ _)⟩)
    dsimp only [Pt.U, Pt.locs, Pt.cells, Pt.slots] at X575 l575 y575 z575 st575 hQ575
    subst l575 y575 z575
    obtain ⟨o_575, f_575, q_575, pb_575, pv_575, rfl, N575q, K575, f575_0, f575_1, f575_2, f575_3, f575_4, f575_5, f575_6, f575_7, f575_8, pr575_0⟩ := hQ575
    have N575 := Fr.app N571 N575q
    have z575 : T571.heap.size ≤ T575.heap.size := K575.1
    have R575 : CHr Z consts_1 s.vm h0 T561.vm T575.heap := R571.trans (CHr.keep K575 sf0 R571.1)
    have lt575_0 : @LT.lt Nat _ o_575 T575.heap.size := f575_0.lt
    have lt575_1 : @LT.lt Nat _ o_575 T575.heap.size := f575_1.lt
    have lt575_2 : @LT.lt Nat _ f_575 T575.heap.size := f575_2.lt
    have lt575_3 : @LT.lt Nat _ f_575 T575.heap.size := f575_3.lt
    have lt575_4 : @LT.lt Nat _ f_575 T575.heap.size := f575_4.lt
    have lt575_5 : @LT.lt Nat _ f_575 T575.heap.size := f575_5.lt
    have lt575_6 : @LT.lt Nat _ q_575 T575.heap.size := f575_6.lt
    have lt575_7 : @LT.lt Nat _ q_575 T575.heap.size := f575_7.lt
    have lt575_8 : @LT.lt Nat _ q_575 T575.heap.size := f575_8.lt
    have hop := pr575_0
    refine oG.tr st575 ?_
    refine oG.st (fun _ k => XS.astore X575.here hx rfl (hb hby at_47) rfl rfl (l' := #[.val (.int p1), .val (.int p2), .val (.int p3), .val (.ref x_559), .val (.int ix), .val (.ref x_561), .val (.ref b562), .val (.ref o_575), .unset, .unset, .unset]) rfl (XS.aload X575.here hx rfl (hb hby at_49) rfl rfl k)) ?_
    show oG _ _ _ _ (T575.setTop (mkF m 51 #[.val (.int p1), .val (.int p2), .val (.int p3), .val (.ref x_559), .val (.int ix), .val (.ref x_561), .val (.ref b562), .val (.ref o_575), .unset, .unset, .unset] [(.ref o_575)]))
    have f589 : Old Z Z.heap.size T575.heap := f587.keep K575 all0
    obtain ⟨cq588, kq588, q588a, q588b, q588c⟩ := isOf hZ561 rfl f575_0
    obtain ⟨_, _, ⟨T588, L588, k588, n588⟩, -, X588, ⟨Lc588, hQ588, l588, y588, z588⟩, st588⟩ := X575.virtualBack hx (y := mN1) (z := mN1) hown561 (own_v hZ561 hw 167 rfl) (own_v hZ561 hw 168 rfl) (notFace_of_selects (args := #[]) (own_v hZ561 hw 170 rfl)) (own_v hZ561 hw 170 rfl) (own_v hZ561 hw 169 rfl) (by decide) (backOf (W := 0) (rm_isDone l Z a0 hw [] o_575 f_575 T575.heap f589 f575_1) hZ561 (own_w hw 171 rfl) (own_w hw 152 rfl) (by decide) (by decide)) q588a q588c (g := (mkF m 51 #[.val (.int p1), .val (.int p2), .val (.int p3), .val (.ref x_559), .val (.int ix), .val (.ref x_561), .val (.ref b562), .val (.ref o_575), .unset, .unset, .unset] [(.ref o_575)])) rfl (by rw [hml]; rfl) (Steps.refl _) (argsL := []) (rest := []) (lenOf pd_343 rfl) rfl (by show 2 * 0 + _ ≤ _; exact Nat.le_of_eq rfl) (hb hby at_51) (fun _ _ => ⟨rfl, rfl, (by decide : 16 + 0 ≤ _), (by decide : 2860 + 0 ≤ _)⟩)
    dsimp only [Pt.U, Pt.locs, Pt.cells, Pt.slots] at X588 l588 y588 z588 st588 hQ588
    subst l588 y588 z588
    obtain ⟨rfl, N588q, K588⟩ := hQ588
    have N588 := Fr.app N575 N588q
    refine oG.tr st588 ?_
    show oG _ _ _ _ (T588.setTop (mkF m 54 #[.val (.int p1), .val (.int p2), .val (.int p3), .val (.ref x_559), .val (.int ix), .val (.ref x_561), .val (.ref b562), .val (.ref o_575), .unset, .unset, .unset] [(.int (0 : Int32))]))
    refine oG.st (fun _ k => XS.ifYes X588.here hx rfl (pc0 := 54) (pc' := 59) rfl (hb hby at_54) rfl ((if0 _ _).trans (teq (rfl : (0 : Int32) = (0 : Int32))).1) (by decide) (by decide) k) ?_
    refine oG.st (fun _ k => XS.aload X588.here hx rfl (hb hby at_59) rfl rfl k) ?_
    show oG _ _ _ _ (T588.setTop (mkF m 61 #[.val (.int p1), .val (.int p2), .val (.int p3), .val (.ref x_559), .val (.int ix), .val (.ref x_561), .val (.ref b562), .val (.ref o_575), .unset, .unset, .unset] [(.ref o_575)]))
    obtain ⟨cq590, kq590, q590a, q590b, q590c⟩ := isOf hZ561 K588 f575_0
    obtain ⟨_, _, ⟨T590, L590, k590, n590⟩, -, X590, ⟨Lc590, hQ590, l590, y590, z590⟩, st590⟩ := X588.virtualBack hx (y := mN2) (z := mN2) hown561 (own_v hZ561 hw 172 rfl) (own_v hZ561 hw 173 rfl) (notFace_of_selects (args := #[]) (own_v hZ561 hw 175 rfl)) (own_v hZ561 hw 175 rfl) (own_v hZ561 hw 174 rfl) (by decide) (backOf (W := 0) (rm_refusal l Z a0 hw [] o_575 f_575 T575.heap f589 f575_1) hZ561 (own_w hw 176 rfl) (own_w hw 152 rfl) (by decide) (by decide)) q590a q590c (g := (mkF m 61 #[.val (.int p1), .val (.int p2), .val (.int p3), .val (.ref x_559), .val (.int ix), .val (.ref x_561), .val (.ref b562), .val (.ref o_575), .unset, .unset, .unset] [(.ref o_575)])) rfl (by rw [hml]; rfl) (Steps.refl _) (argsL := []) (rest := []) (lenOf pd_344 rfl) rfl (by show 2 * 0 + _ ≤ _; exact Nat.le_of_eq rfl) (hb hby at_61) (fun _ _ => ⟨rfl, K588, (by decide : 16 + 1 ≤ _), (by decide : 2860 + 4 ≤ _)⟩)
    dsimp only [Pt.U, Pt.locs, Pt.cells, Pt.slots] at X590 l590 y590 z590 st590 hQ590
    subst l590 y590 z590
    obtain ⟨x_590, rfl, N590q, K590, f590_0, f590_1, pr590_0⟩ := hQ590
    have N590 := Fr.app N588 N590q
    have z590 : T575.heap.size ≤ T590.heap.size := K590.1
    have R590 : CHr Z consts_1 s.vm h0 T561.vm T590.heap := R575.trans (CHr.keep K590 sf0 R575.1)
    have lt590_0 : @LT.lt Nat _ x_590 T590.heap.size := f590_0.lt
    have lt590_1 : @LT.lt Nat _ x_590 T590.heap.size := f590_1.lt
    refine oG.tr st590 ?_
    refine oG.st (fun _ k => XS.astore X590.here hx rfl (hb hby at_64) rfl rfl (l' := #[.val (.int p1), .val (.int p2), .val (.int p3), .val (.ref x_559), .val (.int ix), .val (.ref x_561), .val (.ref b562), .val (.ref o_575), .val (.ref x_590), .unset, .unset]) rfl (XS.aload X590.here hx rfl (hb hby at_66) rfl rfl k)) ?_
    show oG _ _ _ _ (T590.setTop (mkF m 68 #[.val (.int p1), .val (.int p2), .val (.int p3), .val (.ref x_559), .val (.int ix), .val (.ref x_561), .val (.ref b562), .val (.ref o_575), .val (.ref x_590), .unset, .unset] [(.ref x_590)]))
    have f592 : Old Z Z.heap.size T590.heap := f589.keep K590 all0
    obtain ⟨cq591, kq591, q591a, q591b, q591c⟩ := isOf hZ561 rfl f590_0
    obtain ⟨_, _, ⟨T591, L591, k591, n591⟩, -, X591, ⟨Lc591, hQ591, l591, y591, z591⟩, st591⟩ := X590.virtualBack hx (y := mN25) (z := mN25) hown561 (own_v hZ561 hw 190 rfl) (own_v hZ561 hw 191 rfl) (notFace_of_selects (args := #[]) (own_v hZ561 hw 193 rfl)) (own_v hZ561 hw 193 rfl) (own_v hZ561 hw 192 rfl) (by decide) (backOf (W := 0) (rm_opis l Z a0 hw [] x_590 f_575 T590.heap f592 f590_1) hZ561 (own_w hw 194 rfl) (own_w hw 179 rfl) (by decide) (by decide)) q591a q591c (g := (mkF m 68 #[.val (.int p1), .val (.int p2), .val (.int p3), .val (.ref x_559), .val (.int ix), .val (.ref x_561), .val (.ref b562), .val (.ref o_575), .val (.ref x_590), .unset, .unset] [(.ref x_590)])) rfl (by rw [hml]; rfl) (Steps.refl _) (argsL := []) (rest := []) (lenOf pd_343 rfl) rfl (by show 2 * 0 + _ ≤ _; exact Nat.le_of_eq rfl) (hb hby at_68) (fun _ _ => ⟨rfl, rfl, (by decide : 17 + 0 ≤ _), (by decide : 2864 + 0 ≤ _)⟩)
    dsimp only [Pt.U, Pt.locs, Pt.cells, Pt.slots] at X591 l591 y591 z591 st591 hQ591
    subst l591 y591 z591
    obtain ⟨rfl, N591q, K591⟩ := hQ591
    have N591 := Fr.app N590 N591q
    refine oG.tr st591 ?_
    show oG _ _ _ _ (T591.setTop (mkF m 71 #[.val (.int p1), .val (.int p2), .val (.int p3), .val (.ref x_559), .val (.int ix), .val (.ref x_561), .val (.ref b562), .val (.ref o_575), .val (.ref x_590), .unset, .unset] [(.int (1 : Int32))]))
    refine oG.st (fun _ k => XS.ifYes X591.here hx rfl (pc0 := 71) (pc' := 76) rfl (hb hby at_71) rfl ((if0 _ _).trans (feq (by decide : ¬ ((1 : Int32) = (0 : Int32)))).2) (by decide) (by decide) k) ?_
    refine oG.st (fun _ k => XS.aload X591.here hx rfl (hb hby at_76) rfl rfl k) ?_
    show oG _ _ _ _ (T591.setTop (mkF m 78 #[.val (.int p1), .val (.int p2), .val (.int p3), .val (.ref x_559), .val (.int ix), .val (.ref x_561), .val (.ref b562), .val (.ref o_575), .val (.ref x_590), .unset, .unset] [(.ref x_590)]))
    obtain ⟨cq593, kq593, q593a, q593b, q593c⟩ := isOf hZ561 K591 f590_0
    obtain ⟨_, _, ⟨T593, L593, k593, n593⟩, -, X593, ⟨Lc593, hQ593, l593, y593, z593⟩, st593⟩ := X591.virtualBack hx (y := mN24) (z := mN24) hown561 (own_v hZ561 hw 195 rfl) (own_v hZ561 hw 196 rfl) (notFace_of_selects (args := #[]) (own_v hZ561 hw 198 rfl)) (own_v hZ561 hw 198 rfl) (own_v hZ561 hw 197 rfl) (by decide) (backOf (W := 0) (rm_opget l Z a0 hw [] x_590 f_575 T590.heap f592 f590_1) hZ561 (own_w hw 199 rfl) (own_w hw 179 rfl) (by decide) (by decide)) q593a q593c (g := (mkF m 78 #[.val (.int p1), .val (.int p2), .val (.int p3), .val (.ref x_559), .val (.int ix), .val (.ref x_561), .val (.ref b562), .val (.ref o_575), .val (.ref x_590), .unset, .unset] [(.ref x_590)])) rfl (by rw [hml]; rfl) (Steps.refl _) (argsL := []) (rest := []) (lenOf pd_345 rfl) rfl (by show 2 * 0 + _ ≤ _; exact Nat.le_of_eq rfl) (hb hby at_78) (fun _ _ => ⟨rfl, K591, (by decide : 17 + 0 ≤ _), (by decide : 2864 + 0 ≤ _)⟩)
    dsimp only [Pt.U, Pt.locs, Pt.cells, Pt.slots] at X593 l593 y593 z593 st593 hQ593
    subst l593 y593 z593
    obtain ⟨rfl, N593q, K593⟩ := hQ593
    have N593 := Fr.app N591 N593q
    refine oG.tr st593 ?_
    show oG _ _ _ _ (T593.setTop (mkF m 81 #[.val (.int p1), .val (.int p2), .val (.int p3), .val (.ref x_559), .val (.int ix), .val (.ref x_561), .val (.ref b562), .val (.ref o_575), .val (.ref x_590), .unset, .unset] [(.ref f_575)]))
    have f594 : Exa Z T590.heap f_575 "com/example/hinagata/hinagata/Refusal" := f575_2.keep K590
    obtain ⟨T595, X595, e595, st595⟩ := castY X593 hx hZ561 hown561 (own_w hw 200 rfl) K593 (Ins.self f594) (g := (mkF m 81 #[.val (.int p1), .val (.int p2), .val (.int p3), .val (.ref x_559), .val (.int ix), .val (.ref x_561), .val (.ref b562), .val (.ref o_575), .val (.ref x_590), .unset, .unset] [(.ref f_575)])) rfl rfl (hb hby at_81)
    refine oG.st st595 ?_
    refine oG.st (fun _ k => XS.astore X595.here hx rfl (hb hby at_84) rfl rfl (l' := #[.val (.int p1), .val (.int p2), .val (.int p3), .val (.ref x_559), .val (.int ix), .val (.ref x_561), .val (.ref b562), .val (.ref o_575), .val (.ref x_590), .val (.ref f_575), .unset]) rfl (XS.aload X595.here hx rfl (hb hby at_86) rfl rfl k)) ?_
    show oG _ _ _ _ (T595.setTop (mkF m 88 #[.val (.int p1), .val (.int p2), .val (.int p3), .val (.ref x_559), .val (.int ix), .val (.ref x_561), .val (.ref b562), .val (.ref o_575), .val (.ref x_590), .val (.ref f_575), .unset] [(.ref f_575)]))
    have f597 : Fld Z T590.heap f_575 "com/example/hinagata/hinagata/Refusal" "errorClass" "Lcom/example/hinagata/hinagata/ErrorClass;" (.ref x_559) := f575_3.keep K590 nin0
    obtain ⟨cq596, kq596, q596a, q596b, q596c⟩ := isOf hZ561 e595 f594
    obtain ⟨_, _, ⟨T596, L596, k596, n596⟩, -, X596, ⟨Lc596, hQ596, l596, y596, z596⟩, st596⟩ := X595.virtualBack hx (y := mN5) (z := mN5) hown561 (own_v hZ561 hw 201 rfl) (own_v hZ561 hw 202 rfl) (notFace_of_selects (args := #[]) (own_v hZ561 hw 204 rfl)) (own_v hZ561 hw 204 rfl) (own_v hZ561 hw 203 rfl) (by decide) (backOf (W := 0) (rm_rferr l Z a0 hw [] f_575 x_559 T590.heap f592 f597) hZ561 (own_w hw 205 rfl) (own_w hw 124 rfl) (by decide) (by decide)) q596a q596c (g := (mkF m 88 #[.val (.int p1), .val (.int p2), .val (.int p3), .val (.ref x_559), .val (.int ix), .val (.ref x_561), .val (.ref b562), .val (.ref o_575), .val (.ref x_590), .val (.ref f_575), .unset] [(.ref f_575)])) rfl (by rw [hml]; rfl) (Steps.refl _) (argsL := []) (rest := []) (lenOf pd_346 rfl) rfl (by show 2 * 0 + _ ≤ _; exact Nat.le_of_eq rfl) (hb hby at_88) (fun _ _ => ⟨rfl, e595, (by decide : 17 + 0 ≤ _), (by decide : 2864 + 0 ≤ _)⟩)
    dsimp only [Pt.U, Pt.locs, Pt.cells, Pt.slots] at X596 l596 y596 z596 st596 hQ596
    subst l596 y596 z596
    obtain ⟨rfl, N596q, K596⟩ := hQ596
    have N596 := Fr.app N593 N596q
    refine oG.tr st596 ?_
    refine oG.st (fun _ k => XS.aloadN X596.here hx rfl (hb hby at_91) rfl rfl k) ?_
    show oG _ _ _ _ (T596.setTop (mkF m 92 #[.val (.int p1), .val (.int p2), .val (.int p3), .val (.ref x_559), .val (.int ix), .val (.ref x_561), .val (.ref b562), .val (.ref o_575), .val (.ref x_590), .val (.ref f_575), .unset] [(.ref x_559), (.ref x_559)]))
    refine oG.st (fun _ k => Jvm.RoadKit.acmp (g := (mkF m 92 #[.val (.int p1), .val (.int p2), .val (.int p3), .val (.ref x_559), .val (.int ix), .val (.ref x_561), .val (.ref b562), .val (.ref o_575), .val (.ref x_590), .val (.ref f_575), .unset] [(.ref x_559), (.ref x_559)])) X596 hx rfl rfl rfl (pc0 := 92) (pc' := 97) (same := true) rfl (hb hby at_92) rfl (decide_eq_true rfl) (by decide) (by decide) k) ?_
    refine oG.st (fun _ k => XS.aload X596.here hx rfl (hb hby at_97) rfl rfl k) ?_
    show oG _ _ _ _ (T596.setTop (mkF m 99 #[.val (.int p1), .val (.int p2), .val (.int p3), .val (.ref x_559), .val (.int ix), .val (.ref x_561), .val (.ref b562), .val (.ref o_575), .val (.ref x_590), .val (.ref f_575), .unset] [(.ref f_575)]))
    have f599 : Fld Z T590.heap f_575 "com/example/hinagata/hinagata/Refusal" "reason" "Ljava/lang/String;" (.ref x_561) := f575_5.keep K590 nin0
    obtain ⟨cq598, kq598, q598a, q598b, q598c⟩ := isOf hZ561 K596 f594
    obtain ⟨_, _, ⟨T598, L598, k598, n598⟩, -, X598, ⟨Lc598, hQ598, l598, y598, z598⟩, st598⟩ := X596.virtualBack hx (y := mN7) (z := mN7) hown561 (own_v hZ561 hw 206 rfl) (own_v hZ561 hw 207 rfl) (notFace_of_selects (args := #[]) (own_v hZ561 hw 209 rfl)) (own_v hZ561 hw 209 rfl) (own_v hZ561 hw 208 rfl) (by decide) (backOf (W := 0) (rm_rfreason l Z a0 hw [] f_575 x_561 T590.heap f592 f599) hZ561 (own_w hw 210 rfl) (own_w hw 124 rfl) (by decide) (by decide)) q598a q598c (g := (mkF m 99 #[.val (.int p1), .val (.int p2), .val (.int p3), .val (.ref x_559), .val (.int ix), .val (.ref x_561), .val (.ref b562), .val (.ref o_575), .val (.ref x_590), .val (.ref f_575), .unset] [(.ref f_575)])) rfl (by rw [hml]; rfl) (Steps.refl _) (argsL := []) (rest := []) (lenOf pd_266 rfl) rfl (by show 2 * 0 + _ ≤ _; exact Nat.le_of_eq rfl) (hb hby at_99) (fun _ _ => ⟨rfl, K596, (by decide : 17 + 0 ≤ _), (by decide : 2864 + 0 ≤ _)⟩)
    dsimp only [Pt.U, Pt.locs, Pt.cells, Pt.slots] at X598 l598 y598 z598 st598 hQ598
    subst l598 y598 z598
    obtain ⟨rfl, N598q, K598⟩ := hQ598
    have N598 := Fr.app N596 N598q
    refine oG.tr st598 ?_
    refine oG.st (fun _ k => XS.aload X598.here hx rfl (hb hby at_102) rfl rfl k) ?_
    show oG _ _ _ _ (T598.setTop (mkF m 104 #[.val (.int p1), .val (.int p2), .val (.int p3), .val (.ref x_559), .val (.int ix), .val (.ref x_561), .val (.ref b562), .val (.ref o_575), .val (.ref x_590), .val (.ref f_575), .unset] [(.ref x_561), (.ref x_561)]))
    have f601 : own_Str Z h562 x_561 t_561 cs_561 := f561_0.ext E562
    have ne602 : @Ne Nat x_561 b562 := Exa.ne f601.exa A562 (by decide)
    have ne603 : @Ne Nat b562 t_561 := own_Str.neV f601 A562 (own_w hw 33 rfl)
    have f604 : own_Str Z T571.heap x_561 t_561 cs_561 := f601.keep K571 (ninS ne602 nin0) (ninS (Ne.symm ne603) nin0)
    have f605 : own_Str Z T575.heap x_561 t_561 cs_561 := f604.keep K575 nin0 nin0
    have f606 : own_Str Z T590.heap x_561 t_561 cs_561 := f605.keep K590 nin0 nin0
    obtain ⟨cq600, kq600, q600a, q600b, q600c⟩ := isOf hZ561 K598 f606.exa
    obtain ⟨_, _, ⟨T600, L600, k600, n600⟩, -, X600, ⟨Lc600, hQ600, l600, y600, z600⟩, st600⟩ := X598.virtualBack hx (y := mN19) (z := mN19) hown561 (own_v hZ561 hw 211 rfl) (own_v hZ561 hw 212 rfl) (notFace_of_selects (args := #[]) (own_v hZ561 hw 214 rfl)) (own_v hZ561 hw 214 rfl) (own_v hZ561 hw 213 rfl) (by decide) (backOf (W := 0) (rm_eqself l Z a0 hw [] x_561 T590.heap f592 ) hZ561 (own_w hw 215 rfl) (own_w hw 12 rfl) (by decide) (by decide)) q600a q600c (g := (mkF m 104 #[.val (.int p1), .val (.int p2), .val (.int p3), .val (.ref x_559), .val (.int ix), .val (.ref x_561), .val (.ref b562), .val (.ref o_575), .val (.ref x_590), .val (.ref f_575), .unset] [(.ref x_561), (.ref x_561)])) rfl (by rw [hml]; rfl) (Steps.refl _) (argsL := [(.ref x_561)]) (rest := []) (lenOf pd_347 rfl) rfl (by show 2 * 0 + _ ≤ _; exact Nat.le_of_eq rfl) (hb hby at_104) (fun _ _ => ⟨rfl, K598, (by decide : 17 + 0 ≤ _), (by decide : 2864 + 0 ≤ _)⟩)
    dsimp only [Pt.U, Pt.locs, Pt.cells, Pt.slots] at X600 l600 y600 z600 st600 hQ600
    subst l600 y600 z600
    obtain ⟨rfl, N600q, K600⟩ := hQ600
    have N600 := Fr.app N598 N600q
    refine oG.tr st600 ?_
    show oG _ _ _ _ (T600.setTop (mkF m 107 #[.val (.int p1), .val (.int p2), .val (.int p3), .val (.ref x_559), .val (.int ix), .val (.ref x_561), .val (.ref b562), .val (.ref o_575), .val (.ref x_590), .val (.ref f_575), .unset] [(.int (1 : Int32))]))
    refine oG.st (fun _ k => XS.ifYes X600.here hx rfl (pc0 := 107) (pc' := 112) rfl (hb hby at_107) rfl ((if0 _ _).trans (feq (by decide : ¬ ((1 : Int32) = (0 : Int32)))).2) (by decide) (by decide) k) ?_
    refine oG.st (fun _ k => XS.aload X600.here hx rfl (hb hby at_112) rfl rfl k) ?_
    show oG _ _ _ _ (T600.setTop (mkF m 114 #[.val (.int p1), .val (.int p2), .val (.int p3), .val (.ref x_559), .val (.int ix), .val (.ref x_561), .val (.ref b562), .val (.ref o_575), .val (.ref x_590), .val (.ref f_575), .unset] [(.ref f_575)]))
    have f608 : Fld Z T590.heap f_575 "com/example/hinagata/hinagata/Refusal" "operation" "Ljava/util/OptionalInt;" (.ref q_575) := f575_4.keep K590 nin0
    obtain ⟨cq607, kq607, q607a, q607b, q607c⟩ := isOf hZ561 K600 f594
    obtain ⟨_, _, ⟨T607, L607, k607, n607⟩, -, X607, ⟨Lc607, hQ607, l607, y607, z607⟩, st607⟩ := X600.virtualBack hx (y := mN6) (z := mN6) hown561 (own_v hZ561 hw 216 rfl) (own_v hZ561 hw 217 rfl) (notFace_of_selects (args := #[]) (own_v hZ561 hw 219 rfl)) (own_v hZ561 hw 219 rfl) (own_v hZ561 hw 218 rfl) (by decide) (backOf (W := 0) (rm_rfop l Z a0 hw [] f_575 q_575 T590.heap f592 f608) hZ561 (own_w hw 220 rfl) (own_w hw 124 rfl) (by decide) (by decide)) q607a q607c (g := (mkF m 114 #[.val (.int p1), .val (.int p2), .val (.int p3), .val (.ref x_559), .val (.int ix), .val (.ref x_561), .val (.ref b562), .val (.ref o_575), .val (.ref x_590), .val (.ref f_575), .unset] [(.ref f_575)])) rfl (by rw [hml]; rfl) (Steps.refl _) (argsL := []) (rest := []) (lenOf pd_256 rfl) rfl (by show 2 * 0 + _ ≤ _; exact Nat.le_of_eq rfl) (hb hby at_114) (fun _ _ => ⟨rfl, K600, (by decide : 17 + 0 ≤ _), (by decide : 2864 + 0 ≤ _)⟩)
    dsimp only [Pt.U, Pt.locs, Pt.cells, Pt.slots] at X607 l607 y607 z607 st607 hQ607
    subst l607 y607 z607
    obtain ⟨rfl, N607q, K607⟩ := hQ607
    have N607 := Fr.app N600 N607q
    refine oG.tr st607 ?_
    refine oG.st (fun _ k => XS.astore X607.here hx rfl (hb hby at_117) rfl rfl (l' := #[.val (.int p1), .val (.int p2), .val (.int p3), .val (.ref x_559), .val (.int ix), .val (.ref x_561), .val (.ref b562), .val (.ref o_575), .val (.ref x_590), .val (.ref f_575), .val (.ref q_575)]) rfl (XS.iload X607.here hx rfl (hb hby at_119) rfl (XS.iconst X607.here hx rfl (hb hby at_121) k))) ?_
    show oG _ _ _ _ (T607.setTop (mkF m 122 #[.val (.int p1), .val (.int p2), .val (.int p3), .val (.ref x_559), .val (.int ix), .val (.ref x_561), .val (.ref b562), .val (.ref o_575), .val (.ref x_590), .val (.ref f_575), .val (.ref q_575)] [(.int (-1 : Int32)), (.int ix)]))
    by_cases h122 : ix = (-1 : Int32)
    ·
      refine oG.st (fun _ k => XS.icmpNo X607.here hx rfl (hb hby at_122) rfl (teq h122).2 k) ?_
      refine oG.st (fun _ k => XS.aload X607.here hx rfl (hb hby at_125) rfl rfl k) ?_
      show oG _ _ _ _ (T607.setTop (mkF m 127 #[.val (.int p1), .val (.int p2), .val (.int p3), .val (.ref x_559), .val (.int ix), .val (.ref x_561), .val (.ref b562), .val (.ref o_575), .val (.ref x_590), .val (.ref f_575), .val (.ref q_575)] [(.ref q_575)]))
      have f610 : Fld Z T590.heap q_575 "java/util/OptionalInt" "isPresent" "Z" (.int pb_575) := f575_7.keep K590 nin0
      have f611 : Exa Z T590.heap q_575 "java/util/OptionalInt" := f575_6.keep K590
      obtain ⟨cq609, kq609, q609a, q609b, q609c⟩ := isOf hZ561 K607 f611
      obtain ⟨_, _, ⟨T609, L609, k609, n609⟩, -, X609, ⟨Lc609, hQ609, l609, y609, z609⟩, st609⟩ := X607.virtualBack hx (y := mN30) (z := mN30) hown561 (own_v hZ561 hw 221 rfl) (own_v hZ561 hw 222 rfl) (notFace_of_selects (args := #[]) (own_v hZ561 hw 224 rfl)) (own_v hZ561 hw 224 rfl) (own_v hZ561 hw 223 rfl) (by decide) (backOf (W := 0) (rm_oiis l Z a0 hw [] q_575 pb_575 T590.heap f592 f610 (Or.inl (hop.elim (fun q => q.2) (fun q => absurd h122 q.1)))) hZ561 (own_w hw 225 rfl) (own_w hw 109 rfl) (by decide) (by decide)) q609a q609c (g := (mkF m 127 #[.val (.int p1), .val (.int p2), .val (.int p3), .val (.ref x_559), .val (.int ix), .val (.ref x_561), .val (.ref b562), .val (.ref o_575), .val (.ref x_590), .val (.ref f_575), .val (.ref q_575)] [(.ref q_575)])) rfl (by rw [hml]; rfl) (Steps.refl _) (argsL := []) (rest := []) (lenOf pd_343 rfl) rfl (by show 2 * 0 + _ ≤ _; exact Nat.le_of_eq rfl) (hb hby at_127) (fun _ _ => ⟨rfl, K607, (by decide : 17 + 0 ≤ _), (by decide : 2864 + 0 ≤ _)⟩)
      dsimp only [Pt.U, Pt.locs, Pt.cells, Pt.slots] at X609 l609 y609 z609 st609 hQ609
      subst l609 y609 z609
      obtain ⟨rfl, N609q, K609⟩ := hQ609
      have N609 := Fr.app N607 N609q
      refine oG.tr st609 ?_
      show oG _ _ _ _ (T609.setTop (mkF m 130 #[.val (.int p1), .val (.int p2), .val (.int p3), .val (.ref x_559), .val (.int ix), .val (.ref x_561), .val (.ref b562), .val (.ref o_575), .val (.ref x_590), .val (.ref f_575), .val (.ref q_575)] [(.int pb_575)]))
      have hc612 : pb_575 = (0 : Int32) := hop.elim (fun q => q.2) (fun q => absurd h122 q.1)
      refine oG.st (fun _ k => XS.ifNo X609.here hx rfl (hb hby at_130) rfl ((if0 _ _).trans (teq hc612).2) k) ?_
      refine oG.st (fun _ k => XS.iconst X609.here hx rfl (hb hby at_133) (XS.goto X609.here hx rfl (pc0 := 134) (pc' := 138) rfl (hb hby at_134) (by decide) (by decide) k)) ?_
      show oG _ _ _ _ (T609.setTop (mkF m 138 #[.val (.int p1), .val (.int p2), .val (.int p3), .val (.ref x_559), .val (.int ix), .val (.ref x_561), .val (.ref b562), .val (.ref o_575), .val (.ref x_590), .val (.ref f_575), .val (.ref q_575)] [(.int (1 : Int32))]))
      obtain ⟨fs613, hr613, hrun613, hend613, hret613⟩ := X609.leaveW hS561 (by rw [K609]; exact (by omega)) (v := some (.int (nar .boolean (1 : Int32)))) (fun h => by rw [Bd.returns] at h; cases h)
      have K614 : Keep h0 T561.heap [] := (Keep.refl h0 []).trans K561 all0
      have K615 : Keep h0 h562 [] := K614.ext E562
      have gz616 : h0.size ≤ b562 := by omega
      have K617 : Keep h0 T571.heap [] := K615.trans K571 (allS (Or.inr gz616) all0)
      have K618 : Keep h0 T575.heap [] := K617.trans K575 all0
      have K619 : Keep h0 T590.heap [] := K618.trans K590 all0
      subst hPP
      refine ⟨_, _, retN X609 hx (t := .boolean) Bd.returns (by simp) (hb hby at_138) hr613, hrun613, hend613, _, _, rfl, ?_, ?_, hret613.1, hret613.2.1, hret613.2.2.1, hret613.2.2.2.mono (by decide) (by decide)⟩
      · show Q_law Z _ _ _ _ _ _ _ _ _ _ _ h0 _ T609.heap _
        rw [K609]
        exact ⟨rfl, N609, K619⟩
      · have hfin := R590.trans (CHv.at X609 hZ561 hEL R590.1)
        rw [← hh] at hfin
        show CHr Z consts_1 s.vm s.heap T609.vm T609.heap
        rw [K609]
        exact hfin
    ·
      refine oG.st (fun _ k => XS.icmpYes X607.here hx rfl (pc0 := 122) (pc' := 139) rfl (hb hby at_122) rfl (feq h122).2 (by decide) (by decide) k) ?_
      refine oG.st (fun _ k => XS.aload X607.here hx rfl (hb hby at_139) rfl rfl k) ?_
      show oG _ _ _ _ (T607.setTop (mkF m 141 #[.val (.int p1), .val (.int p2), .val (.int p3), .val (.ref x_559), .val (.int ix), .val (.ref x_561), .val (.ref b562), .val (.ref o_575), .val (.ref x_590), .val (.ref f_575), .val (.ref q_575)] [(.ref q_575)]))
      have f621 : Fld Z T590.heap q_575 "java/util/OptionalInt" "isPresent" "Z" (.int pb_575) := f575_7.keep K590 nin0
      have f622 : Exa Z T590.heap q_575 "java/util/OptionalInt" := f575_6.keep K590
      obtain ⟨cq620, kq620, q620a, q620b, q620c⟩ := isOf hZ561 K607 f622
      obtain ⟨_, _, ⟨T620, L620, k620, n620⟩, -, X620, ⟨Lc620, hQ620, l620, y620, z620⟩, st620⟩ := X607.virtualBack hx (y := mN30) (z := mN30) hown561 (own_v hZ561 hw 221 rfl) (own_v hZ561 hw 222 rfl) (notFace_of_selects (args := #[]) (own_v hZ561 hw 224 rfl)) (own_v hZ561 hw 224 rfl) (own_v hZ561 hw 223 rfl) (by decide) (backOf (W := 0) (rm_oiis l Z a0 hw [] q_575 pb_575 T590.heap f592 f621 (Or.inr (hop.elim (fun q => absurd q.1 h122) (fun q => q.2.1)))) hZ561 (own_w hw 225 rfl) (own_w hw 109 rfl) (by decide) (by decide)) q620a q620c (g := (mkF m 141 #[.val (.int p1), .val (.int p2), .val (.int p3), .val (.ref x_559), .val (.int ix), .val (.ref x_561), .val (.ref b562), .val (.ref o_575), .val (.ref x_590), .val (.ref f_575), .val (.ref q_575)] [(.ref q_575)])) rfl (by rw [hml]; rfl) (Steps.refl _) (argsL := []) (rest := []) (lenOf pd_343 rfl) rfl (by show 2 * 0 + _ ≤ _; exact Nat.le_of_eq rfl) (hb hby at_141) (fun _ _ => ⟨rfl, K607, (by decide : 17 + 0 ≤ _), (by decide : 2864 + 0 ≤ _)⟩)
      dsimp only [Pt.U, Pt.locs, Pt.cells, Pt.slots] at X620 l620 y620 z620 st620 hQ620
      subst l620 y620 z620
      obtain ⟨rfl, N620q, K620⟩ := hQ620
      have N620 := Fr.app N607 N620q
      refine oG.tr st620 ?_
      show oG _ _ _ _ (T620.setTop (mkF m 144 #[.val (.int p1), .val (.int p2), .val (.int p3), .val (.ref x_559), .val (.int ix), .val (.ref x_561), .val (.ref b562), .val (.ref o_575), .val (.ref x_590), .val (.ref f_575), .val (.ref q_575)] [(.int pb_575)]))
      have hc623 : ¬ (pb_575 = (0 : Int32)) := by rw [hop.elim (fun q => absurd q.1 h122) (fun q => q.2.1)]; decide
      refine oG.st (fun _ k => XS.ifNo X620.here hx rfl (hb hby at_144) rfl ((if0 _ _).trans (feq hc623).1) k) ?_
      refine oG.st (fun _ k => XS.aload X620.here hx rfl (hb hby at_147) rfl rfl k) ?_
      show oG _ _ _ _ (T620.setTop (mkF m 149 #[.val (.int p1), .val (.int p2), .val (.int p3), .val (.ref x_559), .val (.int ix), .val (.ref x_561), .val (.ref b562), .val (.ref o_575), .val (.ref x_590), .val (.ref f_575), .val (.ref q_575)] [(.ref q_575)]))
      have f625 : Fld Z T590.heap q_575 "java/util/OptionalInt" "value" "I" (.int pv_575) := f575_8.keep K590 nin0
      obtain ⟨cq624, kq624, q624a, q624b, q624c⟩ := isOf hZ561 K620 f622
      obtain ⟨_, _, ⟨T624, L624, k624, n624⟩, -, X624, ⟨Lc624, hQ624, l624, y624, z624⟩, st624⟩ := X620.virtualBack hx (y := mN29) (z := mN29) hown561 (own_v hZ561 hw 226 rfl) (own_v hZ561 hw 227 rfl) (notFace_of_selects (args := #[]) (own_v hZ561 hw 229 rfl)) (own_v hZ561 hw 229 rfl) (own_v hZ561 hw 228 rfl) (by decide) (backOf (W := 0) (rm_oiget l Z a0 hw [] q_575 pb_575 pv_575 T590.heap f592 f621 f625 (hop.elim (fun q => absurd q.1 h122) (fun q => q.2.1))) hZ561 (own_w hw 230 rfl) (own_w hw 109 rfl) (by decide) (by decide)) q624a q624c (g := (mkF m 149 #[.val (.int p1), .val (.int p2), .val (.int p3), .val (.ref x_559), .val (.int ix), .val (.ref x_561), .val (.ref b562), .val (.ref o_575), .val (.ref x_590), .val (.ref f_575), .val (.ref q_575)] [(.ref q_575)])) rfl (by rw [hml]; rfl) (Steps.refl _) (argsL := []) (rest := []) (lenOf pd_348 rfl) rfl (by show 2 * 0 + _ ≤ _; exact Nat.le_of_eq rfl) (hb hby at_149) (fun _ _ => ⟨rfl, K620, (by decide : 17 + 0 ≤ _), (by decide : 2864 + 0 ≤ _)⟩)
      dsimp only [Pt.U, Pt.locs, Pt.cells, Pt.slots] at X624 l624 y624 z624 st624 hQ624
      subst l624 y624 z624
      obtain ⟨rfl, N624q, K624⟩ := hQ624
      have N624 := Fr.app N620 N624q
      refine oG.tr st624 ?_
      refine oG.st (fun _ k => XS.iload X624.here hx rfl (hb hby at_152) rfl k) ?_
      show oG _ _ _ _ (T624.setTop (mkF m 154 #[.val (.int p1), .val (.int p2), .val (.int p3), .val (.ref x_559), .val (.int ix), .val (.ref x_561), .val (.ref b562), .val (.ref o_575), .val (.ref x_590), .val (.ref f_575), .val (.ref q_575)] [(.int ix), (.int pv_575)]))
      have hc626 : pv_575 = ix := hop.elim (fun q => absurd q.1 h122) (fun q => q.2.2)
      refine oG.st (fun _ k => XS.icmpNo X624.here hx rfl (hb hby at_154) rfl (teq hc626).2 k) ?_
      refine oG.st (fun _ k => XS.iconst X624.here hx rfl (hb hby at_157) (XS.goto X624.here hx rfl (pc0 := 158) (pc' := 162) rfl (hb hby at_158) (by decide) (by decide) k)) ?_
      show oG _ _ _ _ (T624.setTop (mkF m 162 #[.val (.int p1), .val (.int p2), .val (.int p3), .val (.ref x_559), .val (.int ix), .val (.ref x_561), .val (.ref b562), .val (.ref o_575), .val (.ref x_590), .val (.ref f_575), .val (.ref q_575)] [(.int (1 : Int32))]))
      obtain ⟨fs627, hr627, hrun627, hend627, hret627⟩ := X624.leaveW hS561 (by rw [K624]; exact (by omega)) (v := some (.int (nar .boolean (1 : Int32)))) (fun h => by rw [Bd.returns] at h; cases h)
      have K628 : Keep h0 T561.heap [] := (Keep.refl h0 []).trans K561 all0
      have K629 : Keep h0 h562 [] := K628.ext E562
      have gz630 : h0.size ≤ b562 := by omega
      have K631 : Keep h0 T571.heap [] := K629.trans K571 (allS (Or.inr gz630) all0)
      have K632 : Keep h0 T575.heap [] := K631.trans K575 all0
      have K633 : Keep h0 T590.heap [] := K632.trans K590 all0
      subst hPP
      refine ⟨_, _, retN X624 hx (t := .boolean) Bd.returns (by simp) (hb hby at_162) hr627, hrun627, hend627, _, _, rfl, ?_, ?_, hret627.1, hret627.2.1, hret627.2.2.1, hret627.2.2.2.mono (by decide) (by decide)⟩
      · show Q_law Z _ _ _ _ _ _ _ _ _ _ _ h0 _ T624.heap _
        rw [K624]
        exact ⟨rfl, N624, K633⟩
      · have hfin := R590.trans (CHv.at X624 hZ561 hEL R590.1)
        rw [← hh] at hfin
        show CHr Z consts_1 s.vm s.heap T624.vm T624.heap
        rw [K624]
        exact hfin
  by_cases hc634 : (((p1.toUInt32 >>> ((2 : Int32) &&& 31).toUInt32).toInt32) &&& (1 : Int32)) = (0 : Int32)
  ·
    refine oG.st (fun _ k => XS.ifYes X559.here hx rfl (pc0 := 12) (pc' := 19) rfl (hb hby at_12) rfl ((if0 _ _).trans (teq hc634).1) (by decide) (by decide) k) ?_
    refine oG.st (fun _ k => XS.iloadN X559.here hx rfl (hb hby at_19) rfl k) ?_
    show oG _ _ _ _ (T559.setTop (mkF m 20 #[.val (.int p1), .val (.int p2), .val (.int p3), .val (.ref x_559), .unset, .unset, .unset, .unset, .unset, .unset, .unset] [(.int p2)]))
    exact J560 p2 trivial
  ·
    refine oG.st (fun _ k => XS.ifNo X559.here hx rfl (hb hby at_12) rfl ((if0 _ _).trans (feq hc634).1) k) ?_
    refine oG.st (fun _ k => XS.iconst X559.here hx rfl (hb hby at_15) (XS.goto X559.here hx rfl (pc0 := 16) (pc' := 20) rfl (hb hby at_16) (by decide) (by decide) k)) ?_
    show oG _ _ _ _ (T559.setTop (mkF m 20 #[.val (.int p1), .val (.int p2), .val (.int p3), .val (.ref x_559), .unset, .unset, .unset, .unset, .unset, .unset, .unset] [(.int (-1 : Int32))]))
    exact J560 (-1 : Int32) trivial

theorem own_staX {s : State} {args : Array Value} {C n d K : String} (h : (Jvm.Cond.exactly (Jvm.Term.static C n d) K).before args s = true) (hi : (Jvm.Cond.initializedFor C n d).before args s = true ∨ ((Jvm.Cond.initialized C).before args s = true ∧ (Jvm.Cond.laysStatic C n d).before args s = true)) : ∃ a : Addr, Sta s s.heap C n d (.ref a) ∧ Exa s s.heap a K ∧ (Jvm.Term.static C n d).eval args s none [] s = some (.ref a) := by
  obtain ⟨a, c', c, k, e1, e2, -⟩ := Cond.exactly_spec h
  exact ⟨a, Sta.start e1 hi, exa_at e1 (Cond.before_iff.mp h), e1⟩


theorem own_fldEq {s : State} {args : Array Value} {t : Jvm.Term} {C n d : String} {v : Int32} {oe : Addr} (ht : t.eval args s none [] s = some (.ref oe)) (h : (Jvm.Cond.eq (Jvm.Term.field t C n d) (Jvm.Term.int v)).before args s = true) : Fld s s.heap oe C n d (.int v) := by
  obtain ⟨x, y, e1, e2, -, -⟩ := cmp_v (Or.inl (Cond.before_iff.mp h))
  have e3 : y = .int v := by simpa [Term.eval] using e2.symm
  subst e3
  have e4 : x = .int v := by
    have q := Cond.before_iff.mp h
    simp only [Cond.value, e1, e2] at q
    cases x <;> simp_all
  subst e4
  rw [fld_at ht] at e1
  exact Fld.start e1

set_option maxRecDepth 65536 in
set_option maxHeartbeats 40000000 in
theorem comes_1 {Post : Tables → Env → Array Value → State → Outcome → State → Prop} (hpost : ∀ tb e args s v u, (limb_1_1.after args s (.returned v) u = true ∧ limb_1_2.after args s (.returned v) u = true ∧ True) → ReturnedEndW s (.returned v) u (Jvm.fieldLocs frame_1_writes args s ++ Jvm.arrayLocs frame_1_arrays args s ++ Jvm.staticLocs frame_1_statics s) 32 6656 → Post tb e args s (.returned v) u) :
    ArmFor flags0 classFile x code maxLocals ret World_1 tables_1 room_1 Calls_1 rest_1 Pre_1 Post := by
  intro l hfl _ _ p e ha hc hk s m args below hf hA hF happ hP
  obtain ⟨hcalls, hrest, hpre⟩ := hP
  obtain ⟨-, -, -, hnamed, -, -, -, hat⟩ := (Spec.applies_iff hf).mp happ
  obtain ⟨hg, hn⟩ := and_e (Cond.before_iff.mp (show (Jvm.Cond.and given_1 narrow_1).before args s = true from hpre))
  obtain ⟨g0, r0⟩ := and_e hg
  obtain ⟨g1, r1⟩ := and_e r0
  obtain ⟨g2, r2⟩ := and_e r1
  obtain ⟨w0, w1, w2, rfl⟩ : ∃ w0 w1 w2 : Value, args = #[w0, w1, w2] := by
    have hs : args.size = 3 := by simpa [Cond.value, given_1] using g0
    obtain ⟨L⟩ := args
    match L, hs with
    | [w0, w1, w2], _ => exact ⟨w0, w1, w2, rfl⟩
  have hw := fun d (hd : d ∈ tables_1) => atoms_spec (ws := Jvm.Cond.code x code maxLocals ret :: tables_1) hat d (List.mem_cons_of_mem _ hd)
  obtain ⟨hsets, hown0⟩ := atoms_of _ (rest_1_c_eq ▸ (show rest_1_c.before _ s = true from hrest))
  have hfit : Fit s := fun {y c} hc i hi => by
    obtain ⟨ha, rfl⟩ := Array.getElem?_eq_some_iff.mp hc
    have q := List.all_eq_true.mp ((Array.all_eq_true_iff_forall_mem.mp hF) _ (Array.getElem_mem ha)) i (List.mem_range.mpr hi)
    simpa [Array.getElem?_eq_getElem hi] using q
  obtain ⟨i0, e0⟩ := is_v g1
  obtain rfl : w0 = (.int i0) := Option.some.inj e0
  obtain ⟨i1, e1⟩ := is_v g2
  obtain rfl : w1 = (.int i1) := Option.some.inj e1
  obtain ⟨i2, e2⟩ := is_v r2
  obtain rfl : w2 = (.int i2) := Option.some.inj e2
  obtain ⟨zc, ez⟩ := is_v (Cond.before_iff.mp (hsets _ (List.mem_of_getElem? (i := 26) rfl)))
  have st_zc : Sta s s.heap "java/lang/String" "COMPACT_STRINGS" "Z" (.int zc) := Sta.start ez (Or.inl (hsets _ (List.mem_of_getElem? (i := 25) rfl)))
  have hzc : ¬ (zc = (0 : Int32)) := gotF (Cond.eq_ints ez (Term.int_eval (0))) (not_v (Cond.before_iff.mp (hsets _ (List.mem_of_getElem? (i := 27) rfl))))
  have hEL : EW s _ consts_1 := (EW.cons (own_w hw 24 rfl) (by decide) EW.nil)
  have hC0 : CHv s consts_1 s.vm s.heap := CHv.start hEL (fun p hp => hcalls.2.2.1 p hp) (hsets _ (List.mem_of_getElem? (i := 27) rfl)) (own_w hw 25 rfl) (own_w hw 11 rfl)
  obtain ⟨n0, q0⟩ := and_e hn
  obtain ⟨n1, q1⟩ := and_e q0
  obtain ⟨n2, n3⟩ := and_e q1
  obtain ⟨r1, st_RESOURCE, -, -⟩ := own_staX (C := "com/example/hinagata/hinagata/ErrorClass") (Cond.before_iff.mpr n0) (Or.inr ⟨(own_w hw 5 rfl), (own_w hw 6 rfl)⟩)
  obtain ⟨r2, st_STRUCTURAL, -, -⟩ := own_staX (C := "com/example/hinagata/hinagata/ErrorClass") (Cond.before_iff.mpr n1) (Or.inr ⟨(own_w hw 5 rfl), (own_w hw 232 rfl)⟩)
  obtain ⟨r4, st_AUTHORIZATION, -, -⟩ := own_staX (C := "com/example/hinagata/hinagata/ErrorClass") (Cond.before_iff.mpr n2) (Or.inr ⟨(own_w hw 5 rfl), (own_w hw 238 rfl)⟩)
  obtain ⟨r3, st_SCHEMA, -, -⟩ := own_staX (C := "com/example/hinagata/hinagata/ErrorClass") (Cond.before_iff.mpr n3) (Or.inr ⟨(own_w hw 5 rfl), (own_w hw 251 rfl)⟩)
  obtain ⟨oe, st_EMPTY, xoe, eoe⟩ := own_staX (C := "java/util/OptionalInt") (hsets _ (List.mem_of_getElem? (i := 22) rfl)) (Or.inl (hsets _ (List.mem_of_getElem? (i := 21) rfl)))
  have foe_isPresent : Fld s s.heap oe "java/util/OptionalInt" "isPresent" "Z" (.int (0 : Int32)) := own_fldEq eoe (hsets _ (List.mem_of_getElem? (i := 23) rfl))
  have foe_value : Fld s s.heap oe "java/util/OptionalInt" "value" "I" (.int (0 : Int32)) := own_fldEq eoe (hsets _ (List.mem_of_getElem? (i := 24) rfl))
  have hst : l.stackTraces = true := by unfold Launch.stackTraces; rw [hfl]; decide
  obtain ⟨us, eus⟩ := arr_v (Cond.before_iff.mp (hsets _ (List.mem_of_getElem? (i := 8) rfl)))
  have st_UNASSIGNED_STACK : Sta s s.heap "java/lang/Throwable" "UNASSIGNED_STACK" "[Ljava/lang/StackTraceElement;" (.ref us) := Sta.start eus (Or.inl (hsets _ (List.mem_of_getElem? (i := 6) rfl)))
  obtain ⟨sn, esn⟩ := exa_v (Cond.before_iff.mp (hsets _ (List.mem_of_getElem? (i := 13) rfl)))
  have st_SUPPRESSED_SENTINEL : Sta s s.heap "java/lang/Throwable" "SUPPRESSED_SENTINEL" "Ljava/util/List;" (.ref sn) := Sta.start esn (Or.inl (hsets _ (List.mem_of_getElem? (i := 11) rfl)))
  have hTh0 : ThS s s.heap := ThS.start
  have hwA : ∀ d ∈ own_thA "com/example/hinagata/hinagata/RefusedException", d.before #[(.int i0), (.int i1), (.int i2)] s = true := fun d h => (List.mem_append.mp (own_thW d h)).elim (hw d) (hsets d)
  obtain ⟨n, o, h1, h2, h3, _, L, rfl, ⟨rfl, N, -⟩, -, hq⟩ := rm_law l s _ hw tables_1 i0 i1 i2 zc r1 r2 r3 r4 oe us sn s.heap hEL (Old.start s) xoe foe_isPresent foe_value st_zc st_RESOURCE st_STRUCTURAL st_SCHEMA st_AUTHORIZATION st_EMPTY st_UNASSIGNED_STACK st_SUPPRESSED_SENTINEL hzc hTh0 hst hwA p e ha hc hk s m _ below hf ((Spec.applies_iff_loose hf).mp happ).1 ⟨rfl, State.Warmed39.refl s, rfl, hC0⟩ ⟨hcalls.1, hcalls.2.1⟩
  refine ⟨n, _, h1, h2, h3, hpost _ _ _ _ _ _ ⟨Cond.after_iff.mpr rfl, Cond.after_iff.mpr (eq_i res_at (Term.int_eval (1)) rfl), trivial⟩ ⟨hq.1, hq.2.1, hq.2.2.1, (hq.2.2.2.sift fun y hy => Or.inr (N y hy)).mono (by decide) (by decide)⟩⟩
theorem main_1_1 : Claimed_1_1 := comes_1 fun _ _ _ _ _ _ h hF => ⟨h.1, hF⟩
theorem main_1_2 : Claimed_1_2 := comes_1 fun _ _ _ _ _ _ h hF => ⟨h.2.1, hF⟩
end Jvm.Pilot.@@N@@
namespace Jvm.Pilot.@@N@@
open Jvm Jvm.ClassFile Sem Op Lib Jvm.Free Jvm.Stand Jvm.Pilot.@@N@@.Jvm.D
/-! MADE BY PROGRAM (witnessworld.py) out of the Statement's table words and the real class files: 45 classes; the members and pool entries that the words name. The judged class is class 1, her method 3. -/
namespace start1
open Jvm.ClassFile
def u (s : String) : CpInfo := .utf8 (stringToUtf16 s)
/-- a pool by its gaps: so many unusable entries, then the entry; so many at the end -/
def gap : Nat → List CpInfo → List CpInfo
  | 0, r => r
  | n + 1, r => .unusable :: gap n r
def poolList (es : List (Nat × CpInfo)) (last : Nat) : List CpInfo := es.foldr (fun e r => gap e.1 (e.2 :: r)) (gap last [])
def pool (es : List (Nat × CpInfo)) (last : Nat) : Array CpInfo := ⟨poolList es last⟩
def fileOf (pool : Array CpInfo) (this : Nat) (attrs : Array Attribute := #[]) (ms : Array MethodInfo := #[]) (fl : Nat := 33) (sup : Nat := 0) (ifs : Array Nat := #[]) (fds : Array FieldInfo := #[]) : ClassFile where
  minorVersion := 0
  majorVersion := 65
  constantPool := pool
  accessFlags := fl
  thisClass := this
  superClass := sup
  interfaces := ifs
  fields := fds
  methods := ms
  attributes := attrs
def plain (name : String) (sup : Option ClassId) : Class where
  name := name
  kind := .ordinary
  loader := none
  accessFlags := 33
  super := sup
  interfaces := #[]
  cf := none
  fields := #[]
  methods := #[]
  instanceTypes := #[]
  staticTypes := #[]
  resolved := #[]
  callSites := []
  init := .initialized
  statics := none
  mirror := none

def pool0 : Array CpInfo := pool [(5, u "<init>"), (0, u "()V"), (1, .class_ 10), (1, u "java/lang/Object")] 113

def k0c0 : Code := { maxStack := 0, maxLocals := 1, code := object_method_1_code, exceptionTable := #[], attributes := #[] }
def k0m0 : Method := { name := "<init>", desc := "()V", sig := { parameters := [], returnType := none }, accessFlags := 1, code := some k0c0 }
/-- java/lang/Object -/
def k0 : Class := { plain "java/lang/Object" none with
  accessFlags := 33
  interfaces := #[]
  cf := some (fileOf pool0 8 #[] #[{ accessFlags := 1, nameIndex := 5, descriptorIndex := 6, attributes := #[] }] 33 0 #[] #[])
  fields := #[]
  methods := #[k0m0]
  instanceTypes := #[]
  staticTypes := #[]
  resolved := Array.replicate 124 none
  statics := none }

def pool1 : Array CpInfo := pool [(2, .class_ 4), (1, u "java/lang/Object"), (0, u "<init>"), (0, u "()V"), (0, .fieldref 8 9), (0, .class_ 10), (0, .nameAndType 11 12), (0, u "com/example/hinagata/hinagata/ErrorClass"), (0, u "RESOURCE"), (0, u "Lcom/example/hinagata/hinagata/ErrorClass;"), (0, .fieldref 8 14), (0, .nameAndType 15 12), (0, u "STRUCTURAL"), (0, .fieldref 8 17), (0, .nameAndType 18 12), (0, u "SCHEMA"), (0, .fieldref 8 20), (0, .nameAndType 21 12), (0, u "AUTHORIZATION"), (0, .class_ 23), (0, u "java/lang/String"), (0, .methodref 22 25), (0, .nameAndType 5 26), (0, u "([C)V"), (0, .methodref 28 29), (0, .class_ 30), (0, .nameAndType 31 32), (0, u "com/example/hinagata/hinagata/RefusedExceptionToOutcomePinLaw"), (0, u "pick"), (0, u "(I)Lcom/example/hinagata/hinagata/ErrorClass;"), (0, .methodref 28 34), (0, .nameAndType 35 36), (0, u "text"), (0, u "(I)Ljava/lang/String;"), (0, .class_ 38), (0, u "com/example/hinagata/hinagata/RefusedException"), (0, .methodref 37 40), (0, .nameAndType 5 41), (0, u "(Lcom/example/hinagata/hinagata/ErrorClass;ILjava/lang/String;)V"), (0, .methodref 37 43), (0, .nameAndType 44 45), (0, u "toOutcome"), (0, u "()Lcom/example/hinagata/hinagata/Outcome;"), (0, .methodref 47 48), (0, .class_ 49), (0, .nameAndType 50 51), (0, u "com/example/hinagata/hinagata/Outcome"), (0, u "isDone"), (0, u "()Z"), (0, .methodref 47 53), (0, .nameAndType 54 55), (0, u "refusal"), (0, u "()Ljava/util/Optional;"), (0, .methodref 57 58), (0, .class_ 59), (0, .nameAndType 60 51), (0, u "java/util/Optional"), (0, u "isPresent"), (0, .methodref 57 62), (0, .nameAndType 63 64), (0, u "get"), (0, u "()Ljava/lang/Object;"), (0, .class_ 66), (0, u "com/example/hinagata/hinagata/Refusal"), (0, .methodref 65 68), (0, .nameAndType 69 70), (0, u "errorClass"), (0, u "()Lcom/example/hinagata/hinagata/ErrorClass;"), (0, .methodref 65 72), (0, .nameAndType 73 74), (0, u "reason"), (0, u "()Ljava/lang/String;"), (0, .methodref 22 76), (0, .nameAndType 77 78), (0, u "equals"), (0, u "(Ljava/lang/Object;)Z"), (0, .methodref 65 80), (0, .nameAndType 81 82), (0, u "operation"), (0, u "()Ljava/util/OptionalInt;"), (0, .methodref 84 58), (0, .class_ 85), (0, u "java/util/OptionalInt"), (0, .methodref 84 87), (0, .nameAndType 88 89), (0, u "getAsInt"), (0, u "()I"), (3, u "law"), (0, u "(III)Z")] 2

def k1m0 : Method := { name := "<init>", desc := "()V", sig := { parameters := [], returnType := none }, accessFlags := 2, code := none }
def k1c1 : Code := { maxStack := 2, maxLocals := 1, code := method_2_code, exceptionTable := #[], attributes := #[] }
def k1m1 : Method := { name := "pick", desc := "(I)Lcom/example/hinagata/hinagata/ErrorClass;", sig := { parameters := [.int], returnType := some (.object "com/example/hinagata/hinagata/ErrorClass") }, accessFlags := 10, code := some k1c1 }
def k1c2 : Code := { maxStack := 6, maxLocals := 5, code := method_3_code, exceptionTable := #[], attributes := #[] }
def k1m2 : Method := { name := "text", desc := "(I)Ljava/lang/String;", sig := { parameters := [.int], returnType := some (.object "java/lang/String") }, accessFlags := 10, code := some k1c2 }
def k1c3 : Code := { maxStack := 5, maxLocals := 11, code := code, exceptionTable := #[], attributes := #[] }
def k1m3 : Method := { name := "law", desc := "(III)Z", sig := { parameters := [.int, .int, .int], returnType := some .boolean }, accessFlags := 9, code := some k1c3 }
/-- com/example/hinagata/hinagata/RefusedExceptionToOutcomePinLaw -/
def k1 : Class := { plain "com/example/hinagata/hinagata/RefusedExceptionToOutcomePinLaw" (some 0) with
  accessFlags := 49
  interfaces := #[]
  cf := some (fileOf pool1 28 #[] #[{ accessFlags := 2, nameIndex := 5, descriptorIndex := 6, attributes := #[] }, { accessFlags := 10, nameIndex := 31, descriptorIndex := 32, attributes := #[] }, { accessFlags := 10, nameIndex := 35, descriptorIndex := 36, attributes := #[] }, { accessFlags := 9, nameIndex := 93, descriptorIndex := 94, attributes := #[] }] 49 2 #[] #[])
  fields := #[]
  methods := #[k1m0, k1m1, k1m2, k1m3]
  instanceTypes := #[]
  staticTypes := #[]
  resolved := Array.replicate 97 none
  statics := none }

def pool2 : Array CpInfo := pool [(1, .class_ 2), (0, u "java/lang/constant/Constable"), (0, .class_ 4), (0, u "java/lang/Object")] 6

/-- java/lang/constant/Constable -/
def k2 : Class := { plain "java/lang/constant/Constable" (some 0) with
  accessFlags := 1537
  interfaces := #[]
  cf := some (fileOf pool2 1 #[] #[] 1537 3 #[] #[])
  fields := #[]
  methods := #[]
  instanceTypes := #[]
  staticTypes := #[]
  resolved := Array.replicate 11 none
  statics := none }

def pool3 : Array CpInfo := pool [(1, .class_ 2), (0, u "java/lang/Comparable"), (0, .class_ 4), (0, u "java/lang/Object")] 7

/-- java/lang/Comparable -/
def k3 : Class := { plain "java/lang/Comparable" (some 0) with
  accessFlags := 1537
  interfaces := #[]
  cf := some (fileOf pool3 1 #[] #[] 1537 3 #[] #[])
  fields := #[]
  methods := #[]
  instanceTypes := #[]
  staticTypes := #[]
  resolved := Array.replicate 12 none
  statics := none }

def pool4 : Array CpInfo := pool [(1, .class_ 2), (0, u "java/io/Serializable"), (0, .class_ 4), (0, u "java/lang/Object")] 2

/-- java/io/Serializable -/
def k4 : Class := { plain "java/io/Serializable" (some 0) with
  accessFlags := 1537
  interfaces := #[]
  cf := some (fileOf pool4 1 #[] #[] 1537 3 #[] #[])
  fields := #[]
  methods := #[]
  instanceTypes := #[]
  staticTypes := #[]
  resolved := Array.replicate 7 none
  statics := none }

def pool5 : Array CpInfo := pool [(2, .class_ 4), (1, u "java/lang/Enum"), (0, u "name"), (0, u "Ljava/lang/String;"), (2, u "ordinal"), (0, u "I"), (1, .class_ 14), (1, u "java/lang/Object"), (4, u "hash"), (86, .class_ 108), (1, u "java/lang/Enum$EnumDesc"), (2, .class_ 112), (0, u "java/lang/constant/Constable"), (0, .class_ 114), (0, u "java/lang/Comparable"), (0, .class_ 116), (0, u "java/io/Serializable")] 87

/-- java/lang/Enum -/
def k5 : Class := { plain "java/lang/Enum" (some 0) with
  accessFlags := 1057
  interfaces := #[2, 3, 4]
  cf := some (fileOf pool5 2 #[.nestMembers #[106]] #[] 1057 12 #[111, 113, 115] #[{ accessFlags := 18, nameIndex := 5, descriptorIndex := 6, attributes := #[] }, { accessFlags := 18, nameIndex := 9, descriptorIndex := 10, attributes := #[] }, { accessFlags := 2, nameIndex := 19, descriptorIndex := 10, attributes := #[] }])
  fields := #[{ name := "name", type := (.object "java/lang/String"), accessFlags := 18, slot := 0, constantValue := 0 }, { name := "ordinal", type := .int, accessFlags := 18, slot := 1, constantValue := 0 }, { name := "hash", type := .int, accessFlags := 2, slot := 2, constantValue := 0 }]
  methods := #[]
  instanceTypes := #[(.object "java/lang/String"), .int, .int]
  staticTypes := #[]
  resolved := Array.replicate 204 none
  statics := none }

def pool6 : Array CpInfo := pool [(1, .class_ 2), (0, u "com/example/hinagata/hinagata/ErrorClass"), (2, u "RESOURCE"), (0, u "Lcom/example/hinagata/hinagata/ErrorClass;"), (2, u "STRUCTURAL"), (2, u "SCHEMA"), (2, u "AUTHORIZATION"), (2, u "$VALUES"), (0, u "[Lcom/example/hinagata/hinagata/ErrorClass;"), (6, .class_ 28), (1, u "java/lang/Enum")] 49

/-- com/example/hinagata/hinagata/ErrorClass -/
def k6 : Class := { plain "com/example/hinagata/hinagata/ErrorClass" (some 5) with
  accessFlags := 16433
  interfaces := #[]
  cf := some (fileOf pool6 1 #[] #[] 16433 26 #[] #[{ accessFlags := 16409, nameIndex := 5, descriptorIndex := 6, attributes := #[] }, { accessFlags := 16409, nameIndex := 9, descriptorIndex := 6, attributes := #[] }, { accessFlags := 16409, nameIndex := 12, descriptorIndex := 6, attributes := #[] }, { accessFlags := 16409, nameIndex := 15, descriptorIndex := 6, attributes := #[] }, { accessFlags := 4122, nameIndex := 18, descriptorIndex := 19, attributes := #[] }])
  fields := #[{ name := "RESOURCE", type := (.object "com/example/hinagata/hinagata/ErrorClass"), accessFlags := 16409, slot := 0, constantValue := 0 }, { name := "STRUCTURAL", type := (.object "com/example/hinagata/hinagata/ErrorClass"), accessFlags := 16409, slot := 1, constantValue := 0 }, { name := "SCHEMA", type := (.object "com/example/hinagata/hinagata/ErrorClass"), accessFlags := 16409, slot := 2, constantValue := 0 }, { name := "AUTHORIZATION", type := (.object "com/example/hinagata/hinagata/ErrorClass"), accessFlags := 16409, slot := 3, constantValue := 0 }, { name := "$VALUES", type := (.array (.object "com/example/hinagata/hinagata/ErrorClass")), accessFlags := 4122, slot := 4, constantValue := 0 }]
  methods := #[]
  instanceTypes := #[(.object "java/lang/String"), .int, .int]
  staticTypes := #[(.object "com/example/hinagata/hinagata/ErrorClass"), (.object "com/example/hinagata/hinagata/ErrorClass"), (.object "com/example/hinagata/hinagata/ErrorClass"), (.object "com/example/hinagata/hinagata/ErrorClass"), (.array (.object "com/example/hinagata/hinagata/ErrorClass"))]
  resolved := Array.replicate 78 none
  statics := some 0 }

def pool7 : Array CpInfo := pool [(2, .class_ 4), (1, u "java/lang/CharSequence"), (42, .class_ 48), (0, u "java/lang/CharSequence$1CodePointIterator"), (10, .class_ 60), (0, u "java/lang/CharSequence$1CharIterator"), (5, .class_ 67), (0, u "java/lang/Object")] 63

/-- java/lang/CharSequence -/
def k7 : Class := { plain "java/lang/CharSequence" (some 0) with
  accessFlags := 1537
  interfaces := #[]
  cf := some (fileOf pool7 2 #[.nestMembers #[47, 59]] #[] 1537 66 #[] #[])
  fields := #[]
  methods := #[]
  instanceTypes := #[]
  staticTypes := #[]
  resolved := Array.replicate 131 none
  statics := none }

def pool8 : Array CpInfo := pool [(1, .class_ 2), (0, u "java/lang/constant/ConstantDesc"), (0, .class_ 4), (0, u "java/lang/Object")] 32

/-- java/lang/constant/ConstantDesc -/
def k8 : Class := { plain "java/lang/constant/ConstantDesc" (some 0) with
  accessFlags := 1537
  interfaces := #[]
  cf := some (fileOf pool8 1 #[] #[] 1537 3 #[] #[])
  fields := #[]
  methods := #[]
  instanceTypes := #[]
  staticTypes := #[]
  resolved := Array.replicate 37 none
  statics := none }

def pool9 : Array CpInfo := pool [(1, .methodref 2 3), (0, .class_ 4), (0, .nameAndType 5 6), (0, u "java/lang/Object"), (0, u "<init>"), (0, u "()V"), (0, .string 8), (0, u ""), (0, .fieldref 10 11), (0, .class_ 12), (0, .nameAndType 13 14), (0, u "java/lang/String"), (0, u "value"), (0, u "[B"), (0, .fieldref 10 16), (0, .nameAndType 17 18), (0, u "coder"), (0, u "B"), (2, u "hash"), (0, u "I"), (2, u "hashIsZero"), (0, u "Z"), (0, .methodref 10 28), (0, .nameAndType 5 29), (0, u "([CIILjava/lang/Void;)V"), (8, .fieldref 10 39), (0, .nameAndType 40 26), (0, u "COMPACT_STRINGS"), (1, .class_ 44), (1, u "java/lang/StringUTF16"), (0, u "compress"), (1, .methodref 42 48), (0, .nameAndType 49 50), (0, u "coderFromArrayLen"), (0, u "([BI)B"), (126, .methodref 42 178), (0, .nameAndType 45 179), (0, u "([CII)[B"), (363, u "equals"), (29, u "(Ljava/lang/Object;)Z"), (1, .class_ 576), (0, u "java/lang/CharSequence"), (22, u "CASE_INSENSITIVE_ORDER"), (0, u "Ljava/util/Comparator;"), (409, u "([C)V"), (90, u "serialPersistentFields"), (0, u "[Ljava/io/ObjectStreamField;"), (0, .class_ 1104), (0, u "java/lang/String$CaseInsensitiveComparator"), (1, .class_ 1107), (0, u "java/io/Serializable"), (0, .class_ 1109), (0, u "java/lang/Comparable"), (0, .class_ 1111), (0, u "java/lang/constant/Constable"), (0, .class_ 1113), (0, u "java/lang/constant/ConstantDesc"), (2, u "serialVersionUID"), (0, u "J"), (3, u "REPL"), (0, u "C"), (2, u "LATIN1"), (1, u "UTF16")] 323

def k9m0 : Method := { name := "<init>", desc := "()V", sig := { parameters := [], returnType := none }, accessFlags := 1, code := none }
def k9c1 : Code := { maxStack := 5, maxLocals := 2, code := jdk_42_method_3_code, exceptionTable := #[], attributes := #[] }
def k9m1 : Method := { name := "<init>", desc := "([C)V", sig := { parameters := [(.array .char)], returnType := none }, accessFlags := 1, code := some k9c1 }
def k9c2 : Code := { maxStack := 2, maxLocals := 3, code := jdk_42_method_66_code, exceptionTable := #[], attributes := #[] }
def k9m2 : Method := { name := "equals", desc := "(Ljava/lang/Object;)Z", sig := { parameters := [(.object "java/lang/Object")], returnType := some .boolean }, accessFlags := 1, code := some k9c2 }
def k9c3 : Code := { maxStack := 4, maxLocals := 6, code := jdk_42_method_149_code, exceptionTable := #[], attributes := #[] }
def k9m3 : Method := { name := "<init>", desc := "([CIILjava/lang/Void;)V", sig := { parameters := [(.array .char), .int, .int, (.object "java/lang/Void")], returnType := none }, accessFlags := 2, code := some k9c3 }
/-- java/lang/String -/
def k9 : Class := { plain "java/lang/String" (some 0) with
  accessFlags := 49
  interfaces := #[4, 3, 7, 2, 8]
  cf := some (fileOf pool9 10 #[.nestMembers #[1103]] #[{ accessFlags := 1, nameIndex := 5, descriptorIndex := 6, attributes := #[] }, { accessFlags := 1, nameIndex := 5, descriptorIndex := 1010, attributes := #[] }, { accessFlags := 1, nameIndex := 543, descriptorIndex := 573, attributes := #[] }, { accessFlags := 2, nameIndex := 5, descriptorIndex := 29, attributes := #[] }] 49 2 #[1106, 1108, 575, 1110, 1112] #[{ accessFlags := 18, nameIndex := 13, descriptorIndex := 14, attributes := #[] }, { accessFlags := 18, nameIndex := 17, descriptorIndex := 18, attributes := #[] }, { accessFlags := 2, nameIndex := 21, descriptorIndex := 22, attributes := #[] }, { accessFlags := 2, nameIndex := 25, descriptorIndex := 26, attributes := #[] }, { accessFlags := 26, nameIndex := 1116, descriptorIndex := 1117, attributes := #[] }, { accessFlags := 24, nameIndex := 40, descriptorIndex := 26, attributes := #[] }, { accessFlags := 26, nameIndex := 1101, descriptorIndex := 1102, attributes := #[] }, { accessFlags := 26, nameIndex := 1121, descriptorIndex := 1122, attributes := #[] }, { accessFlags := 25, nameIndex := 599, descriptorIndex := 600, attributes := #[] }, { accessFlags := 24, nameIndex := 1125, descriptorIndex := 18, attributes := #[] }, { accessFlags := 24, nameIndex := 1127, descriptorIndex := 18, attributes := #[] }])
  fields := #[{ name := "value", type := (.array .byte), accessFlags := 18, slot := 0, constantValue := 0 }, { name := "coder", type := .byte, accessFlags := 18, slot := 1, constantValue := 0 }, { name := "hash", type := .int, accessFlags := 2, slot := 2, constantValue := 0 }, { name := "hashIsZero", type := .boolean, accessFlags := 2, slot := 3, constantValue := 0 }, { name := "serialVersionUID", type := .long, accessFlags := 26, slot := 0, constantValue := 0 }, { name := "COMPACT_STRINGS", type := .boolean, accessFlags := 24, slot := 1, constantValue := 0 }, { name := "serialPersistentFields", type := (.array (.object "java/io/ObjectStreamField")), accessFlags := 26, slot := 2, constantValue := 0 }, { name := "REPL", type := .char, accessFlags := 26, slot := 3, constantValue := 0 }, { name := "CASE_INSENSITIVE_ORDER", type := (.object "java/util/Comparator"), accessFlags := 25, slot := 4, constantValue := 0 }, { name := "LATIN1", type := .byte, accessFlags := 24, slot := 5, constantValue := 0 }, { name := "UTF16", type := .byte, accessFlags := 24, slot := 6, constantValue := 0 }]
  methods := #[k9m0, k9m1, k9m2, k9m3]
  instanceTypes := #[(.array .byte), .byte, .int, .boolean]
  staticTypes := #[.long, .boolean, (.array (.object "java/io/ObjectStreamField")), .char, (.object "java/util/Comparator"), .byte, .byte]
  resolved := Array.replicate 1451 none
  statics := some 1 }

def pool10 : Array CpInfo := pool [(1, .methodref 2 3), (0, .class_ 4), (0, .nameAndType 5 6), (0, u "java/lang/Object"), (0, u "<init>"), (0, u "()V"), (0, .fieldref 8 9), (0, .class_ 10), (0, .nameAndType 11 12), (0, u "java/lang/Throwable"), (0, u "cause"), (0, u "Ljava/lang/Throwable;"), (0, .fieldref 8 14), (0, .nameAndType 15 16), (0, u "UNASSIGNED_STACK"), (0, u "[Ljava/lang/StackTraceElement;"), (0, .fieldref 8 18), (0, .nameAndType 19 16), (0, u "stackTrace"), (0, .fieldref 8 21), (0, .nameAndType 22 23), (0, u "SUPPRESSED_SENTINEL"), (0, u "Ljava/util/List;"), (0, .fieldref 8 25), (0, .nameAndType 26 23), (0, u "suppressedExceptions"), (0, .methodref 8 28), (0, .nameAndType 29 30), (0, u "fillInStackTrace"), (0, u "()Ljava/lang/Throwable;"), (0, .fieldref 8 32), (0, .nameAndType 33 34), (0, u "detailMessage"), (0, u "Ljava/lang/String;"), (3, u "()Ljava/lang/String;"), (2, u "getMessage"), (51, .class_ 94), (0, u "java/lang/Throwable$WrappedPrintStream"), (6, .class_ 103), (1, u "java/lang/Throwable$PrintStreamOrWriter"), (61, u "$assertionsDisabled"), (0, u "Z"), (26, .class_ 194), (0, u "java/lang/Throwable$WrappedPrintWriter"), (3, .fieldref 8 199), (0, .nameAndType 200 201), (0, u "backtrace"), (0, u "Ljava/lang/Object;"), (0, .methodref 8 203), (0, .nameAndType 29 204), (0, u "(I)Ljava/lang/Throwable;"), (6, u "depth"), (0, u "I"), (10, u "(Ljava/lang/String;)V"), (45, .class_ 271), (1, u "java/lang/Throwable$SentinelHolder"), (32, u "EMPTY_THROWABLE_ARRAY"), (0, u "[Ljava/lang/Throwable;"), (12, .class_ 319), (0, u "java/io/Serializable"), (0, u "serialVersionUID"), (0, u "J"), (5, u "NULL_CAUSE_MESSAGE"), (0, u "SELF_SUPPRESSION_MESSAGE"), (0, u "CAUSE_CAPTION"), (0, u "SUPPRESSED_CAPTION")] 73

def k10c0 : Code := { maxStack := 2, maxLocals := 1, code := jdk_78_method_1_code, exceptionTable := #[], attributes := #[] }
def k10m0 : Method := { name := "<init>", desc := "()V", sig := { parameters := [], returnType := none }, accessFlags := 1, code := some k10c0 }
def k10c1 : Code := { maxStack := 2, maxLocals := 2, code := jdk_78_method_2_code, exceptionTable := #[], attributes := #[] }
def k10m1 : Method := { name := "<init>", desc := "(Ljava/lang/String;)V", sig := { parameters := [(.object "java/lang/String")], returnType := none }, accessFlags := 1, code := some k10c1 }
def k10c2 : Code := { maxStack := 1, maxLocals := 1, code := jdk_78_method_6_code, exceptionTable := #[], attributes := #[] }
def k10m2 : Method := { name := "getMessage", desc := "()Ljava/lang/String;", sig := { parameters := [], returnType := some (.object "java/lang/String") }, accessFlags := 1, code := some k10c2 }
def k10c3 : Code := { maxStack := 2, maxLocals := 1, code := jdk_78_method_18_code, exceptionTable := #[], attributes := #[] }
def k10m3 : Method := { name := "fillInStackTrace", desc := "()Ljava/lang/Throwable;", sig := { parameters := [], returnType := some (.object "java/lang/Throwable") }, accessFlags := 33, code := some k10c3 }
def k10m4 : Method := { name := "fillInStackTrace", desc := "(I)Ljava/lang/Throwable;", sig := { parameters := [.int], returnType := some (.object "java/lang/Throwable") }, accessFlags := 258, code := none }
/-- java/lang/Throwable -/
def k10 : Class := { plain "java/lang/Throwable" (some 0) with
  accessFlags := 33
  interfaces := #[4]
  cf := some (fileOf pool10 8 #[.nestMembers #[193, 93, 101, 269]] #[{ accessFlags := 1, nameIndex := 5, descriptorIndex := 6, attributes := #[] }, { accessFlags := 1, nameIndex := 5, descriptorIndex := 223, attributes := #[] }, { accessFlags := 1, nameIndex := 41, descriptorIndex := 38, attributes := #[] }, { accessFlags := 33, nameIndex := 29, descriptorIndex := 30, attributes := #[] }, { accessFlags := 258, nameIndex := 29, descriptorIndex := 204, attributes := #[] }] 33 2 #[318] #[{ accessFlags := 26, nameIndex := 320, descriptorIndex := 321, attributes := #[] }, { accessFlags := 130, nameIndex := 200, descriptorIndex := 201, attributes := #[] }, { accessFlags := 2, nameIndex := 33, descriptorIndex := 34, attributes := #[] }, { accessFlags := 26, nameIndex := 15, descriptorIndex := 16, attributes := #[] }, { accessFlags := 2, nameIndex := 11, descriptorIndex := 12, attributes := #[] }, { accessFlags := 2, nameIndex := 19, descriptorIndex := 16, attributes := #[] }, { accessFlags := 130, nameIndex := 211, descriptorIndex := 212, attributes := #[] }, { accessFlags := 26, nameIndex := 22, descriptorIndex := 23, attributes := #[] }, { accessFlags := 2, nameIndex := 26, descriptorIndex := 23, attributes := #[] }, { accessFlags := 26, nameIndex := 327, descriptorIndex := 34, attributes := #[] }, { accessFlags := 26, nameIndex := 328, descriptorIndex := 34, attributes := #[] }, { accessFlags := 26, nameIndex := 329, descriptorIndex := 34, attributes := #[] }, { accessFlags := 26, nameIndex := 330, descriptorIndex := 34, attributes := #[] }, { accessFlags := 26, nameIndex := 304, descriptorIndex := 305, attributes := #[] }, { accessFlags := 4120, nameIndex := 165, descriptorIndex := 166, attributes := #[] }])
  fields := #[{ name := "serialVersionUID", type := .long, accessFlags := 26, slot := 0, constantValue := 0 }, { name := "backtrace", type := (.object "java/lang/Object"), accessFlags := 130, slot := 0, constantValue := 0 }, { name := "detailMessage", type := (.object "java/lang/String"), accessFlags := 2, slot := 1, constantValue := 0 }, { name := "UNASSIGNED_STACK", type := (.array (.object "java/lang/StackTraceElement")), accessFlags := 26, slot := 1, constantValue := 0 }, { name := "cause", type := (.object "java/lang/Throwable"), accessFlags := 2, slot := 2, constantValue := 0 }, { name := "stackTrace", type := (.array (.object "java/lang/StackTraceElement")), accessFlags := 2, slot := 3, constantValue := 0 }, { name := "depth", type := .int, accessFlags := 130, slot := 4, constantValue := 0 }, { name := "SUPPRESSED_SENTINEL", type := (.object "java/util/List"), accessFlags := 26, slot := 2, constantValue := 0 }, { name := "suppressedExceptions", type := (.object "java/util/List"), accessFlags := 2, slot := 5, constantValue := 0 }, { name := "NULL_CAUSE_MESSAGE", type := (.object "java/lang/String"), accessFlags := 26, slot := 3, constantValue := 0 }, { name := "SELF_SUPPRESSION_MESSAGE", type := (.object "java/lang/String"), accessFlags := 26, slot := 4, constantValue := 0 }, { name := "CAUSE_CAPTION", type := (.object "java/lang/String"), accessFlags := 26, slot := 5, constantValue := 0 }, { name := "SUPPRESSED_CAPTION", type := (.object "java/lang/String"), accessFlags := 26, slot := 6, constantValue := 0 }, { name := "EMPTY_THROWABLE_ARRAY", type := (.array (.object "java/lang/Throwable")), accessFlags := 26, slot := 7, constantValue := 0 }, { name := "$assertionsDisabled", type := .boolean, accessFlags := 4120, slot := 8, constantValue := 0 }]
  methods := #[k10m0, k10m1, k10m2, k10m3, k10m4]
  instanceTypes := #[(.object "java/lang/Object"), (.object "java/lang/String"), (.object "java/lang/Throwable"), (.array (.object "java/lang/StackTraceElement")), .int, (.object "java/util/List")]
  staticTypes := #[.long, (.array (.object "java/lang/StackTraceElement")), (.object "java/util/List"), (.object "java/lang/String"), (.object "java/lang/String"), (.object "java/lang/String"), (.object "java/lang/String"), (.array (.object "java/lang/Throwable")), .boolean]
  resolved := Array.replicate 404 none
  statics := some 2 }

def pool11 : Array CpInfo := pool [(2, .class_ 4), (1, u "java/lang/Throwable"), (0, u "<init>"), (0, u "()V"), (0, .methodref 2 8), (0, .nameAndType 5 9), (0, u "(Ljava/lang/String;)V"), (9, .class_ 20), (0, u "java/lang/Exception"), (0, u "serialVersionUID"), (0, u "J")] 17

def k11m0 : Method := { name := "<init>", desc := "()V", sig := { parameters := [], returnType := none }, accessFlags := 1, code := none }
def k11c1 : Code := { maxStack := 2, maxLocals := 2, code := jdk_59_method_2_code, exceptionTable := #[], attributes := #[] }
def k11m1 : Method := { name := "<init>", desc := "(Ljava/lang/String;)V", sig := { parameters := [(.object "java/lang/String")], returnType := none }, accessFlags := 1, code := some k11c1 }
/-- java/lang/Exception -/
def k11 : Class := { plain "java/lang/Exception" (some 10) with
  accessFlags := 33
  interfaces := #[]
  cf := some (fileOf pool11 19 #[] #[{ accessFlags := 1, nameIndex := 5, descriptorIndex := 6, attributes := #[] }, { accessFlags := 1, nameIndex := 5, descriptorIndex := 9, attributes := #[] }] 33 2 #[] #[{ accessFlags := 24, nameIndex := 21, descriptorIndex := 22, attributes := #[] }])
  fields := #[{ name := "serialVersionUID", type := .long, accessFlags := 24, slot := 0, constantValue := 0 }]
  methods := #[k11m0, k11m1]
  instanceTypes := #[(.object "java/lang/Object"), (.object "java/lang/String"), (.object "java/lang/Throwable"), (.array (.object "java/lang/StackTraceElement")), .int, (.object "java/util/List")]
  staticTypes := #[.long]
  resolved := Array.replicate 40 none
  statics := none }

def pool12 : Array CpInfo := pool [(2, .class_ 4), (1, u "java/lang/Exception"), (0, u "<init>"), (0, u "()V"), (0, .methodref 2 8), (0, .nameAndType 5 9), (0, u "(Ljava/lang/String;)V"), (9, .class_ 20), (0, u "java/lang/RuntimeException"), (0, u "serialVersionUID"), (0, u "J")] 17

def k12m0 : Method := { name := "<init>", desc := "()V", sig := { parameters := [], returnType := none }, accessFlags := 1, code := none }
def k12c1 : Code := { maxStack := 2, maxLocals := 2, code := jdk_58_method_2_code, exceptionTable := #[], attributes := #[] }
def k12m1 : Method := { name := "<init>", desc := "(Ljava/lang/String;)V", sig := { parameters := [(.object "java/lang/String")], returnType := none }, accessFlags := 1, code := some k12c1 }
/-- java/lang/RuntimeException -/
def k12 : Class := { plain "java/lang/RuntimeException" (some 11) with
  accessFlags := 33
  interfaces := #[]
  cf := some (fileOf pool12 19 #[] #[{ accessFlags := 1, nameIndex := 5, descriptorIndex := 6, attributes := #[] }, { accessFlags := 1, nameIndex := 5, descriptorIndex := 9, attributes := #[] }] 33 2 #[] #[{ accessFlags := 24, nameIndex := 21, descriptorIndex := 22, attributes := #[] }])
  fields := #[{ name := "serialVersionUID", type := .long, accessFlags := 24, slot := 0, constantValue := 0 }]
  methods := #[k12m0, k12m1]
  instanceTypes := #[(.object "java/lang/Object"), (.object "java/lang/String"), (.object "java/lang/Throwable"), (.array (.object "java/lang/StackTraceElement")), .int, (.object "java/util/List")]
  staticTypes := #[.long]
  resolved := Array.replicate 40 none
  statics := none }

def pool13 : Array CpInfo := pool [(2, .class_ 4), (1, u "java/lang/RuntimeException"), (0, u "<init>"), (0, u "()V"), (0, .methodref 2 8), (0, .nameAndType 5 9), (0, u "(Ljava/lang/String;)V"), (6, .class_ 17), (0, u "java/lang/IllegalArgumentException"), (0, u "serialVersionUID"), (0, u "J")] 15

def k13m0 : Method := { name := "<init>", desc := "()V", sig := { parameters := [], returnType := none }, accessFlags := 1, code := none }
def k13c1 : Code := { maxStack := 2, maxLocals := 2, code := jdk_57_method_2_code, exceptionTable := #[], attributes := #[] }
def k13m1 : Method := { name := "<init>", desc := "(Ljava/lang/String;)V", sig := { parameters := [(.object "java/lang/String")], returnType := none }, accessFlags := 1, code := some k13c1 }
/-- java/lang/IllegalArgumentException -/
def k13 : Class := { plain "java/lang/IllegalArgumentException" (some 12) with
  accessFlags := 33
  interfaces := #[]
  cf := some (fileOf pool13 16 #[] #[{ accessFlags := 1, nameIndex := 5, descriptorIndex := 6, attributes := #[] }, { accessFlags := 1, nameIndex := 5, descriptorIndex := 9, attributes := #[] }] 33 2 #[] #[{ accessFlags := 26, nameIndex := 18, descriptorIndex := 19, attributes := #[] }])
  fields := #[{ name := "serialVersionUID", type := .long, accessFlags := 26, slot := 0, constantValue := 0 }]
  methods := #[k13m0, k13m1]
  instanceTypes := #[(.object "java/lang/Object"), (.object "java/lang/String"), (.object "java/lang/Throwable"), (.array (.object "java/lang/StackTraceElement")), .int, (.object "java/util/List")]
  staticTypes := #[.long]
  resolved := Array.replicate 35 none
  statics := none }

def pool14 : Array CpInfo := pool [(1, .methodref 2 3), (0, .class_ 4), (0, .nameAndType 5 6), (0, u "java/lang/IllegalArgumentException"), (0, u "<init>"), (0, u "(Ljava/lang/String;)V"), (0, .fieldref 8 9), (0, .class_ 10), (0, .nameAndType 11 12), (0, u "com/example/hinagata/hinagata/RefusedException"), (0, u "errorClass"), (0, u "Lcom/example/hinagata/hinagata/ErrorClass;"), (0, .fieldref 8 14), (0, .nameAndType 15 16), (0, u "index"), (0, u "I"), (0, .methodref 18 19), (0, .class_ 20), (0, .nameAndType 21 22), (0, u "java/util/OptionalInt"), (0, u "empty"), (0, u "()Ljava/util/OptionalInt;"), (0, .methodref 18 24), (0, .nameAndType 25 26), (0, u "of"), (0, u "(I)Ljava/util/OptionalInt;"), (0, .class_ 28), (0, u "com/example/hinagata/hinagata/Refusal"), (0, .methodref 8 30), (0, .nameAndType 31 32), (0, u "getMessage"), (0, u "()Ljava/lang/String;"), (0, .methodref 27 34), (0, .nameAndType 5 35), (0, u "(Lcom/example/hinagata/hinagata/ErrorClass;Ljava/util/OptionalInt;Ljava/lang/String;)V"), (0, .methodref 37 38), (0, .class_ 39), (0, .nameAndType 40 41), (0, u "com/example/hinagata/hinagata/Outcome"), (0, u "refused"), (0, u "(Lcom/example/hinagata/hinagata/Refusal;)Lcom/example/hinagata/hinagata/Outcome;"), (0, u "WHOLE"), (2, u "serialVersionUID"), (0, u "J"), (2, u "(Lcom/example/hinagata/hinagata/ErrorClass;ILjava/lang/String;)V"), (3, u "toOutcome"), (0, u "()Lcom/example/hinagata/hinagata/Outcome;")] 5

def k14c0 : Code := { maxStack := 2, maxLocals := 4, code := prog_16_method_1_code, exceptionTable := #[], attributes := #[] }
def k14m0 : Method := { name := "<init>", desc := "(Lcom/example/hinagata/hinagata/ErrorClass;ILjava/lang/String;)V", sig := { parameters := [(.object "com/example/hinagata/hinagata/ErrorClass"), .int, (.object "java/lang/String")], returnType := none }, accessFlags := 0, code := some k14c0 }
def k14c1 : Code := { maxStack := 5, maxLocals := 2, code := prog_16_method_3_code, exceptionTable := #[], attributes := #[] }
def k14m1 : Method := { name := "toOutcome", desc := "()Lcom/example/hinagata/hinagata/Outcome;", sig := { parameters := [], returnType := some (.object "com/example/hinagata/hinagata/Outcome") }, accessFlags := 0, code := some k14c1 }
/-- com/example/hinagata/hinagata/RefusedException -/
def k14 : Class := { plain "com/example/hinagata/hinagata/RefusedException" (some 13) with
  accessFlags := 32
  interfaces := #[]
  cf := some (fileOf pool14 8 #[] #[{ accessFlags := 0, nameIndex := 5, descriptorIndex := 49, attributes := #[] }, { accessFlags := 0, nameIndex := 53, descriptorIndex := 54, attributes := #[] }] 32 2 #[] #[{ accessFlags := 24, nameIndex := 42, descriptorIndex := 16, attributes := #[] }, { accessFlags := 26, nameIndex := 45, descriptorIndex := 46, attributes := #[] }, { accessFlags := 18, nameIndex := 11, descriptorIndex := 12, attributes := #[] }, { accessFlags := 18, nameIndex := 15, descriptorIndex := 16, attributes := #[] }])
  fields := #[{ name := "WHOLE", type := .int, accessFlags := 24, slot := 0, constantValue := 0 }, { name := "serialVersionUID", type := .long, accessFlags := 26, slot := 1, constantValue := 0 }, { name := "errorClass", type := (.object "com/example/hinagata/hinagata/ErrorClass"), accessFlags := 18, slot := 6, constantValue := 0 }, { name := "index", type := .int, accessFlags := 18, slot := 7, constantValue := 0 }]
  methods := #[k14m0, k14m1]
  instanceTypes := #[(.object "java/lang/Object"), (.object "java/lang/String"), (.object "java/lang/Throwable"), (.array (.object "java/lang/StackTraceElement")), .int, (.object "java/util/List"), (.object "com/example/hinagata/hinagata/ErrorClass"), .int]
  staticTypes := #[.int, .long]
  resolved := Array.replicate 60 none
  statics := none }

def pool15 : Array CpInfo := pool [(1, .methodref 2 3), (0, .class_ 4), (0, .nameAndType 5 6), (0, u "java/lang/Object"), (0, u "<init>"), (0, u "()V"), (0, .fieldref 8 9), (0, .class_ 10), (0, .nameAndType 11 12), (0, u "java/util/OptionalInt"), (0, u "isPresent"), (0, u "Z"), (0, .fieldref 8 14), (0, .nameAndType 15 16), (0, u "value"), (0, u "I"), (0, .fieldref 8 18), (0, .nameAndType 19 20), (0, u "EMPTY"), (0, u "Ljava/util/OptionalInt;"), (0, .methodref 8 22), (0, .nameAndType 5 23), (0, u "(I)V"), (21, u "of"), (3, u "empty"), (5, u "getAsInt"), (0, u "()I"), (39, u "()Ljava/util/OptionalInt;"), (0, u "(I)Ljava/util/OptionalInt;"), (1, u "()Z")] 36

def k15m0 : Method := { name := "<init>", desc := "()V", sig := { parameters := [], returnType := none }, accessFlags := 2, code := none }
def k15c1 : Code := { maxStack := 1, maxLocals := 0, code := jdk_2649_method_2_code, exceptionTable := #[], attributes := #[] }
def k15m1 : Method := { name := "empty", desc := "()Ljava/util/OptionalInt;", sig := { parameters := [], returnType := some (.object "java/util/OptionalInt") }, accessFlags := 9, code := some k15c1 }
def k15c2 : Code := { maxStack := 2, maxLocals := 2, code := jdk_2649_method_3_code, exceptionTable := #[], attributes := #[] }
def k15m2 : Method := { name := "<init>", desc := "(I)V", sig := { parameters := [.int], returnType := none }, accessFlags := 2, code := some k15c2 }
def k15c3 : Code := { maxStack := 3, maxLocals := 1, code := jdk_2649_method_4_code, exceptionTable := #[], attributes := #[] }
def k15m3 : Method := { name := "of", desc := "(I)Ljava/util/OptionalInt;", sig := { parameters := [.int], returnType := some (.object "java/util/OptionalInt") }, accessFlags := 9, code := some k15c3 }
def k15c4 : Code := { maxStack := 3, maxLocals := 1, code := jdk_2649_method_5_code, exceptionTable := #[], attributes := #[] }
def k15m4 : Method := { name := "getAsInt", desc := "()I", sig := { parameters := [], returnType := some .int }, accessFlags := 1, code := some k15c4 }
def k15c5 : Code := { maxStack := 1, maxLocals := 1, code := jdk_2649_method_6_code, exceptionTable := #[], attributes := #[] }
def k15m5 : Method := { name := "isPresent", desc := "()Z", sig := { parameters := [], returnType := some .boolean }, accessFlags := 1, code := some k15c5 }
/-- java/util/OptionalInt -/
def k15 : Class := { plain "java/util/OptionalInt" (some 0) with
  accessFlags := 49
  interfaces := #[]
  cf := some (fileOf pool15 8 #[] #[{ accessFlags := 2, nameIndex := 5, descriptorIndex := 6, attributes := #[] }, { accessFlags := 9, nameIndex := 49, descriptorIndex := 96, attributes := #[] }, { accessFlags := 2, nameIndex := 5, descriptorIndex := 23, attributes := #[] }, { accessFlags := 9, nameIndex := 45, descriptorIndex := 97, attributes := #[] }, { accessFlags := 1, nameIndex := 55, descriptorIndex := 56, attributes := #[] }, { accessFlags := 1, nameIndex := 11, descriptorIndex := 99, attributes := #[] }] 49 2 #[] #[{ accessFlags := 26, nameIndex := 19, descriptorIndex := 20, attributes := #[] }, { accessFlags := 18, nameIndex := 11, descriptorIndex := 12, attributes := #[] }, { accessFlags := 18, nameIndex := 15, descriptorIndex := 16, attributes := #[] }])
  fields := #[{ name := "EMPTY", type := (.object "java/util/OptionalInt"), accessFlags := 26, slot := 0, constantValue := 0 }, { name := "isPresent", type := .boolean, accessFlags := 18, slot := 0, constantValue := 0 }, { name := "value", type := .int, accessFlags := 18, slot := 1, constantValue := 0 }]
  methods := #[k15m0, k15m1, k15m2, k15m3, k15m4, k15m5]
  instanceTypes := #[.boolean, .int]
  staticTypes := #[(.object "java/util/OptionalInt")]
  resolved := Array.replicate 136 none
  statics := some 3 }

def pool16 : Array CpInfo := pool [(1, .methodref 2 3), (0, .class_ 4), (0, .nameAndType 5 6), (0, u "java/lang/Object"), (0, u "<init>"), (0, u "()V"), (0, .class_ 8), (0, u "java/lang/Record")] 13

def k16c0 : Code := { maxStack := 1, maxLocals := 1, code := jdk_30_method_1_code, exceptionTable := #[], attributes := #[] }
def k16m0 : Method := { name := "<init>", desc := "()V", sig := { parameters := [], returnType := none }, accessFlags := 4, code := some k16c0 }
/-- java/lang/Record -/
def k16 : Class := { plain "java/lang/Record" (some 0) with
  accessFlags := 1057
  interfaces := #[]
  cf := some (fileOf pool16 7 #[] #[{ accessFlags := 4, nameIndex := 5, descriptorIndex := 6, attributes := #[] }] 1057 2 #[] #[])
  fields := #[]
  methods := #[k16m0]
  instanceTypes := #[]
  staticTypes := #[]
  resolved := Array.replicate 22 none
  statics := none }

def pool17 : Array CpInfo := pool [(1, .methodref 2 3), (0, .class_ 4), (0, .nameAndType 5 6), (0, u "java/lang/Record"), (0, u "<init>"), (0, u "()V"), (0, .methodref 8 9), (0, .class_ 10), (0, .nameAndType 11 12), (0, u "java/util/Objects"), (0, u "requireNonNull"), (0, u "(Ljava/lang/Object;)Ljava/lang/Object;"), (0, .fieldref 14 15), (0, .class_ 16), (0, .nameAndType 17 18), (0, u "com/example/hinagata/hinagata/Refusal"), (0, u "errorClass"), (0, u "Lcom/example/hinagata/hinagata/ErrorClass;"), (0, .fieldref 14 20), (0, .nameAndType 21 22), (0, u "operation"), (0, u "Ljava/util/OptionalInt;"), (0, .fieldref 14 24), (0, .nameAndType 25 26), (0, u "reason"), (0, u "Ljava/lang/String;"), (12, u "(Lcom/example/hinagata/hinagata/ErrorClass;Ljava/util/OptionalInt;Ljava/lang/String;)V"), (3, u "()Ljava/lang/String;"), (2, u "()Lcom/example/hinagata/hinagata/ErrorClass;"), (0, u "()Ljava/util/OptionalInt;")] 22

def k17c0 : Code := { maxStack := 2, maxLocals := 4, code := prog_15_method_1_code, exceptionTable := #[], attributes := #[] }
def k17m0 : Method := { name := "<init>", desc := "(Lcom/example/hinagata/hinagata/ErrorClass;Ljava/util/OptionalInt;Ljava/lang/String;)V", sig := { parameters := [(.object "com/example/hinagata/hinagata/ErrorClass"), (.object "java/util/OptionalInt"), (.object "java/lang/String")], returnType := none }, accessFlags := 1, code := some k17c0 }
def k17c1 : Code := { maxStack := 1, maxLocals := 1, code := prog_15_method_5_code, exceptionTable := #[], attributes := #[] }
def k17m1 : Method := { name := "errorClass", desc := "()Lcom/example/hinagata/hinagata/ErrorClass;", sig := { parameters := [], returnType := some (.object "com/example/hinagata/hinagata/ErrorClass") }, accessFlags := 1, code := some k17c1 }
def k17c2 : Code := { maxStack := 1, maxLocals := 1, code := prog_15_method_6_code, exceptionTable := #[], attributes := #[] }
def k17m2 : Method := { name := "operation", desc := "()Ljava/util/OptionalInt;", sig := { parameters := [], returnType := some (.object "java/util/OptionalInt") }, accessFlags := 1, code := some k17c2 }
def k17c3 : Code := { maxStack := 1, maxLocals := 1, code := prog_15_method_7_code, exceptionTable := #[], attributes := #[] }
def k17m3 : Method := { name := "reason", desc := "()Ljava/lang/String;", sig := { parameters := [], returnType := some (.object "java/lang/String") }, accessFlags := 1, code := some k17c3 }
/-- com/example/hinagata/hinagata/Refusal -/
def k17 : Class := { plain "com/example/hinagata/hinagata/Refusal" (some 16) with
  accessFlags := 49
  interfaces := #[]
  cf := some (fileOf pool17 14 #[] #[{ accessFlags := 1, nameIndex := 5, descriptorIndex := 39, attributes := #[] }, { accessFlags := 1, nameIndex := 17, descriptorIndex := 46, attributes := #[] }, { accessFlags := 1, nameIndex := 21, descriptorIndex := 47, attributes := #[] }, { accessFlags := 1, nameIndex := 25, descriptorIndex := 43, attributes := #[] }] 49 2 #[] #[{ accessFlags := 18, nameIndex := 17, descriptorIndex := 18, attributes := #[] }, { accessFlags := 18, nameIndex := 21, descriptorIndex := 22, attributes := #[] }, { accessFlags := 18, nameIndex := 25, descriptorIndex := 26, attributes := #[] }])
  fields := #[{ name := "errorClass", type := (.object "com/example/hinagata/hinagata/ErrorClass"), accessFlags := 18, slot := 0, constantValue := 0 }, { name := "operation", type := (.object "java/util/OptionalInt"), accessFlags := 18, slot := 1, constantValue := 0 }, { name := "reason", type := (.object "java/lang/String"), accessFlags := 18, slot := 2, constantValue := 0 }]
  methods := #[k17m0, k17m1, k17m2, k17m3]
  instanceTypes := #[(.object "com/example/hinagata/hinagata/ErrorClass"), (.object "java/util/OptionalInt"), (.object "java/lang/String")]
  staticTypes := #[]
  resolved := Array.replicate 70 none
  statics := none }

def pool18 : Array CpInfo := pool [(2, .class_ 4), (1, u "java/lang/Object"), (0, u "<init>"), (0, u "()V"), (35, .class_ 44), (1, u "java/util/Objects"), (0, u "requireNonNull"), (0, u "(Ljava/lang/Object;)Ljava/lang/Object;")] 137

def k18m0 : Method := { name := "<init>", desc := "()V", sig := { parameters := [], returnType := none }, accessFlags := 2, code := none }
def k18c1 : Code := { maxStack := 2, maxLocals := 1, code := jdk_31_method_10_code, exceptionTable := #[], attributes := #[] }
def k18m1 : Method := { name := "requireNonNull", desc := "(Ljava/lang/Object;)Ljava/lang/Object;", sig := { parameters := [(.object "java/lang/Object")], returnType := some (.object "java/lang/Object") }, accessFlags := 9, code := some k18c1 }
/-- java/util/Objects -/
def k18 : Class := { plain "java/util/Objects" (some 0) with
  accessFlags := 49
  interfaces := #[]
  cf := some (fileOf pool18 42 #[] #[{ accessFlags := 2, nameIndex := 5, descriptorIndex := 6, attributes := #[] }, { accessFlags := 9, nameIndex := 45, descriptorIndex := 46, attributes := #[] }] 49 2 #[] #[])
  fields := #[]
  methods := #[k18m0, k18m1]
  instanceTypes := #[]
  staticTypes := #[]
  resolved := Array.replicate 184 none
  statics := none }

def pool19 : Array CpInfo := pool [(1, .methodref 2 3), (0, .class_ 4), (0, .nameAndType 5 6), (0, u "java/lang/Object"), (0, u "<init>"), (0, u "()V"), (0, .fieldref 8 9), (0, .class_ 10), (0, .nameAndType 11 12), (0, u "com/example/hinagata/hinagata/Outcome"), (0, u "value"), (0, u "Ljava/lang/Object;"), (0, .fieldref 8 14), (0, .nameAndType 15 16), (0, u "refusal"), (0, u "Lcom/example/hinagata/hinagata/Refusal;"), (0, .methodref 18 19), (0, .class_ 20), (0, .nameAndType 21 22), (0, u "java/util/Objects"), (0, u "requireNonNull"), (0, u "(Ljava/lang/Object;)Ljava/lang/Object;"), (0, .methodref 8 24), (0, .nameAndType 5 25), (0, u "(Ljava/lang/Object;Lcom/example/hinagata/hinagata/Refusal;)V"), (0, .class_ 27), (0, u "com/example/hinagata/hinagata/Refusal"), (13, .methodref 42 43), (0, .class_ 44), (0, .nameAndType 45 46), (0, u "java/util/Optional"), (0, u "ofNullable"), (0, u "(Ljava/lang/Object;)Ljava/util/Optional;"), (2, u "isDone"), (0, u "()Z"), (16, u "refused"), (0, u "(Lcom/example/hinagata/hinagata/Refusal;)Lcom/example/hinagata/hinagata/Outcome;"), (4, u "()Ljava/util/Optional;")] 24

def k19c0 : Code := { maxStack := 2, maxLocals := 3, code := prog_14_method_1_code, exceptionTable := #[], attributes := #[] }
def k19m0 : Method := { name := "<init>", desc := "(Ljava/lang/Object;Lcom/example/hinagata/hinagata/Refusal;)V", sig := { parameters := [(.object "java/lang/Object"), (.object "com/example/hinagata/hinagata/Refusal")], returnType := none }, accessFlags := 2, code := some k19c0 }
def k19c1 : Code := { maxStack := 4, maxLocals := 1, code := prog_14_method_3_code, exceptionTable := #[], attributes := #[] }
def k19m1 : Method := { name := "refused", desc := "(Lcom/example/hinagata/hinagata/Refusal;)Lcom/example/hinagata/hinagata/Outcome;", sig := { parameters := [(.object "com/example/hinagata/hinagata/Refusal")], returnType := some (.object "com/example/hinagata/hinagata/Outcome") }, accessFlags := 8, code := some k19c1 }
def k19c2 : Code := { maxStack := 1, maxLocals := 1, code := prog_14_method_4_code, exceptionTable := #[], attributes := #[] }
def k19m2 : Method := { name := "isDone", desc := "()Z", sig := { parameters := [], returnType := some .boolean }, accessFlags := 1, code := some k19c2 }
def k19c3 : Code := { maxStack := 1, maxLocals := 1, code := prog_14_method_6_code, exceptionTable := #[], attributes := #[] }
def k19m3 : Method := { name := "refusal", desc := "()Ljava/util/Optional;", sig := { parameters := [], returnType := some (.object "java/util/Optional") }, accessFlags := 1, code := some k19c3 }
/-- com/example/hinagata/hinagata/Outcome -/
def k19 : Class := { plain "com/example/hinagata/hinagata/Outcome" (some 0) with
  accessFlags := 33
  interfaces := #[]
  cf := some (fileOf pool19 8 #[] #[{ accessFlags := 2, nameIndex := 5, descriptorIndex := 25, attributes := #[] }, { accessFlags := 8, nameIndex := 67, descriptorIndex := 68, attributes := #[] }, { accessFlags := 1, nameIndex := 49, descriptorIndex := 50, attributes := #[] }, { accessFlags := 1, nameIndex := 15, descriptorIndex := 73, attributes := #[] }] 33 2 #[] #[{ accessFlags := 18, nameIndex := 11, descriptorIndex := 12, attributes := #[] }, { accessFlags := 18, nameIndex := 15, descriptorIndex := 16, attributes := #[] }])
  fields := #[{ name := "value", type := (.object "java/lang/Object"), accessFlags := 18, slot := 0, constantValue := 0 }, { name := "refusal", type := (.object "com/example/hinagata/hinagata/Refusal"), accessFlags := 18, slot := 1, constantValue := 0 }]
  methods := #[k19m0, k19m1, k19m2, k19m3]
  instanceTypes := #[(.object "java/lang/Object"), (.object "com/example/hinagata/hinagata/Refusal")]
  staticTypes := #[]
  resolved := Array.replicate 98 none
  statics := none }

def pool20 : Array CpInfo := pool [(2, .class_ 4), (1, u "java/util/Optional"), (0, u "EMPTY"), (0, u "Ljava/util/Optional;"), (0, .methodref 8 9), (0, .class_ 10), (0, .nameAndType 11 12), (0, u "java/lang/Object"), (0, u "<init>"), (0, u "()V"), (0, .fieldref 2 14), (0, .nameAndType 15 16), (0, u "value"), (0, u "Ljava/lang/Object;"), (6, .methodref 2 24), (0, .nameAndType 11 25), (0, u "(Ljava/lang/Object;)V"), (20, u "()Z"), (17, u "ofNullable"), (0, u "(Ljava/lang/Object;)Ljava/util/Optional;"), (2, u "isPresent"), (4, u "get"), (0, u "()Ljava/lang/Object;")] 112

def k20c0 : Code := { maxStack := 2, maxLocals := 2, code := jdk_32_method_2_code, exceptionTable := #[], attributes := #[] }
def k20m0 : Method := { name := "<init>", desc := "(Ljava/lang/Object;)V", sig := { parameters := [(.object "java/lang/Object")], returnType := none }, accessFlags := 2, code := some k20c0 }
def k20c1 : Code := { maxStack := 3, maxLocals := 1, code := jdk_32_method_4_code, exceptionTable := #[], attributes := #[] }
def k20m1 : Method := { name := "ofNullable", desc := "(Ljava/lang/Object;)Ljava/util/Optional;", sig := { parameters := [(.object "java/lang/Object")], returnType := some (.object "java/util/Optional") }, accessFlags := 9, code := some k20c1 }
def k20c2 : Code := { maxStack := 3, maxLocals := 1, code := jdk_32_method_5_code, exceptionTable := #[], attributes := #[] }
def k20m2 : Method := { name := "get", desc := "()Ljava/lang/Object;", sig := { parameters := [], returnType := some (.object "java/lang/Object") }, accessFlags := 1, code := some k20c2 }
def k20c3 : Code := { maxStack := 1, maxLocals := 1, code := jdk_32_method_6_code, exceptionTable := #[], attributes := #[] }
def k20m3 : Method := { name := "isPresent", desc := "()Z", sig := { parameters := [], returnType := some .boolean }, accessFlags := 1, code := some k20c3 }
/-- java/util/Optional -/
def k20 : Class := { plain "java/util/Optional" (some 0) with
  accessFlags := 49
  interfaces := #[]
  cf := some (fileOf pool20 2 #[] #[{ accessFlags := 2, nameIndex := 11, descriptorIndex := 25, attributes := #[] }, { accessFlags := 9, nameIndex := 64, descriptorIndex := 65, attributes := #[] }, { accessFlags := 1, nameIndex := 73, descriptorIndex := 74, attributes := #[] }, { accessFlags := 1, nameIndex := 68, descriptorIndex := 46, attributes := #[] }] 49 8 #[] #[{ accessFlags := 26, nameIndex := 5, descriptorIndex := 6, attributes := #[] }, { accessFlags := 18, nameIndex := 15, descriptorIndex := 16, attributes := #[] }])
  fields := #[{ name := "EMPTY", type := (.object "java/util/Optional"), accessFlags := 26, slot := 0, constantValue := 0 }, { name := "value", type := (.object "java/lang/Object"), accessFlags := 18, slot := 0, constantValue := 0 }]
  methods := #[k20m0, k20m1, k20m2, k20m3]
  instanceTypes := #[(.object "java/lang/Object")]
  staticTypes := #[(.object "java/util/Optional")]
  resolved := Array.replicate 187 none
  statics := none }

def pool21 : Array CpInfo := pool [(6, .class_ 8), (1, u "java/lang/Object"), (0, u "<init>"), (0, u "()V"), (1, .class_ 14), (1, u "java/lang/StringUTF16"), (31, u "$assertionsDisabled"), (0, u "Z"), (13, u "HI_BYTE_SHIFT"), (0, u "I"), (2, u "LO_BYTE_SHIFT"), (49, .methodref 12 116), (0, .nameAndType 117 118), (0, u "compress"), (0, u "([CI[BII)I"), (3, u "([CII)[B"), (138, u "coderFromArrayLen"), (0, u "([BI)B"), (106, .class_ 371), (1, u "java/lang/StringUTF16$LinesSpliterator"), (58, u "MAX_LENGTH"), (196, .class_ 628), (0, u "java/lang/StringUTF16$CodePointsSpliterator"), (0, .class_ 630), (0, u "java/lang/StringUTF16$CharsSpliterator")] 4

def k21m0 : Method := { name := "<init>", desc := "()V", sig := { parameters := [], returnType := none }, accessFlags := 0, code := none }
def k21c1 : Code := { maxStack := 2, maxLocals := 2, code := jdk_52_method_15_code, exceptionTable := #[], attributes := #[] }
def k21m1 : Method := { name := "coderFromArrayLen", desc := "([BI)B", sig := { parameters := [(.array .byte), .int], returnType := some .byte }, accessFlags := 8, code := some k21c1 }
def k21c2 : Code := { maxStack := 5, maxLocals := 6, code := jdk_52_method_16_code, exceptionTable := #[], attributes := #[] }
def k21m2 : Method := { name := "compress", desc := "([CII)[B", sig := { parameters := [(.array .char), .int, .int], returnType := some (.array .byte) }, accessFlags := 9, code := some k21c2 }
def k21c3 : Code := { maxStack := 3, maxLocals := 7, code := jdk_52_method_21_code, exceptionTable := #[], attributes := #[] }
def k21m3 : Method := { name := "compress", desc := "([CI[BII)I", sig := { parameters := [(.array .char), .int, (.array .byte), .int, .int], returnType := some .int }, accessFlags := 9, code := some k21c3 }
/-- java/lang/StringUTF16 -/
def k21 : Class := { plain "java/lang/StringUTF16" (some 0) with
  accessFlags := 48
  interfaces := #[]
  cf := some (fileOf pool21 12 #[.nestMembers #[627, 629, 369]] #[{ accessFlags := 0, nameIndex := 9, descriptorIndex := 10, attributes := #[] }, { accessFlags := 8, nameIndex := 261, descriptorIndex := 262, attributes := #[] }, { accessFlags := 9, nameIndex := 117, descriptorIndex := 122, attributes := #[] }, { accessFlags := 9, nameIndex := 117, descriptorIndex := 118, attributes := #[] }] 48 6 #[] #[{ accessFlags := 26, nameIndex := 61, descriptorIndex := 62, attributes := #[] }, { accessFlags := 26, nameIndex := 65, descriptorIndex := 62, attributes := #[] }, { accessFlags := 24, nameIndex := 430, descriptorIndex := 62, attributes := #[] }, { accessFlags := 4120, nameIndex := 46, descriptorIndex := 47, attributes := #[] }])
  fields := #[{ name := "HI_BYTE_SHIFT", type := .int, accessFlags := 26, slot := 0, constantValue := 0 }, { name := "LO_BYTE_SHIFT", type := .int, accessFlags := 26, slot := 1, constantValue := 0 }, { name := "MAX_LENGTH", type := .int, accessFlags := 24, slot := 2, constantValue := 0 }, { name := "$assertionsDisabled", type := .boolean, accessFlags := 4120, slot := 3, constantValue := 0 }]
  methods := #[k21m0, k21m1, k21m2, k21m3]
  instanceTypes := #[]
  staticTypes := #[.int, .int, .int, .boolean]
  resolved := Array.replicate 635 none
  statics := none }

def pool22 : Array CpInfo := pool [(2, .class_ 4), (1, u "java/lang/Object"), (0, u "<init>"), (0, u "()V"), (12, .class_ 20), (0, u "java/util/Collections"), (63, u "r"), (0, u "Ljava/util/Random;"), (80, .class_ 167), (0, u "java/util/Collections$UnmodifiableCollection"), (6, .class_ 175), (0, u "java/util/Collections$UnmodifiableSequencedCollection"), (6, .class_ 183), (0, u "java/util/Collections$UnmodifiableSet"), (6, .class_ 191), (0, u "java/util/Collections$UnmodifiableSequencedSet"), (6, .class_ 199), (0, u "java/util/Collections$UnmodifiableSortedSet"), (6, .class_ 207), (0, u "java/util/Collections$UnmodifiableNavigableSet"), (4, .class_ 213), (0, u "java/util/Collections$UnmodifiableList"), (1, .class_ 216), (0, u "java/util/Collections$UnmodifiableRandomAccessList"), (6, .class_ 224), (0, u "java/util/Collections$UnmodifiableMap"), (6, .class_ 232), (0, u "java/util/Collections$UnmodifiableSequencedMap"), (4, .class_ 238), (0, u "java/util/Collections$UnmodifiableSortedMap"), (6, .class_ 246), (0, u "java/util/Collections$UnmodifiableNavigableMap"), (3, .class_ 251), (0, u "java/util/Collections$SynchronizedCollection"), (4, .class_ 257), (0, u "java/util/Collections$SynchronizedSet"), (4, .class_ 263), (0, u "java/util/Collections$SynchronizedSortedSet"), (1, .class_ 266), (0, u "java/util/Collections$SynchronizedNavigableSet"), (1, .class_ 269), (0, u "java/util/Collections$SynchronizedRandomAccessList"), (1, .class_ 272), (0, u "java/util/Collections$SynchronizedList"), (5, .class_ 279), (0, u "java/util/Collections$SynchronizedMap"), (1, .class_ 282), (0, u "java/util/Collections$SynchronizedSortedMap"), (1, .class_ 285), (0, u "java/util/Collections$SynchronizedNavigableMap"), (1, .class_ 288), (0, u "java/util/Collections$CheckedCollection"), (11, .class_ 301), (0, u "java/util/Collections$CheckedQueue"), (3, .class_ 306), (0, u "java/util/Collections$CheckedSet"), (3, .class_ 311), (0, u "java/util/Collections$CheckedSortedSet"), (3, .class_ 316), (0, u "java/util/Collections$CheckedNavigableSet"), (3, .class_ 321), (0, u "java/util/Collections$CheckedRandomAccessList"), (3, .class_ 326), (0, u "java/util/Collections$CheckedList"), (1, .class_ 329), (0, u "java/util/Collections$CheckedMap"), (3, .class_ 334), (0, u "java/util/Collections$CheckedSortedMap"), (3, .class_ 339), (0, u "java/util/Collections$CheckedNavigableMap"), (4, .class_ 346), (1, u "java/util/Collections$EmptyIterator"), (3, .class_ 352), (1, u "java/util/Collections$EmptyListIterator"), (2, .class_ 357), (1, u "java/util/Collections$EmptyEnumeration"), (4, u "EMPTY_SET"), (0, u "Ljava/util/Set;"), (6, u "EMPTY_LIST"), (0, u "Ljava/util/List;"), (2, u "EMPTY_MAP"), (0, u "Ljava/util/Map;"), (4, .class_ 381), (0, u "java/util/Collections$SingletonSet"), (2, .class_ 385), (0, u "java/util/Collections$1"), (1, .class_ 388), (0, u "java/util/Collections$2"), (1, .class_ 391), (0, u "java/util/Collections$SingletonList"), (1, .class_ 394), (0, u "java/util/Collections$SingletonMap"), (22, .class_ 418), (0, u "java/util/Collections$CopiesList"), (4, .class_ 425), (1, u "java/util/Collections$ReverseComparator"), (8, .class_ 435), (0, u "java/util/Collections$ReverseComparator2"), (6, .class_ 443), (0, u "java/util/Collections$3"), (25, .class_ 470), (0, u "java/util/Collections$SetFromMap"), (2, .class_ 474), (0, u "java/util/Collections$SequencedSetFromMap"), (3, .class_ 479), (0, u "java/util/Collections$AsLIFOQueue"), (11, .class_ 492), (0, u "java/util/Collections$EmptySet"), (1, .class_ 495), (0, u "java/util/Collections$EmptyList"), (1, .class_ 498), (0, u "java/util/Collections$EmptyMap"), (1, u "BINARYSEARCH_THRESHOLD"), (0, u "I"), (2, u "REVERSE_THRESHOLD"), (1, u "SHUFFLE_THRESHOLD"), (1, u "FILL_THRESHOLD"), (1, u "ROTATE_THRESHOLD"), (1, u "COPY_THRESHOLD"), (1, u "REPLACEALL_THRESHOLD"), (1, u "INDEXOFSUBLIST_THRESHOLD"), (333, .class_ 851), (0, u "java/util/Collections$CheckedMap$CheckedEntrySet"), (0, .class_ 853), (0, u "java/util/Collections$CheckedMap$CheckedEntrySet$CheckedEntry"), (0, .class_ 855), (0, u "java/util/Collections$CheckedMap$CheckedEntrySet$1"), (0, .class_ 857), (0, u "java/util/Collections$CheckedList$1"), (0, .class_ 859), (0, u "java/util/Collections$CheckedCollection$1"), (0, .class_ 861), (0, u "java/util/Collections$UnmodifiableNavigableMap$EmptyNavigableMap"), (0, .class_ 863), (0, u "java/util/Collections$UnmodifiableMap$UnmodifiableEntrySet"), (0, .class_ 865), (0, u "java/util/Collections$UnmodifiableMap$UnmodifiableEntrySet$UnmodifiableEntry"), (0, .class_ 867), (0, u "java/util/Collections$UnmodifiableMap$UnmodifiableEntrySet$UnmodifiableEntrySetSpliterator"), (0, .class_ 869), (0, u "java/util/Collections$UnmodifiableMap$UnmodifiableEntrySet$1"), (0, .class_ 871), (0, u "java/util/Collections$UnmodifiableList$1"), (0, .class_ 873), (0, u "java/util/Collections$UnmodifiableNavigableSet$EmptyNavigableSet"), (0, .class_ 875), (0, u "java/util/Collections$UnmodifiableCollection$1")] 57

def k22m0 : Method := { name := "<init>", desc := "()V", sig := { parameters := [], returnType := none }, accessFlags := 2, code := none }
/-- java/util/Collections -/
def k22 : Class := { plain "java/util/Collections" (some 0) with
  accessFlags := 33
  interfaces := #[]
  cf := some (fileOf pool22 19 #[.nestMembers #[478, 473, 469, 434, 423, 417, 393, 390, 380, 497, 494, 491, 355, 350, 344, 338, 333, 328, 850, 852, 854, 320, 325, 856, 315, 310, 305, 300, 287, 858, 284, 281, 278, 268, 271, 265, 262, 256, 250, 245, 860, 237, 231, 223, 862, 864, 866, 868, 215, 212, 870, 206, 872, 198, 190, 182, 174, 166, 874, 442, 387, 384]] #[{ accessFlags := 2, nameIndex := 5, descriptorIndex := 6, attributes := #[] }] 33 2 #[] #[{ accessFlags := 26, nameIndex := 500, descriptorIndex := 501, attributes := #[] }, { accessFlags := 26, nameIndex := 504, descriptorIndex := 501, attributes := #[] }, { accessFlags := 26, nameIndex := 506, descriptorIndex := 501, attributes := #[] }, { accessFlags := 26, nameIndex := 508, descriptorIndex := 501, attributes := #[] }, { accessFlags := 26, nameIndex := 510, descriptorIndex := 501, attributes := #[] }, { accessFlags := 26, nameIndex := 512, descriptorIndex := 501, attributes := #[] }, { accessFlags := 26, nameIndex := 514, descriptorIndex := 501, attributes := #[] }, { accessFlags := 26, nameIndex := 516, descriptorIndex := 501, attributes := #[] }, { accessFlags := 10, nameIndex := 84, descriptorIndex := 85, attributes := #[] }, { accessFlags := 25, nameIndex := 362, descriptorIndex := 363, attributes := #[] }, { accessFlags := 25, nameIndex := 370, descriptorIndex := 371, attributes := #[] }, { accessFlags := 25, nameIndex := 374, descriptorIndex := 375, attributes := #[] }])
  fields := #[{ name := "BINARYSEARCH_THRESHOLD", type := .int, accessFlags := 26, slot := 0, constantValue := 0 }, { name := "REVERSE_THRESHOLD", type := .int, accessFlags := 26, slot := 1, constantValue := 0 }, { name := "SHUFFLE_THRESHOLD", type := .int, accessFlags := 26, slot := 2, constantValue := 0 }, { name := "FILL_THRESHOLD", type := .int, accessFlags := 26, slot := 3, constantValue := 0 }, { name := "ROTATE_THRESHOLD", type := .int, accessFlags := 26, slot := 4, constantValue := 0 }, { name := "COPY_THRESHOLD", type := .int, accessFlags := 26, slot := 5, constantValue := 0 }, { name := "REPLACEALL_THRESHOLD", type := .int, accessFlags := 26, slot := 6, constantValue := 0 }, { name := "INDEXOFSUBLIST_THRESHOLD", type := .int, accessFlags := 26, slot := 7, constantValue := 0 }, { name := "r", type := (.object "java/util/Random"), accessFlags := 10, slot := 8, constantValue := 0 }, { name := "EMPTY_SET", type := (.object "java/util/Set"), accessFlags := 25, slot := 9, constantValue := 0 }, { name := "EMPTY_LIST", type := (.object "java/util/List"), accessFlags := 25, slot := 10, constantValue := 0 }, { name := "EMPTY_MAP", type := (.object "java/util/Map"), accessFlags := 25, slot := 11, constantValue := 0 }]
  methods := #[k22m0]
  instanceTypes := #[]
  staticTypes := #[.int, .int, .int, .int, .int, .int, .int, .int, (.object "java/util/Random"), (.object "java/util/Set"), (.object "java/util/List"), (.object "java/util/Map")]
  resolved := Array.replicate 933 none
  statics := some 4 }

def pool23 : Array CpInfo := pool [(4, .class_ 6), (1, u "java/lang/Object"), (0, u "<init>"), (0, u "()V"), (5, .class_ 16), (1, u "java/lang/StringLatin1"), (104, u "$assertionsDisabled"), (0, u "Z"), (98, .class_ 223), (1, u "java/lang/StringLatin1$LinesSpliterator"), (166, .class_ 391), (0, u "java/lang/StringLatin1$CharsSpliterator")] 3

def k23m0 : Method := { name := "<init>", desc := "()V", sig := { parameters := [], returnType := none }, accessFlags := 0, code := none }
/-- java/lang/StringLatin1 -/
def k23 : Class := { plain "java/lang/StringLatin1" (some 0) with
  accessFlags := 48
  interfaces := #[]
  cf := some (fileOf pool23 14 #[.nestMembers #[390, 221]] #[{ accessFlags := 0, nameIndex := 7, descriptorIndex := 8, attributes := #[] }] 48 4 #[] #[{ accessFlags := 4120, nameIndex := 121, descriptorIndex := 122, attributes := #[] }])
  fields := #[{ name := "$assertionsDisabled", type := .boolean, accessFlags := 4120, slot := 0, constantValue := 0 }]
  methods := #[k23m0]
  instanceTypes := #[]
  staticTypes := #[.boolean]
  resolved := Array.replicate 395 none
  statics := none }

def pool24 : Array CpInfo := pool [(2, .class_ 4), (1, u "java/lang/Object"), (0, u "<init>"), (0, u "()V"), (17, .class_ 26), (1, u "jdk/internal/util/Preconditions"), (28, .class_ 56), (0, u "jdk/internal/util/Preconditions$4"), (57, .class_ 115), (0, u "jdk/internal/util/Preconditions$1"), (7, u "SIOOBE_FORMATTER"), (0, u "Ljava/util/function/BiFunction;"), (0, .class_ 126), (0, u "jdk/internal/util/Preconditions$2"), (3, u "AIOOBE_FORMATTER"), (0, .class_ 132), (0, u "jdk/internal/util/Preconditions$3"), (3, u "IOOBE_FORMATTER")] 57

def k24m0 : Method := { name := "<init>", desc := "()V", sig := { parameters := [], returnType := none }, accessFlags := 1, code := none }
/-- jdk/internal/util/Preconditions -/
def k24 : Class := { plain "jdk/internal/util/Preconditions" (some 0) with
  accessFlags := 33
  interfaces := #[]
  cf := some (fileOf pool24 24 #[.nestMembers #[55, 131, 125, 114]] #[{ accessFlags := 1, nameIndex := 5, descriptorIndex := 6, attributes := #[] }] 33 2 #[] #[{ accessFlags := 25, nameIndex := 123, descriptorIndex := 124, attributes := #[] }, { accessFlags := 25, nameIndex := 130, descriptorIndex := 124, attributes := #[] }, { accessFlags := 25, nameIndex := 136, descriptorIndex := 124, attributes := #[] }])
  fields := #[{ name := "SIOOBE_FORMATTER", type := (.object "java/util/function/BiFunction"), accessFlags := 25, slot := 0, constantValue := 0 }, { name := "AIOOBE_FORMATTER", type := (.object "java/util/function/BiFunction"), accessFlags := 25, slot := 1, constantValue := 0 }, { name := "IOOBE_FORMATTER", type := (.object "java/util/function/BiFunction"), accessFlags := 25, slot := 2, constantValue := 0 }]
  methods := #[k24m0]
  instanceTypes := #[]
  staticTypes := #[(.object "java/util/function/BiFunction"), (.object "java/util/function/BiFunction"), (.object "java/util/function/BiFunction")]
  resolved := Array.replicate 194 none
  statics := some 5 }

def pool25 : Array CpInfo := pool [(9, u "<init>"), (6, .class_ 18), (1, u "java/lang/Object"), (0, u "()V"), (1, .class_ 23), (1, u "jdk/internal/util/ArraysSupport"), (0, u "LOG2_ARRAY_LONG_INDEX_SCALE"), (0, u "I"), (2, u "U"), (0, u "Ljdk/internal/misc/Unsafe;"), (8, u "BIG_ENDIAN"), (0, u "Z"), (8, u "LOG2_BYTE_BIT_SIZE"), (4, u "LOG2_ARRAY_INT_INDEX_SCALE"), (54, u "JLA"), (0, u "Ljdk/internal/access/JavaLangAccess;"), (11, u "LOG2_ARRAY_BOOLEAN_INDEX_SCALE"), (9, u "LOG2_ARRAY_BYTE_INDEX_SCALE"), (5, u "LOG2_ARRAY_CHAR_INDEX_SCALE"), (5, u "LOG2_ARRAY_SHORT_INDEX_SCALE"), (18, u "LOG2_ARRAY_FLOAT_INDEX_SCALE"), (24, u "LOG2_ARRAY_DOUBLE_INDEX_SCALE"), (89, u "T_BOOLEAN"), (2, u "T_CHAR"), (1, u "T_FLOAT"), (1, u "T_DOUBLE"), (1, u "T_BYTE"), (1, u "T_SHORT"), (1, u "T_INT"), (1, u "T_LONG"), (1, u "SOFT_MAX_ARRAY_LENGTH")] 83

def k25m0 : Method := { name := "<init>", desc := "()V", sig := { parameters := [], returnType := none }, accessFlags := 2, code := none }
/-- jdk/internal/util/ArraysSupport -/
def k25 : Class := { plain "jdk/internal/util/ArraysSupport" (some 0) with
  accessFlags := 33
  interfaces := #[]
  cf := some (fileOf pool25 21 #[] #[{ accessFlags := 2, nameIndex := 9, descriptorIndex := 19, attributes := #[] }] 33 16 #[] #[{ accessFlags := 24, nameIndex := 28, descriptorIndex := 29, attributes := #[] }, { accessFlags := 26, nameIndex := 38, descriptorIndex := 39, attributes := #[] }, { accessFlags := 25, nameIndex := 121, descriptorIndex := 25, attributes := #[] }, { accessFlags := 25, nameIndex := 131, descriptorIndex := 25, attributes := #[] }, { accessFlags := 25, nameIndex := 137, descriptorIndex := 25, attributes := #[] }, { accessFlags := 25, nameIndex := 143, descriptorIndex := 25, attributes := #[] }, { accessFlags := 25, nameIndex := 53, descriptorIndex := 25, attributes := #[] }, { accessFlags := 25, nameIndex := 24, descriptorIndex := 25, attributes := #[] }, { accessFlags := 25, nameIndex := 162, descriptorIndex := 25, attributes := #[] }, { accessFlags := 25, nameIndex := 187, descriptorIndex := 25, attributes := #[] }, { accessFlags := 26, nameIndex := 48, descriptorIndex := 25, attributes := #[] }, { accessFlags := 25, nameIndex := 277, descriptorIndex := 25, attributes := #[] }, { accessFlags := 25, nameIndex := 280, descriptorIndex := 25, attributes := #[] }, { accessFlags := 25, nameIndex := 282, descriptorIndex := 25, attributes := #[] }, { accessFlags := 25, nameIndex := 284, descriptorIndex := 25, attributes := #[] }, { accessFlags := 25, nameIndex := 286, descriptorIndex := 25, attributes := #[] }, { accessFlags := 25, nameIndex := 288, descriptorIndex := 25, attributes := #[] }, { accessFlags := 25, nameIndex := 290, descriptorIndex := 25, attributes := #[] }, { accessFlags := 25, nameIndex := 292, descriptorIndex := 25, attributes := #[] }, { accessFlags := 26, nameIndex := 108, descriptorIndex := 109, attributes := #[] }, { accessFlags := 25, nameIndex := 294, descriptorIndex := 25, attributes := #[] }])
  fields := #[{ name := "U", type := (.object "jdk/internal/misc/Unsafe"), accessFlags := 24, slot := 0, constantValue := 0 }, { name := "BIG_ENDIAN", type := .boolean, accessFlags := 26, slot := 1, constantValue := 0 }, { name := "LOG2_ARRAY_BOOLEAN_INDEX_SCALE", type := .int, accessFlags := 25, slot := 2, constantValue := 0 }, { name := "LOG2_ARRAY_BYTE_INDEX_SCALE", type := .int, accessFlags := 25, slot := 3, constantValue := 0 }, { name := "LOG2_ARRAY_CHAR_INDEX_SCALE", type := .int, accessFlags := 25, slot := 4, constantValue := 0 }, { name := "LOG2_ARRAY_SHORT_INDEX_SCALE", type := .int, accessFlags := 25, slot := 5, constantValue := 0 }, { name := "LOG2_ARRAY_INT_INDEX_SCALE", type := .int, accessFlags := 25, slot := 6, constantValue := 0 }, { name := "LOG2_ARRAY_LONG_INDEX_SCALE", type := .int, accessFlags := 25, slot := 7, constantValue := 0 }, { name := "LOG2_ARRAY_FLOAT_INDEX_SCALE", type := .int, accessFlags := 25, slot := 8, constantValue := 0 }, { name := "LOG2_ARRAY_DOUBLE_INDEX_SCALE", type := .int, accessFlags := 25, slot := 9, constantValue := 0 }, { name := "LOG2_BYTE_BIT_SIZE", type := .int, accessFlags := 26, slot := 10, constantValue := 0 }, { name := "T_BOOLEAN", type := .int, accessFlags := 25, slot := 11, constantValue := 0 }, { name := "T_CHAR", type := .int, accessFlags := 25, slot := 12, constantValue := 0 }, { name := "T_FLOAT", type := .int, accessFlags := 25, slot := 13, constantValue := 0 }, { name := "T_DOUBLE", type := .int, accessFlags := 25, slot := 14, constantValue := 0 }, { name := "T_BYTE", type := .int, accessFlags := 25, slot := 15, constantValue := 0 }, { name := "T_SHORT", type := .int, accessFlags := 25, slot := 16, constantValue := 0 }, { name := "T_INT", type := .int, accessFlags := 25, slot := 17, constantValue := 0 }, { name := "T_LONG", type := .int, accessFlags := 25, slot := 18, constantValue := 0 }, { name := "JLA", type := (.object "jdk/internal/access/JavaLangAccess"), accessFlags := 26, slot := 19, constantValue := 0 }, { name := "SOFT_MAX_ARRAY_LENGTH", type := .int, accessFlags := 25, slot := 20, constantValue := 0 }]
  methods := #[k25m0]
  instanceTypes := #[]
  staticTypes := #[(.object "jdk/internal/misc/Unsafe"), .boolean, .int, .int, .int, .int, .int, .int, .int, .int, .int, .int, .int, .int, .int, .int, .int, .int, .int, (.object "jdk/internal/access/JavaLangAccess"), .int]
  resolved := Array.replicate 378 none
  statics := none }

def pool26 : Array CpInfo := pool [(8, .class_ 10), (1, u "java/lang/Iterable"), (24, .class_ 36), (0, u "java/lang/Object")] 25

/-- java/lang/Iterable -/
def k26 : Class := { plain "java/lang/Iterable" (some 0) with
  accessFlags := 1537
  interfaces := #[]
  cf := some (fileOf pool26 8 #[] #[] 1537 35 #[] #[])
  fields := #[]
  methods := #[]
  instanceTypes := #[]
  staticTypes := #[]
  resolved := Array.replicate 62 none
  statics := none }

def pool27 : Array CpInfo := pool [(10, .class_ 12), (1, u "java/util/Collection"), (47, .class_ 61), (0, u "java/lang/Object"), (0, .class_ 63), (0, u "java/lang/Iterable")] 51

/-- java/util/Collection -/
def k27 : Class := { plain "java/util/Collection" (some 0) with
  accessFlags := 1537
  interfaces := #[26]
  cf := some (fileOf pool27 10 #[] #[] 1537 60 #[62] #[])
  fields := #[]
  methods := #[]
  instanceTypes := #[]
  staticTypes := #[]
  resolved := Array.replicate 115 none
  statics := none }

def pool28 : Array CpInfo := pool [(2, .class_ 4), (1, u "java/lang/Object"), (0, u "<init>"), (0, u "()V"), (1, .class_ 10), (1, u "java/util/AbstractCollection"), (66, .class_ 78), (0, u "java/util/Collection")] 81

def k28m0 : Method := { name := "<init>", desc := "()V", sig := { parameters := [], returnType := none }, accessFlags := 4, code := none }
/-- java/util/AbstractCollection -/
def k28 : Class := { plain "java/util/AbstractCollection" (some 0) with
  accessFlags := 1057
  interfaces := #[27]
  cf := some (fileOf pool28 8 #[] #[{ accessFlags := 4, nameIndex := 5, descriptorIndex := 6, attributes := #[] }] 1057 2 #[77] #[])
  fields := #[]
  methods := #[k28m0]
  instanceTypes := #[]
  staticTypes := #[]
  resolved := Array.replicate 160 none
  statics := none }

def pool29 : Array CpInfo := pool [(8, .class_ 10), (1, u "java/util/SequencedCollection"), (15, .class_ 27), (0, u "java/lang/Object"), (0, .class_ 29), (0, u "java/util/Collection")] 27

/-- java/util/SequencedCollection -/
def k29 : Class := { plain "java/util/SequencedCollection" (some 0) with
  accessFlags := 1537
  interfaces := #[27]
  cf := some (fileOf pool29 8 #[] #[] 1537 26 #[28] #[])
  fields := #[]
  methods := #[]
  instanceTypes := #[]
  staticTypes := #[]
  resolved := Array.replicate 57 none
  statics := none }

def pool30 : Array CpInfo := pool [(8, .class_ 10), (1, u "java/util/List"), (92, .class_ 104), (0, u "java/lang/Object"), (15, .class_ 121), (0, u "java/util/SequencedCollection")] 129

/-- java/util/List -/
def k30 : Class := { plain "java/util/List" (some 0) with
  accessFlags := 1537
  interfaces := #[29]
  cf := some (fileOf pool30 8 #[] #[] 1537 103 #[120] #[])
  fields := #[]
  methods := #[]
  instanceTypes := #[]
  staticTypes := #[]
  resolved := Array.replicate 251 none
  statics := none }

def pool31 : Array CpInfo := pool [(2, .class_ 4), (1, u "java/util/AbstractCollection"), (0, u "<init>"), (0, u "()V"), (1, .class_ 10), (1, u "java/util/AbstractList"), (0, u "modCount"), (0, u "I"), (64, .class_ 78), (0, u "java/util/AbstractList$Itr"), (3, .class_ 83), (0, u "java/util/AbstractList$ListItr"), (9, .class_ 94), (0, u "java/util/AbstractList$RandomAccessSubList"), (3, .class_ 99), (0, u "java/util/AbstractList$SubList"), (33, .class_ 134), (0, u "java/util/List"), (73, .class_ 209), (0, u "java/util/AbstractList$SubList$1"), (0, .class_ 211), (0, u "java/util/AbstractList$RandomAccessSpliterator")] 6

def k31m0 : Method := { name := "<init>", desc := "()V", sig := { parameters := [], returnType := none }, accessFlags := 4, code := none }
/-- java/util/AbstractList -/
def k31 : Class := { plain "java/util/AbstractList" (some 28) with
  accessFlags := 1057
  interfaces := #[30]
  cf := some (fileOf pool31 8 #[.nestMembers #[93, 98, 208, 210, 82, 77]] #[{ accessFlags := 4, nameIndex := 5, descriptorIndex := 6, attributes := #[] }] 1057 2 #[133] #[{ accessFlags := 132, nameIndex := 11, descriptorIndex := 12, attributes := #[] }])
  fields := #[{ name := "modCount", type := .int, accessFlags := 132, slot := 0, constantValue := 0 }]
  methods := #[k31m0]
  instanceTypes := #[.int]
  staticTypes := #[]
  resolved := Array.replicate 218 none
  statics := none }

def pool32 : Array CpInfo := pool [(1, .class_ 2), (0, u "java/util/RandomAccess"), (0, .class_ 4), (0, u "java/lang/Object")] 2

/-- java/util/RandomAccess -/
def k32 : Class := { plain "java/util/RandomAccess" (some 0) with
  accessFlags := 1537
  interfaces := #[]
  cf := some (fileOf pool32 1 #[] #[] 1537 3 #[] #[])
  fields := #[]
  methods := #[]
  instanceTypes := #[]
  staticTypes := #[]
  resolved := Array.replicate 7 none
  statics := none }

def pool33 : Array CpInfo := pool [(2, .class_ 4), (1, u "java/util/AbstractList"), (0, u "<init>"), (0, u "()V"), (1, .class_ 10), (1, u "java/util/Collections"), (54, .class_ 66), (0, u "java/util/Collections$EmptyList"), (0, .class_ 68), (0, u "java/util/RandomAccess"), (0, .class_ 70), (0, u "java/io/Serializable"), (0, u "serialVersionUID"), (0, u "J")] 77

def k33m0 : Method := { name := "<init>", desc := "()V", sig := { parameters := [], returnType := none }, accessFlags := 2, code := none }
/-- java/util/Collections$EmptyList -/
def k33 : Class := { plain "java/util/Collections$EmptyList" (some 31) with
  accessFlags := 32
  interfaces := #[32, 4]
  cf := some (fileOf pool33 65 #[.nestHost 8] #[{ accessFlags := 2, nameIndex := 5, descriptorIndex := 6, attributes := #[] }] 32 2 #[67, 69] #[{ accessFlags := 26, nameIndex := 71, descriptorIndex := 72, attributes := #[] }])
  fields := #[{ name := "serialVersionUID", type := .long, accessFlags := 26, slot := 0, constantValue := 0 }]
  methods := #[k33m0]
  instanceTypes := #[.int]
  staticTypes := #[.long]
  resolved := Array.replicate 150 none
  statics := none }

def pool34 : Array CpInfo := pool [(2, .class_ 4), (1, u "java/lang/StackTraceElement"), (0, u "<init>"), (2, .class_ 10), (1, u "java/lang/Object"), (0, u "()V"), (2, u "format"), (0, u "B"), (2, u "classLoaderName"), (0, u "Ljava/lang/String;"), (2, u "moduleName"), (2, u "moduleVersion"), (12, u "declaringClass"), (4, u "methodName"), (2, u "fileName"), (2, u "lineNumber"), (0, u "I"), (65, u "declaringClassObject"), (0, u "Ljava/lang/Class;"), (33, .class_ 153), (1, u "java/lang/StackTraceElement$HashedModules"), (17, .class_ 172), (0, u "java/io/Serializable"), (0, u "NATIVE_METHOD"), (1, u "UNKNOWN_SOURCE"), (2, u "BUILTIN_CLASS_LOADER"), (1, u "JDK_NON_UPGRADEABLE_MODULE"), (1, u "serialVersionUID"), (0, u "J")] 51

def k34m0 : Method := { name := "<init>", desc := "()V", sig := { parameters := [], returnType := none }, accessFlags := 2, code := none }
/-- java/lang/StackTraceElement -/
def k34 : Class := { plain "java/lang/StackTraceElement" (some 0) with
  accessFlags := 49
  interfaces := #[4]
  cf := some (fileOf pool34 2 #[.nestMembers #[151]] #[{ accessFlags := 2, nameIndex := 5, descriptorIndex := 11, attributes := #[] }] 49 8 #[171] #[{ accessFlags := 26, nameIndex := 173, descriptorIndex := 19, attributes := #[] }, { accessFlags := 26, nameIndex := 175, descriptorIndex := 19, attributes := #[] }, { accessFlags := 130, nameIndex := 116, descriptorIndex := 117, attributes := #[] }, { accessFlags := 2, nameIndex := 18, descriptorIndex := 19, attributes := #[] }, { accessFlags := 2, nameIndex := 22, descriptorIndex := 19, attributes := #[] }, { accessFlags := 2, nameIndex := 25, descriptorIndex := 19, attributes := #[] }, { accessFlags := 2, nameIndex := 38, descriptorIndex := 19, attributes := #[] }, { accessFlags := 2, nameIndex := 43, descriptorIndex := 19, attributes := #[] }, { accessFlags := 2, nameIndex := 46, descriptorIndex := 19, attributes := #[] }, { accessFlags := 2, nameIndex := 49, descriptorIndex := 50, attributes := #[] }, { accessFlags := 2, nameIndex := 14, descriptorIndex := 15, attributes := #[] }, { accessFlags := 26, nameIndex := 178, descriptorIndex := 15, attributes := #[] }, { accessFlags := 26, nameIndex := 180, descriptorIndex := 15, attributes := #[] }, { accessFlags := 26, nameIndex := 182, descriptorIndex := 183, attributes := #[] }])
  fields := #[{ name := "NATIVE_METHOD", type := (.object "java/lang/String"), accessFlags := 26, slot := 0, constantValue := 0 }, { name := "UNKNOWN_SOURCE", type := (.object "java/lang/String"), accessFlags := 26, slot := 1, constantValue := 0 }, { name := "declaringClassObject", type := (.object "java/lang/Class"), accessFlags := 130, slot := 0, constantValue := 0 }, { name := "classLoaderName", type := (.object "java/lang/String"), accessFlags := 2, slot := 1, constantValue := 0 }, { name := "moduleName", type := (.object "java/lang/String"), accessFlags := 2, slot := 2, constantValue := 0 }, { name := "moduleVersion", type := (.object "java/lang/String"), accessFlags := 2, slot := 3, constantValue := 0 }, { name := "declaringClass", type := (.object "java/lang/String"), accessFlags := 2, slot := 4, constantValue := 0 }, { name := "methodName", type := (.object "java/lang/String"), accessFlags := 2, slot := 5, constantValue := 0 }, { name := "fileName", type := (.object "java/lang/String"), accessFlags := 2, slot := 6, constantValue := 0 }, { name := "lineNumber", type := .int, accessFlags := 2, slot := 7, constantValue := 0 }, { name := "format", type := .byte, accessFlags := 2, slot := 8, constantValue := 0 }, { name := "BUILTIN_CLASS_LOADER", type := .byte, accessFlags := 26, slot := 2, constantValue := 0 }, { name := "JDK_NON_UPGRADEABLE_MODULE", type := .byte, accessFlags := 26, slot := 3, constantValue := 0 }, { name := "serialVersionUID", type := .long, accessFlags := 26, slot := 4, constantValue := 0 }]
  methods := #[k34m0]
  instanceTypes := #[(.object "java/lang/Class"), (.object "java/lang/String"), (.object "java/lang/String"), (.object "java/lang/String"), (.object "java/lang/String"), (.object "java/lang/String"), (.object "java/lang/String"), .int, .byte]
  staticTypes := #[(.object "java/lang/String"), (.object "java/lang/String"), .byte, .byte, .long]
  resolved := Array.replicate 235 none
  statics := none }

def pool35 : Array CpInfo := pool [(1, u "java/lang/Cloneable"), (0, .class_ 1), (0, u "java/lang/Object"), (0, .class_ 3)] 3

/-- java/lang/Cloneable -/
def k35 : Class := { plain "java/lang/Cloneable" (some 0) with
  accessFlags := 1537
  interfaces := #[]
  cf := some (fileOf pool35 2 #[] #[] 1537 4 #[] #[])
  fields := #[]
  methods := #[]
  instanceTypes := #[]
  staticTypes := #[]
  resolved := Array.replicate 8 none
  statics := none }

/-- the primitive byte -/
def k36 : Class := { plain "byte" none with kind := .primitive 'B', accessFlags := 0x411 }
/-- [B -/
def k37 : Class := { plain "[B" (some 0) with kind := .array 36 .byte, interfaces := #[35, 4], accessFlags := 1041 }

/-- the primitive char -/
def k38 : Class := { plain "char" none with kind := .primitive 'C', accessFlags := 0x411 }
/-- [C -/
def k39 : Class := { plain "[C" (some 0) with kind := .array 38 .char, interfaces := #[35, 4], accessFlags := 1041 }

/-- the primitive int -/
def k40 : Class := { plain "int" none with kind := .primitive 'I', accessFlags := 0x411 }
/-- [I -/
def k41 : Class := { plain "[I" (some 0) with kind := .array 40 .int, interfaces := #[35, 4], accessFlags := 1041 }

/-- [Ljava/lang/Object; -/
def k42 : Class := { plain "[Ljava/lang/Object;" (some 0) with kind := .array 0 (.object "java/lang/Object"), interfaces := #[35, 4], accessFlags := 1041 }

/-- [Ljava/lang/StackTraceElement; -/
def k43 : Class := { plain "[Ljava/lang/StackTraceElement;" (some 0) with kind := .array 34 (.object "java/lang/StackTraceElement"), interfaces := #[35, 4], accessFlags := 1041 }

/-- [Ljava/lang/Throwable; -/
def k44 : Class := { plain "[Ljava/lang/Throwable;" (some 0) with kind := .array 10 (.object "java/lang/Throwable"), interfaces := #[35, 4], accessFlags := 1041 }

def heap : Heap := #[{ cls := 6, slots := #[.ref 6, .ref 7, .ref 8, .ref 9, .null], vm := .statics 6 },
  { cls := 9, slots := #[.long 0, .int 1, .null, .int 0, .null, .int 0, .int 0], vm := .statics 9 },
  { cls := 10, slots := #[.long 0, .ref 10, .ref 11, .null, .null, .null, .null, .ref 12, .int 1], vm := .statics 10 },
  { cls := 15, slots := #[.ref 13], vm := .statics 15 },
  { cls := 22, slots := #[.int 0, .int 0, .int 0, .int 0, .int 0, .int 0, .int 0, .int 0, .null, .null, .ref 11, .null], vm := .statics 22 },
  { cls := 24, slots := #[.null, .null, .null], vm := .statics 24 },
  { cls := 6, slots := #[.null, .int 0, .int 0], vm := .none },
  { cls := 6, slots := #[.null, .int 0, .int 0], vm := .none },
  { cls := 6, slots := #[.null, .int 0, .int 0], vm := .none },
  { cls := 6, slots := #[.null, .int 0, .int 0], vm := .none },
  { cls := 43, slots := #[], vm := .none },
  { cls := 33, slots := #[.int 0], vm := .none },
  { cls := 44, slots := #[], vm := .none },
  { cls := 15, slots := #[.int 0, .int 0], vm := .none }]
def classes : Array Class := #[k0, k1, k2, k3, k4, k5, k6, k7, k8, k9, k10, k11, k12, k13, k14, k15, k16, k17, k18, k19, k20, k21, k22, k23, k24, k25, k26, k27, k28, k29, k30, k31, k32, k33, k34, k35, k36, k37, k38, k39, k40, k41, k42, k43, k44]
def interned : List (Array UInt16 × Addr) := []
def slotsUsed : Nat := 52
def theMethod : MethodId := ⟨1, 3⟩
def args0 : Array Value := #[.int 1, .int 66, .int 67]
def aboutOver (below : List Frame) : State where
  vm := { classes := classes, interned := interned.toArray }
  heap := heap
  slotsUsed := slotsUsed
  threads := #[{ frames := .invoking theMethod args0 :: below }]
def below0 : List Frame := [.native { method := ⟨0, 0⟩, args := #[] }]
def about1 : State := aboutOver below0
def p0 : Program := .bare "" "" ""
def e0 : Env := launch0.env 0 0 0
theorem w_frames : about1.frames = Frame.invoking theMethod args0 :: below0 := rfl
set_option maxRecDepth 65536 in
theorem w_args : argsFit about1.vm theMethod args0 = true := by decide +kernel
set_option maxRecDepth 65536 in
theorem w_heap : heapFits about1 = true := by decide +kernel
set_option maxRecDepth 65536 in
theorem w_runnable : about1.curStatus? = some .runnable := by decide +kernel
set_option maxRecDepth 65536 in
theorem w_alone : about1.alone = true := by decide +kernel
set_option maxRecDepth 65536 in
theorem w_named : about1.methodNamed? x = some theMethod := by decide +kernel
set_option maxRecDepth 65536 in
theorem w_hears : about1.hears theMethod below0 = true := by decide +kernel
set_option maxRecDepth 65536 in
theorem w_ripe : about1.ripe theMethod args0 below0 = true := by decide +kernel
theorem w_running : about1.status = .running := rfl
set_option maxRecDepth 65536 in
theorem w_room : about1.hasRoom e0.platform room_1 = true :=
  launch0.hasRoom_least _ room_1 (by decide +kernel) (by decide +kernel) (by decide +kernel) (by decide +kernel) (by decide +kernel) (by decide +kernel)
theorem allAtoms_all (ts : List Jvm.Cond) (a : Array Jvm.Value) (st : Jvm.State) : (allAtoms ts).before a st = ts.all (fun c => c.before a st) := by
  induction ts with
  | nil => rfl
  | cons c t ih =>
    show (Jvm.Cond.and c (allAtoms t)).before a st = _
    rw [Jvm.Cond.before_and, ih, List.all_cons]
def words1 : List Jvm.Cond := Jvm.Cond.code x code maxLocals ret :: tables_1
/-- a 'code' word, met by the world's own term for the bytes: nothing is compared byte by byte -/
theorem code_word {y : MethodName} {bytes : ByteArray} {mx : Nat} {rt : Option FieldType} {a : Array Value} {s : State} {m : MethodId} {meth : Method} {c : Code} (h1 : s.methodNamed? y = some m) (h2 : s.vm.method? m = some meth) (h3 : meth.code = some c) (h4 : c.code = bytes)
    (h5 : (c.maxLocals == mx && c.exceptionTable.isEmpty && decide (c.maxStack ≤ mostOperands) && decide (meth.sig.returnType = rt) && !meth.locks && decide (parseMethodDescriptor y.desc = some meth.sig)) = true) : (Jvm.Cond.code y bytes mx rt).before a s = true := by
  simp only [Bool.and_eq_true, beq_iff_eq, Bool.not_eq_true', decide_eq_true_eq] at h5
  obtain ⟨⟨⟨⟨⟨g1, g2⟩, g3⟩, g4⟩, g5⟩, g6⟩ := h5
  simp [Cond.before, Cond.holds, Cond.value, h1, h2, h3, h4, g1, g2, g3, g4, g5, g6]
def isCode : Jvm.Cond → Bool
  | .code _ _ _ _ => true
  | _ => false
theorem all_split {L : List Jvm.Cond} {P : Jvm.Cond → Bool} (h1 : L.all (fun c => isCode c || P c) = true) (h2 : ∀ c ∈ L.filter isCode, P c = true) : L.all P = true := by
  refine List.all_eq_true.mpr fun c hc => ?_
  have h := List.all_eq_true.mp h1 c hc
  rcases Bool.eq_false_or_eq_true (isCode c) with hi | hi
  · exact h2 c (List.mem_filter.mpr ⟨hc, hi⟩)
  · simpa [hi] using h
set_option maxRecDepth 65536 in
theorem w_c0 : (Jvm.Cond.code x code maxLocals ret).before args0 about1 = true := code_word (m := ⟨1, 3⟩) (meth := k1m3) (c := k1c3) (by decide +kernel) rfl rfl rfl (by decide +kernel)
set_option maxRecDepth 65536 in
theorem w_c1 : (Jvm.Cond.code ({ cls := "com/example/hinagata/hinagata/RefusedExceptionToOutcomePinLaw", name := "pick", desc := "(I)Lcom/example/hinagata/hinagata/ErrorClass;" } : Jvm.MethodName) method_2_code (1 : Nat) (Option.some (Jvm.ClassFile.FieldType.object "com/example/hinagata/hinagata/ErrorClass"))).before args0 about1 = true := code_word (m := ⟨1, 1⟩) (meth := k1m1) (c := k1c1) (by decide +kernel) rfl rfl rfl (by decide +kernel)
set_option maxRecDepth 65536 in
theorem w_c2 : (Jvm.Cond.code ({ cls := "com/example/hinagata/hinagata/RefusedExceptionToOutcomePinLaw", name := "text", desc := "(I)Ljava/lang/String;" } : Jvm.MethodName) method_3_code (5 : Nat) (Option.some (Jvm.ClassFile.FieldType.object "java/lang/String"))).before args0 about1 = true := code_word (m := ⟨1, 2⟩) (meth := k1m2) (c := k1c2) (by decide +kernel) rfl rfl rfl (by decide +kernel)
set_option maxRecDepth 65536 in
theorem w_c3 : (Jvm.Cond.code ({ cls := "java/lang/String", name := "<init>", desc := "([C)V" } : Jvm.MethodName) jdk_42_method_3_code (2 : Nat) (Option.none : Option Jvm.ClassFile.FieldType)).before args0 about1 = true := code_word (m := ⟨9, 1⟩) (meth := k9m1) (c := k9c1) (by decide +kernel) rfl rfl rfl (by decide +kernel)
set_option maxRecDepth 65536 in
theorem w_c4 : (Jvm.Cond.code ({ cls := "java/lang/String", name := "<init>", desc := "([CIILjava/lang/Void;)V" } : Jvm.MethodName) jdk_42_method_149_code (6 : Nat) (Option.none : Option Jvm.ClassFile.FieldType)).before args0 about1 = true := code_word (m := ⟨9, 3⟩) (meth := k9m3) (c := k9c3) (by decide +kernel) rfl rfl rfl (by decide +kernel)
set_option maxRecDepth 65536 in
theorem w_c5 : (Jvm.Cond.code ({ cls := "java/lang/Object", name := "<init>", desc := "()V" } : Jvm.MethodName) object_method_1_code (1 : Nat) (Option.none : Option Jvm.ClassFile.FieldType)).before args0 about1 = true := code_word (m := ⟨0, 0⟩) (meth := k0m0) (c := k0c0) (by decide +kernel) rfl rfl rfl (by decide +kernel)
set_option maxRecDepth 65536 in
theorem w_c6 : (Jvm.Cond.code ({ cls := "com/example/hinagata/hinagata/RefusedException", name := "<init>", desc := "(Lcom/example/hinagata/hinagata/ErrorClass;ILjava/lang/String;)V" } : Jvm.MethodName) prog_16_method_1_code (4 : Nat) (Option.none : Option Jvm.ClassFile.FieldType)).before args0 about1 = true := code_word (m := ⟨14, 0⟩) (meth := k14m0) (c := k14c0) (by decide +kernel) rfl rfl rfl (by decide +kernel)
set_option maxRecDepth 65536 in
theorem w_c7 : (Jvm.Cond.code ({ cls := "java/lang/IllegalArgumentException", name := "<init>", desc := "(Ljava/lang/String;)V" } : Jvm.MethodName) jdk_57_method_2_code (2 : Nat) (Option.none : Option Jvm.ClassFile.FieldType)).before args0 about1 = true := code_word (m := ⟨13, 1⟩) (meth := k13m1) (c := k13c1) (by decide +kernel) rfl rfl rfl (by decide +kernel)
set_option maxRecDepth 65536 in
theorem w_c8 : (Jvm.Cond.code ({ cls := "java/lang/RuntimeException", name := "<init>", desc := "(Ljava/lang/String;)V" } : Jvm.MethodName) jdk_58_method_2_code (2 : Nat) (Option.none : Option Jvm.ClassFile.FieldType)).before args0 about1 = true := code_word (m := ⟨12, 1⟩) (meth := k12m1) (c := k12c1) (by decide +kernel) rfl rfl rfl (by decide +kernel)
set_option maxRecDepth 65536 in
theorem w_c9 : (Jvm.Cond.code ({ cls := "java/lang/Exception", name := "<init>", desc := "(Ljava/lang/String;)V" } : Jvm.MethodName) jdk_59_method_2_code (2 : Nat) (Option.none : Option Jvm.ClassFile.FieldType)).before args0 about1 = true := code_word (m := ⟨11, 1⟩) (meth := k11m1) (c := k11c1) (by decide +kernel) rfl rfl rfl (by decide +kernel)
set_option maxRecDepth 65536 in
theorem w_c10 : (Jvm.Cond.code ({ cls := "java/lang/Throwable", name := "<init>", desc := "(Ljava/lang/String;)V" } : Jvm.MethodName) jdk_78_method_2_code (2 : Nat) (Option.none : Option Jvm.ClassFile.FieldType)).before args0 about1 = true := code_word (m := ⟨10, 1⟩) (meth := k10m1) (c := k10c1) (by decide +kernel) rfl rfl rfl (by decide +kernel)
set_option maxRecDepth 65536 in
theorem w_c11 : (Jvm.Cond.code ({ cls := "java/lang/Throwable", name := "<init>", desc := "()V" } : Jvm.MethodName) jdk_78_method_1_code (1 : Nat) (Option.none : Option Jvm.ClassFile.FieldType)).before args0 about1 = true := code_word (m := ⟨10, 0⟩) (meth := k10m0) (c := k10c0) (by decide +kernel) rfl rfl rfl (by decide +kernel)
set_option maxRecDepth 65536 in
theorem w_c12 : (Jvm.Cond.code ({ cls := "com/example/hinagata/hinagata/RefusedException", name := "toOutcome", desc := "()Lcom/example/hinagata/hinagata/Outcome;" } : Jvm.MethodName) prog_16_method_3_code (2 : Nat) (Option.some (Jvm.ClassFile.FieldType.object "com/example/hinagata/hinagata/Outcome"))).before args0 about1 = true := code_word (m := ⟨14, 1⟩) (meth := k14m1) (c := k14c1) (by decide +kernel) rfl rfl rfl (by decide +kernel)
set_option maxRecDepth 65536 in
theorem w_c13 : (Jvm.Cond.code ({ cls := "java/util/OptionalInt", name := "of", desc := "(I)Ljava/util/OptionalInt;" } : Jvm.MethodName) jdk_2649_method_4_code (1 : Nat) (Option.some (Jvm.ClassFile.FieldType.object "java/util/OptionalInt"))).before args0 about1 = true := code_word (m := ⟨15, 3⟩) (meth := k15m3) (c := k15c3) (by decide +kernel) rfl rfl rfl (by decide +kernel)
set_option maxRecDepth 65536 in
theorem w_c14 : (Jvm.Cond.code ({ cls := "java/util/OptionalInt", name := "<init>", desc := "(I)V" } : Jvm.MethodName) jdk_2649_method_3_code (2 : Nat) (Option.none : Option Jvm.ClassFile.FieldType)).before args0 about1 = true := code_word (m := ⟨15, 2⟩) (meth := k15m2) (c := k15c2) (by decide +kernel) rfl rfl rfl (by decide +kernel)
set_option maxRecDepth 65536 in
theorem w_c15 : (Jvm.Cond.code ({ cls := "java/lang/Throwable", name := "getMessage", desc := "()Ljava/lang/String;" } : Jvm.MethodName) jdk_78_method_6_code (1 : Nat) (Option.some (Jvm.ClassFile.FieldType.object "java/lang/String"))).before args0 about1 = true := code_word (m := ⟨10, 2⟩) (meth := k10m2) (c := k10c2) (by decide +kernel) rfl rfl rfl (by decide +kernel)
set_option maxRecDepth 65536 in
theorem w_c16 : (Jvm.Cond.code ({ cls := "com/example/hinagata/hinagata/Refusal", name := "<init>", desc := "(Lcom/example/hinagata/hinagata/ErrorClass;Ljava/util/OptionalInt;Ljava/lang/String;)V" } : Jvm.MethodName) prog_15_method_1_code (4 : Nat) (Option.none : Option Jvm.ClassFile.FieldType)).before args0 about1 = true := code_word (m := ⟨17, 0⟩) (meth := k17m0) (c := k17c0) (by decide +kernel) rfl rfl rfl (by decide +kernel)
set_option maxRecDepth 65536 in
theorem w_c17 : (Jvm.Cond.code ({ cls := "java/lang/Record", name := "<init>", desc := "()V" } : Jvm.MethodName) jdk_30_method_1_code (1 : Nat) (Option.none : Option Jvm.ClassFile.FieldType)).before args0 about1 = true := code_word (m := ⟨16, 0⟩) (meth := k16m0) (c := k16c0) (by decide +kernel) rfl rfl rfl (by decide +kernel)
set_option maxRecDepth 65536 in
theorem w_c18 : (Jvm.Cond.code ({ cls := "java/util/Objects", name := "requireNonNull", desc := "(Ljava/lang/Object;)Ljava/lang/Object;" } : Jvm.MethodName) jdk_31_method_10_code (1 : Nat) (Option.some (Jvm.ClassFile.FieldType.object "java/lang/Object"))).before args0 about1 = true := code_word (m := ⟨18, 1⟩) (meth := k18m1) (c := k18c1) (by decide +kernel) rfl rfl rfl (by decide +kernel)
set_option maxRecDepth 65536 in
theorem w_c19 : (Jvm.Cond.code ({ cls := "com/example/hinagata/hinagata/Outcome", name := "refused", desc := "(Lcom/example/hinagata/hinagata/Refusal;)Lcom/example/hinagata/hinagata/Outcome;" } : Jvm.MethodName) prog_14_method_3_code (1 : Nat) (Option.some (Jvm.ClassFile.FieldType.object "com/example/hinagata/hinagata/Outcome"))).before args0 about1 = true := code_word (m := ⟨19, 1⟩) (meth := k19m1) (c := k19c1) (by decide +kernel) rfl rfl rfl (by decide +kernel)
set_option maxRecDepth 65536 in
theorem w_c20 : (Jvm.Cond.code ({ cls := "com/example/hinagata/hinagata/Outcome", name := "<init>", desc := "(Ljava/lang/Object;Lcom/example/hinagata/hinagata/Refusal;)V" } : Jvm.MethodName) prog_14_method_1_code (3 : Nat) (Option.none : Option Jvm.ClassFile.FieldType)).before args0 about1 = true := code_word (m := ⟨19, 0⟩) (meth := k19m0) (c := k19c0) (by decide +kernel) rfl rfl rfl (by decide +kernel)
set_option maxRecDepth 65536 in
theorem w_c21 : (Jvm.Cond.code ({ cls := "com/example/hinagata/hinagata/Outcome", name := "isDone", desc := "()Z" } : Jvm.MethodName) prog_14_method_4_code (1 : Nat) (Option.some Jvm.ClassFile.FieldType.boolean)).before args0 about1 = true := code_word (m := ⟨19, 2⟩) (meth := k19m2) (c := k19c2) (by decide +kernel) rfl rfl rfl (by decide +kernel)
set_option maxRecDepth 65536 in
theorem w_c22 : (Jvm.Cond.code ({ cls := "com/example/hinagata/hinagata/Outcome", name := "refusal", desc := "()Ljava/util/Optional;" } : Jvm.MethodName) prog_14_method_6_code (1 : Nat) (Option.some (Jvm.ClassFile.FieldType.object "java/util/Optional"))).before args0 about1 = true := code_word (m := ⟨19, 3⟩) (meth := k19m3) (c := k19c3) (by decide +kernel) rfl rfl rfl (by decide +kernel)
set_option maxRecDepth 65536 in
theorem w_c23 : (Jvm.Cond.code ({ cls := "java/util/Optional", name := "ofNullable", desc := "(Ljava/lang/Object;)Ljava/util/Optional;" } : Jvm.MethodName) jdk_32_method_4_code (1 : Nat) (Option.some (Jvm.ClassFile.FieldType.object "java/util/Optional"))).before args0 about1 = true := code_word (m := ⟨20, 1⟩) (meth := k20m1) (c := k20c1) (by decide +kernel) rfl rfl rfl (by decide +kernel)
set_option maxRecDepth 65536 in
theorem w_c24 : (Jvm.Cond.code ({ cls := "java/util/Optional", name := "<init>", desc := "(Ljava/lang/Object;)V" } : Jvm.MethodName) jdk_32_method_2_code (2 : Nat) (Option.none : Option Jvm.ClassFile.FieldType)).before args0 about1 = true := code_word (m := ⟨20, 0⟩) (meth := k20m0) (c := k20c0) (by decide +kernel) rfl rfl rfl (by decide +kernel)
set_option maxRecDepth 65536 in
theorem w_c25 : (Jvm.Cond.code ({ cls := "java/util/Optional", name := "isPresent", desc := "()Z" } : Jvm.MethodName) jdk_32_method_6_code (1 : Nat) (Option.some Jvm.ClassFile.FieldType.boolean)).before args0 about1 = true := code_word (m := ⟨20, 3⟩) (meth := k20m3) (c := k20c3) (by decide +kernel) rfl rfl rfl (by decide +kernel)
set_option maxRecDepth 65536 in
theorem w_c26 : (Jvm.Cond.code ({ cls := "java/util/Optional", name := "get", desc := "()Ljava/lang/Object;" } : Jvm.MethodName) jdk_32_method_5_code (1 : Nat) (Option.some (Jvm.ClassFile.FieldType.object "java/lang/Object"))).before args0 about1 = true := code_word (m := ⟨20, 2⟩) (meth := k20m2) (c := k20c2) (by decide +kernel) rfl rfl rfl (by decide +kernel)
set_option maxRecDepth 65536 in
theorem w_c27 : (Jvm.Cond.code ({ cls := "com/example/hinagata/hinagata/Refusal", name := "errorClass", desc := "()Lcom/example/hinagata/hinagata/ErrorClass;" } : Jvm.MethodName) prog_15_method_5_code (1 : Nat) (Option.some (Jvm.ClassFile.FieldType.object "com/example/hinagata/hinagata/ErrorClass"))).before args0 about1 = true := code_word (m := ⟨17, 1⟩) (meth := k17m1) (c := k17c1) (by decide +kernel) rfl rfl rfl (by decide +kernel)
set_option maxRecDepth 65536 in
theorem w_c28 : (Jvm.Cond.code ({ cls := "com/example/hinagata/hinagata/Refusal", name := "reason", desc := "()Ljava/lang/String;" } : Jvm.MethodName) prog_15_method_7_code (1 : Nat) (Option.some (Jvm.ClassFile.FieldType.object "java/lang/String"))).before args0 about1 = true := code_word (m := ⟨17, 3⟩) (meth := k17m3) (c := k17c3) (by decide +kernel) rfl rfl rfl (by decide +kernel)
set_option maxRecDepth 65536 in
theorem w_c29 : (Jvm.Cond.code ({ cls := "java/lang/String", name := "equals", desc := "(Ljava/lang/Object;)Z" } : Jvm.MethodName) jdk_42_method_66_code (3 : Nat) (Option.some Jvm.ClassFile.FieldType.boolean)).before args0 about1 = true := code_word (m := ⟨9, 2⟩) (meth := k9m2) (c := k9c2) (by decide +kernel) rfl rfl rfl (by decide +kernel)
set_option maxRecDepth 65536 in
theorem w_c30 : (Jvm.Cond.code ({ cls := "com/example/hinagata/hinagata/Refusal", name := "operation", desc := "()Ljava/util/OptionalInt;" } : Jvm.MethodName) prog_15_method_6_code (1 : Nat) (Option.some (Jvm.ClassFile.FieldType.object "java/util/OptionalInt"))).before args0 about1 = true := code_word (m := ⟨17, 2⟩) (meth := k17m2) (c := k17c2) (by decide +kernel) rfl rfl rfl (by decide +kernel)
set_option maxRecDepth 65536 in
theorem w_c31 : (Jvm.Cond.code ({ cls := "java/util/OptionalInt", name := "isPresent", desc := "()Z" } : Jvm.MethodName) jdk_2649_method_6_code (1 : Nat) (Option.some Jvm.ClassFile.FieldType.boolean)).before args0 about1 = true := code_word (m := ⟨15, 5⟩) (meth := k15m5) (c := k15c5) (by decide +kernel) rfl rfl rfl (by decide +kernel)
set_option maxRecDepth 65536 in
theorem w_c32 : (Jvm.Cond.code ({ cls := "java/util/OptionalInt", name := "getAsInt", desc := "()I" } : Jvm.MethodName) jdk_2649_method_5_code (1 : Nat) (Option.some Jvm.ClassFile.FieldType.int)).before args0 about1 = true := code_word (m := ⟨15, 4⟩) (meth := k15m4) (c := k15c4) (by decide +kernel) rfl rfl rfl (by decide +kernel)
set_option maxRecDepth 65536 in
theorem w_c33 : (Jvm.Cond.code ({ cls := "java/util/OptionalInt", name := "empty", desc := "()Ljava/util/OptionalInt;" } : Jvm.MethodName) jdk_2649_method_2_code (0 : Nat) (Option.some (Jvm.ClassFile.FieldType.object "java/util/OptionalInt"))).before args0 about1 = true := code_word (m := ⟨15, 1⟩) (meth := k15m1) (c := k15c1) (by decide +kernel) rfl rfl rfl (by decide +kernel)
set_option maxRecDepth 65536 in
theorem w_c34 : (Jvm.Cond.code ({ cls := "java/lang/StringUTF16", name := "compress", desc := "([CII)[B" } : Jvm.MethodName) jdk_52_method_16_code (6 : Nat) (Option.some (Jvm.ClassFile.FieldType.array Jvm.ClassFile.FieldType.byte))).before args0 about1 = true := code_word (m := ⟨21, 2⟩) (meth := k21m2) (c := k21c2) (by decide +kernel) rfl rfl rfl (by decide +kernel)
set_option maxRecDepth 65536 in
theorem w_c35 : (Jvm.Cond.code ({ cls := "java/lang/StringUTF16", name := "compress", desc := "([CI[BII)I" } : Jvm.MethodName) jdk_52_method_21_code (7 : Nat) (Option.some Jvm.ClassFile.FieldType.int)).before args0 about1 = true := code_word (m := ⟨21, 3⟩) (meth := k21m3) (c := k21c3) (by decide +kernel) rfl rfl rfl (by decide +kernel)
set_option maxRecDepth 65536 in
theorem w_c36 : (Jvm.Cond.code ({ cls := "java/lang/StringUTF16", name := "coderFromArrayLen", desc := "([BI)B" } : Jvm.MethodName) jdk_52_method_15_code (2 : Nat) (Option.some Jvm.ClassFile.FieldType.byte)).before args0 about1 = true := code_word (m := ⟨21, 1⟩) (meth := k21m1) (c := k21c1) (by decide +kernel) rfl rfl rfl (by decide +kernel)
def codes1 : List Jvm.Cond := [Jvm.Cond.code x code maxLocals ret, Jvm.Cond.code ({ cls := "com/example/hinagata/hinagata/RefusedExceptionToOutcomePinLaw", name := "pick", desc := "(I)Lcom/example/hinagata/hinagata/ErrorClass;" } : Jvm.MethodName) method_2_code (1 : Nat) (Option.some (Jvm.ClassFile.FieldType.object "com/example/hinagata/hinagata/ErrorClass")), Jvm.Cond.code ({ cls := "com/example/hinagata/hinagata/RefusedExceptionToOutcomePinLaw", name := "text", desc := "(I)Ljava/lang/String;" } : Jvm.MethodName) method_3_code (5 : Nat) (Option.some (Jvm.ClassFile.FieldType.object "java/lang/String")), Jvm.Cond.code ({ cls := "java/lang/String", name := "<init>", desc := "([C)V" } : Jvm.MethodName) jdk_42_method_3_code (2 : Nat) (Option.none : Option Jvm.ClassFile.FieldType), Jvm.Cond.code ({ cls := "java/lang/String", name := "<init>", desc := "([CIILjava/lang/Void;)V" } : Jvm.MethodName) jdk_42_method_149_code (6 : Nat) (Option.none : Option Jvm.ClassFile.FieldType), Jvm.Cond.code ({ cls := "java/lang/Object", name := "<init>", desc := "()V" } : Jvm.MethodName) object_method_1_code (1 : Nat) (Option.none : Option Jvm.ClassFile.FieldType), Jvm.Cond.code ({ cls := "com/example/hinagata/hinagata/RefusedException", name := "<init>", desc := "(Lcom/example/hinagata/hinagata/ErrorClass;ILjava/lang/String;)V" } : Jvm.MethodName) prog_16_method_1_code (4 : Nat) (Option.none : Option Jvm.ClassFile.FieldType), Jvm.Cond.code ({ cls := "java/lang/IllegalArgumentException", name := "<init>", desc := "(Ljava/lang/String;)V" } : Jvm.MethodName) jdk_57_method_2_code (2 : Nat) (Option.none : Option Jvm.ClassFile.FieldType), Jvm.Cond.code ({ cls := "java/lang/RuntimeException", name := "<init>", desc := "(Ljava/lang/String;)V" } : Jvm.MethodName) jdk_58_method_2_code (2 : Nat) (Option.none : Option Jvm.ClassFile.FieldType), Jvm.Cond.code ({ cls := "java/lang/Exception", name := "<init>", desc := "(Ljava/lang/String;)V" } : Jvm.MethodName) jdk_59_method_2_code (2 : Nat) (Option.none : Option Jvm.ClassFile.FieldType), Jvm.Cond.code ({ cls := "java/lang/Throwable", name := "<init>", desc := "(Ljava/lang/String;)V" } : Jvm.MethodName) jdk_78_method_2_code (2 : Nat) (Option.none : Option Jvm.ClassFile.FieldType), Jvm.Cond.code ({ cls := "java/lang/Throwable", name := "<init>", desc := "()V" } : Jvm.MethodName) jdk_78_method_1_code (1 : Nat) (Option.none : Option Jvm.ClassFile.FieldType), Jvm.Cond.code ({ cls := "com/example/hinagata/hinagata/RefusedException", name := "toOutcome", desc := "()Lcom/example/hinagata/hinagata/Outcome;" } : Jvm.MethodName) prog_16_method_3_code (2 : Nat) (Option.some (Jvm.ClassFile.FieldType.object "com/example/hinagata/hinagata/Outcome")), Jvm.Cond.code ({ cls := "java/util/OptionalInt", name := "of", desc := "(I)Ljava/util/OptionalInt;" } : Jvm.MethodName) jdk_2649_method_4_code (1 : Nat) (Option.some (Jvm.ClassFile.FieldType.object "java/util/OptionalInt")), Jvm.Cond.code ({ cls := "java/util/OptionalInt", name := "<init>", desc := "(I)V" } : Jvm.MethodName) jdk_2649_method_3_code (2 : Nat) (Option.none : Option Jvm.ClassFile.FieldType), Jvm.Cond.code ({ cls := "java/lang/Throwable", name := "getMessage", desc := "()Ljava/lang/String;" } : Jvm.MethodName) jdk_78_method_6_code (1 : Nat) (Option.some (Jvm.ClassFile.FieldType.object "java/lang/String")), Jvm.Cond.code ({ cls := "com/example/hinagata/hinagata/Refusal", name := "<init>", desc := "(Lcom/example/hinagata/hinagata/ErrorClass;Ljava/util/OptionalInt;Ljava/lang/String;)V" } : Jvm.MethodName) prog_15_method_1_code (4 : Nat) (Option.none : Option Jvm.ClassFile.FieldType), Jvm.Cond.code ({ cls := "java/lang/Record", name := "<init>", desc := "()V" } : Jvm.MethodName) jdk_30_method_1_code (1 : Nat) (Option.none : Option Jvm.ClassFile.FieldType), Jvm.Cond.code ({ cls := "java/util/Objects", name := "requireNonNull", desc := "(Ljava/lang/Object;)Ljava/lang/Object;" } : Jvm.MethodName) jdk_31_method_10_code (1 : Nat) (Option.some (Jvm.ClassFile.FieldType.object "java/lang/Object")), Jvm.Cond.code ({ cls := "com/example/hinagata/hinagata/Outcome", name := "refused", desc := "(Lcom/example/hinagata/hinagata/Refusal;)Lcom/example/hinagata/hinagata/Outcome;" } : Jvm.MethodName) prog_14_method_3_code (1 : Nat) (Option.some (Jvm.ClassFile.FieldType.object "com/example/hinagata/hinagata/Outcome")), Jvm.Cond.code ({ cls := "com/example/hinagata/hinagata/Outcome", name := "<init>", desc := "(Ljava/lang/Object;Lcom/example/hinagata/hinagata/Refusal;)V" } : Jvm.MethodName) prog_14_method_1_code (3 : Nat) (Option.none : Option Jvm.ClassFile.FieldType), Jvm.Cond.code ({ cls := "com/example/hinagata/hinagata/Outcome", name := "isDone", desc := "()Z" } : Jvm.MethodName) prog_14_method_4_code (1 : Nat) (Option.some Jvm.ClassFile.FieldType.boolean), Jvm.Cond.code ({ cls := "com/example/hinagata/hinagata/Outcome", name := "refusal", desc := "()Ljava/util/Optional;" } : Jvm.MethodName) prog_14_method_6_code (1 : Nat) (Option.some (Jvm.ClassFile.FieldType.object "java/util/Optional")), Jvm.Cond.code ({ cls := "java/util/Optional", name := "ofNullable", desc := "(Ljava/lang/Object;)Ljava/util/Optional;" } : Jvm.MethodName) jdk_32_method_4_code (1 : Nat) (Option.some (Jvm.ClassFile.FieldType.object "java/util/Optional")), Jvm.Cond.code ({ cls := "java/util/Optional", name := "<init>", desc := "(Ljava/lang/Object;)V" } : Jvm.MethodName) jdk_32_method_2_code (2 : Nat) (Option.none : Option Jvm.ClassFile.FieldType), Jvm.Cond.code ({ cls := "java/util/Optional", name := "isPresent", desc := "()Z" } : Jvm.MethodName) jdk_32_method_6_code (1 : Nat) (Option.some Jvm.ClassFile.FieldType.boolean), Jvm.Cond.code ({ cls := "java/util/Optional", name := "get", desc := "()Ljava/lang/Object;" } : Jvm.MethodName) jdk_32_method_5_code (1 : Nat) (Option.some (Jvm.ClassFile.FieldType.object "java/lang/Object")), Jvm.Cond.code ({ cls := "com/example/hinagata/hinagata/Refusal", name := "errorClass", desc := "()Lcom/example/hinagata/hinagata/ErrorClass;" } : Jvm.MethodName) prog_15_method_5_code (1 : Nat) (Option.some (Jvm.ClassFile.FieldType.object "com/example/hinagata/hinagata/ErrorClass")), Jvm.Cond.code ({ cls := "com/example/hinagata/hinagata/Refusal", name := "reason", desc := "()Ljava/lang/String;" } : Jvm.MethodName) prog_15_method_7_code (1 : Nat) (Option.some (Jvm.ClassFile.FieldType.object "java/lang/String")), Jvm.Cond.code ({ cls := "java/lang/String", name := "equals", desc := "(Ljava/lang/Object;)Z" } : Jvm.MethodName) jdk_42_method_66_code (3 : Nat) (Option.some Jvm.ClassFile.FieldType.boolean), Jvm.Cond.code ({ cls := "com/example/hinagata/hinagata/Refusal", name := "operation", desc := "()Ljava/util/OptionalInt;" } : Jvm.MethodName) prog_15_method_6_code (1 : Nat) (Option.some (Jvm.ClassFile.FieldType.object "java/util/OptionalInt")), Jvm.Cond.code ({ cls := "java/util/OptionalInt", name := "isPresent", desc := "()Z" } : Jvm.MethodName) jdk_2649_method_6_code (1 : Nat) (Option.some Jvm.ClassFile.FieldType.boolean), Jvm.Cond.code ({ cls := "java/util/OptionalInt", name := "getAsInt", desc := "()I" } : Jvm.MethodName) jdk_2649_method_5_code (1 : Nat) (Option.some Jvm.ClassFile.FieldType.int), Jvm.Cond.code ({ cls := "java/util/OptionalInt", name := "empty", desc := "()Ljava/util/OptionalInt;" } : Jvm.MethodName) jdk_2649_method_2_code (0 : Nat) (Option.some (Jvm.ClassFile.FieldType.object "java/util/OptionalInt")), Jvm.Cond.code ({ cls := "java/lang/StringUTF16", name := "compress", desc := "([CII)[B" } : Jvm.MethodName) jdk_52_method_16_code (6 : Nat) (Option.some (Jvm.ClassFile.FieldType.array Jvm.ClassFile.FieldType.byte)), Jvm.Cond.code ({ cls := "java/lang/StringUTF16", name := "compress", desc := "([CI[BII)I" } : Jvm.MethodName) jdk_52_method_21_code (7 : Nat) (Option.some Jvm.ClassFile.FieldType.int), Jvm.Cond.code ({ cls := "java/lang/StringUTF16", name := "coderFromArrayLen", desc := "([BI)B" } : Jvm.MethodName) jdk_52_method_15_code (2 : Nat) (Option.some Jvm.ClassFile.FieldType.byte)]
set_option maxRecDepth 65536 in
theorem codes_eq : words1.filter isCode = codes1 := rfl
theorem w_codes : ∀ c ∈ words1.filter isCode, c.before args0 about1 = true := by
  rw [codes_eq]
  intro c hc
  simp only [codes1, List.mem_cons, List.not_mem_nil, or_false] at hc
  rcases hc with rfl | rfl | rfl | rfl | rfl | rfl | rfl | rfl | rfl | rfl | rfl | rfl | rfl | rfl | rfl | rfl | rfl | rfl | rfl | rfl | rfl | rfl | rfl | rfl | rfl | rfl | rfl | rfl | rfl | rfl | rfl | rfl | rfl | rfl | rfl | rfl | rfl
  · exact w_c0
  · exact w_c1
  · exact w_c2
  · exact w_c3
  · exact w_c4
  · exact w_c5
  · exact w_c6
  · exact w_c7
  · exact w_c8
  · exact w_c9
  · exact w_c10
  · exact w_c11
  · exact w_c12
  · exact w_c13
  · exact w_c14
  · exact w_c15
  · exact w_c16
  · exact w_c17
  · exact w_c18
  · exact w_c19
  · exact w_c20
  · exact w_c21
  · exact w_c22
  · exact w_c23
  · exact w_c24
  · exact w_c25
  · exact w_c26
  · exact w_c27
  · exact w_c28
  · exact w_c29
  · exact w_c30
  · exact w_c31
  · exact w_c32
  · exact w_c33
  · exact w_c34
  · exact w_c35
  · exact w_c36
set_option maxRecDepth 65536 in
theorem w_t1 : (words1.take 24).all (fun c => isCode c || c.before args0 about1) = true := by decide +kernel
set_option maxRecDepth 65536 in
theorem w_t2 : ((words1.drop 24).take 24).all (fun c => isCode c || c.before args0 about1) = true := by decide +kernel
set_option maxRecDepth 65536 in
theorem w_t3 : (((words1.drop 24).drop 24).take 24).all (fun c => isCode c || c.before args0 about1) = true := by decide +kernel
set_option maxRecDepth 65536 in
theorem w_t4 : ((((words1.drop 24).drop 24).drop 24).take 24).all (fun c => isCode c || c.before args0 about1) = true := by decide +kernel
set_option maxRecDepth 65536 in
theorem w_t5 : (((((words1.drop 24).drop 24).drop 24).drop 24).take 24).all (fun c => isCode c || c.before args0 about1) = true := by decide +kernel
set_option maxRecDepth 65536 in
theorem w_t6 : ((((((words1.drop 24).drop 24).drop 24).drop 24).drop 24).take 24).all (fun c => isCode c || c.before args0 about1) = true := by decide +kernel
set_option maxRecDepth 65536 in
theorem w_t7 : (((((((words1.drop 24).drop 24).drop 24).drop 24).drop 24).drop 24).take 24).all (fun c => isCode c || c.before args0 about1) = true := by decide +kernel
set_option maxRecDepth 65536 in
theorem w_t8 : ((((((((words1.drop 24).drop 24).drop 24).drop 24).drop 24).drop 24).drop 24).take 24).all (fun c => isCode c || c.before args0 about1) = true := by decide +kernel
set_option maxRecDepth 65536 in
theorem w_t9 : (((((((((words1.drop 24).drop 24).drop 24).drop 24).drop 24).drop 24).drop 24).drop 24).take 24).all (fun c => isCode c || c.before args0 about1) = true := by decide +kernel
set_option maxRecDepth 65536 in
theorem w_t10 : ((((((((((words1.drop 24).drop 24).drop 24).drop 24).drop 24).drop 24).drop 24).drop 24).drop 24).take 24).all (fun c => isCode c || c.before args0 about1) = true := by decide +kernel
set_option maxRecDepth 65536 in
theorem w_t11 : ((((((((((words1.drop 24).drop 24).drop 24).drop 24).drop 24).drop 24).drop 24).drop 24).drop 24).drop 24).all (fun c => isCode c || c.before args0 about1) = true := by decide +kernel
theorem w_tables : (allAtoms (Jvm.Cond.code x code maxLocals ret :: tables_1)).before args0 about1 = true := by
  rw [allAtoms_all]
  show words1.all (fun c => c.before args0 about1) = true
  refine all_split ?_ w_codes
  rw [← List.take_append_drop 24 words1, List.all_append, w_t1, ← List.take_append_drop 24 (words1.drop 24), List.all_append, w_t2, ← List.take_append_drop 24 ((words1.drop 24).drop 24), List.all_append, w_t3, ← List.take_append_drop 24 (((words1.drop 24).drop 24).drop 24), List.all_append, w_t4, ← List.take_append_drop 24 ((((words1.drop 24).drop 24).drop 24).drop 24), List.all_append, w_t5, ← List.take_append_drop 24 (((((words1.drop 24).drop 24).drop 24).drop 24).drop 24), List.all_append, w_t6, ← List.take_append_drop 24 ((((((words1.drop 24).drop 24).drop 24).drop 24).drop 24).drop 24), List.all_append, w_t7, ← List.take_append_drop 24 (((((((words1.drop 24).drop 24).drop 24).drop 24).drop 24).drop 24).drop 24), List.all_append, w_t8, ← List.take_append_drop 24 ((((((((words1.drop 24).drop 24).drop 24).drop 24).drop 24).drop 24).drop 24).drop 24), List.all_append, w_t9, ← List.take_append_drop 24 (((((((((words1.drop 24).drop 24).drop 24).drop 24).drop 24).drop 24).drop 24).drop 24).drop 24), List.all_append, w_t10, w_t11]
  rfl
set_option maxRecDepth 65536 in
theorem w_rest : rest_1_c.before args0 about1 = true := by decide +kernel
set_option maxRecDepth 65536 in
theorem w_case : (Jvm.Cond.and given_1 narrow_1).before args0 about1 = true := by decide +kernel
set_option maxRecDepth 65536 in
theorem w_consts : constsHeld consts_1 about1 := Jvm.Lit.constsHeldB_iff.mp (by decide +kernel)
theorem w_applies : (headSpec (Jvm.Cond.code x code maxLocals ret :: tables_1) room_1).applies x e0.platform about1 = true :=
  (Spec.applies_iff w_frames).mpr ⟨w_running, w_runnable, w_alone, w_named, w_hears, w_ripe, w_room, w_tables⟩
theorem atStart : AtStart classFile x code maxLocals ret World_1 tables_1 room_1 Calls_1 rest_1 Pre_1 launch0 p0 e0 about1 theMethod args0 below0 :=
  ⟨lists_1, trivial, launch0.admits_env _ _ _, launch0.least_env, fairChoices_fair.cas, fairChoices_fair.clock, w_frames, w_args, w_heap, w_applies, ⟨(by decide +kernel : framesKnown about1 = true), ⟨(by decide +kernel : tablesKnown about1 = true), ⟨w_consts, trivial⟩⟩⟩, w_rest, w_case⟩
end start1
theorem witness_1 : WitnessClaimed_1 := ⟨start1.p0, start1.e0, start1.about1, start1.theMethod, start1.args0, start1.below0, start1.atStart⟩
end Jvm.Pilot.@@N@@
