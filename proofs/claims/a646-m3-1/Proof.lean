import JvmDerived
import JvmDerived.Pilot.@@N@@Statement
import JvmDerived.Pilot.@@N@@Code
set_option linter.unusedVariables false
set_option linter.unusedSimpArgs false

/- laws to paste: Road.backV, Road.eqW, Road.empW, Road.codOf, pair_says, shr0 (cut by pick.py; bodies as the Statement names them) -/
namespace Jvm.Pilot.@@N@@
namespace StrChars
open Jvm Sem ClassFile Op Lib Jvm.Stand Jvm.Free.XT Jvm.Free.ALB Jvm.Free.JM Jvm.Free
open Jvm.Lib.Cold (StaticIs)
/-- a char array whose places are chars -/
def Ch (a : Addr) (A : Cell) (U : State) : Prop := Arr .char a A U ∧ Typed .char A
theorem Ch.mv {a : Addr} {A : Cell} {U U' : State} (h : Ch a A U) (hal : U.vm.Alike U'.vm) (hh : U'.heap = U.heap) : Ch a A U' := ⟨h.1.mv hal hh, h.2⟩
theorem Ch.keep {a : Addr} {A : Cell} {U U' : State} (h : Ch a A U) (hal : U.vm.Alike U'.vm) (hk : U'.heap[a]? = some A) : Ch a A U' := ⟨h.1.keep hal hk, h.2⟩
/-- what place i of a char[]'s cell holds -/
def cv (A : Cell) (i : Nat) : Int32 := match A.slots[i]? with | some (.int x) => x | _ => 0
theorem Ch.get {a : Addr} {A : Cell} {U : State} (h : Ch a A U) {i : Nat} (hi : i < A.slots.size) : A.slots[i]? = some (.int (cv A i)) := by
  have e := Array.getElem?_eq_getElem hi
  have f := h.2 i _ e
  unfold cv; rw [e]
  generalize A.slots[i] = v at f
  cases v <;> simp [fits] at f ⊢
/-- the byte that i2b leaves of a char -/
def lo8 (x : Int32) : Int32 := x.toInt8.toInt32
theorem fits_lo8 (y : Int32) : fits .byte (.int (lo8 y)) = true := by
  have h1 := y.toInt8.le_toInt
  have h2 := y.toInt8.toInt_lt
  simp only [lo8, fits, Bool.and_eq_true, decide_eq_true_eq, Int32.le_iff_toInt_le, Int8.toInt_toInt32, show (-128 : Int32).toInt = -128 from by decide, show (127 : Int32).toInt = 127 from by decide]
  omega
/-- A' is A but that each place j of lo .. hi - 1 holds f j -/
def Laid (A A' : Cell) (lo hi : Nat) (f : Nat → Value) : Prop := A'.cls = A.cls ∧ A'.vm = A.vm ∧ A'.slots.size = A.slots.size ∧ ∀ i, A'.slots[i]? = if lo ≤ i ∧ i < hi then some (f i) else A.slots[i]?
theorem Laid.zero (A : Cell) (lo : Nat) (f : Nat → Value) : Laid A A lo (lo + 0) f := ⟨rfl, rfl, rfl, fun i => by rw [if_neg (by omega)]⟩
theorem Laid.step {A Ak : Cell} {lo k : Nat} {f : Nat → Value} {v : Value} (h : Laid A Ak lo k f) (hlo : lo ≤ k) (hk : k < Ak.slots.size) (hv : v = f k) : Laid A (Ak.setSlot k v) lo (k + 1) f := by
  refine ⟨h.1, h.2.1, by simpa [Cell.setSlot] using h.2.2.1, fun i => ?_⟩
  by_cases e : k = i
  · subst e; rw [Cell.slots_setSlot_self v hk, if_pos (by omega), hv]
  · rw [Cell.slots_setSlot_ne v e, h.2.2.2 i]
    by_cases q : lo ≤ i ∧ i < k
    · rw [if_pos q, if_pos (by omega)]
    · rw [if_neg q, if_neg (by omega)]
def U16 : String := "java/lang/StringUTF16"
namespace Cmp5
def yN : MethodName := ⟨"java/lang/StringUTF16", "compress", "([CI[BII)I"⟩
abbrev yB : ByteArray := jdk_52_method_21_code
theorem d0 : decode yB 0 = .ok (.iconst 0, 1) := by decide +kernel
theorem d1 : decode yB 1 = .ok (.istore 5, 2) := by decide +kernel
theorem d3 : decode yB 3 = .ok (.iload 5, 2) := by decide +kernel
theorem d5 : decode yB 5 = .ok (.iload 4, 2) := by decide +kernel
theorem d7 : decode yB 7 = .ok (.if_icmp (.ge) 37, 3) := by decide +kernel
theorem d10 : decode yB 10 = .ok (.aload_n 0, 1) := by decide +kernel
theorem d11 : decode yB 11 = .ok (.iload_n 1, 1) := by decide +kernel
theorem d12 : decode yB 12 = .ok (.caload, 1) := by decide +kernel
theorem d13 : decode yB 13 = .ok (.istore 6, 2) := by decide +kernel
theorem d15 : decode yB 15 = .ok (.iload 6, 2) := by decide +kernel
theorem d17 : decode yB 17 = .ok (.sipush 255, 3) := by decide +kernel
theorem d20 : decode yB 20 = .ok (.if_icmp (.le) 6, 3) := by decide +kernel
theorem d26 : decode yB 26 = .ok (.aload_n 2, 1) := by decide +kernel
theorem d27 : decode yB 27 = .ok (.iload_n 3, 1) := by decide +kernel
theorem d28 : decode yB 28 = .ok (.iload 6, 2) := by decide +kernel
theorem d30 : decode yB 30 = .ok (.i2b, 1) := by decide +kernel
theorem d31 : decode yB 31 = .ok (.bastore, 1) := by decide +kernel
theorem d32 : decode yB 32 = .ok (.iinc 1 1, 3) := by decide +kernel
theorem d35 : decode yB 35 = .ok (.iinc 3 1, 3) := by decide +kernel
theorem d38 : decode yB 38 = .ok (.iinc 5 1, 3) := by decide +kernel
theorem d41 : decode yB 41 = .ok (.goto (-38), 3) := by decide +kernel
theorem d44 : decode yB 44 = .ok (.iload 4, 2) := by decide +kernel
theorem d46 : decode yB 46 = .ok (.ireturn, 1) := by decide +kernel
def site : List Cond := []
def tab : Cond := tabOf yN yB 7 (some .int) site
def P (b : Addr) (A : Cell) (d : Addr) (B : Cell) (o q len : Nat) (args : Array Value) (s : State) : Prop := args = #[.ref b, .int (Int32.ofNat o), .ref d, .int (Int32.ofNat q), .int (Int32.ofNat len)] ∧ Ch b A s ∧ Arr .byte d B s ∧ b ≠ d ∧ o + len ≤ A.slots.size ∧ q + len ≤ B.slots.size ∧ ∀ i, i < len → ¬ 255 < cv A (o + i)
def E (b : Addr) (A : Cell) (d : Addr) (B : Cell) (o q len : Nat) (r : Option Value) (s u : State) : Prop := r = some (.int (Int32.ofNat len)) ∧ ∃ B', Put d B' s u ∧ Laid B B' q (q + len) (fun j => Value.int (lo8 (cv A (o + (j - q)))))
/-- no char of the range above 255: len; the places written hold each char's low byte -/
theorem law (l : Launch) (b : Addr) (A : Cell) (d : Addr) (B : Cell) (o q len : Nat) : Law l yN 5 5 0 0 yB 7 (some .int) site (P b A d B o q len) (E b A d B o q len) (copyLocs d q len) 0 0 := by
  refine Law.of_walk (plainFor_of_name (by decide +kernel)) (by decide +kernel) (by decide +kernel) (by decide) (fun _ _ h => by rw [h.1]; rfl) (fun _ U U' hal hh h => ⟨h.1, h.2.1.mv hal hh, h.2.2.1.mv hal hh, h.2.2.2⟩) (fun r U U' V V' h1 hal h2 h => ⟨h.1, h.2.elim fun B' q => ⟨B', q.1.mv h1 h2, q.2⟩⟩) ?_
  intro p e s m args below meth c s₁ X0 hexec hbytes hml hret hlk hnm hown hh0 W hP
  obtain ⟨rfl, hA, hB, hne, l1, l2, hp⟩ := hP
  have c1 : Steps p.tables e below (s₁.setTop (entryFrame m #[.ref b, .int (Int32.ofNat o), .ref d, .int (Int32.ofNat q), .int (Int32.ofNat len)] 7)) (s₁.setTop (mkF m 0 #[.val (.ref b), .val (.int (Int32.ofNat o)), .val (.ref d), .val (.int (Int32.ofNat q)), .val (.int (Int32.ofNat len)), .unset, .unset] [])) := entry rfl
  have hA0 := hA.1.mv X0.warmed.alike hh0
  have hB0 := hB.mv X0.warmed.alike hh0
  have a31 := hA.1.2.2.2
  have c2 : Steps p.tables e below (s₁.setTop (entryFrame m #[.ref b, .int (Int32.ofNat o), .ref d, .int (Int32.ofNat q), .int (Int32.ofNat len)] 7)) (s₁.setTop (mkF m 3 #[.val (.ref b), .val (.int (Int32.ofNat o)), .val (.ref d), .val (.int (Int32.ofNat q)), .val (.int (Int32.ofNat len)), .val (.int 0), .unset] [])) := c1.trans (by
    refine iconstV X0.here hexec rfl 0 (hb hbytes d0) (by decide) ?_
    refine XS.istore X0.here hexec rfl (hb hbytes d1) rfl rfl ?_
    exact Steps.refl _)
  have loop : ∀ (r i : Nat), i + r = len → ∀ (z : Slot), (z = .unset ∨ ∃ w, z = .val w ∧ w.category = 1) → ∀ (Tl : State) (Bk : Cell), Stand p l e { frames := 0, locals := 0, cells := 0, slots := 0 } s m #[.ref b, .int (Int32.ofNat o), .ref d, .int (Int32.ofNat q), .int (Int32.ofNat len)] below meth c Tl ([] ++ copyLocs d q i) 0 0 → Put d Bk s₁ Tl → Laid B Bk q (q + i) (fun j => Value.int (lo8 (cv A (o + (j - q))))) →
      Steps p.tables e below (s₁.setTop (entryFrame m #[.ref b, .int (Int32.ofNat o), .ref d, .int (Int32.ofNat q), .int (Int32.ofNat len)] 7)) (Tl.setTop (mkF m 3 #[.val (.ref b), .val (.int (Int32.ofNat (o + i))), .val (.ref d), .val (.int (Int32.ofNat (q + i))), .val (.int (Int32.ofNat len)), .val (.int (Int32.ofNat i)), z] [])) → ∃ (T' : State) (B' : Cell) (z' : Slot), Stand p l e { frames := 0, locals := 0, cells := 0, slots := 0 } s m #[.ref b, .int (Int32.ofNat o), .ref d, .int (Int32.ofNat q), .int (Int32.ofNat len)] below meth c T' ([] ++ copyLocs d q len) 0 0 ∧ Put d B' s₁ T' ∧ Laid B B' q (q + len) (fun j => Value.int (lo8 (cv A (o + (j - q))))) ∧
      Steps p.tables e below (s₁.setTop (entryFrame m #[.ref b, .int (Int32.ofNat o), .ref d, .int (Int32.ofNat q), .int (Int32.ofNat len)] 7)) (T'.setTop (mkF m 3 #[.val (.ref b), .val (.int (Int32.ofNat (o + len))), .val (.ref d), .val (.int (Int32.ofNat (q + len))), .val (.int (Int32.ofNat len)), .val (.int (Int32.ofNat len)), z'] [])) := by
    intro r
    induction r with
    | zero =>
      intro i hi z hz Tl Bk Xl pl fl cl
      have hil : i = len := by omega
      rw [hil] at Xl fl cl
      exact ⟨Tl, Bk, z, Xl, pl, fl, cl⟩
    | succ r ih =>
      intro i hi z hz Tl Bk Xl pl fl cl
      have all := X0.warmed.alike.symm.trans Xl.warmed.alike
      have hAl := hA0.keep all (pl.other hne hA0.1)
      have hBk := hB0.like all pl.1 fl.1 fl.2.1 fl.2.2.1
      have hlt : q + i < Bk.slots.size := by rw [fl.2.2.1]; omega
      have c3 : Steps p.tables e below (s₁.setTop (entryFrame m #[.ref b, .int (Int32.ofNat o), .ref d, .int (Int32.ofNat q), .int (Int32.ofNat len)] 7)) (Tl.setTop (mkF m 12 #[.val (.ref b), .val (.int (Int32.ofNat (o + i))), .val (.ref d), .val (.int (Int32.ofNat (q + i))), .val (.int (Int32.ofNat len)), .val (.int (Int32.ofNat i)), z] [.int (Int32.ofNat (o + i)), .ref b])) := cl.trans (by
        refine XS.iload Xl.here hexec rfl (hb hbytes d3) rfl ?_
        refine XS.iload Xl.here hexec rfl (hb hbytes d5) rfl ?_
        refine XS.icmpNo Xl.here hexec rfl (hb hbytes d7) rfl (ii_ge_f (lt32 (by omega) (by omega))) ?_
        refine XS.aloadN Xl.here hexec rfl (hb hbytes d10) rfl rfl ?_
        refine XS.iloadN Xl.here hexec rfl (hb hbytes d11) rfl ?_
        exact Steps.refl _)
      have c4 : Steps p.tables e below (s₁.setTop (entryFrame m #[.ref b, .int (Int32.ofNat o), .ref d, .int (Int32.ofNat q), .int (Int32.ofNat len)] 7)) (Tl.setTop (mkF m 13 #[.val (.ref b), .val (.int (Int32.ofNat (o + i))), .val (.ref d), .val (.int (Int32.ofNat (q + i))), .val (.int (Int32.ofNat len)), .val (.int (Int32.ofNat i)), z] [.int (cv A (o + i))])) := c3.trans (by
        refine Xl.aget hexec hAl rfl (hA.get (i := o + i) (by omega)) rfl rfl (hb hbytes d12) ?_
        exact Steps.refl _)
      have c5 : Steps p.tables e below (s₁.setTop (entryFrame m #[.ref b, .int (Int32.ofNat o), .ref d, .int (Int32.ofNat q), .int (Int32.ofNat len)] 7)) (Tl.setTop (mkF m 15 #[.val (.ref b), .val (.int (Int32.ofNat (o + i))), .val (.ref d), .val (.int (Int32.ofNat (q + i))), .val (.int (Int32.ofNat len)), .val (.int (Int32.ofNat i)), .val (.int (cv A (o + i)))] [])) := c4.trans (by
        refine XS.istoreS Xl.here hexec rfl (hb hbytes d13) rfl rfl hz ?_
        exact Steps.refl _)
      have c6 : Steps p.tables e below (s₁.setTop (entryFrame m #[.ref b, .int (Int32.ofNat o), .ref d, .int (Int32.ofNat q), .int (Int32.ofNat len)] 7)) (Tl.setTop (mkF m 31 #[.val (.ref b), .val (.int (Int32.ofNat (o + i))), .val (.ref d), .val (.int (Int32.ofNat (q + i))), .val (.int (Int32.ofNat len)), .val (.int (Int32.ofNat i)), .val (.int (cv A (o + i)))] [.int (lo8 (cv A (o + i))), .int (Int32.ofNat (q + i)), .ref d])) := c5.trans (by
        refine XS.iload Xl.here hexec rfl (hb hbytes d15) rfl ?_
        refine sipushV Xl.here hexec rfl 255 (hb hbytes d17) (by decide) ?_
        refine XS.icmpYes Xl.here hexec rfl (pc0 := 20) rfl (hb hbytes d20) rfl (ii_le_t (hp i (by omega))) (by decide) rfl ?_
        refine XS.aloadN Xl.here hexec rfl (hb hbytes d26) rfl rfl ?_
        refine XS.iloadN Xl.here hexec rfl (hb hbytes d27) rfl ?_
        refine XS.iload Xl.here hexec rfl (hb hbytes d28) rfl ?_
        refine i2b Xl.here hexec rfl (hb hbytes d30) rfl ?_
        exact Steps.refl _)
      obtain ⟨T7, X7, p7, st7⟩ := Xl.aput hexec hBk rfl hlt rfl (fits_lo8 (cv A (o + i))) (g := (mkF m 31 #[.val (.ref b), .val (.int (Int32.ofNat (o + i))), .val (.ref d), .val (.int (Int32.ofNat (q + i))), .val (.int (Int32.ofNat len)), .val (.int (Int32.ofNat i)), .val (.int (cv A (o + i)))] [.int (lo8 (cv A (o + i))), .int (Int32.ofNat (q + i)), .ref d])) rfl (rest := []) rfl (hb hbytes d31)
      have c8 : Steps p.tables e below (s₁.setTop (entryFrame m #[.ref b, .int (Int32.ofNat o), .ref d, .int (Int32.ofNat q), .int (Int32.ofNat len)] 7)) (T7.setTop (mkF m 32 #[.val (.ref b), .val (.int (Int32.ofNat (o + i))), .val (.ref d), .val (.int (Int32.ofNat (q + i))), .val (.int (Int32.ofNat len)), .val (.int (Int32.ofNat i)), .val (.int (cv A (o + i)))] [])) := c6.trans (st7 _ (Steps.refl _))
      have c9 : Steps p.tables e below (s₁.setTop (entryFrame m #[.ref b, .int (Int32.ofNat o), .ref d, .int (Int32.ofNat q), .int (Int32.ofNat len)] 7)) (T7.setTop (mkF m 3 #[.val (.ref b), .val (.int (Int32.ofNat (o + i) + 1)), .val (.ref d), .val (.int (Int32.ofNat (q + i) + 1)), .val (.int (Int32.ofNat len)), .val (.int (Int32.ofNat i + 1)), .val (.int (cv A (o + i)))] [])) := c8.trans (by
        refine iincV X7.here hexec rfl 1 (hb hbytes d32) (by decide) rfl rfl ?_
        refine iincV X7.here hexec rfl 1 (hb hbytes d35) (by decide) rfl rfl ?_
        refine iincV X7.here hexec rfl 1 (hb hbytes d38) (by decide) rfl rfl ?_
        refine XS.goto X7.here hexec rfl (pc0 := 41) rfl (hb hbytes d41) (by decide) rfl ?_
        exact Steps.refl _)
      have c10 : Steps p.tables e below (s₁.setTop (entryFrame m #[.ref b, .int (Int32.ofNat o), .ref d, .int (Int32.ofNat q), .int (Int32.ofNat len)] 7)) (T7.setTop (mkF m 3 #[.val (.ref b), .val (.int (Int32.ofNat (o + (i + 1)))), .val (.ref d), .val (.int (Int32.ofNat (q + (i + 1)))), .val (.int (Int32.ofNat len)), .val (.int (Int32.ofNat (i + 1))), .val (.int (cv A (o + i)))] [])) := by
        have := c9
        rw [succ32, succ32, succ32] at this
        exact this
      exact ih (i + 1) (by omega) _ (Or.inr ⟨_, rfl, rfl⟩) T7 _ (by rw [copyLocs_step, ← List.append_assoc]; exact X7) (pl.trans p7) (fl.step (by omega) hlt (by simp)) c10
  obtain ⟨T9, B9, z9, X9, p9, f9, g9⟩ := loop len 0 (by omega) .unset (Or.inl rfl) s₁ B (by simpa [copyLocs] using X0) ⟨hB0.1, fun _ _ => rfl, rfl⟩ (Laid.zero _ _ _) c2
  have c11 : Steps p.tables e below (s₁.setTop (entryFrame m #[.ref b, .int (Int32.ofNat o), .ref d, .int (Int32.ofNat q), .int (Int32.ofNat len)] 7)) (T9.setTop (mkF m 46 #[.val (.ref b), .val (.int (Int32.ofNat (o + len))), .val (.ref d), .val (.int (Int32.ofNat (q + len))), .val (.int (Int32.ofNat len)), .val (.int (Int32.ofNat len)), z9] [.int (Int32.ofNat len)])) := g9.trans (by
    refine XS.iload X9.here hexec rfl (hb hbytes d3) rfl ?_
    refine XS.iload X9.here hexec rfl (hb hbytes d5) rfl ?_
    refine XS.icmpYes X9.here hexec rfl (pc0 := 7) rfl (hb hbytes d7) rfl (ii_ge_t (nlt32 (by omega) (Nat.le_refl _))) (by decide) rfl ?_
    refine XS.iload X9.here hexec rfl (hb hbytes d44) rfl ?_
    exact Steps.refl _)
  exact ⟨T9, some (.int (Int32.ofNat len)), _, _, _, X9, by simp, rfl, rfl, (fun h => by cases h), ⟨rfl, B9, p9.from hh0, f9⟩, fun fs hl => c11.trans (X9.ireturnOut hexec hret rfl (Or.inl rfl) (hb hbytes d46) hl)⟩
end Cmp5
namespace Cmp3
def yN : MethodName := ⟨"java/lang/StringUTF16", "compress", "([CII)[B"⟩
abbrev yB : ByteArray := jdk_52_method_16_code
theorem d0 : decode yB 0 = .ok (.iload_n 2, 1) := by decide +kernel
theorem d1 : decode yB 1 = .ok (.newarray .byte, 2) := by decide +kernel
theorem d3 : decode yB 3 = .ok (.astore_n 3, 1) := by decide +kernel
theorem d4 : decode yB 4 = .ok (.aload_n 0, 1) := by decide +kernel
theorem d5 : decode yB 5 = .ok (.iload_n 1, 1) := by decide +kernel
theorem d6 : decode yB 6 = .ok (.aload_n 3, 1) := by decide +kernel
theorem d7 : decode yB 7 = .ok (.iconst 0, 1) := by decide +kernel
theorem d8 : decode yB 8 = .ok (.iload_n 2, 1) := by decide +kernel
theorem d9 : decode yB 9 = .ok (.invokestatic 115, 3) := by decide +kernel
theorem d12 : decode yB 12 = .ok (.istore 4, 2) := by decide +kernel
theorem d14 : decode yB 14 = .ok (.iload 4, 2) := by decide +kernel
theorem d16 : decode yB 16 = .ok (.iload_n 2, 1) := by decide +kernel
theorem d17 : decode yB 17 = .ok (.if_icmp (.eq) 40, 3) := by decide +kernel
theorem d57 : decode yB 57 = .ok (.aload_n 3, 1) := by decide +kernel
theorem d58 : decode yB 58 = .ok (.areturn, 1) := by decide +kernel
def site : List Cond := [.arrayClass .byte, Cmp5.tab] ++ staticW U16 115 Cmp5.yN
def tab : Cond := tabOf yN yB 6 (some (.array .byte)) site
def P (b : Addr) (A : Cell) (o len : Nat) (args : Array Value) (s : State) : Prop := args = #[.ref b, .int (Int32.ofNat o), .int (Int32.ofNat len)] ∧ Ch b A s ∧ o + len ≤ A.slots.size ∧ len ≤ 536870912 ∧ ∀ i, i < len → ¬ 255 < cv A (o + i)
def E (b : Addr) (A : Cell) (o len : Nat) (r : Option Value) (s u : State) : Prop := NewArr .byte "[B" len (fun j => .int (lo8 (cv A (o + j)))) r s u ∧ u.heap.size = s.heap.size + 1
/-- no char of the range above 255: a new byte[] of their low bytes -/
theorem law (l : Launch) (b : Addr) (A : Cell) (o len : Nat) : Law l yN 3 3 1 18 yB 6 (some (.array .byte)) site (P b A o len) (E b A o len) [] 1 len := by
  refine Law.of_walk (plainFor_of_name (by decide +kernel)) (by decide +kernel) (by decide +kernel) (by decide) (fun _ _ h => by rw [h.1]; rfl) (fun _ U U' hal hh h => ⟨h.1, h.2.1.mv hal hh, h.2.2⟩) (fun r U U' V V' h1 hal h2 h => ⟨NewArr.mv r U U' V V' h1 hal h2 h.1, by rw [h1, h2]; exact h.2⟩) ?_
  intro p e s m args below meth c s₁ X0 hexec hbytes hml hret hlk hnm hown hh0 W hP
  obtain ⟨rfl, hA, l1, l2, hp⟩ := hP
  have a31 := hA.1.2.2.2
  have c1 : Steps p.tables e below (s₁.setTop (entryFrame m #[.ref b, .int (Int32.ofNat o), .int (Int32.ofNat len)] 6)) (s₁.setTop (mkF m 0 #[.val (.ref b), .val (.int (Int32.ofNat o)), .val (.int (Int32.ofNat len)), .unset, .unset, .unset] [])) := entry rfl
  have c2 : Steps p.tables e below (s₁.setTop (entryFrame m #[.ref b, .int (Int32.ofNat o), .int (Int32.ofNat len)] 6)) (s₁.setTop (mkF m 1 #[.val (.ref b), .val (.int (Int32.ofNat o)), .val (.int (Int32.ofNat len)), .unset, .unset, .unset] [.int (Int32.ofNat len)])) := c1.trans (by
    refine XS.iloadN X0.here hexec rfl (hb hbytes d0) rfl ?_
    exact Steps.refl _)
  obtain ⟨T3, B3, X3, ba3, bs3, bv3, bh3, bf3, st3⟩ := X0.anew hexec (atype := .byte) (wk W (.arrayClass .byte)) rfl (by show len * 1 ≤ _; omega) (by omega) (g := (mkF m 1 #[.val (.ref b), .val (.int (Int32.ofNat o)), .val (.int (Int32.ofNat len)), .unset, .unset, .unset] [.int (Int32.ofNat len)])) rfl (hb hbytes d1) (rest := []) rfl (Nat.le_refl _) (by show 0 + len ≤ len; omega)
  rw [hh0] at ba3 st3
  have kp3 : XT.Kept s T3 := (XT.Kept.of_eq hh0).push bh3
  have hA3 := hA.keep X3.warmed.alike (kp3 _ _ hA.1.1)
  have hne : b ≠ s.heap.size := hA.1.ne
  have c4 : Steps p.tables e below (s₁.setTop (entryFrame m #[.ref b, .int (Int32.ofNat o), .int (Int32.ofNat len)] 6)) (T3.setTop (mkF m 3 #[.val (.ref b), .val (.int (Int32.ofNat o)), .val (.int (Int32.ofNat len)), .unset, .unset, .unset] [.ref s.heap.size])) := c2.trans (st3 _ (Steps.refl _))
  have c5 : Steps p.tables e below (s₁.setTop (entryFrame m #[.ref b, .int (Int32.ofNat o), .int (Int32.ofNat len)] 6)) (T3.setTop (mkF m 9 #[.val (.ref b), .val (.int (Int32.ofNat o)), .val (.int (Int32.ofNat len)), .val (.ref s.heap.size), .unset, .unset] [.int (Int32.ofNat len), .int 0, .ref s.heap.size, .int (Int32.ofNat o), .ref b])) := c4.trans (by
    refine XS.astoreN X3.here hexec rfl (hb hbytes d3) rfl rfl rfl ?_
    refine XS.aloadN X3.here hexec rfl (hb hbytes d4) rfl rfl ?_
    refine XS.iloadN X3.here hexec rfl (hb hbytes d5) rfl ?_
    refine XS.aloadN X3.here hexec rfl (hb hbytes d6) rfl rfl ?_
    refine iconstV X3.here hexec rfl 0 (hb hbytes d7) (by decide) ?_
    refine XS.iloadN X3.here hexec rfl (hb hbytes d8) rfl ?_
    exact Steps.refl _)
  obtain ⟨v6, T6, X6, E6, g6⟩ := X3.callS hexec (Cmp5.law l b A s.heap.size B3 o 0 len) hown (wks W (staticW U16 115 Cmp5.yN)) (wk W Cmp5.tab) (W := 0) (Nat.le_of_ble_eq_true rfl) (Nat.le_of_ble_eq_true rfl) (Nat.le_refl _) (by show 0 + len + 0 ≤ len; omega) (g := (mkF m 9 #[.val (.ref b), .val (.int (Int32.ofNat o)), .val (.int (Int32.ofNat len)), .val (.ref s.heap.size), .unset, .unset] [.int (Int32.ofNat len), .int (Int32.ofNat 0), .ref s.heap.size, .int (Int32.ofNat o), .ref b])) rfl (by rw [hml]; rfl) c5 (argsL := [.ref b, .int (Int32.ofNat o), .ref s.heap.size, .int (Int32.ofNat 0), .int (Int32.ofNat len)]) (rest := []) rfl rfl (by show 2 * 0 + 0 ≤ _; decide) (hb hbytes d9) (⟨rfl, hA3, ba3, hne, l1, by rw [bs3]; simp, hp⟩)
  obtain ⟨rfl, B6, p6, f6⟩ := E6
  have c7 : Steps p.tables e below (s₁.setTop (entryFrame m #[.ref b, .int (Int32.ofNat o), .int (Int32.ofNat len)] 6)) (T6.setTop (mkF m 12 #[.val (.ref b), .val (.int (Int32.ofNat o)), .val (.int (Int32.ofNat len)), .val (.ref s.heap.size), .unset, .unset] [.int (Int32.ofNat len)])) := g6
  have c8 : Steps p.tables e below (s₁.setTop (entryFrame m #[.ref b, .int (Int32.ofNat o), .int (Int32.ofNat len)] 6)) (T6.setTop (mkF m 58 #[.val (.ref b), .val (.int (Int32.ofNat o)), .val (.int (Int32.ofNat len)), .val (.ref s.heap.size), .val (.int (Int32.ofNat len)), .unset] [.ref s.heap.size])) := c7.trans (by
    refine XS.istore X6.here hexec rfl (hb hbytes d12) rfl rfl ?_
    refine XS.iload X6.here hexec rfl (hb hbytes d14) rfl ?_
    refine XS.iloadN X6.here hexec rfl (hb hbytes d16) rfl ?_
    refine XS.icmpYes X6.here hexec rfl (pc0 := 17) rfl (hb hbytes d17) rfl (ii_eq_t rfl) (by decide) rfl ?_
    refine XS.aloadN X6.here hexec rfl (hb hbytes d57) rfl rfl ?_
    exact Steps.refl _)
  have X8 := X6.wide (L' := []) (cells' := 1) (slots' := len) (fun x hx hlt => by
    simp only [List.nil_append, copyLocs, List.mem_map, List.mem_range] at hx
    obtain ⟨i, -, rfl⟩ := hx
    exact absurd hlt (Nat.lt_irrefl _)) (Nat.le_refl _) (by omega)
  exact ⟨T6, some (.ref s.heap.size), _, _, _, X8, rfl, rfl, rfl, (fun h => by cases h), ⟨⟨rfl, B6, ba3.like (X3.warmed.alike.symm.trans X6.warmed.alike) p6.1 f6.1 f6.2.1 f6.2.2.1, f6.2.1.trans bv3, by rw [X6.warmed.alike.findClass, f6.1]; exact bf3, by rw [f6.2.2.1, bs3]; simp, fun j hj => by rw [f6.2.2.2 j, if_pos (by omega)]; rfl, kp3.put p6 (Nat.le_refl _)⟩, by rw [p6.2.2, bh3, hh0]; simp⟩, fun fs hl => c8.trans (X8.areturnOut hexec rfl hret rfl (hb hbytes d58) hl)⟩
end Cmp3
namespace CodL
def yN : MethodName := ⟨"java/lang/StringUTF16", "coderFromArrayLen", "([BI)B"⟩
abbrev yB : ByteArray := jdk_52_method_15_code
theorem d0 : decode yB 0 = .ok (.iload_n 1, 1) := by decide +kernel
theorem d1 : decode yB 1 = .ok (.aload_n 0, 1) := by decide +kernel
theorem d2 : decode yB 2 = .ok (.arraylength, 1) := by decide +kernel
theorem d3 : decode yB 3 = .ok (.isub, 1) := by decide +kernel
theorem d4 : decode yB 4 = .ok (.bipush 31, 2) := by decide +kernel
theorem d6 : decode yB 6 = .ok (.iushr, 1) := by decide +kernel
theorem d7 : decode yB 7 = .ok (.i2b, 1) := by decide +kernel
theorem d8 : decode yB 8 = .ok (.ireturn, 1) := by decide +kernel
def site : List Cond := []
def tab : Cond := tabOf yN yB 2 (some .byte) site
def P (d : Addr) (B : Cell) (args : Array Value) (s : State) : Prop := args = #[.ref d, .int (Int32.ofNat B.slots.size)] ∧ Arr .byte d B s
def E (r : Option Value) (s u : State) : Prop := XT.PureE (some (.int 0)) r s u
/-- an array as long as the number of chars: LATIN1 -/
theorem law (l : Launch) (d : Addr) (B : Cell) : Law l yN 2 2 0 0 yB 2 (some .byte) site (P d B) E [] 0 0 := by
  refine Law.of_walk (plainFor_of_name (by decide +kernel)) (by decide +kernel) (by decide +kernel) (by decide) (fun _ _ h => by rw [h.1]; rfl) (fun _ U U' hal hh h => ⟨h.1, h.2.mv hal hh⟩) (fun r U U' V V' h1 hal h2 h => XT.PureE.mv r U U' V V' h1 hal h2 h) ?_
  intro p e s m args below meth c s₁ X0 hexec hbytes hml hret hlk hnm hown hh0 W hP
  obtain ⟨rfl, hB⟩ := hP
  have hB0 := hB.mv X0.warmed.alike hh0
  have c1 : Steps p.tables e below (s₁.setTop (entryFrame m #[.ref d, .int (Int32.ofNat B.slots.size)] 2)) (s₁.setTop (mkF m 0 #[.val (.ref d), .val (.int (Int32.ofNat B.slots.size))] [])) := entry rfl
  have c2 : Steps p.tables e below (s₁.setTop (entryFrame m #[.ref d, .int (Int32.ofNat B.slots.size)] 2)) (s₁.setTop (mkF m 2 #[.val (.ref d), .val (.int (Int32.ofNat B.slots.size))] [.ref d, .int (Int32.ofNat B.slots.size)])) := c1.trans (by
    refine XS.iloadN X0.here hexec rfl (hb hbytes d0) rfl ?_
    refine XS.aloadN X0.here hexec rfl (hb hbytes d1) rfl rfl ?_
    exact Steps.refl _)
  have c3 : Steps p.tables e below (s₁.setTop (entryFrame m #[.ref d, .int (Int32.ofNat B.slots.size)] 2)) (s₁.setTop (mkF m 8 #[.val (.ref d), .val (.int (Int32.ofNat B.slots.size))] [.int (lo8 (ushr (Int32.ofNat B.slots.size - Int32.ofNat B.slots.size) 31))])) := c2.trans (by
    refine X0.alen hexec hB0 rfl rfl (hb hbytes d2) ?_
    refine XS.isub X0.here hexec rfl (hb hbytes d3) rfl ?_
    refine bipushV X0.here hexec rfl 31 (hb hbytes d4) (by decide) ?_
    refine iushr X0.here hexec rfl (hb hbytes d6) rfl ?_
    refine i2b X0.here hexec rfl (hb hbytes d7) rfl ?_
    exact Steps.refl _)
  have e0 : lo8 (ushr (Int32.ofNat B.slots.size - Int32.ofNat B.slots.size) 31) = 0 := by rw [Int32.sub_self]; decide
  rw [e0] at c3
  exact ⟨s₁, some (.int 0), _, _, _, X0, rfl, rfl, rfl, (fun h => by cases h), ⟨rfl, hh0⟩, fun fs hl => c3.trans (X0.ireturnOut hexec hret rfl (Or.inr (Or.inr (Or.inl rfl))) (hb hbytes d8) hl)⟩
end CodL
/-- the String at a is Latin-1 over a new byte[] (the heap's one new cell): the low bytes of the len chars of A from o on; every cell but a is kept -/
def Got (a : Addr) (D : Cell) (fV fC : Field) (A : Cell) (o len : Nat) (r : Option Value) (s u : State) : Prop := r = none ∧ ∃ D' V : Cell, Blank "java/lang/String" a D' u ∧ Same D D' [fV.slot, fC.slot] ∧ D'.slots[fV.slot]? = some (.ref s.heap.size) ∧ D'.slots[fC.slot]? = some (.int 0) ∧ Arr .byte s.heap.size V u ∧ V.vm = .none ∧ u.vm.findClass "[B" = some V.cls ∧ V.slots.size = len ∧ (∀ j, j < len → V.slots[j]? = some (.int (lo8 (cv A (o + j))))) ∧ (∀ (y : Addr) (c : Cell), y ≠ a → s.heap[y]? = some c → u.heap[y]? = some c) ∧ u.heap.size = s.heap.size + 1
theorem Got.mv {a : Addr} {D A : Cell} {fV fC : Field} {o len : Nat} : ∀ r (U U' V V' : State), U'.heap = U.heap → V.vm.Alike V'.vm → V'.heap = V.heap → Got a D fV fC A o len r U V → Got a D fV fC A o len r U' V' :=
  fun r U U' V V' h1 hal h2 ⟨e0, D', X, a1, a2, a3, a4, a5, a6, a7, a8, a9, a10, a11⟩ => ⟨e0, D', X, a1.mv hal h2, a2, by rw [h1]; exact a3, a4, by rw [h1]; exact a5.mv hal h2, a6, by rw [hal.findClass]; exact a7, a8, a9, by rw [h1, h2]; exact a10, by rw [h1, h2]; exact a11⟩
namespace New4
def yN : MethodName := ⟨"java/lang/String", "<init>", "([CIILjava/lang/Void;)V"⟩
abbrev yB : ByteArray := jdk_42_method_149_code
theorem d0 : decode yB 0 = .ok (.aload_n 0, 1) := by decide +kernel
theorem d1 : decode yB 1 = .ok (.invokespecial 1, 3) := by decide +kernel
theorem d4 : decode yB 4 = .ok (.iload_n 3, 1) := by decide +kernel
theorem d5 : decode yB 5 = .ok (.ifCond (.ne) 22, 3) := by decide +kernel
theorem d27 : decode yB 27 = .ok (.getstatic 38, 3) := by decide +kernel
theorem d30 : decode yB 30 = .ok (.ifCond (.eq) 28, 3) := by decide +kernel
theorem d33 : decode yB 33 = .ok (.aload_n 1, 1) := by decide +kernel
theorem d34 : decode yB 34 = .ok (.iload_n 2, 1) := by decide +kernel
theorem d35 : decode yB 35 = .ok (.iload_n 3, 1) := by decide +kernel
theorem d36 : decode yB 36 = .ok (.invokestatic 177, 3) := by decide +kernel
theorem d39 : decode yB 39 = .ok (.astore 5, 2) := by decide +kernel
theorem d41 : decode yB 41 = .ok (.aload_n 0, 1) := by decide +kernel
theorem d42 : decode yB 42 = .ok (.aload 5, 2) := by decide +kernel
theorem d44 : decode yB 44 = .ok (.iload_n 3, 1) := by decide +kernel
theorem d45 : decode yB 45 = .ok (.invokestatic 47, 3) := by decide +kernel
theorem d48 : decode yB 48 = .ok (.putfield 15, 3) := by decide +kernel
theorem d51 : decode yB 51 = .ok (.aload_n 0, 1) := by decide +kernel
theorem d52 : decode yB 52 = .ok (.aload 5, 2) := by decide +kernel
theorem d54 : decode yB 54 = .ok (.putfield 9, 3) := by decide +kernel
theorem d57 : decode yB 57 = .ok (.return_, 1) := by decide +kernel
def site : List Cond := [.fieldLink "java/lang/String" 38 "java/lang/String" "COMPACT_STRINGS" "Z", Cmp3.tab, CodL.tab, .laysFinal "java/lang/String" "java/lang/String" "value" "[B", .fieldLink "java/lang/String" 9 "java/lang/String" "value" "[B", .laysFinal "java/lang/String" "java/lang/String" "coder" "B", .fieldLink "java/lang/String" 15 "java/lang/String" "coder" "B"] ++ objW "java/lang/String" 1 ++ staticW "java/lang/String" 177 Cmp3.yN ++ staticW "java/lang/String" 47 CodL.yN
def tab : Cond := tabOf yN yB 6 none site
def P (a : Addr) (D : Cell) (fV fC : Field) (b : Addr) (A : Cell) (z : Int32) (o len : Nat) (args : Array Value) (s : State) : Prop := args = #[.ref a, .ref b, .int (Int32.ofNat o), .int (Int32.ofNat len), .null] ∧ Blank "java/lang/String" a D s ∧ Found "java/lang/String" "value" "[B" fV s ∧ Found "java/lang/String" "coder" "B" fC s ∧ Ch b A s ∧ StaticIs s "java/lang/String" "COMPACT_STRINGS" "Z" (.int z) ∧ ¬ z = 0 ∧ 0 < len ∧ o + len ≤ A.slots.size ∧ len ≤ 536870912 ∧ ∀ i, i < len → ¬ 255 < cv A (o + i)
def E (a : Addr) (D : Cell) (fV fC : Field) (A : Cell) (o len : Nat) (r : Option Value) (s u : State) : Prop := Got a D fV fC A o len r s u
/-- len > 0, no char of the range above 255: a Latin-1 String of their low bytes -/
theorem law (l : Launch) (a : Addr) (D : Cell) (fV fC : Field) (b : Addr) (A : Cell) (z : Int32) (o len : Nat) : Law l yN 5 4 2 35 yB 6 none site (P a D fV fC b A z o len) (E a D fV fC A o len) [⟨a, fC.slot⟩, ⟨a, fV.slot⟩] 1 len := by
  refine Law.of_walk (plainFor_of_name (by decide +kernel)) (by decide +kernel) (by decide +kernel) (by decide) (fun _ _ h => by rw [h.1]; rfl) (fun _ U U' hal hh h => ⟨h.1, h.2.1.mv hal hh, h.2.2.1.al hal, h.2.2.2.1.al hal, h.2.2.2.2.1.mv hal hh, h.2.2.2.2.2.1.there hal hh, h.2.2.2.2.2.2⟩) (fun r U U' V V' h1 hal h2 h => Got.mv r U U' V V' h1 hal h2 h) ?_
  intro p e s m args below meth c s₁ X0 hexec hbytes hml hret hlk hnm hown hh0 W hP
  obtain ⟨rfl, hB, f1, f2, hA, s1, hz, l0, l1, l2, hp⟩ := hP
  have a31 := hA.1.2.2.2
  have c1 : Steps p.tables e below (s₁.setTop (entryFrame m #[.ref a, .ref b, .int (Int32.ofNat o), .int (Int32.ofNat len), .null] 6)) (s₁.setTop (mkF m 0 #[.val (.ref a), .val (.ref b), .val (.int (Int32.ofNat o)), .val (.int (Int32.ofNat len)), .val .null, .unset] [])) := entry rfl
  have c2 : Steps p.tables e below (s₁.setTop (entryFrame m #[.ref a, .ref b, .int (Int32.ofNat o), .int (Int32.ofNat len), .null] 6)) (s₁.setTop (mkF m 1 #[.val (.ref a), .val (.ref b), .val (.int (Int32.ofNat o)), .val (.int (Int32.ofNat len)), .val .null, .unset] [.ref a])) := c1.trans (by
    refine XS.aloadN X0.here hexec rfl (hb hbytes d0) rfl rfl ?_
    exact Steps.refl _)
  obtain ⟨T3, X3, q3, st3⟩ := X0.oinit hexec hown (wks W (objW "java/lang/String" 1)) (g := (mkF m 1 #[.val (.ref a), .val (.ref b), .val (.int (Int32.ofNat o)), .val (.int (Int32.ofNat len)), .val .null, .unset] [.ref a])) rfl (by rw [hml]; rfl) (rest := []) rfl (hb hbytes d1) (W := 0) (by show 2 * 0 + 0 ≤ _; decide) (Nat.le_of_ble_eq_true rfl) (Nat.le_of_ble_eq_true rfl)
  have hh3 := q3.trans hh0
  have c4 : Steps p.tables e below (s₁.setTop (entryFrame m #[.ref a, .ref b, .int (Int32.ofNat o), .int (Int32.ofNat len), .null] 6)) (T3.setTop (mkF m 27 #[.val (.ref a), .val (.ref b), .val (.int (Int32.ofNat o)), .val (.int (Int32.ofNat len)), .val .null, .unset] [])) := (c2.trans (st3 _ (Steps.refl _))).trans (by
    refine XS.iloadN X3.here hexec rfl (hb hbytes d4) rfl ?_
    refine XS.ifYes X3.here hexec rfl (pc0 := 5) rfl (hb hbytes d5) rfl (i0_ne_t (nz32 (by omega) l0)) (by decide) rfl ?_
    exact Steps.refl _)
  obtain ⟨T5, X5, q5, st5⟩ := X3.sget hexec hown (wk W (.fieldLink "java/lang/String" 38 "java/lang/String" "COMPACT_STRINGS" "Z")) s1 (fun _ _ h => by rw [hh3]; exact h) (g := (mkF m 27 #[.val (.ref a), .val (.ref b), .val (.int (Int32.ofNat o)), .val (.int (Int32.ofNat len)), .val .null, .unset] [])) rfl (hb hbytes d27)
  have hh5 := q5.trans hh3
  have c6 : Steps p.tables e below (s₁.setTop (entryFrame m #[.ref a, .ref b, .int (Int32.ofNat o), .int (Int32.ofNat len), .null] 6)) (T5.setTop (mkF m 30 #[.val (.ref a), .val (.ref b), .val (.int (Int32.ofNat o)), .val (.int (Int32.ofNat len)), .val .null, .unset] [.int z])) := c4.trans (st5 _ (Steps.refl _))
  have c7 : Steps p.tables e below (s₁.setTop (entryFrame m #[.ref a, .ref b, .int (Int32.ofNat o), .int (Int32.ofNat len), .null] 6)) (T5.setTop (mkF m 36 #[.val (.ref a), .val (.ref b), .val (.int (Int32.ofNat o)), .val (.int (Int32.ofNat len)), .val .null, .unset] [.int (Int32.ofNat len), .int (Int32.ofNat o), .ref b])) := c6.trans (by
    refine XS.ifNo X5.here hexec rfl (hb hbytes d30) rfl (i0_eq_f hz) ?_
    refine XS.aloadN X5.here hexec rfl (hb hbytes d33) rfl rfl ?_
    refine XS.iloadN X5.here hexec rfl (hb hbytes d34) rfl ?_
    refine XS.iloadN X5.here hexec rfl (hb hbytes d35) rfl ?_
    exact Steps.refl _)
  obtain ⟨v8, T8, X8, E8, g8⟩ := X5.callS hexec (Cmp3.law l b A o len) hown (wks W (staticW "java/lang/String" 177 Cmp3.yN)) (wk W Cmp3.tab) (W := 0) (Nat.le_of_ble_eq_true rfl) (Nat.le_of_ble_eq_true rfl) (Nat.le_refl _) (by show 0 + len ≤ len; omega) (g := (mkF m 36 #[.val (.ref a), .val (.ref b), .val (.int (Int32.ofNat o)), .val (.int (Int32.ofNat len)), .val .null, .unset] [.int (Int32.ofNat len), .int (Int32.ofNat o), .ref b])) rfl (by rw [hml]; rfl) c7 (argsL := [.ref b, .int (Int32.ofNat o), .int (Int32.ofNat len)]) (rest := []) rfl rfl (by show 2 * 0 + 0 ≤ _; decide) (hb hbytes d36) (⟨rfl, hA.mv X5.warmed.alike hh5, l1, l2, hp⟩)
  obtain ⟨e8, z8⟩ := E8
  obtain ⟨rfl, N, n1, n2, n3, n4, n5, n6⟩ := NewArr.mv _ T5 s _ _ hh5.symm (Vm.Alike.refl _) rfl e8
  rw [hh5] at z8
  have hB1 := hB.keep X8.warmed.alike (n6 _ _ hB.1)
  have hne : s.heap.size ≠ a := (Nat.ne_of_lt (Array.getElem?_eq_some_iff.mp hB.1).1).symm
  have c9 : Steps p.tables e below (s₁.setTop (entryFrame m #[.ref a, .ref b, .int (Int32.ofNat o), .int (Int32.ofNat len), .null] 6)) (T8.setTop (mkF m 39 #[.val (.ref a), .val (.ref b), .val (.int (Int32.ofNat o)), .val (.int (Int32.ofNat len)), .val .null, .unset] [.ref s.heap.size])) := g8
  have c10 : Steps p.tables e below (s₁.setTop (entryFrame m #[.ref a, .ref b, .int (Int32.ofNat o), .int (Int32.ofNat len), .null] 6)) (T8.setTop (mkF m 45 #[.val (.ref a), .val (.ref b), .val (.int (Int32.ofNat o)), .val (.int (Int32.ofNat len)), .val .null, .val (.ref s.heap.size)] [.int (Int32.ofNat N.slots.size), .ref s.heap.size, .ref a])) := by
    have hc : Steps p.tables e below (s₁.setTop (entryFrame m #[.ref a, .ref b, .int (Int32.ofNat o), .int (Int32.ofNat len), .null] 6)) (T8.setTop (mkF m 45 #[.val (.ref a), .val (.ref b), .val (.int (Int32.ofNat o)), .val (.int (Int32.ofNat len)), .val .null, .val (.ref s.heap.size)] [.int (Int32.ofNat len), .ref s.heap.size, .ref a])) := c9.trans (by
      refine XS.astore X8.here hexec rfl (hb hbytes d39) rfl rfl rfl ?_
      refine XS.aloadN X8.here hexec rfl (hb hbytes d41) rfl rfl ?_
      refine XS.aload X8.here hexec rfl (hb hbytes d42) rfl rfl ?_
      refine XS.iloadN X8.here hexec rfl (hb hbytes d44) rfl ?_
      exact Steps.refl _)
    rw [n4]; exact hc
  obtain ⟨v11, T11, X11, E11, g11⟩ := X8.callS hexec (CodL.law l s.heap.size N) hown (wks W (staticW "java/lang/String" 47 CodL.yN)) (wk W CodL.tab) (W := 1) (Nat.le_of_ble_eq_true rfl) (Nat.le_of_ble_eq_true rfl) (Nat.le_refl _) (by show 0 + len + 0 ≤ len; omega) (g := (mkF m 45 #[.val (.ref a), .val (.ref b), .val (.int (Int32.ofNat o)), .val (.int (Int32.ofNat len)), .val .null, .val (.ref s.heap.size)] [.int (Int32.ofNat N.slots.size), .ref s.heap.size, .ref a])) rfl (by rw [hml]; rfl) c10 (argsL := [.ref s.heap.size, .int (Int32.ofNat N.slots.size)]) (rest := [.ref a]) rfl rfl (by show 2 * 0 + (1 + 0) ≤ _; decide) (hb hbytes d45) (⟨rfl, n1⟩)
  obtain ⟨rfl, q11⟩ := E11
  have hB11 := hB1.mv (X8.warmed.alike.symm.trans X11.warmed.alike) q11
  have c12 : Steps p.tables e below (s₁.setTop (entryFrame m #[.ref a, .ref b, .int (Int32.ofNat o), .int (Int32.ofNat len), .null] 6)) (T11.setTop (mkF m 48 #[.val (.ref a), .val (.ref b), .val (.int (Int32.ofNat o)), .val (.int (Int32.ofNat len)), .val .null, .val (.ref s.heap.size)] [.int 0, .ref a])) := g11
  obtain ⟨T13, X13, p13, bl13, sl13, st13⟩ := X11.finit hexec hown (wk W (.fieldLink "java/lang/String" 15 "java/lang/String" "coder" "B")) (Or.inr ⟨_, (wk W (.laysFinal "java/lang/String" "java/lang/String" "coder" "B"))⟩) (Or.inl ⟨rfl, hnm⟩) f2 (Or.inl rfl) hB11 (t := .byte) (by decide +kernel) rfl (g := (mkF m 48 #[.val (.ref a), .val (.ref b), .val (.int (Int32.ofNat o)), .val (.int (Int32.ofNat len)), .val .null, .val (.ref s.heap.size)] [.int 0, .ref a])) rfl (rest := []) rfl (hb hbytes d48)
  have c14 : Steps p.tables e below (s₁.setTop (entryFrame m #[.ref a, .ref b, .int (Int32.ofNat o), .int (Int32.ofNat len), .null] 6)) (T13.setTop (mkF m 54 #[.val (.ref a), .val (.ref b), .val (.int (Int32.ofNat o)), .val (.int (Int32.ofNat len)), .val .null, .val (.ref s.heap.size)] [.ref s.heap.size, .ref a])) := (c12.trans (st13 _ (Steps.refl _))).trans (by
    refine XS.aloadN X13.here hexec rfl (hb hbytes d51) rfl rfl ?_
    refine XS.aload X13.here hexec rfl (hb hbytes d52) rfl rfl ?_
    exact Steps.refl _)
  obtain ⟨T15, X15, p15, bl15, sl15, st15⟩ := X13.finit hexec hown (wk W (.fieldLink "java/lang/String" 9 "java/lang/String" "value" "[B")) (Or.inr ⟨_, (wk W (.laysFinal "java/lang/String" "java/lang/String" "value" "[B"))⟩) (Or.inl ⟨rfl, hnm⟩) f1 (Or.inl rfl) bl13 (t := (.array .byte)) (by decide +kernel) rfl (g := (mkF m 54 #[.val (.ref a), .val (.ref b), .val (.int (Int32.ofNat o)), .val (.int (Int32.ofNat len)), .val .null, .val (.ref s.heap.size)] [.ref s.heap.size, .ref a])) rfl (rest := []) rfl (hb hbytes d54)
  have c16 : Steps p.tables e below (s₁.setTop (entryFrame m #[.ref a, .ref b, .int (Int32.ofNat o), .int (Int32.ofNat len), .null] 6)) (T15.setTop (mkF m 57 #[.val (.ref a), .val (.ref b), .val (.int (Int32.ofNat o)), .val (.int (Int32.ofNat len)), .val .null, .val (.ref s.heap.size)] [])) := c14.trans (st15 _ (Steps.refl _))
  have ap := apart (Or.inr ⟨_, (wk W (.laysFinal "java/lang/String" "java/lang/String" "value" "[B"))⟩) (Or.inr ⟨_, (wk W (.laysFinal "java/lang/String" "java/lang/String" "coder" "B"))⟩) f1 f2 (t₁ := .array .byte) (t₂ := .byte) (by decide +kernel) (by decide +kernel) (by decide)
  have al := X8.warmed.alike.symm.trans X15.warmed.alike
  have n7 : T11.heap[s.heap.size]? = some N := by rw [q11]; exact n1.1
  exact ⟨T15, none, _, _, _, X15, by simp, rfl, by omega, (fun _ => rfl), ⟨rfl, _, N, bl15, ((Same.refl D _).set _ (by simp)).set _ (by simp), sl15, (Cell.slots_setSlot_ne _ ap).trans sl13, n1.keep al (p15.other hne (p13.other hne n7)), n2, by rw [al.findClass]; exact n3, n4, n5, fun y c h1 h2 => p15.other h1 (p13.other h1 (by rw [q11]; exact n6 y c h2)), by rw [p15.2.2, p13.2.2, q11]; exact z8⟩, fun fs hl => c16.trans (X15.returnOut hexec hret (hb hbytes d57) hl)⟩
end New4
namespace New1
def yN : MethodName := ⟨"java/lang/String", "<init>", "([C)V"⟩
abbrev yB : ByteArray := jdk_42_method_3_code
theorem d0 : decode yB 0 = .ok (.aload_n 0, 1) := by decide +kernel
theorem d1 : decode yB 1 = .ok (.aload_n 1, 1) := by decide +kernel
theorem d2 : decode yB 2 = .ok (.iconst 0, 1) := by decide +kernel
theorem d3 : decode yB 3 = .ok (.aload_n 1, 1) := by decide +kernel
theorem d4 : decode yB 4 = .ok (.arraylength, 1) := by decide +kernel
theorem d5 : decode yB 5 = .ok (.aconst_null, 1) := by decide +kernel
theorem d6 : decode yB 6 = .ok (.invokespecial 27, 3) := by decide +kernel
theorem d9 : decode yB 9 = .ok (.return_, 1) := by decide +kernel
def site : List Cond := [New4.tab] ++ initW "java/lang/String" 27 New4.yN
def tab : Cond := tabOf yN yB 2 none site
def P (a : Addr) (D : Cell) (fV fC : Field) (b : Addr) (A : Cell) (z : Int32) (args : Array Value) (s : State) : Prop := args = #[.ref a, .ref b] ∧ Blank "java/lang/String" a D s ∧ Found "java/lang/String" "value" "[B" fV s ∧ Found "java/lang/String" "coder" "B" fC s ∧ Ch b A s ∧ StaticIs s "java/lang/String" "COMPACT_STRINGS" "Z" (.int z) ∧ ¬ z = 0 ∧ 0 < A.slots.size ∧ A.slots.size ≤ 536870912 ∧ ∀ i, i < A.slots.size → ¬ 255 < cv A i
def E (a : Addr) (D : Cell) (fV fC : Field) (A : Cell) (r : Option Value) (s u : State) : Prop := Got a D fV fC A 0 A.slots.size r s u
/-- new String(chars), not empty, no char above 255: a Latin-1 String of their low bytes -/
theorem law (l : Launch) (a : Addr) (D : Cell) (fV fC : Field) (b : Addr) (A : Cell) (z : Int32) : Law l yN 2 1 3 52 yB 2 none site (P a D fV fC b A z) (E a D fV fC A) [⟨a, fC.slot⟩, ⟨a, fV.slot⟩] 1 A.slots.size := by
  refine Law.of_walk (plainFor_of_name (by decide +kernel)) (by decide +kernel) (by decide +kernel) (by decide) (fun _ _ h => by rw [h.1]; rfl) (fun _ U U' hal hh h => ⟨h.1, h.2.1.mv hal hh, h.2.2.1.al hal, h.2.2.2.1.al hal, h.2.2.2.2.1.mv hal hh, h.2.2.2.2.2.1.there hal hh, h.2.2.2.2.2.2⟩) (fun r U U' V V' h1 hal h2 h => Got.mv r U U' V V' h1 hal h2 h) ?_
  intro p e s m args below meth c s₁ X0 hexec hbytes hml hret hlk hnm hown hh0 W hP
  obtain ⟨rfl, hB, f1, f2, hA, s1, hz, l0, l2, hp⟩ := hP
  have c1 : Steps p.tables e below (s₁.setTop (entryFrame m #[.ref a, .ref b] 2)) (s₁.setTop (mkF m 0 #[.val (.ref a), .val (.ref b)] [])) := entry rfl
  have c2 : Steps p.tables e below (s₁.setTop (entryFrame m #[.ref a, .ref b] 2)) (s₁.setTop (mkF m 6 #[.val (.ref a), .val (.ref b)] [.null, .int (Int32.ofNat A.slots.size), .int 0, .ref b, .ref a])) := c1.trans (by
    refine XS.aloadN X0.here hexec rfl (hb hbytes d0) rfl rfl ?_
    refine XS.aloadN X0.here hexec rfl (hb hbytes d1) rfl rfl ?_
    refine iconstV X0.here hexec rfl 0 (hb hbytes d2) (by decide) ?_
    refine XS.aloadN X0.here hexec rfl (hb hbytes d3) rfl rfl ?_
    refine X0.alen hexec (hA.1.mv X0.warmed.alike hh0) rfl rfl (hb hbytes d4) ?_
    refine XS.aconstNull X0.here hexec rfl (hb hbytes d5) ?_
    exact Steps.refl _)
  obtain ⟨v3, T3, X3, E3, g3⟩ := X0.callN hexec (New4.law l a D fV fC b A z 0 A.slots.size) rfl hown (wks W (initW "java/lang/String" 27 New4.yN)) (W New4.tab (by simp only [site, List.mem_cons, List.mem_append, true_or, or_true])) (W := 0) (Nat.le_of_ble_eq_true rfl) (Nat.le_of_ble_eq_true rfl) (Nat.le_refl _) (by show 0 + A.slots.size ≤ A.slots.size; omega) (g := (mkF m 6 #[.val (.ref a), .val (.ref b)] [.null, .int (Int32.ofNat A.slots.size), .int (Int32.ofNat 0), .ref b, .ref a])) rfl (by rw [hml]; rfl) c2 (argsL := [.ref b, .int (Int32.ofNat 0), .int (Int32.ofNat A.slots.size), .null]) (rest := []) rfl rfl (by show 2 * 0 + 0 ≤ _; decide) (hb hbytes d6) (⟨rfl, hB.mv X0.warmed.alike hh0, f1.al X0.warmed.alike, f2.al X0.warmed.alike, hA.mv X0.warmed.alike hh0, s1.there X0.warmed.alike hh0, hz, l0, by omega, l2, fun i hi => by rw [Nat.zero_add]; exact hp i hi⟩)
  have e0 := Got.mv _ s₁ s _ _ hh0.symm (Vm.Alike.refl _) rfl E3
  obtain rfl := e0.1
  have c4 : Steps p.tables e below (s₁.setTop (entryFrame m #[.ref a, .ref b] 2)) (T3.setTop (mkF m 9 #[.val (.ref a), .val (.ref b)] [])) := g3
  exact ⟨T3, none, _, _, _, X3, by simp, rfl, by omega, (fun _ => rfl), e0, fun fs hl => c4.trans (X3.returnOut hexec hret (hb hbytes d9) hl)⟩
theorem pays {l : Launch} {R : Room} {p : Program} {e : Env} {below : List Frame} {s : State} {sargs : Array Value} {len W : Nat} (a : Addr) (D : Cell) (fV fC : Field) (b : Addr) (A : Cell) (z : Int32) (htab : tab.before sargs s = true) (hfr : 4 ≤ R.frames) (hlo : W + 65 ≤ R.locals) :
    Back l R p e below s sargs yN len W (fun A₁ a₁ => A₁.cells + 1 ≤ R.cells ∧ A₁.slots + A.slots.size ≤ R.slots ∧ P a D fV fC b A z a₁ A₁.U) (fun A₁ _ v₁ B₁ => E a D fV fC A v₁ A₁.U B₁.U ∧ B₁.locs = A₁.locs ++ [⟨a, fC.slot⟩, ⟨a, fV.slot⟩] ∧ B₁.cells = A₁.cells + 1 ∧ B₁.slots = A₁.slots + A.slots.size) :=
  (law l a D fV fC b A z).pays htab hfr (by omega)
end New1
/-- the byte, read back as charAt reads it, is the char -/
theorem lo8_mask {x : Int32} (h0 : ¬ x < 0) (h1 : ¬ 255 < x) : lo8 x &&& 255 = x := by
  have t : ∀ k : Fin 256, lo8 (Int32.ofNat k.val) &&& 255 = Int32.ofNat k.val := by decide +kernel
  rw [Int32.lt_iff_toInt_lt] at h0 h1
  have e0 : (0 : Int32).toInt = 0 := rfl
  have e1 : (255 : Int32).toInt = 255 := rfl
  obtain ⟨k, hk⟩ : ∃ k : Nat, x.toInt = k := ⟨x.toInt.toNat, by omega⟩
  have hx : x = Int32.ofNat k := Int32.toInt_inj.mp (by rw [hk, Int32.toInt_ofNat_small (by omega)])
  rw [hx]
  exact t ⟨k, by omega⟩
end StrChars
namespace StrChars.Road
open Jvm Sem ClassFile Op Lib Jvm.Stand Jvm.Free Jvm.Free.XT
open Jvm.Lib.Cold (StaticIs)
abbrev ST : String := "java/lang/String"
/-- every table word that New1's law asks, flat -/
abbrev words : List Jvm.Cond := [.code New1.yN New1.yB 2 none, .initialized ST, .methodLink ST 27 New4.yN, .instanceMethod New4.yN,
  .code New4.yN New4.yB 6 none, .fieldLink ST 38 ST "COMPACT_STRINGS" "Z", .laysFinal ST ST "value" "[B", .fieldLink ST 9 ST "value" "[B", .laysFinal ST ST "coder" "B", .fieldLink ST 15 ST "coder" "B",
  .methodLink ST 1 Lib.objectInit, .instanceMethod Lib.objectInit, .code Lib.objectInit ⟨#[0xb1]⟩ 1 none, .methodLink ST 177 Cmp3.yN, .static Cmp3.yN, .methodLink ST 47 CodL.yN, .static CodL.yN,
  .code Cmp3.yN Cmp3.yB 6 (some (.array .byte)), .initialized U16, .arrayClass .byte, .methodLink U16 115 Cmp5.yN, .static Cmp5.yN, .code Cmp5.yN Cmp5.yB 7 (some .int), .code CodL.yN CodL.yB 2 (some .byte)]
theorem tab_of {a : Array Value} {s : State} (h : ∀ w ∈ words, w.before a s = true) : New1.tab.before a s = true := by
  have h5 : Cmp5.tab.before a s = true := unparts (wk h (.code Cmp5.yN Cmp5.yB 7 (some .int))) (wks h (.initialized Cmp5.yN.cls :: Cmp5.site))
  have hc : CodL.tab.before a s = true := unparts (wk h (.code CodL.yN CodL.yB 2 (some .byte))) (wks h (.initialized CodL.yN.cls :: CodL.site))
  have q5 : ∀ w ∈ Cmp5.tab :: words, w.before a s = true := fun w hw => (List.mem_cons.mp hw).elim (fun e => e ▸ h5) (h w)
  have h3 : Cmp3.tab.before a s = true := unparts (wk q5 (.code Cmp3.yN Cmp3.yB 6 (some (.array .byte)))) (wks q5 (.initialized Cmp3.yN.cls :: Cmp3.site))
  have q3 : ∀ w ∈ Cmp3.tab :: CodL.tab :: words, w.before a s = true := fun w hw => (List.mem_cons.mp hw).elim (fun e => e ▸ h3) fun hw => (List.mem_cons.mp hw).elim (fun e => e ▸ hc) (h w)
  have h4 : New4.tab.before a s = true := unparts (wk q3 (.code New4.yN New4.yB 6 none)) (wks q3 (.initialized New4.yN.cls :: New4.site))
  have q4 : ∀ w ∈ New4.tab :: words, w.before a s = true := fun w hw => (List.mem_cons.mp hw).elim (fun e => e ▸ h4) (h w)
  exact unparts (wk q4 (.code New1.yN New1.yB 2 none)) (wks q4 (.initialized New1.yN.cls :: New1.site))
/-- the words ride from the start Z to the walk's own state -/
theorem moved {Z s : State} {a0 args : Array Value} (hZ : Z.Warmed39 s.vm) (hw : ∀ d ∈ words, d.before a0 Z = true) : ∀ d ∈ words, d.before args s = true := fun d hd => by
  have q := hw d hd
  have t : ∀ d ∈ words, d = .arrayClass .byte ∨ (d.onTables && d.keepsFace) = true := by decide +kernel
  rcases t d hd with rfl | t
  · exact RoadKit.mvA hZ q
  · exact RoadKit.mv hZ q t
/-- WHAT COMES BACK, over the tables of the start Z: h the heap at the call, h' behind it -/
def Q (Z : State) (x : Addr) (A : Cell) (h : Heap) (v : Option Value) (h' : Heap) (L : List Loc) : Prop := v = none ∧ (∀ y ∈ L, y.base = x) ∧ RoadKit.Keep h h' [x] ∧ h'.size = h.size + 1 ∧ RoadKit.Exa Z h' x ST ∧ RoadKit.Fld Z h' x ST "value" "[B" (.ref h.size) ∧ RoadKit.Fld Z h' x ST "coder" "B" (.int 0) ∧
  (∃ V : Cell, RoadKit.Arr Z h' h.size V .byte ∧ V.vm = .none ∧ Z.vm.findClass "[B" = some V.cls ∧ V.slots.size = A.slots.size ∧ ∀ j, j < A.slots.size → V.slots[j]? = some (.int (lo8 (cv A j)))) ∧
  ∀ (O n d : String) (w : Value), RoadKit.Fld Z h x O n d w → RoadKit.slotOf Z O n d ≠ RoadKit.slotOf Z ST "value" "[B" → RoadKit.slotOf Z O n d ≠ RoadKit.slotOf Z ST "coder" "B" → RoadKit.Fld Z h' x O n d w
/-- **new String(chars) AT A CALL, IN THE ROAD'S FORM**: for specialBack behind newO: x the fresh String, b the char[] with the cell A -/
theorem back {p : Program} {l : Launch} {e : Env} {R : Room} {s : State} {args : Array Value} {below : List Frame} {len W : Nat} {Z : State} {a0 : Array Value} {h : Heap} (hZ : Z.Warmed39 s.vm) (hw : ∀ d ∈ words, d.before a0 Z = true) {kI : Nat} (wi : (Jvm.Cond.instantiable ST kI).before a0 Z = true)
    {x b : Addr} {A : Cell} {z : Int32} {v0 c0 : Value} (E : RoadKit.Exa Z h x ST) (V : RoadKit.Fld Z h x ST "value" "[B" v0) (C : RoadKit.Fld Z h x ST "coder" "B" c0) (K : RoadKit.Arr Z h b A .char) (hty : Typed .char A) (S : RoadKit.Sta Z h ST "COMPACT_STRINGS" "Z" (.int z)) (hz : ¬ z = 0)
    (l0 : 0 < A.slots.size) (l2 : A.slots.size ≤ 536870912) (hp : ∀ i, i < A.slots.size → ¬ 255 < cv A i) (hfr : 4 ≤ R.frames) (hlo : W + 65 ≤ R.locals) :
    Back l R p e below s args New1.yN len W (fun P a => a = #[.ref x, .ref b] ∧ P.U.heap = h ∧ P.cells + 1 ≤ R.cells ∧ P.slots + A.slots.size ≤ R.slots)
      (fun P _ v B => ∃ L, Q Z x A h v B.U.heap L ∧ B.locs = P.locs ++ L ∧ B.cells = P.cells + 1 ∧ B.slots = P.slots + A.slots.size) := by
  intro m meth c P g ig mk a X hg hsize hdg hW hn hp'
  obtain ⟨rfl, rfl, r1, r2⟩ := hp'
  have al : Z.vm.Alike P.U.vm := hZ.alike.trans X.warmed.alike
  obtain ⟨D, cfV, kV, iV, fV, hD, gV, stV, knV, obV, asV, slV⟩ := id V
  obtain ⟨D', cfC, kC, iC, fC, hD', gC, stC, -, -, asC, slC⟩ := id C
  cases hD.symm.trans hD'
  obtain ⟨D2, kD, e1, e2, e3, e4, e5⟩ := id E
  cases hD.symm.trans e1
  obtain ⟨c2, k2, i1, i2, i3, -⟩ := Cond.instantiable_spec wi
  cases e2.symm.trans i1
  cases e3.symm.trans i2
  obtain ⟨kU, u1, u2⟩ := al.2.2 _ _ e3
  have hB : Blank ST x D P.U := ⟨hD, ⟨knV, fun q hq => by rw [hq] at obV; cases obV⟩, by rw [al.findClass]; exact e2, kU, u1, by rw [u2]; exact i3, by rw [u2]; exact e5 i3⟩
  have F1 : Found ST "value" "[B" fV P.U := ⟨SBG.found_only al ⟨cfV, kV, iV, gV⟩, stV⟩
  have F2 : Found ST "coder" "B" fC P.U := ⟨SBG.found_only al ⟨cfC, kC, iC, gC⟩, stC⟩
  have hA : Ch b A P.U := ⟨⟨K.1, State.isArrayOf_alike al K.2.1, K.2.2, by omega⟩, hty⟩
  have hS : StaticIs P.U ST "COMPACT_STRINGS" "Z" (.int z) := by
    obtain ⟨cfS, iS, kS, fS, st, cS, t1, t2, t3, t4, t5, t6, t7⟩ := S
    exact StaticIs.there (s := { Z with heap := P.U.heap }) ⟨cfS, iS, kS, fS, st, cS, t1, t2, t3, t4, t5, (fun q => by rw [q] at t6; cases t6), t7⟩ al rfl
  obtain ⟨v, B, X', ⟨⟨hv, E', V', q1, q2, q3, q4, q5, q6, q7, q8, q9, q10, q11⟩, hl, hc, hs⟩, st⟩ := New1.pays x D fV fC b A z (tab_of (moved hZ hw)) hfr hlo m meth c P g ig mk _ X hg hsize hdg hW hn ⟨r1, r2, rfl, hB, F1, F2, hA, hS, hz, l0, l2, hp⟩
  have al' : Z.vm.Alike B.U.vm := hZ.alike.trans X'.warmed.alike
  have hsz : E'.slots.size = D.slots.size := by
    obtain ⟨-, -, -, kB, w1, w2, w3⟩ := q1
    obtain ⟨kB', y1, y2⟩ := al'.2.2 _ _ e3
    rw [q2.2.1] at w1
    cases w1.symm.trans y1
    rw [w3, e5 i3, y2]
  refine ⟨v, B, X', ⟨_, ⟨hv, ?_, ⟨by omega, fun y cy hy hn' => q10 y cy (by simpa using hn') hy, fun y cy hy => ?_⟩, q11, ⟨E', _, q1.1, by rw [q2.2.1]; exact e2, by rw [q2.2.1]; exact e3, by rw [q2.1]; exact obV, fun _ => by rw [hsz]; exact e5 i3⟩,
    ⟨E', cfV, kV, iV, fV, q1.1, gV, stV, by rw [q2.1]; exact knV, by rw [q2.1]; exact obV, by rw [q2.2.1]; exact asV, q3⟩, ⟨E', cfC, kC, iC, fC, q1.1, gC, stC, by rw [q2.1]; exact knV, by rw [q2.1]; exact obV, by rw [q2.2.1]; exact asC, q4⟩,
    ⟨V', ⟨q5.1, State.isArrayOf_alike al'.symm q5.2.1, q5.2.2.1⟩, q6, by rw [← al'.findClass]; exact q7, q8, fun j hj => by have := q9 j hj; rwa [Nat.zero_add] at this⟩, fun O n d w F n1 n2 => ?_⟩, hl, hc, hs⟩, st⟩
  · intro y hy
    simp only [List.mem_cons, List.not_mem_nil, or_false] at hy
    rcases hy with rfl | rfl <;> rfl
  · by_cases q : y = x
    · subst q
      cases hD.symm.trans hy
      exact ⟨E', q1.1, q2.2.1, q2.1, hsz⟩
    · exact ⟨cy, q10 y cy q hy, rfl, rfl, rfl⟩
  · obtain ⟨D3, cf, k, i, f, g1, g2, g3, g4, g5, g6, g7⟩ := F
    cases hD.symm.trans g1
    simp only [RoadKit.slotOf, g2, gV, gC, Option.map_some, Option.getD_some] at n1 n2
    exact ⟨E', cf, k, i, f, q1.1, g2, g3, by rw [q2.1]; exact g4, by rw [q2.1]; exact g5, by rw [q2.2.1]; exact g6, by rw [q2.2.2 f.slot (by simp [n1, n2])]; exact g7⟩
end StrChars.Road
namespace StrChars.Road
open Jvm Sem ClassFile Op Lib Jvm.Stand Jvm.Free Jvm.Free.XT
/-- WHAT COMES BACK, the byte[] as a list of values -/
def QA (Z : State) (x : Addr) (zn : Int32) (cs : List Int32) (h : Heap) (v : Option Value) (h' : Heap) (L : List Loc) : Prop := v = none ∧ (∀ y ∈ L, y.base = x) ∧ RoadKit.Keep h h' [x] ∧ h'.size = h.size + 1 ∧ RoadKit.Exa Z h' x ST ∧ RoadKit.Fld Z h' x ST "value" "[B" (.ref h.size) ∧ RoadKit.Fld Z h' x ST "coder" "B" (.int 0) ∧
  (∃ kb, Z.vm.findClass "[B" = some kb ∧ RoadKit.Arv Z h' h.size kb .byte zn (cs.map fun c => .int (lo8 c)) (.int 0)) ∧
  ∀ (O n d : String) (w : Value), RoadKit.Fld Z h x O n d w → RoadKit.slotOf Z O n d ≠ RoadKit.slotOf Z ST "value" "[B" → RoadKit.slotOf Z O n d ≠ RoadKit.slotOf Z ST "coder" "B" → RoadKit.Fld Z h' x O n d w
/-- **new String(chars) AT A CALL, THE ARRAYS AS LISTS**: the char[] at b holds cs, not empty, no char above 255 -/
theorem backArv {p : Program} {l : Launch} {e : Env} {R : Room} {s : State} {args : Array Value} {below : List Frame} {len W : Nat} {Z : State} {a0 : Array Value} {h : Heap} (hZ : Z.Warmed39 s.vm) (hw : ∀ d ∈ words, d.before a0 Z = true) {kI : Nat} (wi : (Jvm.Cond.instantiable ST kI).before a0 Z = true)
    {x b : Addr} {k : ClassId} {zn z : Int32} {cs : List Int32} {dv v0 c0 : Value} (E : RoadKit.Exa Z h x ST) (V : RoadKit.Fld Z h x ST "value" "[B" v0) (C : RoadKit.Fld Z h x ST "coder" "B" c0) (K : RoadKit.Arv Z h b k .char zn (cs.map Value.int) dv) (S : RoadKit.Sta Z h ST "COMPACT_STRINGS" "Z" (.int z)) (hz : ¬ z = 0)
    (hlen : zn.toNatClampNeg = cs.length) (h0 : 0 < cs.length) (hbig : cs.length ≤ 536870912) (hall : ∀ c ∈ cs, ¬ 255 < c) (hfr : 4 ≤ R.frames) (hlo : W + 65 ≤ R.locals) :
    Back l R p e below s args New1.yN len W (fun P a => a = #[.ref x, .ref b] ∧ P.U.heap = h ∧ P.cells + 1 ≤ R.cells ∧ P.slots + cs.length ≤ R.slots)
      (fun P _ v B => ∃ L, QA Z x zn cs h v B.U.heap L ∧ B.locs = P.locs ++ L ∧ B.cells = P.cells + 1 ∧ B.slots = P.slots + cs.length) := by
  obtain ⟨A, K1, K2, K3, K4, K5, K6⟩ := K
  have e : A.slots.size = cs.length := K3.trans hlen
  have hat : ∀ (i : Nat) (hi : i < cs.length), A.slots[i]? = some (.int cs[i]) := fun i hi => by rw [K5 i (by omega)]; simp [List.getD_eq_getElem?_getD, hi]
  have hcv : ∀ (i : Nat) (hi : i < cs.length), cv A i = cs[i] := fun i hi => by unfold cv; rw [hat i hi]
  have hty : Typed .char A := fun i v hv => by
    have hi : i < A.slots.size := (Array.getElem?_eq_some_iff.mp hv).1
    have q := K5 i hi
    rw [hv] at q
    rw [Option.some.inj q]
    exact K6 i hi
  refine Back.mono (back hZ hw wi E V C K1 hty S hz (by omega) (by omega) (fun i hi => by rw [hcv i (by omega)]; exact hall _ (List.getElem_mem _)) hfr hlo) (fun P a hp => ⟨hp.1, hp.2.1, hp.2.2.1, by rw [e]; exact hp.2.2.2⟩) (fun P a v B hp hq => ?_)
  obtain ⟨L, ⟨q1, q2, q3, q4, q5, q6, q7, ⟨V', v1, v2, v3, v4, v5⟩, q9⟩, hl, hc, hs⟩ := hq
  refine ⟨L, ⟨q1, q2, q3, q4, q5, q6, q7, ⟨V'.cls, v3, V', v1, rfl, by rw [v4, e, hlen], K4, fun i hi => ?_, fun i hi => ?_⟩, q9⟩, hl, hc, by rw [hs, e]⟩
  · have hi' : i < cs.length := by omega
    rw [v5 i (by omega), hcv i hi']; simp [List.getD_eq_getElem?_getD, hi']
  · have hi' : i < cs.length := by omega
    simp only [List.getD_eq_getElem?_getD, List.getElem?_map, List.getElem?_eq_getElem hi', Option.map_some, Option.getD_some]
    exact fits_lo8 _
end StrChars.Road
namespace StrChars.Road
open Jvm Sem ClassFile Op Lib Jvm.Stand Jvm.Free Jvm.Free.XT
/-- WHAT COMES BACK, in the writer's own shape -/
def QV (Z : State) (x : Addr) (N : Int32) (bs : List Int32) (h : Heap) (n0 : Nat) (v : Option Value) (h' : Heap) (L : List Loc) : Prop := v = none ∧ RoadKit.Fr n0 L ∧ RoadKit.Keep h h' [x] ∧ RoadKit.Exa Z h' x ST ∧ RoadKit.Fld Z h' x ST "coder" "B" (.int 0) ∧
  ∃ (t : Addr) (kb : ClassId), n0 ≤ t ∧ h.size ≤ t ∧ ¬ t = x ∧ RoadKit.Fld Z h' x ST "value" "[B" (.ref t) ∧ RoadKit.Arv Z h' t kb .byte N (bs.map Value.int) (.int 0)
/-- **new String(chars) AT A CALL, FOR THE WRITER**: a char[] of n known ints, each 0 to 255 -/
theorem backV {p : Program} {l : Launch} {e : Env} {R : Room} {s : State} {args : Array Value} {below : List Frame} {len W : Nat} {Z : State} {a0 : Array Value} {h : Heap} (hZ : Z.Warmed39 s.vm) (hw : ∀ d ∈ words, d.before a0 Z = true) {kI : Nat} (wi : (Jvm.Cond.instantiable ST kI).before a0 Z = true)
    {x b : Addr} {kC : ClassId} {cs bs : List Int32} {d v0 c0 : Value} {z N : Int32} {n n0 : Nat} (hx0 : n0 ≤ x) (hh0 : n0 ≤ h.size) (E : RoadKit.Exa Z h x ST) (V : RoadKit.Fld Z h x ST "value" "[B" v0) (C : RoadKit.Fld Z h x ST "coder" "B" c0) (K : RoadKit.Arv Z h b kC .char N (cs.map Value.int) d) (S : RoadKit.Sta Z h ST "COMPACT_STRINGS" "Z" (.int z)) (hz : ¬ z = 0)
    (hn : cs.length = n) (hN : N = Int32.ofNat n) (l0 : 0 < n) (l2 : n ≤ 4000) (hp : ∀ c ∈ cs, ¬ c < 0 ∧ ¬ (255 : Int32) < c) (hb : bs = cs.map (fun c => c.toInt8.toInt32)) (hfr : 4 ≤ R.frames) (hlo : W + 65 ≤ R.locals) :
    Back l R p e below s args (⟨"java/lang/String", "<init>", "([C)V"⟩ : MethodName) len W (fun P a => a = #[.ref x, .ref b] ∧ P.U.heap = h ∧ P.cells + 1 ≤ R.cells ∧ P.slots + n ≤ R.slots)
      (fun P _ v B => ∃ L, QV Z x N bs h n0 v B.U.heap L ∧ B.locs = P.locs ++ L ∧ B.cells = P.cells + 1 ∧ B.slots = P.slots + n) := by
  subst hn hN hb
  refine Back.mono (backArv hZ hw wi E V C K S hz (n32 (by omega)) l0 (by omega) (fun c hc => (hp c hc).2) hfr hlo) (fun P a hp => hp) (fun P a v B hp hq => ?_)
  obtain ⟨L, ⟨q1, q2, q3, q4, q5, q6, q7, ⟨kb, v1, v2⟩, q9⟩, hl, hc, hs⟩ := hq
  exact ⟨L, ⟨q1, fun y hy => by rw [q2 y hy]; exact hx0, q3, q5, q7, h.size, kb, hh0, Nat.le_refl _, Nat.ne_of_gt E.lt, q6, by rw [List.map_map]; exact v2⟩, hl, hc, hs⟩
end StrChars.Road
namespace StrChars
open Jvm Sem ClassFile Op Lib Jvm.Stand Jvm.Free.XT Jvm.Free.ALB Jvm.Free.JM Jvm.Free
open Jvm.Lib.Cold (StaticIs)
def hi8 (x : Int32) : Int32 := lo8 (x >>> ((8 : Int32) &&& 31))
/-- what StringUTF16.getChar makes of two bytes -/
def pairCh (u v : Int32) : Int32 := (((u &&& 255) <<< ((0 : Int32) &&& 31)) ||| ((v &&& 255) <<< ((8 : Int32) &&& 31))).toUInt32.toUInt16.toUInt32.toInt32
theorem shr0 (c : Int32) : c >>> ((0 : Int32) &&& 31) = c := by
  have e : ((0 : Int32) &&& 31) = 0 := by decide
  rw [e]
  apply Int32.toBitVec_inj.mp
  rw [Int32.toBitVec_shiftRight]
  have e1 : ((0 : Int32).toBitVec.smod 32) = 0#32 := by decide
  rw [e1, BitVec.sshiftRight_eq']
  exact BitVec.sshiftRight_zero
theorem lo8_and (x : Int32) : (lo8 x &&& 255).toBitVec.toNat = x.toBitVec.toNat % 256 := by
  have h : (lo8 x).toBitVec = (x.toBitVec.signExtend 8).signExtend 32 := by rw [lo8, Int8.toBitVec_toInt32, Int32.toBitVec_toInt8]
  rw [Int32.toBitVec_and, BitVec.toNat_and, h]
  have e : ((x.toBitVec.signExtend 8).signExtend 32).toNat % 256 = x.toBitVec.toNat % 256 := by
    rw [BitVec.toNat_signExtend]
    have hlt := x.toBitVec.isLt
    simp only [BitVec.toNat_setWidth, BitVec.toNat_signExtend]
    split <;> split <;> omega
  rw [← e]
  exact Nat.and_two_pow_sub_one_eq_mod _ 8
theorem pair_says {c : Int32} (h0 : ¬ c < 0) (h1 : ¬ 65535 < c) : pairCh (lo8 c) (hi8 c) = c := by
  rw [Int32.lt_iff_toInt_lt] at h0 h1
  have e0 : (0 : Int32).toInt = 0 := rfl
  have e1 : (65535 : Int32).toInt = 65535 := rfl
  have hc : c.toInt = c.toBitVec.toNat := by
    have := c.toBitVec.isLt
    have e : c.toInt = c.toBitVec.toInt := rfl
    rw [e] at h0 h1
    rw [e]
    rw [BitVec.toInt_eq_toNat_cond] at h0 h1 ⊢
    split at h0 <;> split <;> omega
  have hn : c.toBitVec.toNat < 65536 := by omega
  have a1 := lo8_and c
  have a2 : (hi8 c &&& 255).toBitVec.toNat = c.toBitVec.toNat / 256 := by
    rw [hi8, lo8_and]
    have e : ((8 : Int32) &&& 31) = 8 := by decide
    rw [e, Int32.toBitVec_shiftRight]
    have e2 : ((8 : Int32).toBitVec.smod 32) = 8#32 := by decide
    rw [e2, BitVec.sshiftRight_eq', BitVec.toNat_sshiftRight_of_msb_false (by rw [BitVec.msb_eq_false_iff_two_mul_lt]; omega)]
    show c.toBitVec.toNat >>> 8 % 256 = _
    rw [Nat.shiftRight_eq_div_pow]
    omega
  unfold pairCh
  apply Int32.toBitVec_inj.mp
  apply BitVec.eq_of_toNat_eq
  have f0 : ((0 : Int32) &&& 31) = 0 := by decide
  have f8 : ((8 : Int32) &&& 31) = 8 := by decide
  rw [f0, f8]
  have g : (((lo8 c &&& 255) <<< (0 : Int32)) ||| ((hi8 c &&& 255) <<< (8 : Int32))).toBitVec.toNat = c.toBitVec.toNat := by
    rw [Int32.toBitVec_or, Int32.toBitVec_shiftLeft, Int32.toBitVec_shiftLeft]
    have s0 : ((0 : Int32).toBitVec.smod 32) = 0#32 := by decide
    have s8 : ((8 : Int32).toBitVec.smod 32) = 8#32 := by decide
    rw [s0, s8, BitVec.toNat_or]
    simp only [BitVec.shiftLeft_eq', BitVec.toNat_shiftLeft, a1, a2]
    show (c.toBitVec.toNat % 256) <<< 0 % 2 ^ 32 ||| (c.toBitVec.toNat / 256) <<< 8 % 2 ^ 32 = _
    rw [Nat.shiftLeft_zero, Nat.mod_eq_of_lt (show c.toBitVec.toNat % 256 < 2 ^ 32 by omega), Nat.mod_eq_of_lt (show (c.toBitVec.toNat / 256) <<< 8 < 2 ^ 32 by rw [Nat.shiftLeft_eq]; omega), Nat.or_comm, ← Nat.shiftLeft_add_eq_or_of_lt (by omega), Nat.shiftLeft_eq]
    omega
  show BitVec.toNat (((((lo8 c &&& 255) <<< (0 : Int32)) ||| ((hi8 c &&& 255) <<< (8 : Int32))).toBitVec.setWidth 16).setWidth 32) = _
  rw [BitVec.toNat_setWidth, BitVec.toNat_setWidth, g]
  omega
end StrChars
namespace StrChars
open Jvm Sem ClassFile Op Lib Jvm.Stand Jvm.Free.XT Jvm.Free.ALB Jvm.Free.JM Jvm.Free
open Jvm.Lib.Cold (StaticIs)
/-- the array's cell V codes the n chars f 0 .. f (n - 1) by the coder cd, as the JDK does: coder 1 just where some char is above 255 -/
def Cod (cd : Int32) (n : Nat) (f : Nat → Int32) (V : Cell) : Prop := (cd = 0 ∧ V.slots.size = n ∧ ∀ j, j < n → V.slots[j]? = some (.int (lo8 (f j))) ∧ ¬ 255 < f j) ∨ (cd = 1 ∧ V.slots.size = 2 * n ∧ (∀ j, j < n → V.slots[2 * j]? = some (.int (lo8 (f j))) ∧ V.slots[2 * j + 1]? = some (.int (hi8 (f j)))) ∧ ∃ j, j < n ∧ 255 < f j)
/-- **x is a String of the n chars f 0 .. f (n - 1)**, Latin-1 or UTF-16; its array at t has the cell V -/
def Txt (x t : Addr) (V : Cell) (cd : Int32) (n : Nat) (f : Nat → Int32) (U : State) : Prop := Exact "java/lang/String" x U ∧ Has x "java/lang/String" "value" "[B" (.ref t) U ∧ Has x "java/lang/String" "coder" "B" (.int cd) U ∧ XT.Arr .byte t V U ∧ Cod cd n f V ∧ ∀ j, j < n → ¬ f j < 0 ∧ ¬ 65535 < f j
theorem Txt.mv {x t : Addr} {V : Cell} {cd : Int32} {n : Nat} {f : Nat → Int32} {U U' : State} (h : Txt x t V cd n f U) (hal : U.vm.Alike U'.vm) (hh : U'.heap = U.heap) : Txt x t V cd n f U' := ⟨h.1.mv hal hh, h.2.1.mv hal hh, h.2.2.1.mv hal hh, h.2.2.2.1.mv hal hh, h.2.2.2.2⟩
end StrChars
namespace StrChars.Road
open Jvm Sem ClassFile Op Lib Jvm.Stand Jvm.Free Jvm.Free.XT
open Jvm.Lib.Cold (StaticIs)
theorem consq {a : Array Value} {s : State} {c : Jvm.Cond} {L : List Jvm.Cond} (h0 : c.before a s = true) (h : ∀ w ∈ L, w.before a s = true) : ∀ w ∈ c :: L, w.before a s = true := fun w hw => (List.mem_cons.mp hw).elim (fun e => e ▸ h0) (h w)
/-- the bytes of the chars cs, low before high -/
def wideBytes : List Int32 → List Value
  | [] => []
  | c :: cs => .int (lo8 c) :: .int (hi8 c) :: wideBytes cs
theorem wide_lo (d : Value) : ∀ (cs : List Int32) (j : Nat), j < cs.length → (wideBytes cs).getD (2 * j) d = .int (lo8 (cs.getD j 0))
  | [], j, h => absurd h (Nat.not_lt_zero j)
  | c :: cs, 0, _ => rfl
  | c :: cs, j + 1, h => by
    have q := wide_lo d cs j (by simpa using h)
    rw [show 2 * (j + 1) = 2 * j + 1 + 1 from by omega]
    simpa [wideBytes] using q
theorem wide_hi (d : Value) : ∀ (cs : List Int32) (j : Nat), j < cs.length → (wideBytes cs).getD (2 * j + 1) d = .int (hi8 (cs.getD j 0))
  | [], j, h => absurd h (Nat.not_lt_zero j)
  | c :: cs, 0, _ => rfl
  | c :: cs, j + 1, h => by
    have q := wide_hi d cs j (by simpa using h)
    rw [show 2 * (j + 1) + 1 = 2 * j + 1 + 1 + 1 from by omega]
    simpa [wideBytes] using q
theorem low_at (d : Value) (cs : List Int32) (j : Nat) (h : j < cs.length) : (cs.map fun c => Value.int (lo8 c)).getD j d = .int (lo8 (cs.getD j 0)) := by
  simp [List.getD_eq_getElem?_getD, h]
/-- an array of N2 bytes vs codes the chars cs by the coder cd -/
def CodA (cs : List Int32) (cd N2 : Int32) (vs : List Value) : Prop := (cd = 0 ∧ N2 = Int32.ofNat cs.length ∧ vs = (cs.map fun c => Value.int (lo8 c)) ∧ ∀ c ∈ cs, ¬ 255 < c) ∨ (cd = 1 ∧ N2 = Int32.ofNat (2 * cs.length) ∧ vs = wideBytes cs ∧ ∃ c ∈ cs, 255 < c)
theorem CodA.cod {cs : List Int32} {cd N2 : Int32} {vs : List Value} {V : Cell} (h : CodA cs cd N2 vs) (hn : 2 * cs.length < 2 ^ 31) (hs : V.slots.size = N2.toNatClampNeg) (hv : RoadKit.Has V vs (.int 0)) : Cod cd cs.length (fun j => cs.getD j 0) V := by
  rcases h with ⟨rfl, rfl, rfl, h⟩ | ⟨rfl, rfl, rfl, c, hc, hw⟩
  · rw [n32 (by omega)] at hs
    exact Or.inl ⟨rfl, hs, fun j hj => ⟨by rw [hv j (by omega), low_at _ _ _ hj], by
      have e : cs.getD j 0 = cs[j] := by simp [List.getD_eq_getElem?_getD, hj]
      show ¬ 255 < cs.getD j 0
      rw [e]; exact h _ (List.getElem_mem _)⟩⟩
  · rw [n32 (by omega)] at hs
    obtain ⟨j, hj, rfl⟩ := List.getElem_of_mem hc
    exact Or.inr ⟨rfl, hs, fun j hj => ⟨by rw [hv _ (by omega), wide_lo _ _ _ hj], by rw [hv _ (by omega), wide_hi _ _ _ hj]⟩, j, hj, by
      have e : cs.getD j 0 = cs[j] := by simp [List.getD_eq_getElem?_getD, hj]
      show 255 < cs.getD j 0
      rw [e]; exact hw⟩
/-- an object of exactly java/lang/String, its two fields found: as the laws ask it -/
theorem strObj {Z U : State} {a0 : Array Value} {kI : Nat} (wi : (Jvm.Cond.instantiable ST kI).before a0 Z = true) (al : Z.vm.Alike U.vm) {x : Addr} {v0 c0 : Value} (E : RoadKit.Exa Z U.heap x ST) (V : RoadKit.Fld Z U.heap x ST "value" "[B" v0) (C : RoadKit.Fld Z U.heap x ST "coder" "B" c0) :
    ∃ (D : Cell) (fV fC : Field), Blank ST x D U ∧ Found ST "value" "[B" fV U ∧ Found ST "coder" "B" fC U ∧ D.slots[fV.slot]? = some v0 ∧ D.slots[fC.slot]? = some c0 ∧ RoadKit.slotOf Z ST "value" "[B" = fV.slot ∧ RoadKit.slotOf Z ST "coder" "B" = fC.slot := by
  obtain ⟨D, cfV, kV, iV, fV, hD, gV, stV, knV, obV, asV, slV⟩ := V
  obtain ⟨D', cfC, kC, iC, fC, hD', gC, stC, -, -, asC, slC⟩ := C
  cases hD.symm.trans hD'
  obtain ⟨D2, kD, e1, e2, e3, e4, e5⟩ := E
  cases hD.symm.trans e1
  obtain ⟨c2, k2, i1, i2, i3, -⟩ := Cond.instantiable_spec wi
  cases e2.symm.trans i1
  cases e3.symm.trans i2
  obtain ⟨kU, u1, u2⟩ := al.2.2 _ _ e3
  exact ⟨D, fV, fC, ⟨hD, ⟨knV, fun q hq => by rw [hq] at obV; cases obV⟩, by rw [al.findClass]; exact e2, kU, u1, by rw [u2]; exact i3, by rw [u2]; exact e5 i3⟩, ⟨SBG.found_only al ⟨cfV, kV, iV, gV⟩, stV⟩, ⟨SBG.found_only al ⟨cfC, kC, iC, gC⟩, stC⟩, slV, slC, by simp [RoadKit.slotOf, gV], by simp [RoadKit.slotOf, gC]⟩
theorem sta_is {Z U : State} (al : Z.vm.Alike U.vm) {C n d : String} {v : Value} (S : RoadKit.Sta Z U.heap C n d v) : StaticIs U C n d v := by
  obtain ⟨cfS, iS, kS, fS, st, cS, t1, t2, t3, t4, t5, t6, t7⟩ := S
  exact StaticIs.there (s := { Z with heap := U.heap }) ⟨cfS, iS, kS, fS, st, cS, t1, t2, t3, t4, t5, (fun q => by rw [q] at t6; cases t6), t7⟩ al rfl
end StrChars.Road
namespace StrChars
open Jvm Sem ClassFile Op Lib Jvm.Stand Jvm.Free.XT Jvm.Free.ALB Jvm.Free.JM Jvm.Free
open Jvm.Lib.Cold (StaticIs)
namespace Emp
def yN : MethodName := ⟨"java/lang/String", "isEmpty", "()Z"⟩
abbrev yB : ByteArray := jdk_42_method_55_code
theorem d0 : decode yB 0 = .ok (.aload_n 0, 1) := by decide +kernel
theorem d1 : decode yB 1 = .ok (.getfield 9, 3) := by decide +kernel
theorem d4 : decode yB 4 = .ok (.arraylength, 1) := by decide +kernel
theorem d5 : decode yB 5 = .ok (.ifCond (.ne) 7, 3) := by decide +kernel
theorem d8 : decode yB 8 = .ok (.iconst 1, 1) := by decide +kernel
theorem d9 : decode yB 9 = .ok (.goto 4, 3) := by decide +kernel
theorem d12 : decode yB 12 = .ok (.iconst 0, 1) := by decide +kernel
theorem d13 : decode yB 13 = .ok (.ireturn, 1) := by decide +kernel
def site : List Cond := [.fieldLink "java/lang/String" 9 "java/lang/String" "value" "[B"]
def tab : Cond := tabOf yN yB 1 (some .boolean) site
def P (x t : Addr) (V : Cell) (cd : Int32) (n : Nat) (f : Nat → Int32) (args : Array Value) (s : State) : Prop := args = #[.ref x] ∧ Txt x t V cd n f s
def E (n : Nat) (r : Option Value) (s u : State) : Prop := XT.PureE (some (.int (if n = 0 then 1 else 0))) r s u
/-- isEmpty() of a String of n chars -/
theorem law (l : Launch) (x t : Addr) (V : Cell) (cd : Int32) (n : Nat) (f : Nat → Int32) : Law l yN 1 0 0 0 yB 1 (some .boolean) site (P x t V cd n f) (E n) [] 0 0 := by
  refine Law.of_walk (plainFor_of_name (by decide +kernel)) (by decide +kernel) (by decide +kernel) (by decide) (fun _ _ h => by rw [h.1]; rfl) (fun _ U U' hal hh h => ⟨h.1, h.2.mv hal hh⟩) (fun r U U' V V' h1 hal h2 h => XT.PureE.mv r U U' V V' h1 hal h2 h) ?_
  intro p e s m args below meth c s₁ X0 hexec hbytes hml hret hlk hnm hown hh0 W hP
  obtain ⟨rfl, hx⟩ := hP
  have v31 := hx.2.2.2.1.2.2.2
  have c1 : Steps p.tables e below (s₁.setTop (entryFrame m #[.ref x] 1)) (s₁.setTop (mkF m 1 #[.val (.ref x)] [.ref x])) := Steps.trans (entry rfl) (by
    show Steps p.tables e below (s₁.setTop (mkF m 0 #[.val (.ref x)] [])) _
    refine XS.aloadN X0.here hexec rfl (hb hbytes d0) rfl rfl ?_
    exact Steps.refl _)
  obtain ⟨T2, X2, q2, st2⟩ := X0.hget hexec hown (wk W (.fieldLink "java/lang/String" 9 "java/lang/String" "value" "[B")) (hx.mv X0.warmed.alike hh0).2.1 (g := (mkF m 1 #[.val (.ref x)] [.ref x])) rfl (rest := []) rfl (hb hbytes d1)
  have hh2 := q2.trans hh0
  have hx2 := hx.mv X2.warmed.alike hh2
  have c3 : Steps p.tables e below (s₁.setTop (entryFrame m #[.ref x] 1)) (T2.setTop (mkF m 5 #[.val (.ref x)] [.int (Int32.ofNat V.slots.size)])) := (c1.trans (st2 _ (Steps.refl _))).trans (by
    refine X2.alen hexec hx2.2.2.2.1 rfl rfl (hb hbytes d4) ?_
    exact Steps.refl _)
  have hz : V.slots.size = 0 ↔ n = 0 := by
    rcases hx.2.2.2.2.1 with ⟨-, q, -⟩ | ⟨-, q, -⟩ <;> omega
  by_cases h0 : n = 0
  · have c4 : Steps p.tables e below (s₁.setTop (entryFrame m #[.ref x] 1)) (T2.setTop (mkF m 13 #[.val (.ref x)] [.int 1])) := c3.trans (by
      refine XS.ifNo X2.here hexec rfl (hb hbytes d5) rfl (i0_ne_f (by rw [hz.mpr h0]; rfl)) ?_
      refine iconstV X2.here hexec rfl 1 (hb hbytes d8) (by decide) ?_
      refine XS.goto X2.here hexec rfl (pc0 := 9) rfl (hb hbytes d9) (by decide) rfl ?_
      exact Steps.refl _)
    exact ⟨T2, some (.int 1), _, _, _, X2, rfl, rfl, rfl, (fun h => by cases h), ⟨by rw [if_pos h0], hh2⟩, fun fs hl => c4.trans (X2.ireturnOut hexec hret rfl (Or.inr (Or.inl rfl)) (hb hbytes d13) hl)⟩
  · have c4 : Steps p.tables e below (s₁.setTop (entryFrame m #[.ref x] 1)) (T2.setTop (mkF m 13 #[.val (.ref x)] [.int 0])) := c3.trans (by
      refine XS.ifYes X2.here hexec rfl (pc0 := 5) rfl (hb hbytes d5) rfl (i0_ne_t (nz32 v31 (by omega))) (by decide) rfl ?_
      refine iconstV X2.here hexec rfl 0 (hb hbytes d12) (by decide) ?_
      exact Steps.refl _)
    exact ⟨T2, some (.int 0), _, _, _, X2, rfl, rfl, rfl, (fun h => by cases h), ⟨by rw [if_neg h0], hh2⟩, fun fs hl => c4.trans (X2.ireturnOut hexec hret rfl (Or.inr (Or.inl rfl)) (hb hbytes d13) hl)⟩
theorem pays {l : Launch} {R : Room} {p : Program} {e : Env} {below : List Frame} {s : State} {sargs : Array Value} {len W : Nat} (x t : Addr) (V : Cell) (cd : Int32) (n : Nat) (f : Nat → Int32) (htab : tab.before sargs s = true) (hfr : 1 ≤ R.frames) (hlo : W + 12 ≤ R.locals) :
    Back l R p e below s sargs yN len W (fun A₁ a₁ => A₁.cells + 0 ≤ R.cells ∧ A₁.slots + 0 ≤ R.slots ∧ P x t V cd n f a₁ A₁.U) (fun A₁ _ v₁ B₁ => E n v₁ A₁.U B₁.U ∧ B₁.locs = A₁.locs ++ [] ∧ B₁.cells = A₁.cells + 0 ∧ B₁.slots = A₁.slots + 0) :=
  (law l x t V cd n f).pays htab hfr (by omega)
end Emp
/-- what place i of a byte[]'s cell holds -/
def yv (A : Cell) (i : Nat) : Int32 := match A.slots[i]? with | some (.int x) => x | _ => 0
theorem yv_get {a : Addr} {A : Cell} {U : State} (h : XT.Arr .byte a A U) (ht : Typed .byte A) {i : Nat} (hi : i < A.slots.size) : A.slots[i]? = some (.int (yv A i)) := by
  have e := Array.getElem?_eq_getElem hi
  have f := ht i _ e
  unfold yv; rw [e]
  generalize A.slots[i] = v at f
  cases v <;> simp [fits] at f ⊢
/-- the two arrays are equal, place for place -/
def EqC (A B : Cell) : Prop := A.slots.size = B.slots.size ∧ ∀ i, i < A.slots.size → yv A i = yv B i
/-- a boolean that says whether p -/
def Says01 (q : Prop) (r : Option Value) (s u : State) : Prop := ∃ v : Int32, r = some (.int v) ∧ u.heap = s.heap ∧ ((v = 1 ∧ q) ∨ (v = 0 ∧ ¬ q))
theorem Says01.mv {q : Prop} : ∀ r (U U' V V' : State), U'.heap = U.heap → V.vm.Alike V'.vm → V'.heap = V.heap → Says01 q r U V → Says01 q r U' V' :=
  fun r U U' V V' h1 _ h2 ⟨v, a, b, c⟩ => ⟨v, a, by rw [h1, h2]; exact b, c⟩
namespace LEq
def yN : MethodName := ⟨"java/lang/StringLatin1", "equals", "([B[B)Z"⟩
abbrev yB : ByteArray := jdk_43_method_13_code
theorem d0 : decode yB 0 = .ok (.aload_n 0, 1) := by decide +kernel
theorem d1 : decode yB 1 = .ok (.arraylength, 1) := by decide +kernel
theorem d2 : decode yB 2 = .ok (.aload_n 1, 1) := by decide +kernel
theorem d3 : decode yB 3 = .ok (.arraylength, 1) := by decide +kernel
theorem d4 : decode yB 4 = .ok (.if_icmp (.ne) 30, 3) := by decide +kernel
theorem d7 : decode yB 7 = .ok (.iconst 0, 1) := by decide +kernel
theorem d8 : decode yB 8 = .ok (.istore_n 2, 1) := by decide +kernel
theorem d9 : decode yB 9 = .ok (.iload_n 2, 1) := by decide +kernel
theorem d10 : decode yB 10 = .ok (.aload_n 0, 1) := by decide +kernel
theorem d11 : decode yB 11 = .ok (.arraylength, 1) := by decide +kernel
theorem d12 : decode yB 12 = .ok (.if_icmp (.ge) 20, 3) := by decide +kernel
theorem d15 : decode yB 15 = .ok (.aload_n 0, 1) := by decide +kernel
theorem d16 : decode yB 16 = .ok (.iload_n 2, 1) := by decide +kernel
theorem d17 : decode yB 17 = .ok (.baload, 1) := by decide +kernel
theorem d18 : decode yB 18 = .ok (.aload_n 1, 1) := by decide +kernel
theorem d19 : decode yB 19 = .ok (.iload_n 2, 1) := by decide +kernel
theorem d20 : decode yB 20 = .ok (.baload, 1) := by decide +kernel
theorem d21 : decode yB 21 = .ok (.if_icmp (.eq) 5, 3) := by decide +kernel
theorem d24 : decode yB 24 = .ok (.iconst 0, 1) := by decide +kernel
theorem d25 : decode yB 25 = .ok (.ireturn, 1) := by decide +kernel
theorem d26 : decode yB 26 = .ok (.iinc 2 1, 3) := by decide +kernel
theorem d29 : decode yB 29 = .ok (.goto (-20), 3) := by decide +kernel
theorem d32 : decode yB 32 = .ok (.iconst 1, 1) := by decide +kernel
theorem d33 : decode yB 33 = .ok (.ireturn, 1) := by decide +kernel
theorem d34 : decode yB 34 = .ok (.iconst 0, 1) := by decide +kernel
theorem d35 : decode yB 35 = .ok (.ireturn, 1) := by decide +kernel
def site : List Cond := []
def tab : Cond := tabOf yN yB 3 (some .boolean) site
def P (a : Addr) (A : Cell) (b : Addr) (B : Cell) (args : Array Value) (s : State) : Prop := args = #[.ref a, .ref b] ∧ XT.Arr .byte a A s ∧ Typed .byte A ∧ XT.Arr .byte b B s ∧ Typed .byte B
/-- whether two byte[] are equal, place for place -/
theorem law (l : Launch) (a : Addr) (A : Cell) (b : Addr) (B : Cell) : Law l yN 2 2 0 0 yB 3 (some .boolean) site (P a A b B) (Says01 (EqC A B)) [] 0 0 := by
  refine Law.of_walk (plainFor_of_name (by decide +kernel)) (by decide +kernel) (by decide +kernel) (by decide) (fun _ _ h => by rw [h.1]; rfl) (fun _ U U' hal hh h => ⟨h.1, h.2.1.mv hal hh, h.2.2.1, h.2.2.2.1.mv hal hh, h.2.2.2.2⟩) (fun r U U' V V' h1 hal h2 h => Says01.mv r U U' V V' h1 hal h2 h) ?_
  intro p e s m args below meth c s₁ X0 hexec hbytes hml hret hlk hnm hown hh0 W hP
  obtain ⟨rfl, hA, tA, hB, tB⟩ := hP
  have a31 := hA.2.2.2
  have b31 := hB.2.2.2
  have hA0 := hA.mv X0.warmed.alike hh0
  have hB0 := hB.mv X0.warmed.alike hh0
  have c1 : Steps p.tables e below (s₁.setTop (entryFrame m #[.ref a, .ref b] 3)) (s₁.setTop (mkF m 0 #[.val (.ref a), .val (.ref b), .unset] [])) := entry rfl
  have c2 : Steps p.tables e below (s₁.setTop (entryFrame m #[.ref a, .ref b] 3)) (s₁.setTop (mkF m 4 #[.val (.ref a), .val (.ref b), .unset] [.int (Int32.ofNat B.slots.size), .int (Int32.ofNat A.slots.size)])) := c1.trans (by
    refine XS.aloadN X0.here hexec rfl (hb hbytes d0) rfl rfl ?_
    refine X0.alen hexec hA0 rfl rfl (hb hbytes d1) ?_
    refine XS.aloadN X0.here hexec rfl (hb hbytes d2) rfl rfl ?_
    refine X0.alen hexec hB0 rfl rfl (hb hbytes d3) ?_
    exact Steps.refl _)
  by_cases hs : A.slots.size = B.slots.size
  · have c3 : Steps p.tables e below (s₁.setTop (entryFrame m #[.ref a, .ref b] 3)) (s₁.setTop (mkF m 9 #[.val (.ref a), .val (.ref b), .val (.int 0)] [])) := c2.trans (by
      refine XS.icmpNo X0.here hexec rfl (hb hbytes d4) rfl (ii_ne_f (by rw [hs])) ?_
      refine iconstV X0.here hexec rfl 0 (hb hbytes d7) (by decide) ?_
      refine XS.istoreN X0.here hexec rfl (hb hbytes d8) rfl rfl ?_
      exact Steps.refl _)
    have loop : ∀ (r i : Nat), i + r = A.slots.size → (∀ j, j < i → yv A j = yv B j) → Steps p.tables e below (s₁.setTop (entryFrame m #[.ref a, .ref b] 3)) (s₁.setTop (mkF m 9 #[.val (.ref a), .val (.ref b), .val (.int (Int32.ofNat i))] [])) → ∃ (pc : Nat) (Ls : Array Slot) (v : Int32), (pc = 25 ∨ pc = 33) ∧ ((v = 1 ∧ EqC A B) ∨ (v = 0 ∧ ¬ EqC A B)) ∧ Steps p.tables e below (s₁.setTop (entryFrame m #[.ref a, .ref b] 3)) (s₁.setTop (mkF m pc Ls [.int v])) := by
      intro r
      induction r with
      | zero =>
        intro i hi he cl
        exact ⟨33, _, 1, Or.inr rfl, Or.inl ⟨rfl, hs, fun j hj => he j (by omega)⟩, cl.trans (by
          refine XS.iloadN X0.here hexec rfl (hb hbytes d9) rfl ?_
          refine XS.aloadN X0.here hexec rfl (hb hbytes d10) rfl rfl ?_
          refine X0.alen hexec hA0 rfl rfl (hb hbytes d11) ?_
          refine XS.icmpYes X0.here hexec rfl (pc0 := 12) rfl (hb hbytes d12) rfl (ii_ge_t (nlt32 (by omega) (by omega))) (by decide) rfl ?_
          refine iconstV X0.here hexec rfl 1 (hb hbytes d32) (by decide) ?_
          exact Steps.refl _)⟩
      | succ r ih =>
        intro i hi he cl
        have c4 : Steps p.tables e below (s₁.setTop (entryFrame m #[.ref a, .ref b] 3)) (s₁.setTop (mkF m 21 #[.val (.ref a), .val (.ref b), .val (.int (Int32.ofNat i))] [.int (yv B i), .int (yv A i)])) := cl.trans (by
          refine XS.iloadN X0.here hexec rfl (hb hbytes d9) rfl ?_
          refine XS.aloadN X0.here hexec rfl (hb hbytes d10) rfl rfl ?_
          refine X0.alen hexec hA0 rfl rfl (hb hbytes d11) ?_
          refine XS.icmpNo X0.here hexec rfl (hb hbytes d12) rfl (ii_ge_f (lt32 (by omega) (by omega))) ?_
          refine XS.aloadN X0.here hexec rfl (hb hbytes d15) rfl rfl ?_
          refine XS.iloadN X0.here hexec rfl (hb hbytes d16) rfl ?_
          refine X0.aget hexec hA0 rfl (yv_get hA tA (i := i) (by omega)) rfl rfl (hb hbytes d17) ?_
          refine XS.aloadN X0.here hexec rfl (hb hbytes d18) rfl rfl ?_
          refine XS.iloadN X0.here hexec rfl (hb hbytes d19) rfl ?_
          refine X0.aget hexec hB0 rfl (yv_get hB tB (i := i) (by omega)) rfl rfl (hb hbytes d20) ?_
          exact Steps.refl _)
        by_cases hv : yv A i = yv B i
        · have c5 : Steps p.tables e below (s₁.setTop (entryFrame m #[.ref a, .ref b] 3)) (s₁.setTop (mkF m 9 #[.val (.ref a), .val (.ref b), .val (.int (Int32.ofNat i + 1))] [])) := c4.trans (by
            refine XS.icmpYes X0.here hexec rfl (pc0 := 21) rfl (hb hbytes d21) rfl (ii_eq_t hv) (by decide) rfl ?_
            refine iincV X0.here hexec rfl 1 (hb hbytes d26) (by decide) rfl rfl ?_
            refine XS.goto X0.here hexec rfl (pc0 := 29) rfl (hb hbytes d29) (by decide) rfl ?_
            exact Steps.refl _)
          rw [succ32] at c5
          exact ih (i + 1) (by omega) (fun j hj => by
            by_cases e : j = i
            · rw [e]; exact hv
            · exact he j (by omega)) c5
        · exact ⟨25, _, 0, Or.inl rfl, Or.inr ⟨rfl, fun q => hv (q.2 i (by omega))⟩, c4.trans (by
            refine XS.icmpNo X0.here hexec rfl (hb hbytes d21) rfl (ii_eq_f hv) ?_
            refine iconstV X0.here hexec rfl 0 (hb hbytes d24) (by decide) ?_
            exact Steps.refl _)⟩
    obtain ⟨pc, Ls, v, hpc, hv, cz⟩ := loop A.slots.size 0 (by omega) (fun j hj => absurd hj (Nat.not_lt_zero j)) c3
    have nv : narrow .boolean (.int v) = .int v := by rcases hv with ⟨rfl, -⟩ | ⟨rfl, -⟩ <;> rfl
    rcases hpc with rfl | rfl
    · exact ⟨s₁, some (.int v), _, _, _, X0, rfl, rfl, rfl, (fun h => by cases h), ⟨v, rfl, hh0, hv⟩, fun fs hl => cz.trans (X0.ireturnOut hexec hret nv (Or.inr (Or.inl rfl)) (hb hbytes d25) hl)⟩
    · exact ⟨s₁, some (.int v), _, _, _, X0, rfl, rfl, rfl, (fun h => by cases h), ⟨v, rfl, hh0, hv⟩, fun fs hl => cz.trans (X0.ireturnOut hexec hret nv (Or.inr (Or.inl rfl)) (hb hbytes d33) hl)⟩
  · have c3 : Steps p.tables e below (s₁.setTop (entryFrame m #[.ref a, .ref b] 3)) (s₁.setTop (mkF m 35 #[.val (.ref a), .val (.ref b), .unset] [.int 0])) := c2.trans (by
      refine XS.icmpYes X0.here hexec rfl (pc0 := 4) rfl (hb hbytes d4) rfl (ii_ne_t (ne32 a31 b31 hs)) (by decide) rfl ?_
      refine iconstV X0.here hexec rfl 0 (hb hbytes d34) (by decide) ?_
      exact Steps.refl _)
    exact ⟨s₁, some (.int 0), _, _, _, X0, rfl, rfl, rfl, (fun h => by cases h), ⟨0, rfl, hh0, Or.inr ⟨rfl, fun q => hs q.1⟩⟩, fun fs hl => c3.trans (X0.ireturnOut hexec hret rfl (Or.inr (Or.inl rfl)) (hb hbytes d35) hl)⟩
end LEq
theorem Cod.ty {cd : Int32} {n : Nat} {f : Nat → Int32} {V : Cell} (h : Cod cd n f V) : Typed .byte V := fun i v hv => by
  have hi : i < V.slots.size := (Array.getElem?_eq_some_iff.mp hv).1
  rcases h with ⟨-, k1, k2⟩ | ⟨-, k1, k2, -⟩
  · rw [(k2 i (by omega)).1] at hv; cases hv; exact fits_lo8 _
  · rcases Nat.mod_two_eq_zero_or_one i with e | e
    · obtain ⟨j, rfl⟩ : ∃ j, i = 2 * j := ⟨i / 2, by omega⟩
      rw [(k2 j (by omega)).1] at hv; cases hv; exact fits_lo8 _
    · obtain ⟨j, rfl⟩ : ∃ j, i = 2 * j + 1 := ⟨i / 2, by omega⟩
      rw [(k2 j (by omega)).2] at hv; cases hv; exact fits_lo8 _
/-- the same text -/
def SameT (n : Nat) (f : Nat → Int32) (k : Nat) (g : Nat → Int32) : Prop := n = k ∧ ∀ j, j < n → f j = g j
theorem lo8_inj {x y : Int32} (h0 : ¬ x < 0) (h1 : ¬ 255 < x) (k0 : ¬ y < 0) (k1 : ¬ 255 < y) (h : lo8 x = lo8 y) : x = y := by
  rw [← lo8_mask h0 h1, ← lo8_mask k0 k1, h]
/-- arrays coded by one coder are equal just where the texts are -/
theorem Cod.eqv {cd : Int32} {n k : Nat} {f g : Nat → Int32} {V V' : Cell} (h : Cod cd n f V) (h' : Cod cd k g V') (hf : ∀ j, j < n → ¬ f j < 0 ∧ ¬ 65535 < f j) (hg : ∀ j, j < k → ¬ g j < 0 ∧ ¬ 65535 < g j) : EqC V V' ↔ SameT n f k g := by
  have yvv : ∀ {W : Cell} {i : Nat} {x : Int32}, W.slots[i]? = some (.int x) → yv W i = x := fun q => by unfold yv; rw [q]
  rcases h with ⟨rfl, k1, k2⟩ | ⟨rfl, k1, k2, -⟩
  · rcases h' with ⟨-, m1, m2⟩ | ⟨e, -⟩
    · constructor
      · rintro ⟨e1, e2⟩
        refine ⟨by omega, fun j hj => ?_⟩
        have q := e2 j (by omega)
        rw [yvv (k2 j hj).1, yvv (m2 j (by omega)).1] at q
        exact lo8_inj (hf j hj).1 (k2 j hj).2 (hg j (by omega)).1 (m2 j (by omega)).2 q
      · rintro ⟨rfl, e2⟩
        refine ⟨by omega, fun j hj => ?_⟩
        rw [yvv (k2 j (by omega)).1, yvv (m2 j (by omega)).1, e2 j (by omega)]
    · exact absurd e (by decide)
  · rcases h' with ⟨e, -⟩ | ⟨-, m1, m2, -⟩
    · exact absurd e (by decide)
    · constructor
      · rintro ⟨e1, e2⟩
        refine ⟨by omega, fun j hj => ?_⟩
        have q1 := e2 (2 * j) (by omega)
        have q2 := e2 (2 * j + 1) (by omega)
        rw [yvv (k2 j hj).1, yvv (m2 j (by omega)).1] at q1
        rw [yvv (k2 j hj).2, yvv (m2 j (by omega)).2] at q2
        rw [← pair_says (hf j hj).1 (hf j hj).2, ← pair_says (hg j (by omega)).1 (hg j (by omega)).2, q1, q2]
      · rintro ⟨rfl, e2⟩
        refine ⟨by omega, fun i hi => ?_⟩
        rcases Nat.mod_two_eq_zero_or_one i with e | e
        · obtain ⟨j, rfl⟩ : ∃ j, i = 2 * j := ⟨i / 2, by omega⟩
          rw [yvv (k2 j (by omega)).1, yvv (m2 j (by omega)).1, e2 j (by omega)]
        · obtain ⟨j, rfl⟩ : ∃ j, i = 2 * j + 1 := ⟨i / 2, by omega⟩
          rw [yvv (k2 j (by omega)).2, yvv (m2 j (by omega)).2, e2 j (by omega)]
/-- two codings differ: so do the texts -/
theorem Cod.dif {cd cd' : Int32} {n k : Nat} {f g : Nat → Int32} {V V' : Cell} (h : Cod cd n f V) (h' : Cod cd' k g V') (hne : ¬ cd = cd') : ¬ SameT n f k g := by
  rintro ⟨rfl, e⟩
  rcases h with ⟨rfl, -, k2⟩ | ⟨rfl, -, -, j, hj, hw⟩
  · rcases h' with ⟨rfl, -⟩ | ⟨-, -, -, j, hj, hw⟩
    · exact hne rfl
    · exact (k2 j hj).2 (by rw [e j hj]; exact hw)
  · rcases h' with ⟨-, -, m2⟩ | ⟨rfl, -⟩
    · exact (m2 j hj).2 (by rw [← e j hj]; exact hw)
    · exact hne rfl
/-- an object of exactly C is an instance of C -/
theorem cinst {p : Program} {l : Launch} {e : Env} {R : Room} {s : State} {m : MethodId} {args : Array Value} {below : List Frame} {meth : Method} {c : Code} {T : State} {locs : List Loc} {cells slots : Nat} (X : Stand p l e R s m args below meth c T locs cells slots) (hexec : p.tables.exec = Jvm.exec) {own C : String} {index : Nat} (hown : s.vm.findClass own = some m.cls) (hlink : (Cond.classLink own index C).before args s = true) {a : Addr} (hE : Exact C a T)
    {g : JFrame} (hg : g.method = m) {rest : List Value} (hstack : g.stack = .ref a :: rest) (hdg : decode c.code g.pc = .ok (.instanceof index, 3)) :
    ∃ T', Stand p l e R s m args below meth c T' locs cells slots ∧ T'.heap = T.heap ∧ ∀ target, Steps p.tables e below (T'.setTop { g with pc := g.pc + 3, stack := .int 1 :: rest }) target → Steps p.tables e below (T.setTop g) target := by
  obtain ⟨cB, h1, D, h2, h3, h4⟩ := hE
  have h1' : s.vm.findClass C = some cB := by rw [← X.warmed.alike.findClass]; exact h1
  obtain ⟨vm', X', st⟩ := X.instanceofYes hexec hown hlink h2 h4 h1' (by rw [h3]; exact Jvm.Free.SB.assignable_self _ _) hg hstack hdg
  exact ⟨_, X', rfl, st⟩
theorem cself {p : Program} {l : Launch} {e : Env} {R : Room} {s : State} {m : MethodId} {args : Array Value} {below : List Frame} {meth : Method} {c : Code} {T : State} {locs : List Loc} {cells slots : Nat} (X : Stand p l e R s m args below meth c T locs cells slots) (hexec : p.tables.exec = Jvm.exec) {own C : String} {index : Nat} (hown : s.vm.findClass own = some m.cls) (hlink : (Cond.classLink own index C).before args s = true) {a : Addr} (hE : Exact C a T)
    {g : JFrame} (hg : g.method = m) {rest : List Value} (hstack : g.stack = .ref a :: rest) (hdg : decode c.code g.pc = .ok (.checkcast index, 3)) :
    ∃ T', Stand p l e R s m args below meth c T' locs cells slots ∧ T'.heap = T.heap ∧ ∀ target, Steps p.tables e below (T'.setTop { g with pc := g.pc + 3, stack := .ref a :: rest }) target → Steps p.tables e below (T.setTop g) target := by
  obtain ⟨cB, h1, D, h2, h3, h4⟩ := hE
  have h1' : s.vm.findClass C = some cB := by rw [← X.warmed.alike.findClass]; exact h1
  obtain ⟨vm', X', st⟩ := X.checkcastYes hexec hown hlink h2 h4 h1' (by rw [h3]; exact Jvm.Free.SB.assignable_self _ _) hg hstack hdg
  exact ⟨_, X', rfl, fun t h => st t (by rw [← hstack] at h; exact h)⟩
namespace SEq
def yN : MethodName := ⟨"java/lang/String", "equals", "(Ljava/lang/Object;)Z"⟩
abbrev yB : ByteArray := jdk_42_method_66_code
theorem d0 : decode yB 0 = .ok (.aload_n 0, 1) := by decide +kernel
theorem d1 : decode yB 1 = .ok (.aload_n 1, 1) := by decide +kernel
theorem d2 : decode yB 2 = .ok (.if_acmp (.ne) 5, 3) := by decide +kernel
theorem d5 : decode yB 5 = .ok (.iconst 1, 1) := by decide +kernel
theorem d6 : decode yB 6 = .ok (.ireturn, 1) := by decide +kernel
theorem d7 : decode yB 7 = .ok (.aload_n 1, 1) := by decide +kernel
theorem d8 : decode yB 8 = .ok (.instanceof 10, 3) := by decide +kernel
theorem d11 : decode yB 11 = .ok (.ifCond (.eq) 43, 3) := by decide +kernel
theorem d14 : decode yB 14 = .ok (.aload_n 1, 1) := by decide +kernel
theorem d15 : decode yB 15 = .ok (.checkcast 10, 3) := by decide +kernel
theorem d18 : decode yB 18 = .ok (.astore_n 2, 1) := by decide +kernel
theorem d19 : decode yB 19 = .ok (.getstatic 38, 3) := by decide +kernel
theorem d22 : decode yB 22 = .ok (.ifCond (.eq) 14, 3) := by decide +kernel
theorem d25 : decode yB 25 = .ok (.aload_n 0, 1) := by decide +kernel
theorem d26 : decode yB 26 = .ok (.getfield 15, 3) := by decide +kernel
theorem d29 : decode yB 29 = .ok (.aload_n 2, 1) := by decide +kernel
theorem d30 : decode yB 30 = .ok (.getfield 15, 3) := by decide +kernel
theorem d33 : decode yB 33 = .ok (.if_icmp (.ne) 21, 3) := by decide +kernel
theorem d36 : decode yB 36 = .ok (.aload_n 0, 1) := by decide +kernel
theorem d37 : decode yB 37 = .ok (.getfield 9, 3) := by decide +kernel
theorem d40 : decode yB 40 = .ok (.aload_n 2, 1) := by decide +kernel
theorem d41 : decode yB 41 = .ok (.getfield 9, 3) := by decide +kernel
theorem d44 : decode yB 44 = .ok (.invokestatic 541, 3) := by decide +kernel
theorem d47 : decode yB 47 = .ok (.ifCond (.eq) 7, 3) := by decide +kernel
theorem d50 : decode yB 50 = .ok (.iconst 1, 1) := by decide +kernel
theorem d51 : decode yB 51 = .ok (.goto 4, 3) := by decide +kernel
theorem d54 : decode yB 54 = .ok (.iconst 0, 1) := by decide +kernel
theorem d55 : decode yB 55 = .ok (.ireturn, 1) := by decide +kernel
def site : List Cond := [.classLink "java/lang/String" 10 "java/lang/String", .fieldLink "java/lang/String" 38 "java/lang/String" "COMPACT_STRINGS" "Z", .fieldLink "java/lang/String" 15 "java/lang/String" "coder" "B", .fieldLink "java/lang/String" 9 "java/lang/String" "value" "[B", LEq.tab] ++ staticW "java/lang/String" 541 LEq.yN
def tab : Cond := tabOf yN yB 3 (some .boolean) site
def P (x t : Addr) (V : Cell) (cd : Int32) (n : Nat) (f : Nat → Int32) (y t' : Addr) (V' : Cell) (cd' : Int32) (k : Nat) (g : Nat → Int32) (z : Int32) (args : Array Value) (s : State) : Prop := args = #[.ref x, .ref y] ∧ Txt x t V cd n f s ∧ Txt y t' V' cd' k g s ∧ StaticIs s "java/lang/String" "COMPACT_STRINGS" "Z" (.int z) ∧ ¬ z = 0
/-- equals(Object) of two Strings: whether the texts are the same -/
theorem law (l : Launch) (x t : Addr) (V : Cell) (cd : Int32) (n : Nat) (f : Nat → Int32) (y t' : Addr) (V' : Cell) (cd' : Int32) (k : Nat) (g : Nat → Int32) (z : Int32) : Law l yN 2 1 1 14 yB 3 (some .boolean) site (P x t V cd n f y t' V' cd' k g z) (Says01 (SameT n f k g)) [] 0 0 := by
  refine Law.of_walk (plainFor_of_name (by decide +kernel)) (by decide +kernel) (by decide +kernel) (by decide) (fun _ _ h => by rw [h.1]; rfl) (fun _ U U' hal hh h => ⟨h.1, h.2.1.mv hal hh, h.2.2.1.mv hal hh, h.2.2.2.1.there hal hh, h.2.2.2.2⟩) (fun r U U' V V' h1 hal h2 h => Says01.mv r U U' V V' h1 hal h2 h) ?_
  intro p e s m args below meth c s₁ X0 hexec hbytes hml hret hlk hnm hown hh0 W hP
  obtain ⟨rfl, hx, hy, s1, hz⟩ := hP
  have c1 : Steps p.tables e below (s₁.setTop (entryFrame m #[.ref x, .ref y] 3)) (s₁.setTop (mkF m 2 #[.val (.ref x), .val (.ref y), .unset] [.ref y, .ref x])) := Steps.trans (entry rfl) (by
    show Steps p.tables e below (s₁.setTop (mkF m 0 #[.val (.ref x), .val (.ref y), .unset] [])) _
    refine XS.aloadN X0.here hexec rfl (hb hbytes d0) rfl rfl ?_
    refine XS.aloadN X0.here hexec rfl (hb hbytes d1) rfl rfl ?_
    exact Steps.refl _)
  by_cases hxy : x = y
  · have c2 : Steps p.tables e below (s₁.setTop (entryFrame m #[.ref x, .ref y] 3)) (s₁.setTop (mkF m 6 #[.val (.ref x), .val (.ref y), .unset] [.int 1])) := c1.trans (by
      refine acmpNo X0.here hexec rfl (hb hbytes d2) rfl rfl rfl (by simp [acmp, hxy]) ?_
      refine iconstV X0.here hexec rfl 1 (hb hbytes d5) (by decide) ?_
      exact Steps.refl _)
    subst hxy
    have ec : cd = cd' := by
      obtain ⟨D, fd, a1, a2, a3⟩ := hx.2.2.1
      obtain ⟨D', fd', b1, b2, b3⟩ := hy.2.2.1
      cases a1.symm.trans b1
      obtain ⟨q1, q2, q3, q4⟩ := a2.1
      obtain ⟨r1, r2, r3, r4⟩ := b2.1
      cases q4.symm.trans r4
      cases a3.symm.trans b3; rfl
    have et : t = t' := by
      obtain ⟨D, fd, a1, a2, a3⟩ := hx.2.1
      obtain ⟨D', fd', b1, b2, b3⟩ := hy.2.1
      cases a1.symm.trans b1
      obtain ⟨q1, q2, q3, q4⟩ := a2.1
      obtain ⟨r1, r2, r3, r4⟩ := b2.1
      cases q4.symm.trans r4
      cases a3.symm.trans b3; rfl
    subst ec et
    have ev : V = V' := by cases hx.2.2.2.1.1.symm.trans hy.2.2.2.1.1; rfl
    subst ev
    have hs : SameT n f k g := (Cod.eqv hx.2.2.2.2.1 hy.2.2.2.2.1 hx.2.2.2.2.2 hy.2.2.2.2.2).mp ⟨rfl, fun _ _ => rfl⟩
    exact ⟨s₁, some (.int 1), _, _, _, X0, rfl, rfl, rfl, (fun h => by cases h), ⟨1, rfl, hh0, Or.inl ⟨rfl, hs⟩⟩, fun fs hl => c2.trans (X0.ireturnOut hexec hret rfl (Or.inr (Or.inl rfl)) (hb hbytes d6) hl)⟩
  · have c2 : Steps p.tables e below (s₁.setTop (entryFrame m #[.ref x, .ref y] 3)) (s₁.setTop (mkF m 8 #[.val (.ref x), .val (.ref y), .unset] [.ref y])) := c1.trans (by
      refine acmpYes X0.here hexec rfl (pc0 := 2) rfl (hb hbytes d2) rfl rfl rfl (by simp [acmp, hxy]) (by decide) rfl ?_
      refine XS.aloadN X0.here hexec rfl (hb hbytes d7) rfl rfl ?_
      exact Steps.refl _)
    obtain ⟨T3, X3, q3, st3⟩ := cinst X0 hexec hown (wk W (.classLink "java/lang/String" 10 "java/lang/String")) (hy.mv X0.warmed.alike hh0).1 (g := (mkF m 8 #[.val (.ref x), .val (.ref y), .unset] [.ref y])) rfl (rest := []) rfl (hb hbytes d8)
    have hh3 := q3.trans hh0
    have c4 : Steps p.tables e below (s₁.setTop (entryFrame m #[.ref x, .ref y] 3)) (T3.setTop (mkF m 15 #[.val (.ref x), .val (.ref y), .unset] [.ref y])) := (c2.trans (st3 _ (Steps.refl _))).trans (by
      refine XS.ifNo X3.here hexec rfl (hb hbytes d11) rfl (i0_eq_f (by decide)) ?_
      refine XS.aloadN X3.here hexec rfl (hb hbytes d14) rfl rfl ?_
      exact Steps.refl _)
    obtain ⟨T5, X5, q5, st5⟩ := cself X3 hexec hown (wk W (.classLink "java/lang/String" 10 "java/lang/String")) (hy.mv X3.warmed.alike hh3).1 (g := (mkF m 15 #[.val (.ref x), .val (.ref y), .unset] [.ref y])) rfl (rest := []) rfl (hb hbytes d15)
    have hh5 := q5.trans hh3
    have c6 : Steps p.tables e below (s₁.setTop (entryFrame m #[.ref x, .ref y] 3)) (T5.setTop (mkF m 19 #[.val (.ref x), .val (.ref y), .val (.ref y)] [])) := (c4.trans (st5 _ (Steps.refl _))).trans (by
      refine XS.astoreN X5.here hexec rfl (hb hbytes d18) rfl rfl rfl ?_
      exact Steps.refl _)
    obtain ⟨T7, X7, q7, st7⟩ := X5.sget hexec hown (wk W (.fieldLink "java/lang/String" 38 "java/lang/String" "COMPACT_STRINGS" "Z")) s1 (fun _ _ h => by rw [hh5]; exact h) (g := (mkF m 19 #[.val (.ref x), .val (.ref y), .val (.ref y)] [])) rfl (hb hbytes d19)
    have hh7 := q7.trans hh5
    have c8 : Steps p.tables e below (s₁.setTop (entryFrame m #[.ref x, .ref y] 3)) (T7.setTop (mkF m 26 #[.val (.ref x), .val (.ref y), .val (.ref y)] [.ref x])) := (c6.trans (st7 _ (Steps.refl _))).trans (by
      refine XS.ifNo X7.here hexec rfl (hb hbytes d22) rfl (i0_eq_f hz) ?_
      refine XS.aloadN X7.here hexec rfl (hb hbytes d25) rfl rfl ?_
      exact Steps.refl _)
    obtain ⟨T9, X9, q9, st9⟩ := X7.hget hexec hown (wk W (.fieldLink "java/lang/String" 15 "java/lang/String" "coder" "B")) (hx.mv X7.warmed.alike hh7).2.2.1 (g := (mkF m 26 #[.val (.ref x), .val (.ref y), .val (.ref y)] [.ref x])) rfl (rest := []) rfl (hb hbytes d26)
    have hh9 := q9.trans hh7
    have c10 : Steps p.tables e below (s₁.setTop (entryFrame m #[.ref x, .ref y] 3)) (T9.setTop (mkF m 30 #[.val (.ref x), .val (.ref y), .val (.ref y)] [.ref y, .int cd])) := (c8.trans (st9 _ (Steps.refl _))).trans (by
      refine XS.aloadN X9.here hexec rfl (hb hbytes d29) rfl rfl ?_
      exact Steps.refl _)
    obtain ⟨T11, X11, q11, st11⟩ := X9.hget hexec hown (wk W (.fieldLink "java/lang/String" 15 "java/lang/String" "coder" "B")) (hy.mv X9.warmed.alike hh9).2.2.1 (g := (mkF m 30 #[.val (.ref x), .val (.ref y), .val (.ref y)] [.ref y, .int cd])) rfl (rest := [.int cd]) rfl (hb hbytes d30)
    have hh11 := q11.trans hh9
    have c12 : Steps p.tables e below (s₁.setTop (entryFrame m #[.ref x, .ref y] 3)) (T11.setTop (mkF m 33 #[.val (.ref x), .val (.ref y), .val (.ref y)] [.int cd', .int cd])) := c10.trans (st11 _ (Steps.refl _))
    by_cases hcd : cd = cd'
    · subst hcd
      have c13 : Steps p.tables e below (s₁.setTop (entryFrame m #[.ref x, .ref y] 3)) (T11.setTop (mkF m 37 #[.val (.ref x), .val (.ref y), .val (.ref y)] [.ref x])) := c12.trans (by
        refine XS.icmpNo X11.here hexec rfl (hb hbytes d33) rfl (ii_ne_f rfl) ?_
        refine XS.aloadN X11.here hexec rfl (hb hbytes d36) rfl rfl ?_
        exact Steps.refl _)
      obtain ⟨T14, X14, q14, st14⟩ := X11.hget hexec hown (wk W (.fieldLink "java/lang/String" 9 "java/lang/String" "value" "[B")) (hx.mv X11.warmed.alike hh11).2.1 (g := (mkF m 37 #[.val (.ref x), .val (.ref y), .val (.ref y)] [.ref x])) rfl (rest := []) rfl (hb hbytes d37)
      have hh14 := q14.trans hh11
      have c15 : Steps p.tables e below (s₁.setTop (entryFrame m #[.ref x, .ref y] 3)) (T14.setTop (mkF m 41 #[.val (.ref x), .val (.ref y), .val (.ref y)] [.ref y, .ref t])) := (c13.trans (st14 _ (Steps.refl _))).trans (by
        refine XS.aloadN X14.here hexec rfl (hb hbytes d40) rfl rfl ?_
        exact Steps.refl _)
      obtain ⟨T16, X16, q16, st16⟩ := X14.hget hexec hown (wk W (.fieldLink "java/lang/String" 9 "java/lang/String" "value" "[B")) (hy.mv X14.warmed.alike hh14).2.1 (g := (mkF m 41 #[.val (.ref x), .val (.ref y), .val (.ref y)] [.ref y, .ref t])) rfl (rest := [.ref t]) rfl (hb hbytes d41)
      have hh16 := q16.trans hh14
      have c17 : Steps p.tables e below (s₁.setTop (entryFrame m #[.ref x, .ref y] 3)) (T16.setTop (mkF m 44 #[.val (.ref x), .val (.ref y), .val (.ref y)] [.ref t', .ref t])) := c15.trans (st16 _ (Steps.refl _))
      obtain ⟨v18, T18, X18, E18, g18⟩ := X16.callS hexec (LEq.law l t V t' V') hown (wks W (staticW "java/lang/String" 541 LEq.yN)) (wk W LEq.tab) (W := 0) (Nat.le_of_ble_eq_true rfl) (Nat.le_of_ble_eq_true rfl) (Nat.le_refl _) (Nat.le_refl _) (g := (mkF m 44 #[.val (.ref x), .val (.ref y), .val (.ref y)] [.ref t', .ref t])) rfl (by rw [hml]; rfl) c17 (argsL := [.ref t, .ref t']) (rest := []) rfl rfl (by show 2 * 0 + 0 ≤ _; decide) (hb hbytes d44) (⟨rfl, hx.2.2.2.1.mv X16.warmed.alike hh16, hx.2.2.2.2.1.ty, hy.2.2.2.1.mv X16.warmed.alike hh16, hy.2.2.2.2.1.ty⟩)
      obtain ⟨v, rfl, q18, hv⟩ := E18
      have iff := Cod.eqv hx.2.2.2.2.1 hy.2.2.2.2.1 hx.2.2.2.2.2 hy.2.2.2.2.2
      rcases hv with ⟨rfl, he⟩ | ⟨rfl, he⟩
      · have c19 : Steps p.tables e below (s₁.setTop (entryFrame m #[.ref x, .ref y] 3)) (T18.setTop (mkF m 55 #[.val (.ref x), .val (.ref y), .val (.ref y)] [.int 1])) := Steps.trans g18 (by
          refine XS.ifNo X18.here hexec rfl (hb hbytes d47) rfl (i0_eq_f (by decide)) ?_
          refine iconstV X18.here hexec rfl 1 (hb hbytes d50) (by decide) ?_
          refine XS.goto X18.here hexec rfl (pc0 := 51) rfl (hb hbytes d51) (by decide) rfl ?_
          exact Steps.refl _)
        exact ⟨T18, some (.int 1), _, _, _, X18, rfl, rfl, rfl, (fun h => by cases h), ⟨1, rfl, q18.trans hh16, Or.inl ⟨rfl, iff.mp he⟩⟩, fun fs hl => c19.trans (X18.ireturnOut hexec hret rfl (Or.inr (Or.inl rfl)) (hb hbytes d55) hl)⟩
      · have c19 : Steps p.tables e below (s₁.setTop (entryFrame m #[.ref x, .ref y] 3)) (T18.setTop (mkF m 55 #[.val (.ref x), .val (.ref y), .val (.ref y)] [.int 0])) := Steps.trans g18 (by
          refine XS.ifYes X18.here hexec rfl (pc0 := 47) rfl (hb hbytes d47) rfl (i0_eq_t rfl) (by decide) rfl ?_
          refine iconstV X18.here hexec rfl 0 (hb hbytes d54) (by decide) ?_
          exact Steps.refl _)
        exact ⟨T18, some (.int 0), _, _, _, X18, rfl, rfl, rfl, (fun h => by cases h), ⟨0, rfl, q18.trans hh16, Or.inr ⟨rfl, fun q => he (iff.mpr q)⟩⟩, fun fs hl => c19.trans (X18.ireturnOut hexec hret rfl (Or.inr (Or.inl rfl)) (hb hbytes d55) hl)⟩
    · have c13 : Steps p.tables e below (s₁.setTop (entryFrame m #[.ref x, .ref y] 3)) (T11.setTop (mkF m 55 #[.val (.ref x), .val (.ref y), .val (.ref y)] [.int 0])) := c12.trans (by
        refine XS.icmpYes X11.here hexec rfl (pc0 := 33) rfl (hb hbytes d33) rfl (ii_ne_t hcd) (by decide) rfl ?_
        refine iconstV X11.here hexec rfl 0 (hb hbytes d54) (by decide) ?_
        exact Steps.refl _)
      exact ⟨T11, some (.int 0), _, _, _, X11, rfl, rfl, rfl, (fun h => by cases h), ⟨0, rfl, hh11, Or.inr ⟨rfl, Cod.dif hx.2.2.2.2.1 hy.2.2.2.2.1 hcd⟩⟩, fun fs hl => c13.trans (X11.ireturnOut hexec hret rfl (Or.inr (Or.inl rfl)) (hb hbytes d55) hl)⟩
theorem pays {l : Launch} {R : Room} {p : Program} {e : Env} {below : List Frame} {s : State} {sargs : Array Value} {len W : Nat} (x t : Addr) (V : Cell) (cd : Int32) (n : Nat) (f : Nat → Int32) (y t' : Addr) (V' : Cell) (cd' : Int32) (k : Nat) (g : Nat → Int32) (z : Int32) (htab : tab.before sargs s = true) (hfr : 2 ≤ R.frames) (hlo : W + 28 ≤ R.locals) :
    Back l R p e below s sargs yN len W (fun A₁ a₁ => A₁.cells + 0 ≤ R.cells ∧ A₁.slots + 0 ≤ R.slots ∧ P x t V cd n f y t' V' cd' k g z a₁ A₁.U) (fun A₁ _ v₁ B₁ => Says01 (SameT n f k g) v₁ A₁.U B₁.U ∧ B₁.locs = A₁.locs ++ [] ∧ B₁.cells = A₁.cells + 0 ∧ B₁.slots = A₁.slots + 0) :=
  (law l x t V cd n f y t' V' cd' k g z).pays htab hfr (by omega)
end SEq
end StrChars
namespace StrChars.Road
open Jvm Sem ClassFile Op Lib Jvm.Stand Jvm.Free Jvm.Free.XT
open Jvm.Lib.Cold (StaticIs)
/-- the words of String.isEmpty() -/
abbrev wordsEmp : List Jvm.Cond := [.code Emp.yN Emp.yB 1 (some .boolean), .initialized ST, .fieldLink ST 9 ST "value" "[B"]
theorem tabEmp_of {a : Array Value} {s : State} (h : ∀ w ∈ wordsEmp, w.before a s = true) : Emp.tab.before a s = true := unparts (wk h (.code Emp.yN Emp.yB 1 (some .boolean))) (wks h (.initialized Emp.yN.cls :: Emp.site))
theorem movedEmp {Z s : State} {a0 args : Array Value} (hZ : Z.Warmed39 s.vm) (hw : ∀ d ∈ wordsEmp, d.before a0 Z = true) : ∀ d ∈ wordsEmp, d.before args s = true := fun d hd => by
  have t : ∀ d ∈ wordsEmp, (d.onTables && d.keepsFace) = true := by decide +kernel
  exact RoadKit.mv hZ (hw d hd) (t d hd)
/-- the words of String.equals(Object) -/
abbrev wordsEq : List Jvm.Cond := [.code SEq.yN SEq.yB 3 (some .boolean), .initialized ST, .classLink ST 10 ST, .fieldLink ST 38 ST "COMPACT_STRINGS" "Z", .fieldLink ST 15 ST "coder" "B", .fieldLink ST 9 ST "value" "[B", .methodLink ST 541 LEq.yN, .static LEq.yN, .code LEq.yN LEq.yB 3 (some .boolean), .initialized "java/lang/StringLatin1"]
theorem tabEq_of {a : Array Value} {s : State} (h : ∀ w ∈ wordsEq, w.before a s = true) : SEq.tab.before a s = true := by
  have hl : LEq.tab.before a s = true := unparts (wk h (.code LEq.yN LEq.yB 3 (some .boolean))) (wks h (.initialized LEq.yN.cls :: LEq.site))
  have q := consq hl h
  exact unparts (wk q (.code SEq.yN SEq.yB 3 (some .boolean))) (wks q (.initialized SEq.yN.cls :: SEq.site))
theorem movedEq {Z s : State} {a0 args : Array Value} (hZ : Z.Warmed39 s.vm) (hw : ∀ d ∈ wordsEq, d.before a0 Z = true) : ∀ d ∈ wordsEq, d.before args s = true := fun d hd => by
  have t : ∀ d ∈ wordsEq, (d.onTables && d.keepsFace) = true := by decide +kernel
  exact RoadKit.mv hZ (hw d hd) (t d hd)
/-- the road's facts of a String, as the laws ask it -/
theorem txt_of {Z U : State} {a0 : Array Value} {kI : Nat} (wi : (Jvm.Cond.instantiable ST kI).before a0 Z = true) (al : Z.vm.Alike U.vm) {x t : Addr} {kb : ClassId} {cs : List Int32} {cd N2 : Int32} {vs : List Value} (E : RoadKit.Exa Z U.heap x ST) (V : RoadKit.Fld Z U.heap x ST "value" "[B" (.ref t)) (C : RoadKit.Fld Z U.heap x ST "coder" "B" (.int cd)) (K : RoadKit.Arv Z U.heap t kb .byte N2 vs (.int 0)) (hc : CodA cs cd N2 vs) (hb : ∀ c ∈ cs, ¬ c < 0 ∧ ¬ (65535 : Int32) < c) (l2 : cs.length ≤ 4000) :
    ∃ A, Txt x t A cd cs.length (fun j => cs.getD j 0) U := by
  obtain ⟨A, K1, K2, K3, K4, K5, K6⟩ := K
  have hcod := hc.cod (by omega) K3 K5
  obtain ⟨D, fV, fC, hB, F1, F2, g1, g2, -, -⟩ := strObj wi al E V C
  exact ⟨A, ⟨_, hB.2.2.1, D, hB.1, rfl, by cases q : D.vm <;> first | rfl | exact absurd q (hB.2.1.2 _)⟩, Has.of hB F1 g1, Has.of hB F2 g2, ⟨K1.1, State.isArrayOf_alike al K1.2.1, K1.2.2, by rcases hcod with ⟨-, q, -⟩ | ⟨-, q, -⟩ <;> omega⟩, hcod, fun j hj => by
    have e : cs.getD j 0 = cs[j] := by simp [List.getD_eq_getElem?_getD, hj]
    show ¬ cs.getD j 0 < 0 ∧ ¬ 65535 < cs.getD j 0
    rw [e]; exact hb _ (List.getElem_mem _)⟩
theorem same_list (cs ds : List Int32) : SameT cs.length (fun j => cs.getD j 0) ds.length (fun j => ds.getD j 0) ↔ cs = ds := by
  constructor
  · rintro ⟨e, q⟩
    refine List.ext_getElem e fun j h1 h2 => ?_
    have := q j h1
    simpa [List.getD_eq_getElem?_getD, h1, h2] using this
  · rintro rfl
    exact ⟨rfl, fun _ _ => rfl⟩
/-- **isEmpty() OF SUCH A STRING** -/
theorem empW {p : Program} {l : Launch} {e : Env} {R : Room} {s : State} {args : Array Value} {below : List Frame} {len W : Nat} {Z : State} {a0 : Array Value} {h : Heap} (hZ : Z.Warmed39 s.vm) (hw : ∀ d ∈ wordsEmp, d.before a0 Z = true) {kI : Nat} (wi : (Jvm.Cond.instantiable ST kI).before a0 Z = true)
    {x t : Addr} {kb : ClassId} {cs : List Int32} {cd N2 : Int32} {vs : List Value} (E : RoadKit.Exa Z h x ST) (V : RoadKit.Fld Z h x ST "value" "[B" (.ref t)) (C : RoadKit.Fld Z h x ST "coder" "B" (.int cd)) (K : RoadKit.Arv Z h t kb .byte N2 vs (.int 0)) (hc : CodA cs cd N2 vs) (hb : ∀ c ∈ cs, ¬ c < 0 ∧ ¬ (65535 : Int32) < c) (l2 : cs.length ≤ 4000) (hfr : 1 ≤ R.frames) (hlo : W + 12 ≤ R.locals) :
    Back l R p e below s args (⟨"java/lang/String", "isEmpty", "()Z"⟩ : MethodName) len W (fun P a => a = #[.ref x] ∧ P.U.heap = h ∧ P.cells + 0 ≤ R.cells ∧ P.slots + 0 ≤ R.slots)
      (fun P _ v B => ∃ L, (v = some (.int (if cs.length = 0 then 1 else 0)) ∧ L = [] ∧ B.U.heap = h) ∧ B.locs = P.locs ++ L ∧ B.cells = P.cells + 0 ∧ B.slots = P.slots + 0) := by
  intro m meth c P g ig mk a X hg hsize hdg hW hn hp'
  obtain ⟨rfl, rfl, r1, r2⟩ := hp'
  have al : Z.vm.Alike P.U.vm := hZ.alike.trans X.warmed.alike
  obtain ⟨A, hx⟩ := txt_of wi al E V C K hc hb l2
  obtain ⟨v, B, X', ⟨⟨hv, hh⟩, hl, hk, hs⟩, st⟩ := Emp.pays x t A cd cs.length (fun j => cs.getD j 0) (tabEmp_of (movedEmp hZ hw)) hfr hlo m meth c P g ig mk _ X hg hsize hdg hW hn ⟨r1, r2, rfl, hx⟩
  exact ⟨v, B, X', ⟨[], ⟨hv, rfl, hh⟩, hl, hk, hs⟩, st⟩
/-- **equals(Object) OF TWO SUCH STRINGS**: 1 just where the chars are the same -/
theorem eqW {p : Program} {l : Launch} {e : Env} {R : Room} {s : State} {args : Array Value} {below : List Frame} {len W : Nat} {Z : State} {a0 : Array Value} {h : Heap} (hZ : Z.Warmed39 s.vm) (hw : ∀ d ∈ wordsEq, d.before a0 Z = true) {kI : Nat} (wi : (Jvm.Cond.instantiable ST kI).before a0 Z = true)
    {x t : Addr} {kb : ClassId} {cs : List Int32} {cd N2 : Int32} {vs : List Value} (E : RoadKit.Exa Z h x ST) (V : RoadKit.Fld Z h x ST "value" "[B" (.ref t)) (C : RoadKit.Fld Z h x ST "coder" "B" (.int cd)) (K : RoadKit.Arv Z h t kb .byte N2 vs (.int 0)) (hc : CodA cs cd N2 vs) (hb : ∀ c ∈ cs, ¬ c < 0 ∧ ¬ (65535 : Int32) < c) (l2 : cs.length ≤ 4000)
    {y t' : Addr} {kb' : ClassId} {ds : List Int32} {cd' N2' : Int32} {vs' : List Value} (E' : RoadKit.Exa Z h y ST) (V' : RoadKit.Fld Z h y ST "value" "[B" (.ref t')) (C' : RoadKit.Fld Z h y ST "coder" "B" (.int cd')) (K' : RoadKit.Arv Z h t' kb' .byte N2' vs' (.int 0)) (hc' : CodA ds cd' N2' vs') (hb' : ∀ c ∈ ds, ¬ c < 0 ∧ ¬ (65535 : Int32) < c) (l2' : ds.length ≤ 4000)
    {z : Int32} (S : RoadKit.Sta Z h ST "COMPACT_STRINGS" "Z" (.int z)) (hz : ¬ z = 0) (hfr : 2 ≤ R.frames) (hlo : W + 28 ≤ R.locals) :
    Back l R p e below s args (⟨"java/lang/String", "equals", "(Ljava/lang/Object;)Z"⟩ : MethodName) len W (fun P a => a = #[.ref x, .ref y] ∧ P.U.heap = h ∧ P.cells + 0 ≤ R.cells ∧ P.slots + 0 ≤ R.slots)
      (fun P _ v B => ∃ L, (((v = some (.int 1) ∧ cs = ds) ∨ (v = some (.int 0) ∧ ¬ cs = ds)) ∧ L = [] ∧ B.U.heap = h) ∧ B.locs = P.locs ++ L ∧ B.cells = P.cells + 0 ∧ B.slots = P.slots + 0) := by
  intro m meth c P g ig mk a X hg hsize hdg hW hn hp'
  obtain ⟨rfl, rfl, r1, r2⟩ := hp'
  have al : Z.vm.Alike P.U.vm := hZ.alike.trans X.warmed.alike
  obtain ⟨A, hx⟩ := txt_of wi al E V C K hc hb l2
  obtain ⟨A', hy⟩ := txt_of wi al E' V' C' K' hc' hb' l2'
  obtain ⟨v, B, X', ⟨⟨w, hv, hh, hq⟩, hl, hk, hs⟩, st⟩ := SEq.pays x t A cd cs.length (fun j => cs.getD j 0) y t' A' cd' ds.length (fun j => ds.getD j 0) z (tabEq_of (movedEq hZ hw)) hfr hlo m meth c P g ig mk _ X hg hsize hdg hW hn ⟨r1, r2, rfl, hx, hy, sta_is al S, hz⟩
  refine ⟨v, B, X', ⟨[], ⟨?_, rfl, hh⟩, hl, hk, hs⟩, st⟩
  rcases hq with ⟨rfl, q⟩ | ⟨rfl, q⟩
  · exact Or.inl ⟨hv, (same_list cs ds).mp q⟩
  · exact Or.inr ⟨hv, fun e => q ((same_list cs ds).mpr e)⟩
end StrChars.Road
namespace StrChars.Road
open Jvm Sem ClassFile Op Lib Jvm.Stand Jvm.Free Jvm.Free.XT
open Jvm.Lib.Cold (StaticIs)
/-- what backV says of its String, as the contracts of this text ask it: cs's low bytes, coder 0 -/
theorem codOf {cs : List Int32} {n : Nat} (hn : cs.length = n) (hb : ∀ c ∈ cs, ¬ 255 < c) : CodA cs 0 (Int32.ofNat n) ((cs.map lo8).map Value.int) := Or.inl ⟨rfl, by rw [hn], by simp [List.map_map, Function.comp_def], hb⟩
end StrChars.Road
end Jvm.Pilot.@@N@@


namespace Jvm.Pilot.@@N@@
open Jvm Jvm.ClassFile Sem Op Lib Jvm.Free Jvm.Stand Jvm.LawKit Jvm.RoadKit Bundle Jvm.Pilot.@@N@@.Jvm.D
abbrev cJ0 : ByteArray := jdk_123_method_2_code
abbrev cJ1 : ByteArray := jdk_123_method_3_code
abbrev cJ2 : ByteArray := jdk_29_method_65_code
abbrev cJ3 : ByteArray := jdk_29_method_69_code
abbrev cJ4 : ByteArray := jdk_42_method_139_code
abbrev cJ5 : ByteArray := jdk_42_method_149_code
abbrev cJ6 : ByteArray := jdk_42_method_150_code
abbrev cJ7 : ByteArray := jdk_42_method_151_code
abbrev cJ8 : ByteArray := jdk_42_method_152_code
abbrev cJ9 : ByteArray := jdk_42_method_18_code
abbrev cJ10 : ByteArray := jdk_42_method_3_code
abbrev cJ11 : ByteArray := jdk_42_method_46_code
abbrev cJ12 : ByteArray := jdk_42_method_47_code
abbrev cJ13 : ByteArray := jdk_42_method_64_code
abbrev cJ14 : ByteArray := jdk_43_method_3_code
abbrev cJ15 : ByteArray := jdk_43_method_46_code
abbrev cJ16 : ByteArray := jdk_48_method_27_code
abbrev cJ17 : ByteArray := jdk_52_method_24_code
abbrev cJ18 : ByteArray := jdk_52_method_3_code
abbrev cJ19 : ByteArray := jdk_52_method_4_code
abbrev cJ20 : ByteArray := jdk_52_method_5_code
abbrev cJ21 : ByteArray := jdk_65_method_121_code
abbrev cJ22 : ByteArray := jdk_65_method_132_code
abbrev cJ23 : ByteArray := jdk_65_method_133_code
abbrev cJ24 : ByteArray := jdk_67_method_14_code
abbrev cJ25 : ByteArray := jdk_68_method_10_code
abbrev cJ26 : ByteArray := jdk_68_method_2_code
abbrev cJ27 : ByteArray := jdk_68_method_31_code
abbrev cJ28 : ByteArray := jdk_68_method_68_code
abbrev cJ29 : ByteArray := jdk_68_method_9_code
abbrev cJ30 : ByteArray := jdk_89_method_16_code
abbrev cJ31 : ByteArray := method_3_code
abbrev cJ32 : ByteArray := method_4_code
abbrev cJ33 : ByteArray := method_5_code
abbrev cJ34 : ByteArray := method_6_code
abbrev cJ35 : ByteArray := prog_12_method_2_code
abbrev cJ36 : ByteArray := prog_12_method_3_code
abbrev mN0 : MethodName := (⟨"com/example/vigilant_gate/vigilantgate/PercentEncoding", "encode", "(Ljava/lang/String;)Ljava/lang/String;"⟩ : MethodName)
abbrev mN1 : MethodName := (⟨"com/example/vigilant_gate/vigilantgate/PercentEncoding", "isUnreserved", "(I)Z"⟩ : MethodName)
abbrev mN2 : MethodName := (⟨"com/example/vigilant_gate/vigilantgate/PercentEncodingEncodePinLaw", "digit", "(I)C"⟩ : MethodName)
abbrev mN3 : MethodName := (⟨"com/example/vigilant_gate/vigilantgate/PercentEncodingEncodePinLaw", "enc1", "(I)Ljava/lang/String;"⟩ : MethodName)
abbrev mN4 : MethodName := (⟨"com/example/vigilant_gate/vigilantgate/PercentEncodingEncodePinLaw", "put", "([CII)V"⟩ : MethodName)
abbrev mN5 : MethodName := (⟨"com/example/vigilant_gate/vigilantgate/PercentEncodingEncodePinLaw", "unreserved", "(I)Z"⟩ : MethodName)
abbrev mN6 : MethodName := (⟨"java/lang/AbstractStringBuilder", "<init>", "(I)V"⟩ : MethodName)
abbrev mN7 : MethodName := (⟨"java/lang/AbstractStringBuilder", "append", "(C)Ljava/lang/AbstractStringBuilder;"⟩ : MethodName)
abbrev mN8 : MethodName := (⟨"java/lang/AbstractStringBuilder", "ensureCapacityInternal", "(I)V"⟩ : MethodName)
abbrev mN9 : MethodName := (⟨"java/lang/AbstractStringBuilder", "getValue", "()[B"⟩ : MethodName)
abbrev mN10 : MethodName := (⟨"java/lang/AbstractStringBuilder", "isLatin1", "()Z"⟩ : MethodName)
abbrev mN11 : MethodName := (⟨"java/lang/AbstractStringBuilder", "length", "()I"⟩ : MethodName)
abbrev mN12 : MethodName := (⟨"java/lang/AbstractStringBuilder", "newCapacity", "(I)I"⟩ : MethodName)
abbrev mN13 : MethodName := (⟨"java/lang/Character", "isSurrogate", "(C)Z"⟩ : MethodName)
abbrev mN14 : MethodName := (⟨"java/lang/Math", "max", "(II)I"⟩ : MethodName)
abbrev mN15 : MethodName := (⟨"java/lang/Math", "min", "(II)I"⟩ : MethodName)
abbrev mN16 : MethodName := (⟨"java/lang/String", "<init>", "(Ljava/lang/AbstractStringBuilder;Ljava/lang/Void;)V"⟩ : MethodName)
abbrev mN17 : MethodName := (⟨"java/lang/String", "<init>", "(Ljava/lang/StringBuilder;)V"⟩ : MethodName)
abbrev mN18 : MethodName := (⟨"java/lang/String", "<init>", "([BB)V"⟩ : MethodName)
abbrev mN19 : MethodName := (⟨"java/lang/String", "<init>", "([C)V"⟩ : MethodName)
abbrev mN20 : MethodName := (⟨"java/lang/String", "<init>", "([CIILjava/lang/Void;)V"⟩ : MethodName)
abbrev mN21 : MethodName := (⟨"java/lang/String", "coder", "()B"⟩ : MethodName)
abbrev mN22 : MethodName := (⟨"java/lang/String", "encode", "(Ljava/nio/charset/Charset;B[B)[B"⟩ : MethodName)
abbrev mN23 : MethodName := (⟨"java/lang/String", "encodeUTF8", "(B[BZ)[B"⟩ : MethodName)
abbrev mN24 : MethodName := (⟨"java/lang/String", "encodeUTF8_UTF16", "([BZ)[B"⟩ : MethodName)
abbrev mN25 : MethodName := (⟨"java/lang/String", "equals", "(Ljava/lang/Object;)Z"⟩ : MethodName)
abbrev mN26 : MethodName := (⟨"java/lang/String", "getBytes", "(Ljava/nio/charset/Charset;)[B"⟩ : MethodName)
abbrev mN27 : MethodName := (⟨"java/lang/String", "isEmpty", "()Z"⟩ : MethodName)
abbrev mN28 : MethodName := (⟨"java/lang/String", "valueOf", "(C)Ljava/lang/String;"⟩ : MethodName)
abbrev mN29 : MethodName := (⟨"java/lang/StringBuilder", "<init>", "(I)V"⟩ : MethodName)
abbrev mN30 : MethodName := (⟨"java/lang/StringBuilder", "append", "(C)Ljava/lang/StringBuilder;"⟩ : MethodName)
abbrev mN31 : MethodName := (⟨"java/lang/StringBuilder", "length", "()I"⟩ : MethodName)
abbrev mN32 : MethodName := (⟨"java/lang/StringBuilder", "toString", "()Ljava/lang/String;"⟩ : MethodName)
abbrev mN33 : MethodName := (⟨"java/lang/StringCoding", "countPositives", "([BII)I"⟩ : MethodName)
abbrev mN34 : MethodName := (⟨"java/lang/StringCoding", "hasNegatives", "([BII)Z"⟩ : MethodName)
abbrev mN35 : MethodName := (⟨"java/lang/StringLatin1", "canEncode", "(C)Z"⟩ : MethodName)
abbrev mN36 : MethodName := (⟨"java/lang/StringLatin1", "toBytes", "(C)[B"⟩ : MethodName)
abbrev mN37 : MethodName := (⟨"java/lang/StringUTF16", "getChar", "([BI)C"⟩ : MethodName)
abbrev mN38 : MethodName := (⟨"java/lang/StringUTF16", "newBytesFor", "(I)[B"⟩ : MethodName)
abbrev mN39 : MethodName := (⟨"java/lang/StringUTF16", "newBytesLength", "(I)I"⟩ : MethodName)
abbrev mN40 : MethodName := (⟨"java/lang/StringUTF16", "putChar", "([BII)V"⟩ : MethodName)
abbrev mN41 : MethodName := (⟨"java/lang/StringUTF16", "toBytes", "(C)[B"⟩ : MethodName)
abbrev mN42 : MethodName := (⟨"java/util/Arrays", "checkLength", "(II)V"⟩ : MethodName)
abbrev mN43 : MethodName := (⟨"java/util/Arrays", "copyOf", "([BI)[B"⟩ : MethodName)
abbrev mN44 : MethodName := (⟨"java/util/Arrays", "copyOfRange", "([BII)[B"⟩ : MethodName)
abbrev mN45 : MethodName := (⟨"java/util/Arrays", "copyOfRangeByte", "([BII)[B"⟩ : MethodName)
abbrev mN46 : MethodName := (⟨"jdk/internal/util/ArraysSupport", "newLength", "(III)I"⟩ : MethodName)
abbrev rM0 : Room := ({ frames := 0, cells := 0, slots := 0, locals := 0 } : Room)
abbrev rM1 : Room := ({ frames := 0, cells := 1, slots := 1, locals := 0 } : Room)
abbrev rM2 : Room := ({ frames := 1, cells := 0, slots := 0, locals := 12 } : Room)
abbrev rM3 : Room := ({ frames := 1, cells := 0, slots := 0, locals := 14 } : Room)
abbrev rM4 : Room := ({ frames := 1, cells := 0, slots := 0, locals := 16 } : Room)
abbrev rM5 : Room := ({ frames := 1, cells := 0, slots := 0, locals := 20 } : Room)
abbrev rM6 : Room := ({ frames := 1, cells := 1, slots := 18, locals := 40 } : Room)
abbrev rM7 : Room := ({ frames := 1, cells := 1, slots := 2, locals := 12 } : Room)
abbrev rM8 : Room := ({ frames := 1, cells := 1, slots := 2, locals := 14 } : Room)
abbrev rM9 : Room := ({ frames := 1, cells := 1, slots := 2, locals := 40 } : Room)
abbrev rM10 : Room := ({ frames := 1, cells := 1, slots := 3, locals := 12 } : Room)
abbrev rM11 : Room := ({ frames := 1, cells := 4, slots := 8, locals := 12 } : Room)
abbrev rM12 : Room := ({ frames := 2, cells := 0, slots := 0, locals := 34 } : Room)
abbrev rM13 : Room := ({ frames := 2, cells := 1, slots := 18, locals := 56 } : Room)
abbrev rM14 : Room := ({ frames := 2, cells := 1, slots := 3, locals := 28 } : Room)
abbrev rM15 : Room := ({ frames := 2, cells := 2, slots := 5, locals := 60 } : Room)
abbrev rM16 : Room := ({ frames := 2, cells := 2, slots := 6, locals := 32 } : Room)
abbrev rM17 : Room := ({ frames := 2, cells := 4, slots := 8, locals := 29 } : Room)
abbrev rM18 : Room := ({ frames := 3, cells := 1, slots := 18, locals := 62 } : Room)
abbrev rM19 : Room := ({ frames := 3, cells := 1, slots := 18, locals := 72 } : Room)
abbrev rM20 : Room := ({ frames := 3, cells := 2, slots := 5, locals := 80 } : Room)
abbrev rM21 : Room := ({ frames := 4, cells := 1, slots := 18, locals := 78 } : Room)
abbrev rM22 : Room := ({ frames := 4, cells := 1, slots := 18, locals := 90 } : Room)
abbrev rM23 : Room := ({ frames := 4, cells := 2, slots := 5, locals := 100 } : Room)
abbrev rM24 : Room := ({ frames := 5, cells := 1, slots := 18, locals := 96 } : Room)
abbrev rM25 : Room := ({ frames := 5, cells := 2, slots := 22, locals := 105 } : Room)
abbrev rM26 : Room := ({ frames := 5, cells := 2, slots := 5, locals := 115 } : Room)
abbrev rM27 : Room := ({ frames := 5, cells := 3, slots := 26, locals := 100 } : Room)
abbrev rM28 : Room := ({ frames := 6, cells := 15, slots := 210, locals := 140 } : Room)
theorem own_w {a0 : Array Value} {Z : State} (hw : ∀ d ∈ tables_1, d.before a0 Z = true) (i : Nat) {d : Jvm.Cond} (h : tables_1[i]? = some d) : d.before a0 Z = true := hw _ (List.mem_of_getElem? h)
theorem own_v {Z s : State} {a0 args : Array Value} {d : Jvm.Cond} (hZ : Z.Warmed39 s.vm) (hw : ∀ d ∈ tables_1, d.before a0 Z = true) (i : Nat) (h : tables_1[i]? = some d) (hd : (d.onTables && d.keepsFace) = true := by first | rfl | simp [Cond.onTables, Cond.keepsFace, Cond.keeps, Cond.steady]) : d.before args s = true := mvT hZ (own_w hw i h) hd
def oG (tb : Tables) (e : Env) (below : List Frame) (P : Outcome → State → Prop) (U : State) : Prop := ∃ s₂ o, Steps tb e below U s₂ ∧ s₂.status = .running ∧ Ended s₂ below o ∧ P o s₂
theorem oG.st {tb : Tables} {e : Env} {below : List Frame} {P : Outcome → State → Prop} {U U' : State} (h : ∀ t, Steps tb e below U' t → Steps tb e below U t) (k : oG tb e below P U') : oG tb e below P U := by
  obtain ⟨t, o, a, r⟩ := k
  exact ⟨t, o, h t a, r⟩
theorem own_hd {tb : Tables} {e : Env} {below : List Frame} {P : Outcome → State → Prop} {U : State} (k : ∀ PP, PP = P → oG tb e below PP U) : oG tb e below P U := k P rfl
theorem oG.tr {tb : Tables} {e : Env} {below : List Frame} {P : Outcome → State → Prop} {U U' : State} (h : Steps tb e below U U') (k : oG tb e below P U') : oG tb e below P U := oG.st (fun _ a => h.trans a) k
section OwnRet
variable {p : Program} {l : Launch} {e : Env} {R : Room} {s : State} {m : MethodId} {args : Array Value} {below : List Frame} {meth : Method} {c : Code} {T : State} {locs : List Loc} {cells slots : Nat}
theorem own_retI (X : Stand p l e R s m args below meth c T locs cells slots) (hx : p.tables.exec = Jvm.exec) {pc : Nat} {Ls : Array Slot} {z : Int32} {rest : List Value} (hret : meth.sig.returnType = some .int) (hd : decode c.code pc = .ok (.ireturn, 1)) {fs : List Frame}
    (hl : ∀ (f : JFrame) (acts : List Action), f.method = m → f.locked = none → f.entered = [] → (doReturn e (T.setTop f) acts (some (.int z))).1 = T.setFrames fs) : Steps p.tables e below (T.setTop (mkF m pc Ls (.int z :: rest))) (T.setFrames fs) :=
  retOut X hx hret rfl (Or.inl ⟨rfl, Or.inl rfl, z, rfl⟩) hd hl
theorem own_retL (X : Stand p l e R s m args below meth c T locs cells slots) (hx : p.tables.exec = Jvm.exec) {pc : Nat} {Ls : Array Slot} {z : Int64} {rest : List Value} (hret : meth.sig.returnType = some .long) (hd : decode c.code pc = .ok (.lreturn, 1)) {fs : List Frame}
    (hl : ∀ (f : JFrame) (acts : List Action), f.method = m → f.locked = none → f.entered = [] → (doReturn e (T.setTop f) acts (some (.long z))).1 = T.setFrames fs) : Steps p.tables e below (T.setTop (mkF m pc Ls (.long z :: rest))) (T.setFrames fs) :=
  retOut X hx hret rfl (Or.inr (Or.inl ⟨rfl, rfl, z, rfl⟩)) hd hl
theorem own_narRef {t : FieldType} {w : Value} (ht : t.isReference = true) (hw : w.isRef = true) : narrow t w = w := by
  cases t <;> first | rfl | (simp [FieldType.isReference] at ht; done) | (cases w <;> first | rfl | simp [Value.isRef] at hw)
theorem own_retA (X : Stand p l e R s m args below meth c T locs cells slots) (hx : p.tables.exec = Jvm.exec) {pc : Nat} {Ls : Array Slot} {w : Value} {t : FieldType} {rest : List Value} (hret : meth.sig.returnType = some t) (ht : t.isReference = true) (hw : w.isRef = true) (hd : decode c.code pc = .ok (.areturn, 1)) {fs : List Frame}
    (hl : ∀ (f : JFrame) (acts : List Action), f.method = m → f.locked = none → f.entered = [] → (doReturn e (T.setTop f) acts (some w)).1 = T.setFrames fs) : Steps p.tables e below (T.setTop (mkF m pc Ls (w :: rest))) (T.setFrames fs) :=
  retOut X hx hret (own_narRef ht hw) (Or.inr (Or.inr (Or.inr (Or.inr ⟨rfl, ht, hw⟩)))) hd hl
end OwnRet
theorem own_selP {s : State} {args : Array Value} {C : String} {y : MethodName} (h : (Jvm.Cond.selects C y y).before args s = true) (hp : s.PrivateAt y) (hi : (Jvm.Cond.instanceMethod y).before args s = true) (hy : y.cls ≠ "java/lang/invoke/MethodHandle" ∧ y.cls ≠ "java/lang/invoke/VarHandle") : (Jvm.Cond.selects y.cls y y).before args s = true := by
  obtain ⟨c, r, m, -, -, q3, -, mk, k1, k2⟩ := Cond.selects_spec h
  exact Jvm.Stand.selects_self_of_private (findClass_of_methodNamed q3) k1 k2 hp hi hy
theorem own_nf {s : State} {args : Array Value} {C : String} {y y2 : MethodName} (h : (Jvm.Cond.selects C y2 y2).before args s = true) (he : y2.cls = y.cls) : NotFace s y := fun r0 h0 => by
  obtain ⟨c, r, m, -, -, q3, -, mk, k1, k2⟩ := Cond.selects_spec h
  have e1 := findClass_of_methodNamed q3
  have e2 := findClass_of_methodNamed h0
  rw [he] at e1
  have e3 : m.cls = r0.cls := Option.some.inj (e1.symm.trans e2)
  exact ⟨mk, e3 ▸ k1, k2⟩
theorem own_sameP {s : State} {args : Array Value} {C : String} {y y2 : MethodName} (hd : (Jvm.Cond.declares y).before args s = true) (h : (Jvm.Cond.selects C y2 y2).before args s = true) (he : y2.cls = y.cls) (hy : y.cls ≠ "java/lang/invoke/MethodHandle" ∧ y.cls ≠ "java/lang/invoke/VarHandle") : (Jvm.Cond.sameMethod y.cls y.cls y.name y.desc).before args s = true := by
  obtain ⟨c, r, m, -, -, q3, -, mk, k1, k2⟩ := Cond.selects_spec h
  have e1 := findClass_of_methodNamed q3
  rw [he] at e1
  cases hm : s.methodNamed? y with
  | none => simp [Cond.before, Cond.holds, Cond.value, hm] at hd
  | some mm =>
    have hf : s.methodFound? y.cls y.name y.desc = some mm := State.methodFound?_of_named hm hy
    have hm' : s.methodNamed? ⟨y.cls, y.name, y.desc⟩ = some mm := hm
    simp [Cond.before, Cond.holds, Cond.value, e1, hf, hm', k1, k2]
theorem own_rwE {T h : Heap} {a : Addr} {c : Option Cell} (e : T = h) (q : h[a]? = c) : T[a]? = c := by rw [e]; exact q
theorem own_nar {x : Int32} (h : ¬ x < 0 ∧ ¬ (65535 : Int32) < x) : nar .char x = x := by
  have q := c_i2c x
  have h1 := h.1; have h2 := h.2
  rw [Int32.lt_iff_toInt_lt] at h1 h2
  have e1 : (0 : Int32).toInt = 0 := by decide
  have e2 : (65535 : Int32).toInt = 65535 := by decide
  rw [e1] at h1; rw [e2] at h2
  show x.toUInt32.toUInt16.toUInt32.toInt32 = x
  apply Int32.toInt_inj.mp
  omega
theorem own_up {x : Int32} (h : ¬ x < 0 ∧ ¬ (255 : Int32) < x) : ¬ x < 0 ∧ ¬ (65535 : Int32) < x := by
  refine ⟨h.1, fun q => h.2 ?_⟩
  rw [Int32.lt_iff_toInt_lt] at q ⊢
  have e1 : (255 : Int32).toInt = 255 := by decide
  have e2 : (65535 : Int32).toInt = 65535 := by decide
  omega
theorem own_arvTy {Z : State} {h : Heap} {a b : Addr} {k k' : ClassId} {ty ty' : FieldType} {n n' : Int32} {vs vs' : List Value} {d d' : Value} (A : Arv Z h a k ty n vs d) (B : Arv Z h b k' ty' n' vs' d') (ht : ty ≠ ty') : a ≠ b := fun q => by
  subst q
  obtain ⟨c, C, -⟩ := A
  obtain ⟨c', C', -⟩ := B
  cases C.1.symm.trans C'.1
  obtain ⟨-, k1, j1, cp1, j2⟩ := C.2.1
  obtain ⟨-, k2, i1, cp2, i2⟩ := C'.2.1
  cases j1.symm.trans i1
  rw [j2] at i2
  cases i2
  exact ht rfl


def own_Str (Z : State) (h : Heap) (x t : Addr) (cs : List Int32) : Prop := ∃ (kb : ClassId) (cd N2 : Int32) (vs : List Value), Exa Z h x "java/lang/String" ∧ Fld Z h x "java/lang/String" "value" "[B" (.ref t) ∧ Fld Z h x "java/lang/String" "coder" "B" (.int cd) ∧ Arv Z h t kb .byte N2 vs (.int 0) ∧ StrChars.Road.CodA cs cd N2 vs ∧ (∀ c ∈ cs, ¬ c < 0 ∧ ¬ (65535 : Int32) < c) ∧ cs.length ≤ 4000
section OwnStr
variable {Z : State} {h h' : Heap} {x t a : Addr} {cs : List Int32} {sl : Nat} {v : Value} {ws : List Addr}
theorem own_Str.ext (F : own_Str Z h x t cs) (E : Ext h h') : own_Str Z h' x t cs := by
  obtain ⟨kb, cd, N2, vs, h1, h2, h3, h4, r⟩ := F
  exact ⟨kb, cd, N2, vs, h1.ext E, h2.ext E, h3.ext E, h4.ext E, r⟩
theorem own_Str.other (F : own_Str Z h x t cs) (W : Wr h h' a sl v) (n1 : x ≠ a) (n2 : t ≠ a) : own_Str Z h' x t cs := by
  obtain ⟨kb, cd, N2, vs, h1, h2, h3, h4, r⟩ := F
  exact ⟨kb, cd, N2, vs, h1.wr W, h2.other W (Or.inl n1), h3.other W (Or.inl n1), h4.other W n2, r⟩
theorem own_Str.keep (F : own_Str Z h x t cs) (K : Keep h h' ws) (n1 : x ∉ ws) (n2 : t ∉ ws) : own_Str Z h' x t cs := by
  obtain ⟨kb, cd, N2, vs, h1, h2, h3, h4, r⟩ := F
  exact ⟨kb, cd, N2, vs, h1.keep K, h2.keep K n1, h3.keep K n1, h4.keep K n2, r⟩
theorem own_Str.exa (F : own_Str Z h x t cs) : Exa Z h x "java/lang/String" := by obtain ⟨kb, cd, N2, vs, h1, -⟩ := F; exact h1
theorem own_Str.lt (F : own_Str Z h x t cs) : x < h.size := F.exa.lt
theorem own_Str.ltv (F : own_Str Z h x t cs) : t < h.size := by obtain ⟨kb, cd, N2, vs, -, -, -, h4, -⟩ := F; exact h4.lt
theorem own_Str.le (F : own_Str Z h x t cs) : cs.length ≤ 4000 := by obtain ⟨kb, cd, N2, vs, -, -, -, -, -, -, h⟩ := F; exact h
theorem own_Str.rng (F : own_Str Z h x t cs) : ∀ c ∈ cs, ¬ c < 0 ∧ ¬ (65535 : Int32) < c := by obtain ⟨kb, cd, N2, vs, -, -, -, -, -, h, -⟩ := F; exact h
theorem own_Str.neArv {b : Addr} {k : ClassId} {ty : FieldType} {n : Int32} {us : List Value} {d : Value} {a0 : Array Value} {kI : Nat} (F : own_Str Z h x t cs) (B : Arv Z h b k ty n us d) (wi : (Jvm.Cond.instantiable "java/lang/String" kI).before a0 Z = true) : x ≠ b := F.exa.neArv B wi
theorem own_Str.neV {b : Addr} {C : String} {a0 : Array Value} {kI : Nat} (F : own_Str Z h x t cs) (E : Exa Z h b C) (wi : (Jvm.Cond.instantiable C kI).before a0 Z = true) : b ≠ t := by
  obtain ⟨kb, cd, N2, vs, -, -, -, h4, -⟩ := F
  exact E.neArv h4 wi
theorem own_Str.neTy {b : Addr} {k : ClassId} {ty : FieldType} {n : Int32} {us : List Value} {d : Value} (F : own_Str Z h x t cs) (B : Arv Z h b k ty n us d) (ht : .byte ≠ ty) : t ≠ b := by
  obtain ⟨kb, cd, N2, vs, -, -, -, h4, -⟩ := F
  exact own_arvTy h4 B ht
end OwnStr


theorem own_a0 {P : Int32 → Prop} : ∀ c ∈ ([] : List Int32), P c := fun _ q => nomatch q
theorem own_aS {P : Int32 → Prop} {x : Int32} {L : List Int32} (h : P x) (r : ∀ c ∈ L, P c) : ∀ c ∈ x :: L, P c := fun c q => (List.mem_cons.mp q).elim (fun u => u ▸ h) (r c)
theorem own_upL {cs : List Int32} (h : ∀ c ∈ cs, ¬ c < 0 ∧ ¬ (255 : Int32) < c) : ∀ c ∈ cs, ¬ c < 0 ∧ ¬ (65535 : Int32) < c := fun c q => own_up (h c q)


theorem own_Str.lat {Z : State} {h : Heap} {x t : Addr} {cs : List Int32} (F : own_Str Z h x t cs) (hl : ∀ c ∈ cs, ¬ (255 : Int32) < c) : ∃ (kb : ClassId) (N2 : Int32) (vs : List Value), Exa Z h x "java/lang/String" ∧ Fld Z h x "java/lang/String" "value" "[B" (.ref t) ∧ Fld Z h x "java/lang/String" "coder" "B" (.int 0) ∧ Arv Z h t kb .byte N2 vs (.int 0) ∧ StrChars.Road.CodA cs 0 N2 vs := by
  obtain ⟨kb, cd, N2, vs, h1, h2, h3, h4, h5, -⟩ := F
  rcases h5 with ⟨rfl, a, b, c⟩ | ⟨-, -, -, c, hc, q⟩
  · exact ⟨kb, N2, vs, h1, h2, h3, h4, Or.inl ⟨rfl, a, b, c⟩⟩
  · exact absurd q (hl c hc)


theorem own_eqv {v : Option Value} {A : Prop} (h : (v = some (.int 1) ∧ A) ∨ (v = some (.int 0) ∧ ¬ A)) : ∃ r : Int32, v = some (.int r) ∧ ((r = 1 ∧ A) ∨ (r = 0 ∧ ¬ A)) := by
  rcases h with ⟨a, b⟩ | ⟨a, b⟩
  · exact ⟨1, a, Or.inl ⟨rfl, b⟩⟩
  · exact ⟨0, a, Or.inr ⟨rfl, b⟩⟩

theorem own_hws {a0 : Array Value} {Z : State} (hw : ∀ d ∈ tables_1, d.before a0 Z = true) : ∀ d ∈ StrChars.Road.words, d.before a0 Z = true := fun d hd => hw d ((by decide +kernel : ∀ d ∈ StrChars.Road.words, d ∈ tables_1) d hd)
theorem own_heq {a0 : Array Value} {Z : State} (hw : ∀ d ∈ tables_1, d.before a0 Z = true) : ∀ d ∈ StrChars.Road.wordsEq, d.before a0 Z = true := fun d hd => hw d ((by decide +kernel : ∀ d ∈ StrChars.Road.wordsEq, d ∈ tables_1) d hd)
theorem own_hem {a0 : Array Value} {Z : State} (hw : ∀ d ∈ tables_1, d.before a0 Z = true) : ∀ d ∈ StrChars.Road.wordsEmp, d.before a0 Z = true := fun d hd => hw d ((by decide +kernel : ∀ d ∈ StrChars.Road.wordsEmp, d ∈ tables_1) d hd)

theorem own_wS {a0 : Array Value} {Z : State} (hw : ∀ d ∈ tables_1, d.before a0 Z = true) : ∀ d ∈ Bundle.stringAtoms, d.before a0 Z = true := fun d hd => hw d ((by decide +kernel : ∀ d ∈ Bundle.stringAtoms, d ∈ tables_1) d hd)
theorem own_safeNull {Z : State} {EL : List (String × Nat)} {vm : Vm} {h : Heap} {x : Addr} (hal : Z.vm.Alike vm) (E : Exa Z h x "java/lang/String") (F : Fld Z h x "java/lang/String" "value" "[B" .null) : Safe Z EL vm h x := fun B => by
  obtain ⟨p, -, u, a, -, q, -, G, hx | hx⟩ := B
  · obtain ⟨cS, ⟨S1, -, -⟩, -⟩ := G
    obtain ⟨g1, -, -, ⟨c', k', i', g2, -⟩, -, -, -, g3, -⟩ := S1
    obtain ⟨cell, cf, k, i, f, e1, e2, -, -, -, -, e3⟩ := F
    obtain ⟨k2, g4⟩ := ff_back (U := Wst Z vm h) hal g2
    rw [hx] at e1
    have e4 : cell = q.sC := Option.some.inj (e1.symm.trans g1)
    have e5 : f = q.fSV := by
      have e6 := Option.some.inj (e2.symm.trans g4)
      simp only [Prod.mk.injEq] at e6
      exact e6.2.2.2
    rw [e4, e5, g3] at e3
    cases e3
  · have hd := G.hd
    obtain ⟨cS, -, -, f, -⟩ := G
    obtain ⟨cell, k, e1, e2, -⟩ := E
    rw [hx] at e1
    have e4 : cell = q.SA := Option.some.inj (e1.symm.trans hd)
    have f' : Z.vm.findClass "[B" = some q.SA.cls := by rw [← hal.findClass]; exact f
    rw [e4] at e2
    obtain ⟨k1, q1, q2⟩ := Vm.findClass_spec f'
    obtain ⟨k2, q3, q4⟩ := Vm.findClass_spec e2
    cases q1.symm.trans q3
    exact absurd (q2.symm.trans q4) (by decide)


theorem own_of {i : Nat} (h : i < 2147483648) : (Int32.ofNat i).toInt = i := Int32.toInt_ofNat_small h
theorem own_ofn {i : Nat} (h : i < 2147483648) : (Int32.ofNat i).toNatClampNeg = i := by
  have := own_of h
  simp only [Int32.toNatClampNeg, this]
  omega
theorem own_of0 {i : Nat} (h : i < 2147483648) : ¬ (Int32.ofNat i) < 0 := by
  have := own_of h
  have e0 : (0 : Int32).toInt = 0 := by decide
  rw [Int32.lt_iff_toInt_lt, this, e0]
  omega
theorem own_oflt {i j : Nat} (hi : i < 2147483648) (hj : j < 2147483648) : (Int32.ofNat i) < (Int32.ofNat j) ↔ i < j := by
  rw [Int32.lt_iff_toInt_lt, own_of hi, own_of hj]
  omega
theorem own_ofS {i : Nat} (h : i < 1073741823) : Int32.ofNat i + (1 : Int32) = Int32.ofNat (i + 1) := by
  apply Int32.toInt_inj.mp
  have a := c_iadd (Int32.ofNat i) 1
  have b := own_of (i := i) (by omega)
  have c := own_of (i := i + 1) (by omega)
  have r := rng32 (Int32.ofNat i + 1)
  have e1 : (1 : Int32).toInt = 1 := by decide
  omega
theorem own_getD {cs : List Int32} {i : Nat} (hi : i < cs.length) (hl : cs.length ≤ 4000) (d : Value) : (cs.map Value.int).getD (Int32.ofNat i).toNatClampNeg d = .int (cs.getD i 0) := by
  rw [own_ofn (by omega)]
  simp [List.getD_eq_getElem?_getD, hi]
theorem own_arvAny {Z : State} {h h' : Heap} {a : Addr} {k : ClassId} {ty : FieldType} {n j : Int32} {vs : List Value} {d v : Value} (F : Arv Z h a k ty n vs d) (hv : fits ty v = true) (hj : ¬ j < 0 ∧ j < n) (W : Wr h h' a j.toNatClampNeg v) : ∃ vs', Arv Z h' a k ty n vs' d := by
  have F' := F.pad (pad_rep vs d (j.toNatClampNeg + 1))
  obtain ⟨c, A, q1, S, q3, H, G⟩ := F'
  exact ⟨_, Arv.set A q1 S q3 H G hv W j.toNatClampNeg rfl (by simp only [List.length_append, List.length_replicate]; omega)⟩


theorem own_shl1 {i : Nat} (h : i < 1000000) : (Int32.ofNat i) <<< ((1 : Int32) &&& 31) = Int32.ofNat (2 * i) := by
  apply Int32.toInt_inj.mp
  have a := c_ishl (Int32.ofNat i) 1 1 (by decide)
  have b := own_of (i := i) (by omega)
  have c := own_of (i := 2 * i) (by omega)
  have r := rng32 (Int32.ofNat i <<< ((1 : Int32) &&& 31))
  omega
theorem own_wlen (cs : List Int32) : (StrChars.Road.wideBytes cs).length = 2 * cs.length := by
  induction cs with
  | nil => rfl
  | cons c r ih => simp only [StrChars.Road.wideBytes, List.length_cons, ih]; omega
theorem own_cfal {i : Nat} (h : 0 < i ∧ i ≤ 4000) : nar .byte ((((Int32.ofNat i - Int32.ofNat (2 * i)).toUInt32 >>> ((31 : Int32) &&& 31).toUInt32).toInt32).toInt8.toInt32) = 1 := by
  have a := c_isub (Int32.ofNat i) (Int32.ofNat (2 * i))
  have b := own_of (i := i) (by omega)
  have c := own_of (i := 2 * i) (by omega)
  have r := rng32 (Int32.ofNat i - Int32.ofNat (2 * i))
  have s := c_iushr (Int32.ofNat i - Int32.ofNat (2 * i)) 31 31 (by decide) (by decide)
  have t := c_i2b (((Int32.ofNat i - Int32.ofNat (2 * i)).toUInt32 >>> ((31 : Int32) &&& 31).toUInt32).toInt32)
  have u := c_i2b ((((Int32.ofNat i - Int32.ofNat (2 * i)).toUInt32 >>> ((31 : Int32) &&& 31).toUInt32).toInt32).toInt8.toInt32)
  apply Int32.toInt_inj.mp
  have e1 : (1 : Int32).toInt = 1 := by decide
  simp only [nar]
  omega
theorem own_i2b2 (x : Int32) : (x.toInt8.toInt32).toInt8.toInt32 = x.toInt8.toInt32 := by simp
theorem own_narB (x : Int32) : nar .byte (x.toInt8.toInt32) = StrChars.lo8 x := by
  show (x.toInt8.toInt32).toInt8.toInt32 = x.toInt8.toInt32
  simp
theorem own_setget {vs : List Value} {i j : Nat} {v d : Value} (h : i < vs.length) : (vs.set i v).getD j d = if i = j then v else vs.getD j d := by
  simp only [List.getD_eq_getElem?_getD, List.getElem?_set]
  split
  · rename_i q; subst q; simp [h]
  · rfl
theorem own_wide (cs : List Int32) (d : Value) : ∀ (vs : List Value), vs.length = 2 * cs.length → (∀ j, j < cs.length → vs.getD (2 * j) d = .int (StrChars.lo8 (cs.getD j 0)) ∧ vs.getD (2 * j + 1) d = .int (StrChars.hi8 (cs.getD j 0))) → vs = StrChars.Road.wideBytes cs := by
  induction cs with
  | nil => intro vs h _; simp at h; subst h; rfl
  | cons c r ih =>
    intro vs h q
    match vs, h with
    | a :: b :: t, h =>
      have q0 := q 0 (by simp)
      have e1 : a = .int (StrChars.lo8 c) := by simpa using q0.1
      have e2 : b = .int (StrChars.hi8 c) := by simpa using q0.2
      have e3 : t = StrChars.Road.wideBytes r := ih t (by simp at h; omega) (fun j hj => by
        have := q (j + 1) (by simp; omega)
        have w1 : 2 * (j + 1) = 2 * j + 1 + 1 := by omega
        rw [w1] at this
        simpa using this)
      rw [e1, e2, e3]
      rfl
    | [a], h => simp at h; omega
    | [], h => simp at h


theorem own_Str.latF {Z : State} {h : Heap} {x t : Addr} {cs : List Int32} (F : own_Str Z h x t cs) (hl : ∀ c ∈ cs, ¬ (255 : Int32) < c) : ∃ (kb : ClassId), Exa Z h x "java/lang/String" ∧ Fld Z h x "java/lang/String" "value" "[B" (.ref t) ∧ Fld Z h x "java/lang/String" "coder" "B" (.int (0 : Int32)) ∧ Arv Z h t kb .byte (Int32.ofNat cs.length) (cs.map fun c => Value.int (StrChars.lo8 c)) (.int (0 : Int32)) := by
  obtain ⟨kb, N2, vs, h1, h2, h3, h4, h5⟩ := F.lat hl
  rcases h5 with ⟨-, hN, hv, -⟩ | ⟨q, -⟩
  · subst hN hv; exact ⟨kb, h1, h2, h3, h4⟩
  · exact absurd q (by decide)
theorem own_Str.mkL {Z : State} {h : Heap} {x t : Addr} {cs : List Int32} {kb : ClassId} (h1 : Exa Z h x "java/lang/String") (h2 : Fld Z h x "java/lang/String" "value" "[B" (.ref t)) (h3 : Fld Z h x "java/lang/String" "coder" "B" (.int (0 : Int32))) (h4 : Arv Z h t kb .byte (Int32.ofNat cs.length) (cs.map fun c => Value.int (StrChars.lo8 c)) (.int (0 : Int32))) (hl : ∀ c ∈ cs, ¬ c < 0 ∧ ¬ (255 : Int32) < c) (hn : cs.length ≤ 4000) : own_Str Z h x t cs :=
  ⟨kb, 0, _, _, h1, h2, h3, h4, Or.inl ⟨rfl, rfl, rfl, fun c q => (hl c q).2⟩, own_upL hl, hn⟩
theorem own_shl0 (x : Int32) : x <<< ((0 : Int32) &&& 31) = x := by
  apply Int32.toInt_inj.mp
  have a := c_ishl x 0 0 (by decide)
  have r := rng32 x
  have r2 := rng32 (x <<< ((0 : Int32) &&& 31))
  omega
theorem own_shr0 (x : Int32) : x >>> ((0 : Int32) &&& 31) = x := by
  apply Int32.toInt_inj.mp
  have a := c_ishr x 0 0 (by decide)
  omega
theorem own_ofA {i j : Nat} (h : i + j < 1073741823) : Int32.ofNat i + Int32.ofNat j = Int32.ofNat (i + j) := by
  apply Int32.toInt_inj.mp
  have a := c_iadd (Int32.ofNat i) (Int32.ofNat j)
  have b := own_of (i := i) (by omega)
  have c := own_of (i := j) (by omega)
  have d := own_of (i := i + j) (by omega)
  have r := rng32 (Int32.ofNat i + Int32.ofNat j)
  omega
theorem own_ofB {i j : Nat} (h : i < 1073741823) (hj : j ≤ i) : Int32.ofNat i - Int32.ofNat j = Int32.ofNat (i - j) := by
  apply Int32.toInt_inj.mp
  have a := c_isub (Int32.ofNat i) (Int32.ofNat j)
  have b := own_of (i := i) (by omega)
  have c := own_of (i := j) (by omega)
  have d := own_of (i := i - j) (by omega)
  have r := rng32 (Int32.ofNat i - Int32.ofNat j)
  omega
theorem own_ofBle {i j : Nat} (h : i < 1073741823) (hj : j < 1073741823) : (0 : Int32) < Int32.ofNat i - Int32.ofNat j ↔ j < i := by
  have a := c_isub (Int32.ofNat i) (Int32.ofNat j)
  have b := own_of (i := i) (by omega)
  have c := own_of (i := j) (by omega)
  have r := rng32 (Int32.ofNat i - Int32.ofNat j)
  have e0 : (0 : Int32).toInt = 0 := by decide
  rw [Int32.lt_iff_toInt_lt, e0]
  omega
theorem own_ofE {i j : Nat} (hi : i < 2147483648) (hj : j < 2147483648) : Int32.ofNat i = Int32.ofNat j ↔ i = j := ⟨fun q => by
    have q2 := congrArg Int32.toInt q
    rw [own_of hi, own_of hj] at q2
    omega, fun q => by rw [q]⟩
abbrev own_low (cs : List Int32) : List Value := cs.map fun c => Value.int (StrChars.lo8 c)
theorem own_lowG (cs : List Int32) (i : Nat) (d : Value) : (own_low cs).getD i d = if i < cs.length then .int (StrChars.lo8 (cs.getD i 0)) else d := by
  by_cases h : i < cs.length
  · simp [own_low, List.getD_eq_getElem?_getD, h]
  · simp [own_low, List.getD_eq_getElem?_getD, h, List.getElem?_eq_none (Nat.le_of_not_lt h)]
theorem own_appG (cs ds : List Int32) (i : Nat) : (cs ++ ds).getD i 0 = if i < cs.length then cs.getD i 0 else ds.getD (i - cs.length) 0 := by
  by_cases h : i < cs.length
  · rw [if_pos h]; simp [List.getD_eq_getElem?_getD, List.getElem?_append_left h]
  · rw [if_neg h]; simp [List.getD_eq_getElem?_getD, List.getElem?_append_right (Nat.le_of_not_lt h)]
theorem own_us (ds : List Int32) (hn : ds.length < 2147483648) : own_low ds = (List.range (Int32.ofNat ds.length).toNatClampNeg).map fun i => (own_low ds).getD ((0 : Int32).toNatClampNeg + i) (.int (0 : Int32)) := by
  rw [own_ofn hn]
  have e0 : (0 : Int32).toNatClampNeg = 0 := by decide
  rw [e0]
  apply List.ext_getElem
  · simp [own_low]
  · intro i h1 h2
    simp [own_low, List.getD_eq_getElem?_getD] at h1 ⊢
    simp [h1]
theorem own_appV {Z : State} {h : Heap} {a : Addr} {k : ClassId} {n : Int32} {cs ds : List Int32} {m : Nat} (F : Arv Z h a k .byte n (((own_low cs ++ List.replicate m (Value.int (0 : Int32))).take (Int32.ofNat cs.length).toNatClampNeg) ++ own_low ds ++ ((own_low cs ++ List.replicate m (Value.int (0 : Int32))).drop ((Int32.ofNat cs.length).toNatClampNeg + (Int32.ofNat ds.length).toNatClampNeg))) (.int (0 : Int32))) (h1 : cs.length < 100000) (h2 : ds.length < 100000) : Arv Z h a k .byte n (own_low (cs ++ ds)) (.int (0 : Int32)) := by
  refine F.pad (fun i => ?_)
  rw [own_ofn (by omega), own_ofn (by omega)]
  have e1 : (own_low cs ++ List.replicate m (Value.int (0 : Int32))).take cs.length = own_low cs := by
    rw [List.take_append_of_le_length (by simp [own_low]), List.take_of_length_le (by simp [own_low])]
  have e2 : (own_low cs ++ List.replicate m (Value.int (0 : Int32))).drop (cs.length + ds.length) = List.replicate (m - ds.length) (Value.int (0 : Int32)) := by
    rw [List.drop_append, List.drop_of_length_le (by simp [own_low]), List.drop_replicate, List.nil_append]
    congr 1
    simp [own_low]
  rw [e1, e2, show own_low (cs ++ ds) = own_low cs ++ own_low ds by simp [own_low]]
  exact (pad_rep (own_low cs ++ own_low ds) _ _ i).symm
theorem own_latT {cs : List Int32} {i m : Nat} (h : ∀ c ∈ cs, ¬ c < 0 ∧ ¬ (255 : Int32) < c) : ∀ c ∈ (cs.drop i).take m, ¬ c < 0 ∧ ¬ (255 : Int32) < c := fun c hc => h c (List.mem_of_mem_drop (List.mem_of_mem_take hc))
theorem own_latA {a b : List Int32} (h1 : ∀ c ∈ a, ¬ c < 0 ∧ ¬ (255 : Int32) < c) (h2 : ∀ c ∈ b, ¬ c < 0 ∧ ¬ (255 : Int32) < c) : ∀ c ∈ a ++ b, ¬ c < 0 ∧ ¬ (255 : Int32) < c := fun c hc => (List.mem_append.mp hc).elim (h1 c) (h2 c)
theorem own_subl {cs : List Int32} {i m : Nat} (h : i + m ≤ cs.length) : ((cs.drop i).take m).length = m := by simp; omega


theorem own_standW {p : Program} {l : Launch} {e : Env} {R : Room} {s : State} {m : MethodId} {args : Array Value} {below : List Frame} {meth : Method} {c : Code} {T : State} {locs : List Loc} {cells slots c2 s2 : Nat} (X : Stand p l e R s m args below meth c T locs cells slots) (h1 : cells ≤ c2) (h2 : slots ≤ s2) : Stand p l e R s m args below meth c T locs c2 s2 := { X with same := X.same.mono h1 h2 }


def own_Cap (c : Nat) : Prop := c = 16 ∨ c = 34
theorem own_Cap.le {c : Nat} (h : own_Cap c) : c ≤ 34 := by unfold own_Cap at h; omega
theorem own_Cap.ge {c : Nat} (h : own_Cap c) : 16 ≤ c := by unfold own_Cap at h; omega
theorem own_Cap.gr {c n : Nat} (h : own_Cap c) (h1 : c < n) (h2 : n ≤ 34) : c = 16 := by unfold own_Cap at h; omega
def own_New (a b n : Nat) : Prop := a = b ∨ n ≤ a
theorem own_New.le {a b n k : Nat} (h : own_New a b n) (h1 : k ≤ b) (h2 : k ≤ n) : k ≤ a := by unfold own_New at h; omega
theorem own_New.ne {a b n t : Nat} (h : own_New a b n) (h1 : @Ne Nat t b) (h2 : t < n) : @Ne Nat t a := by unfold own_New at h; omega

theorem own_newB {p : Program} {l : Launch} {e : Env} {R : Room} {s : State} {m : MethodId} {args : Array Value} {below : List Frame} {meth : Method} {c : Code} {T : State} {locs : List Loc} {cells slots : Nat} {Z : State} {a0 : Array Value} {h : Heap}
    (X : Stand p l e R s m args below meth c T locs cells slots) (hx : p.tables.exec = Jvm.exec) (hZ : Z.Warmed39 s.vm) (w : (Cond.arrayClass .byte).before a0 Z = true) (eT : T.heap = h) {g : JFrame} (hg : g.method = m) (hd : decode c.code g.pc = .ok (.newarray .byte, 2)) {n : Int32} {rest : List Value} (hs : g.stack = .int n :: rest)
    (hn : ¬ n < 0) {cap : Nat} (hcap : n.toNatClampNeg ≤ cap) (hb : cap * 8 ≤ 536870912) (hc : cells + 1 ≤ R.cells) (hl : slots + cap ≤ R.slots) :
    ∃ T' h' cA, Stand p l e R s m args below meth c T' locs (cells + 1) (slots + cap) ∧ T'.heap = h' ∧ Ext h h' ∧ Arr Z h' h.size (newA cA .byte n) .byte ∧ Z.vm.findClass "[B" = some cA ∧
      ∀ target, Steps p.tables e below (T'.setTop { g with pc := g.pc + 2, stack := .ref h.size :: rest }) target → Steps p.tables e below (T.setTop g) target := by
  have w' : (Cond.arrayClass (newarray.typeOf .byte)).before args s = true := mvA hZ w
  have hcb : n.toNatClampNeg * componentBytes (newarray.typeOf .byte) ≤ 536870912 := by
    have q : componentBytes (newarray.typeOf .byte) ≤ 8 := by decide
    exact Nat.le_trans (Nat.mul_le_mul hcap q) hb
  obtain ⟨cA, kA, comp, f1, f2, f3, Y, go⟩ := X.newarrayPrim hx w' hg hd hs hn hcb hc (by omega)
  subst eT
  have g1 : Z.vm.findClass "[B" = some cA := by rw [hZ.alike.findClass] at f1; exact f1
  obtain ⟨k1, a1, -⟩ := Vm.findClass_spec g1
  obtain ⟨k2, a2, a3⟩ := hZ.alike.2.2 _ _ a1
  have a4 : k2 = kA := Option.some.inj (a2.symm.trans f2)
  have hk : k1.kind = .array comp .byte := by
    have q := f3
    rw [← a4, a3] at q
    exact q
  refine ⟨_, _, cA, Y.more (Nat.le_refl _) (by omega), rfl, ext_of (fun a q => (Array.getElem?_push_lt q).trans (Array.getElem?_eq_getElem q).symm), ⟨?_, ⟨by simp [newA], k1, a1, comp, hk⟩, by simp [newA]⟩, g1, go⟩
  show (T.heap.push _)[T.heap.size]? = _
  simp [newA]
  exact Or.inr rfl
theorem own_exaB {Z : State} {h : Heap} {a : Addr} {c : Cell} {k : ClassId} (A : Arr Z h a c .byte) (q : c.cls = k) (f : Z.vm.findClass "[B" = some k) : Exa Z h a "[B" := by
  obtain ⟨a1, ⟨a2, K, a3, comp, a4⟩, a5⟩ := A
  refine ⟨c, K, a1, by rw [f, q], a3, ?_, fun u => by rw [a4] at u; cases u⟩
  cases hv : c.vm <;> first | rfl | exact absurd hv (a2 _)
theorem own_fitC {Z : State} {h : Heap} {a : Addr} {c : Cell} {vs : List Value} {d : Value} (A : Arr Z h a c .byte) (H : Has c vs d) (G : ∀ i, i < c.slots.size → fits .byte (vs.getD i d) = true) : FitC Z c := fun i v hv => by
  obtain ⟨hi, e⟩ := Array.getElem?_eq_some_iff.mp hv
  obtain ⟨-, ⟨-, K, a3, comp, a4⟩, -⟩ := A
  have q := G i hi
  have q2 := H i hi
  have e2 : vs.getD i d = v := by
    have := q2.symm.trans hv
    first | exact Option.some.inj this | simpa using this
  rw [e2] at q
  simp [State.fitsSlot, State.slotType?, a3, a4, q]


theorem own_litKB {Z : State} {EL : List (String × Nat)} {vm : Vm} {h : Heap} {b : Addr} {k : ClassId} {n : Int32} {vs : List Value} {d : Value} (hal : Z.vm.Alike vm) (hb : ∀ x, Safe Z EL vm h x → x ≠ b) (F : Arv Z h b k .byte n vs d) : Z.vm.findClass "[B" = some k := by
  have B : Bk Z EL vm h b := Classical.byContradiction fun q => hb b q rfl
  obtain ⟨c, ⟨a1, ⟨a2, K, a3, comp, a4⟩, a5⟩, q1, -⟩ := F
  obtain ⟨p, -, u, a, -, q, -, G, hx | hx⟩ := B
  · exfalso
    have hh := G.ha
    obtain ⟨cS, ⟨S1, hf, hc⟩, ⟨kS, k1, k2, -⟩, -⟩ := G
    rw [← hx] at hh
    have e1 : c = q.sC := Option.some.inj (a1.symm.trans hh)
    obtain ⟨K', b1, b2⟩ := hal.2.2 _ _ a3
    have hc' : q.sC.cls = cS := hc
    rw [e1, hc'] at b1
    have e2 : K' = kS := Option.some.inj (b1.symm.trans k1)
    have e3 : K'.kind = K.kind := by rw [b2]
    rw [e2, k2, a4] at e3
    cases e3
  · have hh := G.hd
    obtain ⟨cS, -, -, f, -⟩ := G
    rw [← hx] at hh
    have e1 : c = q.SA := Option.some.inj (a1.symm.trans hh)
    have f' : Z.vm.findClass "[B" = some q.SA.cls := by rw [← hal.findClass]; exact f
    rw [f', ← e1, q1]


theorem own_fin {k : Nat} {x : Int32} (h0 : ¬ x < 0) (hk : x < Int32.ofNat k) (hb : k < 2147483648) : ∃ n : Fin k, x = Int32.ofNat n.val := by
  have e0 : (0 : Int32).toInt = 0 := by decide
  rw [Int32.lt_iff_toInt_lt, e0] at h0
  rw [Int32.lt_iff_toInt_lt, own_of hb] at hk
  refine ⟨⟨x.toInt.toNat, by omega⟩, ?_⟩
  apply Int32.toInt_inj.mp
  have e1 : ((x.toInt.toNat : Nat) : Int) = x.toInt := by omega
  rw [own_of (by omega), e1]
theorem own_fin256 {x : Int32} (h : ¬ x < 0 ∧ ¬ (255 : Int32) < x) : ∃ n : Fin 256, x = Int32.ofNat n.val := by
  refine own_fin h.1 ?_ (by decide)
  have h2 := h.2
  have e1 : (255 : Int32).toInt = 255 := by decide
  rw [Int32.lt_iff_toInt_lt, e1] at h2
  rw [Int32.lt_iff_toInt_lt, own_of (by decide)]
  omega
theorem own_fin128 {x : Int32} (h : ¬ x < 0) (h2 : x < 128) : ∃ n : Fin 128, x = Int32.ofNat n.val := own_fin h h2 (by decide)
def own_dg (d : Int32) : Int32 := if d < 10 then 48 + d else 65 + (d - 10)
def own_put (o : Int32) : List Int32 := [(37 : Int32), own_dg ((o >>> ((4 : Int32) &&& 31)) &&& (15 : Int32)), own_dg (o &&& (15 : Int32))]
def own_u3 (o : Int32) : Int32 := if o = (45 : Int32) then 1 else if o = (95 : Int32) then 1 else if o = (46 : Int32) then 1 else if o = (126 : Int32) then 1 else 0
def own_u2 (o : Int32) : Int32 := if o < (48 : Int32) then own_u3 o else if (57 : Int32) < o then own_u3 o else 1
def own_u1 (o : Int32) : Int32 := if o < (97 : Int32) then own_u2 o else if (122 : Int32) < o then own_u2 o else 1
def own_unr (o : Int32) : Int32 := if o < (65 : Int32) then own_u1 o else if (90 : Int32) < o then own_u1 o else 1
def own_pct (o : Int32) : List Int32 := if own_unr o = 0 then own_put o else [o]
def own_encL (os : List Int32) : List Int32 := os.flatMap own_pct
def own_utf1 (c : Int32) : List Int32 := if c < 128 then [c] else if c < 2048 then [(192 : Int32) ||| (c >>> ((6 : Int32) &&& 31)), (128 : Int32) ||| (c &&& (63 : Int32))] else [(224 : Int32) ||| (c >>> ((12 : Int32) &&& 31)), (128 : Int32) ||| ((c >>> ((6 : Int32) &&& 31)) &&& (63 : Int32)), (128 : Int32) ||| (c &&& (63 : Int32))]
def own_utf : List Int32 → List Int32
  | [] => []
  | c :: _ => own_utf1 c
def own_nsur (c : Int32) : Prop := c < 55296 ∨ ¬ c < 57344
def own_one (cs : List Int32) : Prop := cs = [] ∨ ∃ c, cs = [c] ∧ (¬ c < 0 ∧ ¬ (65535 : Int32) < c) ∧ own_nsur c
def own_CodU (cs : List Int32) (cd N2 : Int32) (vs : List Value) : Prop := (cs = [] ∧ cd = 0 ∧ N2 = 0 ∧ vs = []) ∨ (∃ c, cs = [c] ∧ ¬ c < 0 ∧ c < 128 ∧ cd = 0 ∧ N2 = 1 ∧ vs = [.int (StrChars.lo8 c)]) ∨ (∃ c, cs = [c] ∧ ¬ c < 128 ∧ ¬ (255 : Int32) < c ∧ cd = 0 ∧ N2 = 1 ∧ vs = [.int (StrChars.lo8 c)]) ∨ (∃ c, cs = [c] ∧ (255 : Int32) < c ∧ ¬ (65535 : Int32) < c ∧ own_nsur c ∧ cd = 1 ∧ N2 = 2 ∧ vs = [.int (StrChars.lo8 c), .int (StrChars.hi8 c)])
theorem own_codU {cs : List Int32} {cd N2 : Int32} {vs : List Value} (h : StrChars.Road.CodA cs cd N2 vs) (h1 : own_one cs) : own_CodU cs cd N2 vs := by
  rcases h1 with rfl | ⟨c, rfl, hr, hs⟩
  · rcases h with ⟨a, b, d, -⟩ | ⟨-, -, -, c, hc, -⟩
    · exact Or.inl ⟨rfl, a, b, d⟩
    · exact absurd hc (by simp)
  · rcases h with ⟨a, b, d, q⟩ | ⟨a, b, d, c', hc, q⟩
    · by_cases h3 : c < 128
      · exact Or.inr (Or.inl ⟨c, rfl, hr.1, h3, a, b, d⟩)
      · exact Or.inr (Or.inr (Or.inl ⟨c, rfl, h3, q c (by simp), a, b, d⟩))
    · have e : c' = c := by simpa using hc
      subst e
      exact Or.inr (Or.inr (Or.inr ⟨c', rfl, q, hr.2, hs, a, b, d⟩))
theorem own_CodU.bt {cs : List Int32} {cd N2 : Int32} {vs : List Value} (h : own_CodU cs cd N2 vs) : nar .byte cd = cd := by
  rcases h with ⟨-, rfl, -⟩ | ⟨c, -, -, -, rfl, -⟩ | ⟨c, -, -, -, rfl, -⟩ | ⟨c, -, -, -, -, rfl, -⟩ <;> rfl
theorem own_loP {c : Int32} (h : ¬ c < 0) (h2 : c < 128) : ¬ StrChars.lo8 c < 0 := by
  obtain ⟨n, rfl⟩ := own_fin128 h h2
  exact (by decide +kernel : ∀ n : Fin 128, ¬ StrChars.lo8 (Int32.ofNat n.val) < 0) n
theorem own_ge0 {c : Int32} (h : ¬ c < 128) : ¬ c < 0 := fun q => h (by
  have e0 : (0 : Int32).toInt = 0 := by decide
  have e1 : (128 : Int32).toInt = 128 := by decide
  rw [Int32.lt_iff_toInt_lt] at q ⊢
  omega)
theorem own_gt {c : Int32} (h : (255 : Int32) < c) : ¬ c < 128 := fun q => by
  have e0 : (255 : Int32).toInt = 255 := by decide
  have e1 : (128 : Int32).toInt = 128 := by decide
  rw [Int32.lt_iff_toInt_lt] at q h
  omega
theorem own_loN {c : Int32} (h : ¬ c < 128) (h2 : ¬ (255 : Int32) < c) : StrChars.lo8 c < 0 := by
  obtain ⟨n, rfl⟩ := own_fin256 ⟨own_ge0 h, h2⟩
  exact (by decide +kernel : ∀ n : Fin 256, ¬ Int32.ofNat n.val < 128 → StrChars.lo8 (Int32.ofNat n.val) < 0) n h
theorem own_lat2 {c : Int32} (h : ¬ c < 128) (h2 : ¬ (255 : Int32) < c) : nar .byte ((((192 : Int32) ||| ((StrChars.lo8 c &&& (255 : Int32)) >>> ((6 : Int32) &&& 31)))).toInt8.toInt32) = StrChars.lo8 ((192 : Int32) ||| (c >>> ((6 : Int32) &&& 31))) ∧ nar .byte ((((128 : Int32) ||| (StrChars.lo8 c &&& (63 : Int32)))).toInt8.toInt32) = StrChars.lo8 ((128 : Int32) ||| (c &&& (63 : Int32))) ∧ c < 2048 := by
  obtain ⟨n, rfl⟩ := own_fin256 ⟨own_ge0 h, h2⟩
  exact (by decide +kernel : ∀ n : Fin 256, nar .byte ((((192 : Int32) ||| ((StrChars.lo8 (Int32.ofNat n.val) &&& (255 : Int32)) >>> ((6 : Int32) &&& 31)))).toInt8.toInt32) = StrChars.lo8 ((192 : Int32) ||| (Int32.ofNat n.val >>> ((6 : Int32) &&& 31))) ∧ nar .byte ((((128 : Int32) ||| (StrChars.lo8 (Int32.ofNat n.val) &&& (63 : Int32)))).toInt8.toInt32) = StrChars.lo8 ((128 : Int32) ||| (Int32.ofNat n.val &&& (63 : Int32))) ∧ Int32.ofNat n.val < 2048) n
theorem own_utfA {c : Int32} (h : c < 128) : own_utf [c] = [c] := if_pos h
theorem own_utfB {c : Int32} (h : ¬ c < 128) (h2 : c < 2048) : own_utf [c] = [(192 : Int32) ||| (c >>> ((6 : Int32) &&& 31)), (128 : Int32) ||| (c &&& (63 : Int32))] := (if_neg h).trans (if_pos h2)
theorem own_utfC {c : Int32} (h : ¬ c < 128) (h2 : ¬ c < 2048) : own_utf [c] = [(224 : Int32) ||| (c >>> ((12 : Int32) &&& 31)), (128 : Int32) ||| ((c >>> ((6 : Int32) &&& 31)) &&& (63 : Int32)), (128 : Int32) ||| (c &&& (63 : Int32))] := (if_neg h).trans (if_neg h2)
def own_hi (o : Int32) : Prop := ¬ o < 128 ∧ ¬ (255 : Int32) < o
theorem own_m63 (x : Int32) : own_hi ((128 : Int32) ||| (x &&& (63 : Int32))) := by
  have h1 := c_mask x 63 6 (by decide) (by decide)
  obtain ⟨n, hn⟩ := own_fin (k := 64) (x := x &&& (63 : Int32)) (by
    have e0 : (0 : Int32).toInt = 0 := by decide
    rw [Int32.lt_iff_toInt_lt, e0]; omega) (by rw [Int32.lt_iff_toInt_lt, own_of (by decide)]; omega) (by decide)
  rw [hn]
  exact (by decide +kernel : ∀ n : Fin 64, ¬ ((128 : Int32) ||| Int32.ofNat n.val) < 128 ∧ ¬ (255 : Int32) < ((128 : Int32) ||| Int32.ofNat n.val)) n
theorem own_s6 {c : Int32} (h : ¬ c < 128) (h2 : c < 2048) : own_hi ((192 : Int32) ||| (c >>> ((6 : Int32) &&& 31))) := by
  have h1 := c_ishr c 6 6 (by decide)
  have e1 : (128 : Int32).toInt = 128 := by decide
  have e2 : (2048 : Int32).toInt = 2048 := by decide
  rw [Int32.lt_iff_toInt_lt] at h h2
  obtain ⟨n, hn⟩ := own_fin (k := 32) (x := c >>> ((6 : Int32) &&& 31)) (by
    have e0 : (0 : Int32).toInt = 0 := by decide
    rw [Int32.lt_iff_toInt_lt, e0]; omega) (by rw [Int32.lt_iff_toInt_lt, own_of (by decide)]; omega) (by decide)
  rw [hn]
  exact (by decide +kernel : ∀ n : Fin 32, ¬ ((192 : Int32) ||| Int32.ofNat n.val) < 128 ∧ ¬ (255 : Int32) < ((192 : Int32) ||| Int32.ofNat n.val)) n
theorem own_s12 {c : Int32} (h : ¬ c < 128) (h2 : ¬ (65535 : Int32) < c) : own_hi ((224 : Int32) ||| (c >>> ((12 : Int32) &&& 31))) := by
  have h1 := c_ishr c 12 12 (by decide)
  have e1 : (128 : Int32).toInt = 128 := by decide
  have e2 : (65535 : Int32).toInt = 65535 := by decide
  rw [Int32.lt_iff_toInt_lt] at h h2
  obtain ⟨n, hn⟩ := own_fin (k := 16) (x := c >>> ((12 : Int32) &&& 31)) (by
    have e0 : (0 : Int32).toInt = 0 := by decide
    rw [Int32.lt_iff_toInt_lt, e0]; omega) (by rw [Int32.lt_iff_toInt_lt, own_of (by decide)]; omega) (by decide)
  rw [hn]
  exact (by decide +kernel : ∀ n : Fin 16, ¬ ((224 : Int32) ||| Int32.ofNat n.val) < 128 ∧ ¬ (255 : Int32) < ((224 : Int32) ||| Int32.ofNat n.val)) n
theorem own_hi.oct {o : Int32} (h : own_hi o) : ¬ o < 0 ∧ ¬ (255 : Int32) < o := ⟨own_ge0 h.1, h.2⟩
theorem own_hi.pct {o : Int32} (h : own_hi o) : own_pct o = own_put o := by
  obtain ⟨n, rfl⟩ := own_fin256 h.oct
  exact if_pos ((by decide +kernel : ∀ n : Fin 256, ¬ Int32.ofNat n.val < 128 → own_unr (Int32.ofNat n.val) = 0) n h.1)
theorem own_utfR {cs : List Int32} (h : own_one cs) : (∀ o ∈ own_utf cs, ¬ o < 0 ∧ ¬ (255 : Int32) < o) ∧ (own_utf cs).length ≤ 3 := by
  rcases h with rfl | ⟨c, rfl, hr, -⟩
  · exact ⟨own_a0, by decide⟩
  · by_cases h1 : c < 128
    · rw [own_utfA h1]
      have q : ¬ (255 : Int32) < c := fun q => own_gt q h1
      exact ⟨own_aS ⟨hr.1, q⟩ own_a0, by simp⟩
    · by_cases h2 : c < 2048
      · rw [own_utfB h1 h2]
        exact ⟨own_aS (own_s6 h1 h2).oct (own_aS (own_m63 _).oct own_a0), by simp⟩
      · rw [own_utfC h1 h2]
        exact ⟨own_aS (own_s12 h1 hr.2).oct (own_aS (own_m63 _).oct (own_aS (own_m63 _).oct own_a0)), by simp⟩
theorem own_lo255 {o : Int32} (h : ¬ o < 0 ∧ ¬ (255 : Int32) < o) : StrChars.lo8 o &&& (255 : Int32) = o := by
  obtain ⟨n, rfl⟩ := own_fin256 h
  exact (by decide +kernel : ∀ n : Fin 256, StrChars.lo8 (Int32.ofNat n.val) &&& (255 : Int32) = Int32.ofNat n.val) n
def own_hexL : List Int32 := [48, 49, 50, 51, 52, 53, 54, 55, 56, 57, 65, 66, 67, 68, 69, 70]
theorem own_mapD (l : List Int32) (i : Nat) : (l.map Value.int).getD i (.int 0) = .int (l.getD i 0) := by
  simp only [List.getD_eq_getElem?_getD, List.getElem?_map]
  cases l[i]? <;> rfl
theorem own_hex1 {o : Int32} (h : ¬ o < 0 ∧ ¬ (255 : Int32) < o) : (own_hexL.map Value.int).getD (o >>> ((4 : Int32) &&& 31)).toNatClampNeg (.int (0 : Int32)) = .int (own_dg ((o >>> ((4 : Int32) &&& 31)) &&& (15 : Int32))) ∧ ¬ (o >>> ((4 : Int32) &&& 31)) < 0 ∧ (o >>> ((4 : Int32) &&& 31)) < (16 : Int32) := by
  obtain ⟨n, rfl⟩ := own_fin256 h
  rw [own_mapD]
  have q := (by decide +kernel : ∀ n : Fin 256, own_hexL.getD (Int32.ofNat n.val >>> ((4 : Int32) &&& 31)).toNatClampNeg 0 = own_dg ((Int32.ofNat n.val >>> ((4 : Int32) &&& 31)) &&& (15 : Int32)) ∧ ¬ (Int32.ofNat n.val >>> ((4 : Int32) &&& 31)) < 0 ∧ (Int32.ofNat n.val >>> ((4 : Int32) &&& 31)) < (16 : Int32)) n
  exact ⟨congrArg Value.int q.1, q.2⟩
theorem own_hex2 {o : Int32} (h : ¬ o < 0 ∧ ¬ (255 : Int32) < o) : (own_hexL.map Value.int).getD (o &&& (15 : Int32)).toNatClampNeg (.int (0 : Int32)) = .int (own_dg (o &&& (15 : Int32))) ∧ ¬ (o &&& (15 : Int32)) < 0 ∧ (o &&& (15 : Int32)) < (16 : Int32) := by
  obtain ⟨n, rfl⟩ := own_fin256 h
  rw [own_mapD]
  have q := (by decide +kernel : ∀ n : Fin 256, own_hexL.getD (Int32.ofNat n.val &&& (15 : Int32)).toNatClampNeg 0 = own_dg (Int32.ofNat n.val &&& (15 : Int32)) ∧ ¬ (Int32.ofNat n.val &&& (15 : Int32)) < 0 ∧ (Int32.ofNat n.val &&& (15 : Int32)) < (16 : Int32)) n
  exact ⟨congrArg Value.int q.1, q.2⟩
theorem own_dgR (x : Int32) : ¬ own_dg (x &&& (15 : Int32)) < 0 ∧ ¬ (255 : Int32) < own_dg (x &&& (15 : Int32)) := by
  have h1 := c_mask x 15 4 (by decide) (by decide)
  obtain ⟨n, hn⟩ := own_fin (k := 16) (x := x &&& (15 : Int32)) (by
    have e0 : (0 : Int32).toInt = 0 := by decide
    rw [Int32.lt_iff_toInt_lt, e0]; omega) (by rw [Int32.lt_iff_toInt_lt, own_of (by decide)]; omega) (by decide)
  rw [hn]
  exact (by decide +kernel : ∀ n : Fin 16, ¬ own_dg (Int32.ofNat n.val) < 0 ∧ ¬ (255 : Int32) < own_dg (Int32.ofNat n.val)) n
theorem own_dgC (x : Int32) : (((48 : Int32) + (x &&& (15 : Int32))).toUInt32.toUInt16.toUInt32.toInt32 = (48 : Int32) + (x &&& (15 : Int32))) ∧ (((65 : Int32) + ((x &&& (15 : Int32)) - (10 : Int32))).toUInt32.toUInt16.toUInt32.toInt32 = (65 : Int32) + ((x &&& (15 : Int32)) - (10 : Int32))) := by
  have h1 := c_mask x 15 4 (by decide) (by decide)
  obtain ⟨n, hn⟩ := own_fin (k := 16) (x := x &&& (15 : Int32)) (by
    have e0 : (0 : Int32).toInt = 0 := by decide
    rw [Int32.lt_iff_toInt_lt, e0]; omega) (by rw [Int32.lt_iff_toInt_lt, own_of (by decide)]; omega) (by decide)
  rw [hn]
  exact (by decide +kernel : ∀ n : Fin 16, (((48 : Int32) + (Int32.ofNat n.val)).toUInt32.toUInt16.toUInt32.toInt32 = (48 : Int32) + (Int32.ofNat n.val)) ∧ (((65 : Int32) + ((Int32.ofNat n.val) - (10 : Int32))).toUInt32.toUInt16.toUInt32.toInt32 = (65 : Int32) + ((Int32.ofNat n.val) - (10 : Int32)))) n
theorem own_putR (o : Int32) : ∀ c ∈ own_put o, ¬ c < 0 ∧ ¬ (255 : Int32) < c := own_aS (by decide) (own_aS (own_dgR _) (own_aS (own_dgR _) own_a0))
theorem own_pctR {o : Int32} (h : ¬ o < 0 ∧ ¬ (255 : Int32) < o) : ∀ c ∈ own_pct o, ¬ c < 0 ∧ ¬ (255 : Int32) < c := by
  unfold own_pct
  split
  · exact own_putR o
  · exact own_aS h own_a0
theorem own_encR {os : List Int32} (h : ∀ o ∈ os, ¬ o < 0 ∧ ¬ (255 : Int32) < o) : ∀ c ∈ own_encL os, ¬ c < 0 ∧ ¬ (255 : Int32) < c := fun c hc => by
  obtain ⟨o, ho, hc⟩ := List.mem_flatMap.mp hc
  exact own_pctR (h o ho) c hc
theorem own_encS {os : List Int32} {i : Nat} (h : i < os.length) : own_encL (os.take (i + 1)) = own_encL (os.take i) ++ own_pct (os.getD i 0) := by
  have e : os.take (i + 1) = os.take i ++ [os.getD i 0] := by
    rw [List.take_succ]
    simp [List.getD_eq_getElem?_getD, h]
  rw [e]
  simp [own_encL]
theorem own_octG {os : List Int32} {i : Nat} (h : ∀ o ∈ os, ¬ o < 0 ∧ ¬ (255 : Int32) < o) (hi : i < os.length) : ¬ os.getD i 0 < 0 ∧ ¬ (255 : Int32) < os.getD i 0 := h _ (by simp [List.getD_eq_getElem?_getD, hi])
theorem own_New.lt {a b n x : Nat} (h : own_New a b n) (h1 : x < b) (h2 : x < n) : x < a := by unfold own_New at h; omega
theorem own_kbE {Z : State} {h : Heap} {t : Addr} {k : ClassId} {ty : FieldType} {n : Int32} {vs : List Value} {d : Value} (E : Exa Z h t "[B") (F : Arv Z h t k ty n vs d) : Z.vm.findClass "[B" = some k := by
  obtain ⟨c, K, e1, e2, -⟩ := E
  obtain ⟨c', A, q, -⟩ := F
  have e3 : c = c' := Option.some.inj (e1.symm.trans A.1)
  rw [e2, e3, q]
theorem own_exaK {Z : State} {h : Heap} {t : Addr} {k : ClassId} {n : Int32} {vs : List Value} {d : Value} (F : Arv Z h t k .byte n vs d) (hk : Z.vm.findClass "[B" = some k) : Exa Z h t "[B" := by
  obtain ⟨c', A, q, -⟩ := F
  exact own_exaB A q hk
theorem own_push {Z : State} {h h' : Heap} {a : Addr} {k : ClassId} {z : Int32} {es : List Int32} {j v : Int32} (F : Arv Z h a k .char z (es.map Value.int) (.int (0 : Int32))) (W : Wr h h' a j.toNatClampNeg (.int (nar .char v))) (hj : j = Int32.ofNat es.length) (hl : es.length < 1000) (hv : ¬ v < 0 ∧ ¬ (65535 : Int32) < v) : Arv Z h' a k .char z ((es ++ [v]).map Value.int) (.int (0 : Int32)) := by
  have F2 := F.pad (vs' := es.map Value.int ++ List.replicate 1 (Value.int (0 : Int32))) (fun i => pad_rep _ _ 1 i)
  obtain ⟨c, A, q1, S, q3, H, G⟩ := F2
  have F3 := Arv.set A q1 S q3 H G (fits_nar_char _) W es.length (by rw [hj, own_ofn (by omega)]) (by simp)
  rw [own_nar hv, List.set_append_right _ _ (by simp)] at F3
  simpa using F3
theorem own_us2 (x y z : Value) : [x, y] = (List.range (2 : Int32).toNatClampNeg).map fun i => [x, y, z].getD ((0 : Int32).toNatClampNeg + i) (.int (0 : Int32)) := by
  have e0 : (0 : Int32).toNatClampNeg = 0 := by decide
  have e1 : (2 : Int32).toNatClampNeg = 2 := by decide
  rw [e0, e1]
  rfl
theorem own_co2 {Z : State} {h : Heap} {a : Addr} {k : ClassId} {x y u v : Value} (F : Arv Z h a k .byte (2 : Int32) ([u, v].take (0 : Int32).toNatClampNeg ++ [x, y] ++ [u, v].drop ((0 : Int32).toNatClampNeg + (2 : Int32).toNatClampNeg)) (.int (0 : Int32))) : Arv Z h a k .byte (2 : Int32) [x, y] (.int (0 : Int32)) := by
  have e0 : (0 : Int32).toNatClampNeg = 0 := by decide
  have e1 : (2 : Int32).toNatClampNeg = 2 := by decide
  rw [e0, e1] at F
  exact F
theorem own_chr1 {x : Int32} (h : x &&& (65535 : Int32) < (55296 : Int32)) : (¬ x &&& (65535 : Int32) < 0 ∧ ¬ (65535 : Int32) < x &&& (65535 : Int32)) ∧ own_nsur (x &&& (65535 : Int32)) := by
  have h1 := c_mask x 65535 16 (by decide) (by decide)
  have e0 : (0 : Int32).toInt = 0 := by decide
  have e1 : (65535 : Int32).toInt = 65535 := by decide
  refine ⟨⟨?_, ?_⟩, Or.inl h⟩ <;> rw [Int32.lt_iff_toInt_lt] <;> omega
theorem own_chr2 {x : Int32} (h : (57343 : Int32) < x &&& (65535 : Int32)) : (¬ x &&& (65535 : Int32) < 0 ∧ ¬ (65535 : Int32) < x &&& (65535 : Int32)) ∧ own_nsur (x &&& (65535 : Int32)) := by
  have h1 := c_mask x 65535 16 (by decide) (by decide)
  have e0 : (0 : Int32).toInt = 0 := by decide
  have e1 : (65535 : Int32).toInt = 65535 := by decide
  have e2 : (57343 : Int32).toInt = 57343 := by decide
  have e3 : (57344 : Int32).toInt = 57344 := by decide
  rw [Int32.lt_iff_toInt_lt] at h
  refine ⟨⟨?_, ?_⟩, Or.inr ?_⟩ <;> rw [Int32.lt_iff_toInt_lt] <;> omega
theorem own_chr3 {x : Int32} (h : ¬ (x &&& (65535 : Int32) < (55296 : Int32))) (h2 : ¬ ((57343 : Int32) < x &&& (65535 : Int32))) : (¬ (x &&& (65535 : Int32)) - (2048 : Int32) < 0 ∧ ¬ (65535 : Int32) < (x &&& (65535 : Int32)) - (2048 : Int32)) ∧ own_nsur ((x &&& (65535 : Int32)) - (2048 : Int32)) := by
  have h1 := c_mask x 65535 16 (by decide) (by decide)
  have h3 := c_isub (x &&& (65535 : Int32)) 2048
  have r := rng32 ((x &&& (65535 : Int32)) - 2048)
  have e0 : (0 : Int32).toInt = 0 := by decide
  have e1 : (65535 : Int32).toInt = 65535 := by decide
  have e2 : (57343 : Int32).toInt = 57343 := by decide
  have e3 : (55296 : Int32).toInt = 55296 := by decide
  have e4 : (2048 : Int32).toInt = 2048 := by decide
  rw [Int32.lt_iff_toInt_lt] at h h2
  refine ⟨⟨?_, ?_⟩, Or.inl ?_⟩ <;> rw [Int32.lt_iff_toInt_lt] <;> omega
theorem own_orr {args : Array Value} {first s : State} {o : Option Outcome} {idx : List Nat} {c d : Cond} (h : (Cond.or c d).value args first o s idx = some true) (hc : c.value args first o s idx = some false) : d.value args first o s idx = some true := by
  simpa [Cond.value, hc] using h
theorem own_hexE {s : State} {args : Array Value} {T : Term} {j : Nat} {k : Int64} {x : Value} {cl : Cell} {ah : Addr} (hj : j < 16) (eT : T.eval args s none [j] s = some (.ref ah)) (hat : s.arrayAt? ah = some cl)
    (h : (Cond.eq (.op1 .i2l (.elem T (.index 0))) (.op2 .ladd (.op1 .i2l (.index 0)) (.long k))).value args s none s [j] = some true) : ∃ v : Int32, cl.slots[j]? = some (.int v) ∧ v.toInt64 = j.toInt32.toInt64 + k := by
  have hidx : (Term.index 0).eval args s none [j] s = some (.int j.toInt32) := Term.index_eval _
  have hj0 := Jvm.Free.IntBox.place_nonneg j (by omega)
  obtain ⟨x, y, e1, e2, -, -⟩ := cmp_v (Or.inl h)
  obtain ⟨x0, f1, f2⟩ := op1_v e1
  have f3 := elem_f eT hidx hat hj0.1
  rw [f1, hj0.2] at f3
  have g1 : (Term.op2 .ladd (.op1 .i2l (.index 0)) (.long k)).eval args s none [j] s = some (.long (j.toInt32.toInt64 + k)) := by
    rw [op2_f (x := .long j.toInt32.toInt64) (y := .long k) (by rw [op1_f hidx]; rfl) rfl]
    rfl
  cases x0 with
  | int v =>
    have f4 : x = .long v.toInt64 := Option.some.inj (f2.symm.trans rfl)
    subst f4
    have q := eq_L e1 g1
    rw [h] at q
    exact ⟨v, f3.symm, by simpa using q.symm⟩
  | _ => simp [Unary.apply] at f2
theorem own_hex {s : State} {args : Array Value} {Cn : String} (hf : Fit s)
    (n1 : (Cond.arrayOf (.static Cn "HEX_DIGITS" "[C") .char).value args s none s [] = some true)
    (n2 : (Cond.eq (.length (.static Cn "HEX_DIGITS" "[C")) (.int 16)).value args s none s [] = some true)
    (n3 : (Cond.all (.static Cn "HEX_DIGITS" "[C") (Cond.or (Cond.le (.int 10) (.index 0)) (Cond.eq (.op1 .i2l (.elem (.static Cn "HEX_DIGITS" "[C") (.index 0))) (.op2 .ladd (.op1 .i2l (.index 0)) (.long 48))))).value args s none s [] = some true)
    (n4 : (Cond.all (.static Cn "HEX_DIGITS" "[C") (Cond.or (Cond.lt (.index 0) (.int 10)) (Cond.eq (.op1 .i2l (.elem (.static Cn "HEX_DIGITS" "[C") (.index 0))) (.op2 .ladd (.op1 .i2l (.index 0)) (.long 55))))).value args s none s [] = some true)
    (wz : (Cond.initialized Cn).before args s = true) (wl : (Cond.laysStatic Cn "HEX_DIGITS" "[C").before args s = true) :
    ∃ (ah : Addr) (kh : ClassId), Sta s s.heap Cn "HEX_DIGITS" "[C" (.ref ah) ∧ Arv s s.heap ah kh .char (16 : Int32) (own_hexL.map Value.int) (.int (0 : Int32)) := by
  obtain ⟨ah, e5⟩ := arr_v n1
  obtain ⟨a, cl, q1, q2, q3, q4⟩ := Jvm.Free.IntBox.arrayOf_fwd (Cond.before_iff.mpr n1) e5
  cases q1
  obtain ⟨z1, z2⟩ := Jvm.Free.IntBox.length_fwd (Cond.before_iff.mpr n2) e5 q2 q3 q4
  have z3 : cl.slots.size = 16 := by
    have r := congrArg Int32.toInt z2
    have e16 : (16 : Int32).toInt = 16 := by decide
    rw [e16] at r
    have t : cl.slots.size.toInt32.toInt = (cl.slots.size : Int) := len_toInt z1
    omega
  have hat := Jvm.Free.IntBox.arrayAt_of q2 q3 q4
  refine ⟨ah, cl.cls, Sta.start e5 (Or.inr ⟨wz, wl⟩), ?_⟩
  have key : ∀ j, j < 16 → cl.slots[j]? = some (.int (own_hexL.getD j 0)) := fun j hj => by
    have h3 := Cond.all_elim e5 hat n3 j (by omega)
    have h4 := Cond.all_elim e5 hat n4 j (by omega)
    have eT : (Term.static Cn "HEX_DIGITS" "[C").eval args s none [j] s = some (.ref ah) := e5
    have hidx : (Term.index 0).eval args s none [j] s = some (.int j.toInt32) := Term.index_eval _
    by_cases hlt : j < 10
    · have hle : (Cond.le (.int 10) (.index 0)).value args s none s [j] = some false := by
        simp only [Cond.value, hidx, Term.eval]
        exact congrArg some (decide_eq_false ((by decide +kernel : ∀ n : Fin 10, ¬ (10 : Int32) ≤ (Nat.toInt32 n.val)) ⟨j, hlt⟩))
      obtain ⟨v, hv, e⟩ := own_hexE (x := .null) hj eT hat (own_orr h3 hle)
      have e2 : v.toInt64 = (own_hexL.getD j 0).toInt64 := e.trans ((by decide +kernel : ∀ n : Fin 10, (Nat.toInt32 n.val).toInt64 + 48 = (own_hexL.getD n.val 0).toInt64) ⟨j, hlt⟩)
      have e3 := congrArg Int64.toInt e2
      simp only [Int32.toInt_toInt64] at e3
      rw [hv, Int32.toInt_inj.mp e3]
    · have hle : (Cond.lt (.index 0) (.int 10)).value args s none s [j] = some false := by
        simp only [Cond.value, hidx, Term.eval]
        exact congrArg some (decide_eq_false ((by decide +kernel : ∀ n : Fin 16, ¬ n.val < 10 → ¬ (Nat.toInt32 n.val) < (10 : Int32)) ⟨j, hj⟩ hlt))
      obtain ⟨v, hv, e⟩ := own_hexE (x := .null) hj eT hat (own_orr h4 hle)
      have e2 : v.toInt64 = (own_hexL.getD j 0).toInt64 := e.trans ((by decide +kernel : ∀ n : Fin 16, ¬ n.val < 10 → (Nat.toInt32 n.val).toInt64 + 55 = (own_hexL.getD n.val 0).toInt64) ⟨j, hj⟩ hlt)
      have e3 := congrArg Int64.toInt e2
      simp only [Int32.toInt_toInt64] at e3
      rw [hv, Int32.toInt_inj.mp e3]
  refine Arv.start hf ⟨q2, q3, q4⟩ z1 (by rw [z3]; rfl) (by decide) (by decide) ?_
  exact ⟨key 0 (by decide), key 1 (by decide), key 2 (by decide), key 3 (by decide), key 4 (by decide), key 5 (by decide), key 6 (by decide), key 7 (by decide), key 8 (by decide), key 9 (by decide), key 10 (by decide), key 11 (by decide), key 12 (by decide), key 13 (by decide), key 14 (by decide), key 15 (by decide), trivial⟩

theorem ef_0 (m : MethodId) (x0 : Int32) (x1 : Int32) : entryFrame m #[(.int x0), (.int x1)] 2 = mkF m 0 #[.val (.int x0), .val (.int x1)] [] := by first | (simp [entryFrame, mkF, argsToLocals, Value.category]; done) | rfl
theorem dj29_69_0 : decode cJ3 0 = .ok (.iload_n 0, 1) := by decide +kernel
theorem dj29_69_1 : decode cJ3 1 = .ok (.iload_n 1, 1) := by decide +kernel
theorem dj29_69_2 : decode cJ3 2 = .ok (.if_icmp .gt 7, 3) := by decide +kernel
theorem dj29_69_9 : decode cJ3 9 = .ok (.iload_n 1, 1) := by decide +kernel
theorem dj29_69_10 : decode cJ3 10 = .ok (.ireturn, 1) := by decide +kernel
theorem dj29_69_5 : decode cJ3 5 = .ok (.iload_n 0, 1) := by decide +kernel
theorem dj29_69_6 : decode cJ3 6 = .ok (.goto 4, 3) := by decide +kernel
def Q_mmin (Z : State) (p1 : Int32) (p2 : Int32) (h0 : Heap) (v : Option Value) (h : Heap) (L : List Loc) : Prop := v = some (.int (if p2 < p1 then p2 else p1)) ∧ Fr Z.heap.size L ∧ h = h0
set_option maxRecDepth 65536 in
set_option maxHeartbeats 40000000 in
theorem rm_mmin (l : Launch) (Z : State) (a0 : Array Value) (hw : ∀ d ∈ tables_1, d.before a0 Z = true) (ws : List Jvm.Cond) (p1 : Int32) (p2 : Int32) (h0 : Heap) (OL : Old Z Z.heap.size h0) :
    MetFree l mN15 (head1 (Jvm.Cond.code mN15 jdk_29_method_69_code 2 (some .int) :: ws) rM0) (fun a U => a = #[(.int p1), (.int p2)] ∧ Z.Warmed39 U.vm ∧ U.heap = h0) (fun _ _ _ _ _ => True) (fun _ U o U' => ∃ v L, o = .returned v ∧ Q_mmin Z p1 p2 h0 v U'.heap L ∧ FrameEnd U o U' L rM0.cells rM0.slots) := by
  refine MetFree.of_bodySF (by decide +kernel) hisR ?_
  intro p e s m args below meth c s₁ Bd hml0 hP hK
  obtain ⟨rfl, hZ, hh⟩ := hP
  have hx := Bd.exec
  have hby := Bd.bytes
  have hml : c.maxLocals = 2 := hml0
  have hown : s.vm.findClass "java/lang/Math" = some m.cls := findClass_of_methodNamed Bd.named
  have hnm := (name_of_methodNamed Bd.named Bd.method).1
  have X0 : Stand p l e rM0 s m #[(.int p1), (.int p2)] below meth c s₁ [] 0 0 := Stand.of_body Bd
  have e0 : s₁.heap = h0 := by rw [← hh, Bd.state]; rfl
  have N0 := Fr.nil Z.heap.size
  have Z0 : Z.heap.size ≤ h0.size := OL.2.1
  show oG p.tables e below (fun o tE => ∃ v L, o = .returned v ∧ Q_mmin Z p1 p2 h0 v tE.heap L ∧ FrameEnd s o tE L rM0.cells rM0.slots) (s₁.setTop (entryFrame m #[(.int p1), (.int p2)] 2))
  refine own_hd (fun PP hPP => ?_)
  refine oG.st (fun t k => castTop (ef_0 m p1 p2) k) ?_
  refine oG.st (fun _ k => XS.iloadN X0.here hx rfl (hb hby dj29_69_0) rfl (XS.iloadN X0.here hx rfl (hb hby dj29_69_1) rfl k)) ?_
  show oG _ _ _ _ (s₁.setTop (mkF m 2 #[.val (.int p1), .val (.int p2)] [(.int p2), (.int p1)]))
  by_cases hc101 : p2 < p1
  ·
    refine oG.st (fun _ k => XS.icmpYes X0.here hx rfl (pc0 := 2) (pc' := 9) rfl (hb hby dj29_69_2) rfl (tlt hc101).2.2.1 (by decide) (by decide) k) ?_
    refine oG.st (fun _ k => XS.iloadN X0.here hx rfl (hb hby dj29_69_9) rfl k) ?_
    show oG _ _ _ _ (s₁.setTop (mkF m 10 #[.val (.int p1), .val (.int p2)] [(.int p2)]))
    obtain ⟨fs102, hr102, hrun102, hend102, hW102, hsm102⟩ := X0.leave (v := some (.int p2)) (fun h => by rw [Bd.returns] at h; cases h)
    subst hPP
    refine ⟨_, _, own_retI X0 hx Bd.returns (hb hby dj29_69_10) hr102, hrun102, hend102, _, _, rfl, ?_, ⟨_, rfl⟩, hW102, hsm102.mono (by decide) (by decide)⟩
    · show Q_mmin Z _ _ h0 _ s₁.heap _
      rw [e0]
      exact ⟨(by rw [if_pos hc101]), N0, rfl⟩
  ·
    refine oG.st (fun _ k => XS.icmpNo X0.here hx rfl (hb hby dj29_69_2) rfl (flt hc101).2.2.1 k) ?_
    refine oG.st (fun _ k => XS.iloadN X0.here hx rfl (hb hby dj29_69_5) rfl (XS.goto X0.here hx rfl (pc0 := 6) (pc' := 10) rfl (hb hby dj29_69_6) (by decide) (by decide) k)) ?_
    show oG _ _ _ _ (s₁.setTop (mkF m 10 #[.val (.int p1), .val (.int p2)] [(.int p1)]))
    obtain ⟨fs103, hr103, hrun103, hend103, hW103, hsm103⟩ := X0.leave (v := some (.int p1)) (fun h => by rw [Bd.returns] at h; cases h)
    subst hPP
    refine ⟨_, _, own_retI X0 hx Bd.returns (hb hby dj29_69_10) hr103, hrun103, hend103, _, _, rfl, ?_, ⟨_, rfl⟩, hW103, hsm103.mono (by decide) (by decide)⟩
    · show Q_mmin Z _ _ h0 _ s₁.heap _
      rw [e0]
      exact ⟨(by rw [if_neg hc101]), N0, rfl⟩
theorem pn_8 : plainName "java/util/Arrays" = true := by first | (simp [plainName, overriddenIn]; done) | decide +kernel
theorem dj65_131_0 : decode jdk_65_method_131_code 0 = .ok (.iload_n 1, 1) := by decide +kernel
theorem dj65_131_1 : decode jdk_65_method_131_code 1 = .ok (.iload_n 0, 1) := by decide +kernel
theorem dj65_131_2 : decode jdk_65_method_131_code 2 = .ok (.if_icmp .ge 35, 3) := by decide +kernel
theorem dj65_131_37 : decode jdk_65_method_131_code 37 = .ok (.return_, 1) := by decide +kernel
def Q_cklen (Z : State) (p1 : Int32) (p2 : Int32) (h0 : Heap) (v : Option Value) (h : Heap) (L : List Loc) : Prop := v = none ∧ Fr Z.heap.size L ∧ h = h0
set_option maxRecDepth 65536 in
set_option maxHeartbeats 40000000 in
theorem rm_cklen (l : Launch) (Z : State) (a0 : Array Value) (hw : ∀ d ∈ tables_1, d.before a0 Z = true) (ws : List Jvm.Cond) (p1 : Int32) (p2 : Int32) (h0 : Heap) (OL : Old Z Z.heap.size h0) (h : ¬ p2 < p1) :
    MetFree l mN42 (head1 (Jvm.Cond.code mN42 jdk_65_method_131_code 2 none :: ws) rM0) (fun a U => a = #[(.int p1), (.int p2)] ∧ Z.Warmed39 U.vm ∧ U.heap = h0) (fun _ _ _ _ _ => True) (fun _ U o U' => ∃ v L, o = .returned v ∧ Q_cklen Z p1 p2 h0 v U'.heap L ∧ FrameEnd U o U' L rM0.cells rM0.slots) := by
  refine MetFree.of_bodySF (plainFor_of_name pn_8) hisR ?_
  intro p e s m args below meth c s₁ Bd hml0 hP hK
  obtain ⟨rfl, hZ, hh⟩ := hP
  have hx := Bd.exec
  have hby := Bd.bytes
  have hml : c.maxLocals = 2 := hml0
  have hown : s.vm.findClass "java/util/Arrays" = some m.cls := findClass_of_methodNamed Bd.named
  have hnm := (name_of_methodNamed Bd.named Bd.method).1
  have X0 : Stand p l e rM0 s m #[(.int p1), (.int p2)] below meth c s₁ [] 0 0 := Stand.of_body Bd
  have e0 : s₁.heap = h0 := by rw [← hh, Bd.state]; rfl
  have N0 := Fr.nil Z.heap.size
  have Z0 : Z.heap.size ≤ h0.size := OL.2.1
  show oG p.tables e below (fun o tE => ∃ v L, o = .returned v ∧ Q_cklen Z p1 p2 h0 v tE.heap L ∧ FrameEnd s o tE L rM0.cells rM0.slots) (s₁.setTop (entryFrame m #[(.int p1), (.int p2)] 2))
  refine own_hd (fun PP hPP => ?_)
  refine oG.st (fun t k => castTop (ef_0 m p1 p2) k) ?_
  refine oG.st (fun _ k => XS.iloadN X0.here hx rfl (hb hby dj65_131_0) rfl (XS.iloadN X0.here hx rfl (hb hby dj65_131_1) rfl k)) ?_
  show oG _ _ _ _ (s₁.setTop (mkF m 2 #[.val (.int p1), .val (.int p2)] [(.int p1), (.int p2)]))
  have hc104 : ¬ (p2 < p1) := h
  refine oG.st (fun _ k => XS.icmpYes X0.here hx rfl (pc0 := 2) (pc' := 37) rfl (hb hby dj65_131_2) rfl (flt hc104).2.1 (by decide) (by decide) k) ?_
  show oG _ _ _ _ (s₁.setTop (mkF m 37 #[.val (.int p1), .val (.int p2)] []))
  obtain ⟨fs105, hr105, hrun105, hend105, hW105, hsm105⟩ := X0.leave (v := none) (fun _ => rfl)
  subst hPP
  refine ⟨_, _, X0.returnOut hx Bd.returns (hb hby dj65_131_37) hr105, hrun105, hend105, _, _, rfl, ?_, ⟨_, rfl⟩, hW105, hsm105.mono (by decide) (by decide)⟩
  · show Q_cklen Z _ _ h0 _ s₁.heap _
    rw [e0]
    exact ⟨rfl, N0, rfl⟩

theorem own_usR (cs : List Int32) {i j : Nat} (hij : i ≤ j) (hj : j ≤ cs.length) (hn : cs.length < 100000) : own_low ((cs.drop i).take (j - i)) = (List.range (Int32.ofNat (j - i)).toNatClampNeg).map fun x => (own_low cs).getD ((Int32.ofNat i).toNatClampNeg + x) (.int (0 : Int32)) := by
  rw [own_ofn (by omega), own_ofn (by omega)]
  apply List.ext_getElem
  · simp [own_low]; omega
  · intro x h1 h2
    have hx : i + x < cs.length := by simp [own_low] at h1; omega
    simp [own_low, List.getD_eq_getElem?_getD, hx]
theorem own_takeV {Z : State} {h : Heap} {a : Addr} {k : ClassId} {n : Int32} {us : List Value} {m : Nat} (F : Arv Z h a k .byte n ((List.replicate m (Value.int (0 : Int32))).take (0 : Int32).toNatClampNeg ++ us ++ (List.replicate m (Value.int (0 : Int32))).drop ((0 : Int32).toNatClampNeg + (Int32.ofNat m).toNatClampNeg)) (.int (0 : Int32))) (hm : m < 100000) : Arv Z h a k .byte n us (.int (0 : Int32)) := by
  have e0 : (0 : Int32).toNatClampNeg = 0 := by decide
  rw [e0, own_ofn (by omega)] at F
  simpa using F
theorem own_min {i j : Nat} (hi : i < 100000) (hj : j ≤ i) : (if Int32.ofNat j < Int32.ofNat i then Int32.ofNat j else Int32.ofNat i) = Int32.ofNat j := by
  by_cases q : Int32.ofNat j < Int32.ofNat i
  · rw [if_pos q]
  · rw [if_neg q]
    rw [own_oflt (by omega) (by omega)] at q
    rw [show i = j by omega]

theorem ef_13 (m : MethodId) (x0 : Nat) (x1 : Int32) (x2 : Int32) : entryFrame m #[(.ref x0), (.int x1), (.int x2)] 5 = mkF m 0 #[.val (.ref x0), .val (.int x1), .val (.int x2), .unset, .unset] [] := by first | (simp [entryFrame, mkF, argsToLocals, Value.category]; done) | rfl
theorem dj65_133_0 : decode cJ23 0 = .ok (.iload_n 1, 1) := by decide +kernel
theorem dj65_133_1 : decode cJ23 1 = .ok (.iload_n 2, 1) := by decide +kernel
theorem pd_16 : parseMethodDescriptor "(II)V" = some ⟨[.int, .int], none⟩ := by decide +kernel
theorem dj65_133_2 : decode cJ23 2 = .ok (.invokestatic 343, 3) := by decide +kernel
theorem dj65_133_5 : decode cJ23 5 = .ok (.iload_n 2, 1) := by decide +kernel
theorem dj65_133_6 : decode cJ23 6 = .ok (.iload_n 1, 1) := by decide +kernel
theorem dj65_133_7 : decode cJ23 7 = .ok (.isub, 1) := by decide +kernel
theorem dj65_133_8 : decode cJ23 8 = .ok (.istore_n 3, 1) := by decide +kernel
theorem dj65_133_9 : decode cJ23 9 = .ok (.iload_n 3, 1) := by decide +kernel
theorem dj65_133_10 : decode cJ23 10 = .ok (.newarray .byte, 2) := by decide +kernel
theorem dj65_133_12 : decode cJ23 12 = .ok (.astore 4, 2) := by decide +kernel
theorem dj65_133_14 : decode cJ23 14 = .ok (.aload_n 0, 1) := by decide +kernel
theorem dj65_133_15 : decode cJ23 15 = .ok (.iload_n 1, 1) := by decide +kernel
theorem dj65_133_16 : decode cJ23 16 = .ok (.aload 4, 2) := by decide +kernel
theorem dj65_133_18 : decode cJ23 18 = .ok (.iconst 0, 1) := by decide +kernel
theorem dj65_133_19 : decode cJ23 19 = .ok (.aload_n 0, 1) := by decide +kernel
theorem dj65_133_20 : decode cJ23 20 = .ok (.arraylength, 1) := by decide +kernel
theorem dj65_133_21 : decode cJ23 21 = .ok (.iload_n 1, 1) := by decide +kernel
theorem dj65_133_22 : decode cJ23 22 = .ok (.isub, 1) := by decide +kernel
theorem dj65_133_23 : decode cJ23 23 = .ok (.iload_n 3, 1) := by decide +kernel
theorem pd_34 : parseMethodDescriptor "(II)I" = some ⟨[.int, .int], some .int⟩ := by decide +kernel
theorem dj65_133_24 : decode cJ23 24 = .ok (.invokestatic 304, 3) := by decide +kernel
theorem dj65_133_27 : decode cJ23 27 = .ok (.invokestatic 150, 3) := by decide +kernel
theorem dj65_133_30 : decode cJ23 30 = .ok (.aload 4, 2) := by decide +kernel
theorem dj65_133_32 : decode cJ23 32 = .ok (.areturn, 1) := by decide +kernel
def Q_corb (Z : State) (a1 : Nat) (p2 : Int32) (p3 : Int32) (i : Nat) (j : Nat) (cs : List Int32) (cap : Nat) (k : ClassId) (h0 : Heap) (v : Option Value) (h : Heap) (L : List Loc) : Prop := ∃ (x : Nat), ∃ (kx : ClassId), v = some (.ref x) ∧ Fr Z.heap.size L ∧ Keep h0 h [] ∧ Arv Z h x kx .byte (Int32.ofNat (j - i)) (own_low ((cs.drop i).take (j - i))) (.int (0 : Int32)) ∧ (h0.size ≤ x)
set_option maxRecDepth 65536 in
set_option maxHeartbeats 40000000 in
theorem rm_corb (l : Launch) (Z : State) (a0 : Array Value) (hw : ∀ d ∈ tables_1, d.before a0 Z = true) (ws : List Jvm.Cond) (a1 : Nat) (p2 : Int32) (p3 : Int32) (i : Nat) (j : Nat) (cs : List Int32) (cap : Nat) (k : ClassId) (h0 : Heap) (OL : Old Z Z.heap.size h0) (p0_ : Arv Z h0 a1 k .byte (Int32.ofNat cap) (own_low cs) (.int (0 : Int32))) (hp2 : p2 = Int32.ofNat i) (hp3 : p3 = Int32.ofNat j) (hij : i ≤ j) (hj : j ≤ cs.length) (hcs : cs.length ≤ cap) (hcap : cap ≤ 100) (hmx : j - i ≤ 18) :
    MetFree l mN45 (head1 (Jvm.Cond.code mN45 jdk_65_method_133_code 5 (some (.array .byte)) :: ws) rM6) (fun a U => a = #[(.ref a1), (.int p2), (.int p3)] ∧ Z.Warmed39 U.vm ∧ U.heap = h0) (fun _ _ _ _ _ => True) (fun _ U o U' => ∃ v L, o = .returned v ∧ Q_corb Z a1 p2 p3 i j cs cap k h0 v U'.heap L ∧ FrameEnd U o U' L rM6.cells rM6.slots) := by
  refine MetFree.of_bodySF (plainFor_of_name pn_8) hisR ?_
  intro p e s m args below meth c s₁ Bd hml0 hP hK
  obtain ⟨rfl, hZ, hh⟩ := hP
  have hx := Bd.exec
  have hby := Bd.bytes
  have hml : c.maxLocals = 5 := hml0
  have hown : s.vm.findClass "java/util/Arrays" = some m.cls := findClass_of_methodNamed Bd.named
  have hnm := (name_of_methodNamed Bd.named Bd.method).1
  have X0 : Stand p l e rM6 s m #[(.ref a1), (.int p2), (.int p3)] below meth c s₁ [] 0 0 := Stand.of_body Bd
  have e0 : s₁.heap = h0 := by rw [← hh, Bd.state]; rfl
  have N0 := Fr.nil Z.heap.size
  have Z0 : Z.heap.size ≤ h0.size := OL.2.1
  have lt_0 : @LT.lt Nat _ a1 h0.size := p0_.lt
  show oG p.tables e below (fun o tE => ∃ v L, o = .returned v ∧ Q_corb Z a1 p2 p3 i j cs cap k h0 v tE.heap L ∧ FrameEnd s o tE L rM6.cells rM6.slots) (s₁.setTop (entryFrame m #[(.ref a1), (.int p2), (.int p3)] 5))
  refine own_hd (fun PP hPP => ?_)
  refine oG.st (fun t k => castTop (ef_13 m a1 p2 p3) k) ?_
  subst hp2 hp3
  refine oG.st (fun _ k => XS.iloadN X0.here hx rfl (hb hby dj65_133_0) rfl (XS.iloadN X0.here hx rfl (hb hby dj65_133_1) rfl k)) ?_
  show oG _ _ _ _ (s₁.setTop (mkF m 2 #[.val (.ref a1), .val (.int (Int32.ofNat i)), .val (.int (Int32.ofNat j)), .unset, .unset] [(.int (Int32.ofNat j)), (.int (Int32.ofNat i))]))
  obtain ⟨_, _, ⟨T106, L106, k106, n106⟩, -, X106, ⟨Lc106, hQ106, l106, y106, z106⟩, st106⟩ := Jvm.LawKit.callS X0 hx (y := mN42) hown (own_v hZ hw 203 rfl) (own_v hZ hw 204 rfl) (own_v hZ hw 162 rfl) (own_v hZ hw 205 rfl) (by decide) (backOf (W := 0) (rm_cklen l Z a0 hw [] (Int32.ofNat i) (Int32.ofNat j) h0 OL (by rw [own_oflt (by omega) (by omega)]; omega)) hZ (own_w hw 205 rfl) (own_w hw 162 rfl) (by decide) (by decide)) (g := (mkF m 2 #[.val (.ref a1), .val (.int (Int32.ofNat i)), .val (.int (Int32.ofNat j)), .unset, .unset] [(.int (Int32.ofNat j)), (.int (Int32.ofNat i))])) rfl (by rw [hml]; rfl) (argsL := [(.int (Int32.ofNat i)), (.int (Int32.ofNat j))]) (rest := []) (lenOf pd_16 rfl) rfl (by show 2 * 0 + _ ≤ _; exact Nat.le_of_eq rfl) (hb hby dj65_133_2) (fun _ _ => ⟨rfl, e0, (by decide : 0 + 0 ≤ _), (by decide : 0 + 0 ≤ _)⟩)
  dsimp only [Pt.U, Pt.locs, Pt.cells, Pt.slots] at X106 l106 y106 z106 st106 hQ106
  subst l106 y106 z106
  obtain ⟨rfl, N106q, K106⟩ := hQ106
  have N106 := Fr.app N0 N106q
  refine oG.st st106 ?_
  refine oG.st (fun _ k => XS.iloadN X106.here hx rfl (hb hby dj65_133_5) rfl (XS.iloadN X106.here hx rfl (hb hby dj65_133_6) rfl (XS.isub X106.here hx rfl (hb hby dj65_133_7) rfl k))) ?_
  show oG _ _ _ _ (T106.setTop (mkF m 8 #[.val (.ref a1), .val (.int (Int32.ofNat i)), .val (.int (Int32.ofNat j)), .unset, .unset] [(.int ((Int32.ofNat j) - (Int32.ofNat i)))]))
  rw [own_ofB (by omega) hij]
  refine oG.st (fun _ k => XS.istoreN X106.here hx rfl (hb hby dj65_133_8) rfl (l' := #[.val (.ref a1), .val (.int (Int32.ofNat i)), .val (.int (Int32.ofNat j)), .val (.int (Int32.ofNat (j - i))), .unset]) rfl (XS.iloadN X106.here hx rfl (hb hby dj65_133_9) rfl k)) ?_
  show oG _ _ _ _ (T106.setTop (mkF m 10 #[.val (.ref a1), .val (.int (Int32.ofNat i)), .val (.int (Int32.ofNat j)), .val (.int (Int32.ofNat (j - i))), .unset] [(.int (Int32.ofNat (j - i)))]))
  obtain ⟨T107, h107, k107, X107, e107, E107, A107, st107⟩ := newP X106 hx hZ (own_w hw 16 rfl) K106 (g := (mkF m 10 #[.val (.ref a1), .val (.int (Int32.ofNat i)), .val (.int (Int32.ofNat j)), .val (.int (Int32.ofNat (j - i))), .unset] [(.int (Int32.ofNat (j - i)))])) rfl (hb hby dj65_133_10) rfl (own_of0 (by omega)) (cap := 18) (by rw [own_ofn (by omega)]; exact hmx) (by decide) (by decide) (by decide)
  obtain ⟨b107, g107⟩ : ∃ z, z = h0.size := ⟨_, rfl⟩
  rw [← g107] at A107 st107
  refine oG.st st107 ?_
  have z107 : h0.size ≤ h107.size := E107.1
  have f108 : Arv Z h107 b107 k107 .byte (Int32.ofNat (j - i)) [] (.int (0 : Int32)) := Arv.new A107 (own_of0 (by omega))
  have lt_b107 : @LT.lt Nat _ b107 h107.size := f108.lt
  refine oG.st (fun _ k => XS.astore X107.here hx rfl (hb hby dj65_133_12) rfl rfl (l' := #[.val (.ref a1), .val (.int (Int32.ofNat i)), .val (.int (Int32.ofNat j)), .val (.int (Int32.ofNat (j - i))), .val (.ref b107)]) rfl (XS.aloadN X107.here hx rfl (hb hby dj65_133_14) rfl rfl (XS.iloadN X107.here hx rfl (hb hby dj65_133_15) rfl (XS.aload X107.here hx rfl (hb hby dj65_133_16) rfl rfl (XS.iconst X107.here hx rfl (hb hby dj65_133_18) (XS.aloadN X107.here hx rfl (hb hby dj65_133_19) rfl rfl k)))))) ?_
  show oG _ _ _ _ (T107.setTop (mkF m 20 #[.val (.ref a1), .val (.int (Int32.ofNat i)), .val (.int (Int32.ofNat j)), .val (.int (Int32.ofNat (j - i))), .val (.ref b107)] [(.ref a1), (.int (0 : Int32)), (.ref b107), (.int (Int32.ofNat i)), (.ref a1)]))
  have f109 : Arv Z h107 a1 k .byte (Int32.ofNat cap) (own_low cs) (.int (0 : Int32)) := p0_.ext E107
  obtain ⟨c110, Ar110, q110, S110, Nn110, H110, G110⟩ := id f109
  refine oG.st (X107.arraylength hx (own_rwE e107 Ar110.1) (State.isArrayOf_alike hZ.alike Ar110.2.1) (g := (mkF m 20 #[.val (.ref a1), .val (.int (Int32.ofNat i)), .val (.int (Int32.ofNat j)), .val (.int (Int32.ofNat (j - i))), .val (.ref b107)] [(.ref a1), (.int (0 : Int32)), (.ref b107), (.int (Int32.ofNat i)), (.ref a1)])) rfl rfl (hb hby dj65_133_20)) ?_
  rw [len_of S110 Nn110]
  refine oG.st (fun _ k => XS.iloadN X107.here hx rfl (hb hby dj65_133_21) rfl (XS.isub X107.here hx rfl (hb hby dj65_133_22) rfl k)) ?_
  show oG _ _ _ _ (T107.setTop (mkF m 23 #[.val (.ref a1), .val (.int (Int32.ofNat i)), .val (.int (Int32.ofNat j)), .val (.int (Int32.ofNat (j - i))), .val (.ref b107)] [(.int ((Int32.ofNat cap) - (Int32.ofNat i))), (.int (0 : Int32)), (.ref b107), (.int (Int32.ofNat i)), (.ref a1)]))
  rw [own_ofB (by omega) (by omega)]
  refine oG.st (fun _ k => XS.iloadN X107.here hx rfl (hb hby dj65_133_23) rfl k) ?_
  show oG _ _ _ _ (T107.setTop (mkF m 24 #[.val (.ref a1), .val (.int (Int32.ofNat i)), .val (.int (Int32.ofNat j)), .val (.int (Int32.ofNat (j - i))), .val (.ref b107)] [(.int (Int32.ofNat (j - i))), (.int (Int32.ofNat (cap - i))), (.int (0 : Int32)), (.ref b107), (.int (Int32.ofNat i)), (.ref a1)]))
  have f112 : Old Z Z.heap.size h107 := OL.ext E107
  obtain ⟨_, _, ⟨T111, L111, k111, n111⟩, -, X111, ⟨Lc111, hQ111, l111, y111, z111⟩, st111⟩ := Jvm.LawKit.callS X107 hx (y := mN15) hown (own_v hZ hw 164 rfl) (own_v hZ hw 165 rfl) (own_v hZ hw 156 rfl) (own_v hZ hw 166 rfl) (by decide) (backOf (W := 4) (rm_mmin l Z a0 hw [] (Int32.ofNat (cap - i)) (Int32.ofNat (j - i)) h107 f112 ) hZ (own_w hw 166 rfl) (own_w hw 156 rfl) (by decide) (by decide)) (g := (mkF m 24 #[.val (.ref a1), .val (.int (Int32.ofNat i)), .val (.int (Int32.ofNat j)), .val (.int (Int32.ofNat (j - i))), .val (.ref b107)] [(.int (Int32.ofNat (j - i))), (.int (Int32.ofNat (cap - i))), (.int (0 : Int32)), (.ref b107), (.int (Int32.ofNat i)), (.ref a1)])) rfl (by rw [hml]; rfl) (argsL := [(.int (Int32.ofNat (cap - i))), (.int (Int32.ofNat (j - i)))]) (rest := [(.int (0 : Int32)), (.ref b107), (.int (Int32.ofNat i)), (.ref a1)]) (lenOf pd_34 rfl) rfl (by show 2 * 0 + _ ≤ _; exact Nat.le_of_eq rfl) (hb hby dj65_133_24) (fun _ _ => ⟨rfl, e107, (by decide : 1 + 0 ≤ _), (by decide : 18 + 0 ≤ _)⟩)
  dsimp only [Pt.U, Pt.locs, Pt.cells, Pt.slots] at X111 l111 y111 z111 st111 hQ111
  subst l111 y111 z111
  obtain ⟨rfl, N111q, K111⟩ := hQ111
  have N111 := Fr.app N106 N111q
  refine oG.st st111 ?_
  show oG _ _ _ _ (T111.setTop (mkF m 27 #[.val (.ref a1), .val (.int (Int32.ofNat i)), .val (.int (Int32.ofNat j)), .val (.int (Int32.ofNat (j - i))), .val (.ref b107)] [(.int (if (Int32.ofNat (j - i)) < (Int32.ofNat (cap - i)) then (Int32.ofNat (j - i)) else (Int32.ofNat (cap - i)))), (.int (0 : Int32)), (.ref b107), (.int (Int32.ofNat i)), (.ref a1)]))
  rw [own_min (by omega) (by omega)]
  show oG _ _ _ _ (T111.setTop (mkF m 27 #[.val (.ref a1), .val (.int (Int32.ofNat i)), .val (.int (Int32.ofNat j)), .val (.int (Int32.ofNat (j - i))), .val (.ref b107)] [(.int (Int32.ofNat (j - i))), (.int (0 : Int32)), (.ref b107), (.int (Int32.ofNat i)), (.ref a1)]))
  have f113 : Arv Z h107 b107 k107 .byte (Int32.ofNat (j - i)) (List.replicate (j - i) (Value.int (0 : Int32))) (.int (0 : Int32)) := f108.pad (pad_rep [] _ _)
  obtain ⟨T114, h114, L114, X114, e114, N114, K114, V114, st114⟩ := cpA (us := (own_low ((cs.drop i).take (j - i)))) X111 hx hZ hown (own_w hw 167 rfl) (own_w hw 170 rfl) (own_w hw 168 rfl) (own_w hw 169 rfl) K111 f109 f113 (Or.inl ⟨rfl, rfl⟩) (own_of0 (by omega)) (by decide) (own_of0 (by omega)) (by rw [own_ofn (by omega), own_ofn (by omega), own_ofn (by omega)]; omega) (by rw [own_ofn (by omega)]; have : (0 : Int32).toNatClampNeg = 0 := (by decide); omega) (own_usR cs hij hj (by omega)) (by rw [own_ofn (by omega)]; have : (0 : Int32).toNatClampNeg = 0 := (by decide); rw [List.length_replicate]; omega) N111 (by omega) (g := (mkF m 27 #[.val (.ref a1), .val (.int (Int32.ofNat i)), .val (.int (Int32.ofNat j)), .val (.int (Int32.ofNat (j - i))), .val (.ref b107)] [(.int (Int32.ofNat (j - i))), (.int (0 : Int32)), (.ref b107), (.int (Int32.ofNat i)), (.ref a1)])) rfl (by rw [hml]; rfl) rfl (hb hby dj65_133_27) (by decide) (W := 0) (by show 2 * 0 + _ ≤ _; exact Nat.le_of_eq rfl) (by decide)
  refine oG.st st114 ?_
  have z114 : h107.size ≤ h114.size := K114.1
  have f115 : Arv Z h114 b107 k107 .byte (Int32.ofNat (j - i)) (own_low ((cs.drop i).take (j - i))) (.int (0 : Int32)) := own_takeV V114 (by omega)
  refine oG.st (fun _ k => XS.aload X114.here hx rfl (hb hby dj65_133_30) rfl rfl k) ?_
  show oG _ _ _ _ (T114.setTop (mkF m 32 #[.val (.ref a1), .val (.int (Int32.ofNat i)), .val (.int (Int32.ofNat j)), .val (.int (Int32.ofNat (j - i))), .val (.ref b107)] [(.ref b107)]))
  obtain ⟨fs116, hr116, hrun116, hend116, hW116, hsm116⟩ := X114.leave (v := some (.ref b107)) (fun h => by rw [Bd.returns] at h; cases h)
  have K117 : Keep h0 h107 [] := (Keep.refl h0 []).ext E107
  have K118 : Keep h0 h114 [] := K117.trans K114 (allS (Or.inr (by omega)) all0)
  subst hPP
  refine ⟨_, _, own_retA X114 hx Bd.returns rfl rfl (hb hby dj65_133_32) hr116, hrun116, hend116, _, _, rfl, ?_, ⟨_, rfl⟩, hW116, hsm116.mono (by decide) (by decide)⟩
  · show Q_corb Z _ _ _ _ _ _ _ _ h0 _ T114.heap _
    rw [e114]
    exact ⟨b107, k107, rfl, N114, K118, f115, (by omega)⟩
theorem ef_39 (m : MethodId) (x0 : Nat) (x1 : Int32) (x2 : Int32) : entryFrame m #[(.ref x0), (.int x1), (.int x2)] 3 = mkF m 0 #[.val (.ref x0), .val (.int x1), .val (.int x2)] [] := by first | (simp [entryFrame, mkF, argsToLocals, Value.category]; done) | rfl
theorem dj65_132_0 : decode cJ22 0 = .ok (.iload_n 1, 1) := by decide +kernel
theorem dj65_132_1 : decode cJ22 1 = .ok (.ifCond .ne 9, 3) := by decide +kernel
theorem dj65_132_4 : decode cJ22 4 = .ok (.iload_n 2, 1) := by decide +kernel
theorem dj65_132_5 : decode cJ22 5 = .ok (.aload_n 0, 1) := by decide +kernel
theorem dj65_132_6 : decode cJ22 6 = .ok (.arraylength, 1) := by decide +kernel
theorem dj65_132_7 : decode cJ22 7 = .ok (.if_icmp .eq 10, 3) := by decide +kernel
theorem dj65_132_17 : decode cJ22 17 = .ok (.aload_n 0, 1) := by decide +kernel
theorem dj65_132_18 : decode cJ22 18 = .ok (.invokevirtual 310, 3) := by decide +kernel
theorem dj65_132_21 : decode cJ22 21 = .ok (.checkcast 311, 3) := by decide +kernel
theorem dj65_132_24 : decode cJ22 24 = .ok (.areturn, 1) := by decide +kernel
theorem dj65_132_10 : decode cJ22 10 = .ok (.aload_n 0, 1) := by decide +kernel
theorem dj65_132_11 : decode cJ22 11 = .ok (.iload_n 1, 1) := by decide +kernel
theorem dj65_132_12 : decode cJ22 12 = .ok (.iload_n 2, 1) := by decide +kernel
theorem pd_53 : parseMethodDescriptor "([BII)[B" = some ⟨[(.array .byte), .int, .int], some (.array .byte)⟩ := by decide +kernel
theorem dj65_132_13 : decode cJ22 13 = .ok (.invokestatic 339, 3) := by decide +kernel
theorem dj65_132_16 : decode cJ22 16 = .ok (.areturn, 1) := by decide +kernel
def Q_cor (Z : State) (a1 : Nat) (p2 : Int32) (p3 : Int32) (i : Nat) (j : Nat) (cs : List Int32) (cap : Nat) (k : ClassId) (h0 : Heap) (v : Option Value) (h : Heap) (L : List Loc) : Prop := ∃ (x : Nat), ∃ (kx : ClassId), v = some (.ref x) ∧ Fr Z.heap.size L ∧ Keep h0 h [] ∧ Arv Z h x kx .byte (Int32.ofNat (j - i)) (own_low ((cs.drop i).take (j - i))) (.int (0 : Int32)) ∧ (h0.size ≤ x)
set_option maxRecDepth 65536 in
set_option maxHeartbeats 40000000 in
theorem rm_cor (l : Launch) (Z : State) (a0 : Array Value) (hw : ∀ d ∈ tables_1, d.before a0 Z = true) (ws : List Jvm.Cond) (a1 : Nat) (p2 : Int32) (p3 : Int32) (i : Nat) (j : Nat) (cs : List Int32) (cap : Nat) (k : ClassId) (h0 : Heap) (OL : Old Z Z.heap.size h0) (p0_ : Arv Z h0 a1 k .byte (Int32.ofNat cap) (own_low cs) (.int (0 : Int32))) (hp2 : p2 = Int32.ofNat i) (hp3 : p3 = Int32.ofNat j) (hij : i ≤ j) (hj : j ≤ cs.length) (hcs : cs.length ≤ cap) (hcap : cap ≤ 100) (hmx : j - i ≤ 18) (hkb : Z.vm.findClass "[B" = some k) :
    MetFree l mN44 (head1 (Jvm.Cond.code mN44 jdk_65_method_132_code 3 (some (.array .byte)) :: ws) rM13) (fun a U => a = #[(.ref a1), (.int p2), (.int p3)] ∧ Z.Warmed39 U.vm ∧ U.heap = h0) (fun _ _ _ _ _ => True) (fun _ U o U' => ∃ v L, o = .returned v ∧ Q_cor Z a1 p2 p3 i j cs cap k h0 v U'.heap L ∧ FrameEnd U o U' L rM13.cells rM13.slots) := by
  refine MetFree.of_bodySF (plainFor_of_name pn_8) hisR ?_
  intro p e s m args below meth c s₁ Bd hml0 hP hK
  obtain ⟨rfl, hZ, hh⟩ := hP
  have hx := Bd.exec
  have hby := Bd.bytes
  have hml : c.maxLocals = 3 := hml0
  have hown : s.vm.findClass "java/util/Arrays" = some m.cls := findClass_of_methodNamed Bd.named
  have hnm := (name_of_methodNamed Bd.named Bd.method).1
  have X0 : Stand p l e rM13 s m #[(.ref a1), (.int p2), (.int p3)] below meth c s₁ [] 0 0 := Stand.of_body Bd
  have e0 : s₁.heap = h0 := by rw [← hh, Bd.state]; rfl
  have N0 := Fr.nil Z.heap.size
  have Z0 : Z.heap.size ≤ h0.size := OL.2.1
  have lt_0 : @LT.lt Nat _ a1 h0.size := p0_.lt
  show oG p.tables e below (fun o tE => ∃ v L, o = .returned v ∧ Q_cor Z a1 p2 p3 i j cs cap k h0 v tE.heap L ∧ FrameEnd s o tE L rM13.cells rM13.slots) (s₁.setTop (entryFrame m #[(.ref a1), (.int p2), (.int p3)] 3))
  refine own_hd (fun PP hPP => ?_)
  refine oG.st (fun t k => castTop (ef_39 m a1 p2 p3) k) ?_
  subst hp2 hp3
  refine oG.st (fun _ k => XS.iloadN X0.here hx rfl (hb hby dj65_132_0) rfl k) ?_
  show oG _ _ _ _ (s₁.setTop (mkF m 1 #[.val (.ref a1), .val (.int (Int32.ofNat i)), .val (.int (Int32.ofNat j))] [(.int (Int32.ofNat i))]))
  by_cases h1 : (Int32.ofNat i) = (0 : Int32)
  ·
    refine oG.st (fun _ k => XS.ifNo X0.here hx rfl (hb hby dj65_132_1) rfl ((if0 _ _).trans (teq h1).2) k) ?_
    refine oG.st (fun _ k => XS.iloadN X0.here hx rfl (hb hby dj65_132_4) rfl (XS.aloadN X0.here hx rfl (hb hby dj65_132_5) rfl rfl k)) ?_
    show oG _ _ _ _ (s₁.setTop (mkF m 6 #[.val (.ref a1), .val (.int (Int32.ofNat i)), .val (.int (Int32.ofNat j))] [(.ref a1), (.int (Int32.ofNat j))]))
    obtain ⟨c119, Ar119, q119, S119, Nn119, H119, G119⟩ := id p0_
    refine oG.st (X0.arraylength hx (own_rwE e0 Ar119.1) (State.isArrayOf_alike hZ.alike Ar119.2.1) (g := (mkF m 6 #[.val (.ref a1), .val (.int (Int32.ofNat i)), .val (.int (Int32.ofNat j))] [(.ref a1), (.int (Int32.ofNat j))])) rfl rfl (hb hby dj65_132_6)) ?_
    rw [len_of S119 Nn119]
    show oG _ _ _ _ (s₁.setTop (mkF m 7 #[.val (.ref a1), .val (.int (Int32.ofNat i)), .val (.int (Int32.ofNat j))] [(.int (Int32.ofNat cap)), (.int (Int32.ofNat j))]))
    by_cases h7 : (Int32.ofNat j) = (Int32.ofNat cap)
    ·
      refine oG.st (fun _ k => XS.icmpYes X0.here hx rfl (pc0 := 7) (pc' := 17) rfl (hb hby dj65_132_7) rfl (teq h7).1 (by decide) (by decide) k) ?_
      refine oG.st (fun _ k => XS.aloadN X0.here hx rfl (hb hby dj65_132_17) rfl rfl k) ?_
      show oG _ _ _ _ (s₁.setTop (mkF m 18 #[.val (.ref a1), .val (.int (Int32.ofNat i)), .val (.int (Int32.ofNat j))] [(.ref a1)]))
      obtain ⟨c120, Ar120, q120, S120, Nn120, H120, G120⟩ := id p0_
      obtain ⟨T120, h120, X120, e120, E120, A120, Ex120, st120⟩ := cloneA X0 hx hZ hown (own_w hw 217 rfl) (own_w hw 91 rfl) (own_w hw 95 rfl) (own_w hw 93 rfl) (own_w hw 94 rfl) (own_w hw 96 rfl) e0 Ar120 (own_exaB Ar120 q120 hkb) (own_fitC Ar120 H120 G120) (g := (mkF m 18 #[.val (.ref a1), .val (.int (Int32.ofNat i)), .val (.int (Int32.ofNat j))] [(.ref a1)])) rfl (by rw [hml]; rfl) rfl (hb hby dj65_132_18) (by decide) (W := 0) (by show 2 * 0 + _ ≤ _; exact Nat.le_of_eq rfl) (by decide) (cap := 18) (by rw [S120]; exact (by rw [own_ofn (by omega)]; have := (own_ofE (by omega) (by omega)).mp h7; have := (own_ofE (j := 0) (by omega) (by omega)).mp h1; omega)) (by decide) (by decide)
      obtain ⟨b120, g120⟩ : ∃ z, z = h0.size := ⟨_, rfl⟩
      rw [← g120] at A120 Ex120 st120
      refine oG.st st120 ?_
      have z120 : h0.size ≤ h120.size := E120.1
      have f121 : Arv Z h120 b120 k .byte (Int32.ofNat cap) (own_low cs) (.int (0 : Int32)) := ⟨_, A120, q120, S120, Nn120, H120, G120⟩
      have lt_b120 : @LT.lt Nat _ b120 h120.size := f121.lt
      show oG _ _ _ _ (T120.setTop (mkF m 21 #[.val (.ref a1), .val (.int (Int32.ofNat i)), .val (.int (Int32.ofNat j))] [(.ref b120)]))
      obtain ⟨T122, X122, e122, st122⟩ := castY X120 hx hZ hown (own_w hw 218 rfl) e120 (Ins.self Ex120) (g := (mkF m 21 #[.val (.ref a1), .val (.int (Int32.ofNat i)), .val (.int (Int32.ofNat j))] [(.ref b120)])) rfl rfl (hb hby dj65_132_21)
      refine oG.st st122 ?_
      show oG _ _ _ _ (T122.setTop (mkF m 24 #[.val (.ref a1), .val (.int (Int32.ofNat i)), .val (.int (Int32.ofNat j))] [(.ref b120)]))
      obtain ⟨fs123, hr123, hrun123, hend123, hW123, hsm123⟩ := X122.leave (v := some (.ref b120)) (fun h => by rw [Bd.returns] at h; cases h)
      have f124 : Arv Z h120 b120 k .byte (Int32.ofNat (j - i)) (own_low ((cs.drop i).take (j - i))) (.int (0 : Int32)) := by
        have q := f121
        have e1 := (own_ofE (by omega) (by omega)).mp h7
        have e2 : i = 0 := (own_ofE (j := 0) (by omega) (by omega)).mp h1
        rw [e2, Nat.sub_zero, List.drop_zero, List.take_of_length_le (by omega), e1]
        exact q
      have K125 : Keep h0 h120 [] := (Keep.refl h0 []).ext E120
      subst hPP
      refine ⟨_, _, own_retA X122 hx Bd.returns rfl rfl (hb hby dj65_132_24) hr123, hrun123, hend123, _, _, rfl, ?_, ⟨_, rfl⟩, hW123, hsm123.mono (by decide) (by decide)⟩
      · show Q_cor Z _ _ _ _ _ _ _ _ h0 _ T122.heap _
        rw [e122]
        exact ⟨b120, k, rfl, N0, K125, f124, (by omega)⟩
    ·
      refine oG.st (fun _ k => XS.icmpNo X0.here hx rfl (hb hby dj65_132_7) rfl (feq h7).1 k) ?_
      refine oG.st (fun _ k => XS.aloadN X0.here hx rfl (hb hby dj65_132_10) rfl rfl (XS.iloadN X0.here hx rfl (hb hby dj65_132_11) rfl (XS.iloadN X0.here hx rfl (hb hby dj65_132_12) rfl k))) ?_
      show oG _ _ _ _ (s₁.setTop (mkF m 13 #[.val (.ref a1), .val (.int (Int32.ofNat i)), .val (.int (Int32.ofNat j))] [(.int (Int32.ofNat j)), (.int (Int32.ofNat i)), (.ref a1)]))
      obtain ⟨_, _, ⟨T126, L126, k126, n126⟩, -, X126, ⟨Lc126, hQ126, l126, y126, z126⟩, st126⟩ := Jvm.LawKit.callS X0 hx (y := mN45) hown (own_v hZ hw 200 rfl) (own_v hZ hw 201 rfl) (own_v hZ hw 162 rfl) (own_v hZ hw 202 rfl) (by decide) (backOf (W := 0) (rm_corb l Z a0 hw [] a1 (Int32.ofNat i) (Int32.ofNat j) i j cs cap k h0 OL p0_ rfl rfl hij hj hcs hcap hmx) hZ (own_w hw 202 rfl) (own_w hw 162 rfl) (by decide) (by decide)) (g := (mkF m 13 #[.val (.ref a1), .val (.int (Int32.ofNat i)), .val (.int (Int32.ofNat j))] [(.int (Int32.ofNat j)), (.int (Int32.ofNat i)), (.ref a1)])) rfl (by rw [hml]; rfl) (argsL := [(.ref a1), (.int (Int32.ofNat i)), (.int (Int32.ofNat j))]) (rest := []) (lenOf pd_53 rfl) rfl (by show 2 * 0 + _ ≤ _; exact Nat.le_of_eq rfl) (hb hby dj65_132_13) (fun _ _ => ⟨rfl, e0, (by decide : 0 + 1 ≤ _), (by decide : 0 + 18 ≤ _)⟩)
      dsimp only [Pt.U, Pt.locs, Pt.cells, Pt.slots] at X126 l126 y126 z126 st126 hQ126
      subst l126 y126 z126
      obtain ⟨x_126, kx_126, rfl, N126q, K126, f126_0, pr126_0⟩ := hQ126
      have N126 := Fr.app N0 N126q
      have z126 : h0.size ≤ T126.heap.size := K126.1
      have lt126_0 : @LT.lt Nat _ x_126 T126.heap.size := f126_0.lt
      refine oG.st st126 ?_
      show oG _ _ _ _ (T126.setTop (mkF m 16 #[.val (.ref a1), .val (.int (Int32.ofNat i)), .val (.int (Int32.ofNat j))] [(.ref x_126)]))
      obtain ⟨fs127, hr127, hrun127, hend127, hW127, hsm127⟩ := X126.leave (v := some (.ref x_126)) (fun h => by rw [Bd.returns] at h; cases h)
      have K128 : Keep h0 T126.heap [] := (Keep.refl h0 []).trans K126 all0
      subst hPP
      refine ⟨_, _, own_retA X126 hx Bd.returns rfl rfl (hb hby dj65_132_16) hr127, hrun127, hend127, _, _, rfl, ?_, ⟨_, rfl⟩, hW127, hsm127.mono (by decide) (by decide)⟩
      · show Q_cor Z _ _ _ _ _ _ _ _ h0 _ T126.heap _
        exact ⟨x_126, kx_126, rfl, N126, K128, f126_0, (by omega)⟩
  ·
    refine oG.st (fun _ k => XS.ifYes X0.here hx rfl (pc0 := 1) (pc' := 10) rfl (hb hby dj65_132_1) rfl ((if0 _ _).trans (feq h1).2) (by decide) (by decide) k) ?_
    refine oG.st (fun _ k => XS.aloadN X0.here hx rfl (hb hby dj65_132_10) rfl rfl (XS.iloadN X0.here hx rfl (hb hby dj65_132_11) rfl (XS.iloadN X0.here hx rfl (hb hby dj65_132_12) rfl k))) ?_
    show oG _ _ _ _ (s₁.setTop (mkF m 13 #[.val (.ref a1), .val (.int (Int32.ofNat i)), .val (.int (Int32.ofNat j))] [(.int (Int32.ofNat j)), (.int (Int32.ofNat i)), (.ref a1)]))
    obtain ⟨_, _, ⟨T129, L129, k129, n129⟩, -, X129, ⟨Lc129, hQ129, l129, y129, z129⟩, st129⟩ := Jvm.LawKit.callS X0 hx (y := mN45) hown (own_v hZ hw 200 rfl) (own_v hZ hw 201 rfl) (own_v hZ hw 162 rfl) (own_v hZ hw 202 rfl) (by decide) (backOf (W := 0) (rm_corb l Z a0 hw [] a1 (Int32.ofNat i) (Int32.ofNat j) i j cs cap k h0 OL p0_ rfl rfl hij hj hcs hcap hmx) hZ (own_w hw 202 rfl) (own_w hw 162 rfl) (by decide) (by decide)) (g := (mkF m 13 #[.val (.ref a1), .val (.int (Int32.ofNat i)), .val (.int (Int32.ofNat j))] [(.int (Int32.ofNat j)), (.int (Int32.ofNat i)), (.ref a1)])) rfl (by rw [hml]; rfl) (argsL := [(.ref a1), (.int (Int32.ofNat i)), (.int (Int32.ofNat j))]) (rest := []) (lenOf pd_53 rfl) rfl (by show 2 * 0 + _ ≤ _; exact Nat.le_of_eq rfl) (hb hby dj65_132_13) (fun _ _ => ⟨rfl, e0, (by decide : 0 + 1 ≤ _), (by decide : 0 + 18 ≤ _)⟩)
    dsimp only [Pt.U, Pt.locs, Pt.cells, Pt.slots] at X129 l129 y129 z129 st129 hQ129
    subst l129 y129 z129
    obtain ⟨x_129, kx_129, rfl, N129q, K129, f129_0, pr129_0⟩ := hQ129
    have N129 := Fr.app N0 N129q
    have z129 : h0.size ≤ T129.heap.size := K129.1
    have lt129_0 : @LT.lt Nat _ x_129 T129.heap.size := f129_0.lt
    refine oG.st st129 ?_
    show oG _ _ _ _ (T129.setTop (mkF m 16 #[.val (.ref a1), .val (.int (Int32.ofNat i)), .val (.int (Int32.ofNat j))] [(.ref x_129)]))
    obtain ⟨fs130, hr130, hrun130, hend130, hW130, hsm130⟩ := X129.leave (v := some (.ref x_129)) (fun h => by rw [Bd.returns] at h; cases h)
    have K131 : Keep h0 T129.heap [] := (Keep.refl h0 []).trans K129 all0
    subst hPP
    refine ⟨_, _, own_retA X129 hx Bd.returns rfl rfl (hb hby dj65_132_16) hr130, hrun130, hend130, _, _, rfl, ?_, ⟨_, rfl⟩, hW130, hsm130.mono (by decide) (by decide)⟩
    · show Q_cor Z _ _ _ _ _ _ _ _ h0 _ T129.heap _
      exact ⟨x_129, kx_129, rfl, N129, K131, f129_0, (by omega)⟩

theorem own_maxG {a b : Nat} (ha : a ≤ b) (hb : b < 100000) : (if Int32.ofNat a < Int32.ofNat b then Int32.ofNat b else Int32.ofNat a) = Int32.ofNat b := by
  by_cases q : Int32.ofNat a < Int32.ofNat b
  · rw [if_pos q]
  · rw [if_neg q]
    rw [own_oflt (by omega) (by omega)] at q
    rw [show a = b by omega]
theorem own_usG {cs : List Int32} {n : Nat} (h : cs.length ≤ n) (hn : n < 100000) : own_low cs ++ List.replicate (n - cs.length) (Value.int (0 : Int32)) = (List.range (Int32.ofNat n).toNatClampNeg).map fun x => (own_low cs).getD ((0 : Int32).toNatClampNeg + x) (.int (0 : Int32)) := by
  have e0 : (0 : Int32).toNatClampNeg = 0 := by decide
  rw [e0, own_ofn (by omega)]
  apply List.ext_getElem
  · simp [own_low]; omega
  · intro x h1 h2
    have q := pad_rep (own_low cs) (.int (0 : Int32)) (n - cs.length) x
    simp only [List.getD_eq_getElem?_getD, List.getElem?_eq_getElem h1, Option.getD_some] at q
    rw [q]
    simp [List.getD_eq_getElem?_getD]
theorem own_copyG {Z : State} {h : Heap} {a : Addr} {k : ClassId} {n : Int32} {cs : List Int32} {c d : Nat} (hd : d < 100000) (F : Arv Z h a k .byte n ((List.replicate c (Value.int (0 : Int32))).take (0 : Int32).toNatClampNeg ++ (own_low cs ++ List.replicate (d - cs.length) (Value.int (0 : Int32))) ++ (List.replicate c (Value.int (0 : Int32))).drop ((0 : Int32).toNatClampNeg + (Int32.ofNat d).toNatClampNeg)) (.int (0 : Int32))) : Arv Z h a k .byte n (own_low cs) (.int (0 : Int32)) := by
  have e0 : (0 : Int32).toNatClampNeg = 0 := by decide
  refine F.pad (fun i => ?_)
  rw [e0, List.take_zero, List.nil_append, List.append_assoc, List.drop_replicate, List.replicate_append_replicate]
  exact (pad_rep (own_low cs) _ _ i).symm
theorem own_pushB {Z : State} {h h' : Heap} {a : Addr} {k : ClassId} {z : Int32} {cs : List Int32} {j v : Int32} (F : Arv Z h a k .byte z (own_low cs) (.int (0 : Int32))) (W : Wr h h' a j.toNatClampNeg (.int (nar .byte (v.toInt8.toInt32)))) (hj : j = Int32.ofNat cs.length) (hl : cs.length < 1000) : Arv Z h' a k .byte z (own_low (cs ++ [v])) (.int (0 : Int32)) := by
  have F2 := F.pad (vs' := own_low cs ++ List.replicate 1 (Value.int (0 : Int32))) (fun i => pad_rep _ _ 1 i)
  obtain ⟨c, A, q1, S, q3, H, G⟩ := F2
  have F3 := Arv.set A q1 S q3 H G (fits_nar_byte _) W cs.length (by rw [hj, own_ofn (by omega)]) (by simp [own_low])
  have e : v.toInt8.toInt32.toInt8.toInt32 = StrChars.lo8 v := by
    show (v.toInt8.toInt32).toInt8.toInt32 = v.toInt8.toInt32
    simp
  rw [e, List.set_append_right _ _ (by simp [own_low])] at F3
  simpa [own_low] using F3

theorem pn_56 : plainName "java/lang/AbstractStringBuilder" = true := by first | (simp [plainName, overriddenIn]; done) | decide +kernel
theorem ef_57 (m : MethodId) (x0 : Nat) (x1 : Int32) : entryFrame m #[(.ref x0), (.int x1)] 2 = mkF m 0 #[.val (.ref x0), .val (.int x1)] [] := by first | (simp [entryFrame, mkF, argsToLocals, Value.category]; done) | rfl
theorem dj68_2_0 : decode cJ26 0 = .ok (.aload_n 0, 1) := by decide +kernel
theorem dj68_2_1 : decode cJ26 1 = .ok (.invokespecial 3, 3) := by decide +kernel
theorem dj68_2_4 : decode cJ26 4 = .ok (.getstatic 18, 3) := by decide +kernel
theorem dj68_2_7 : decode cJ26 7 = .ok (.ifCond .eq 18, 3) := by decide +kernel
theorem dj68_2_10 : decode cJ26 10 = .ok (.aload_n 0, 1) := by decide +kernel
theorem dj68_2_11 : decode cJ26 11 = .ok (.iload_n 1, 1) := by decide +kernel
theorem dj68_2_12 : decode cJ26 12 = .ok (.newarray .byte, 2) := by decide +kernel
theorem dj68_2_14 : decode cJ26 14 = .ok (.putfield 15, 3) := by decide +kernel
theorem dj68_2_17 : decode cJ26 17 = .ok (.aload_n 0, 1) := by decide +kernel
theorem dj68_2_18 : decode cJ26 18 = .ok (.iconst 0, 1) := by decide +kernel
theorem dj68_2_19 : decode cJ26 19 = .ok (.putfield 22, 3) := by decide +kernel
theorem dj68_2_22 : decode cJ26 22 = .ok (.goto 16, 3) := by decide +kernel
theorem dj68_2_38 : decode cJ26 38 = .ok (.return_, 1) := by decide +kernel
def Q_asbinitI (Z : State) (a1 : Nat) (p2 : Int32) (c0 : Nat) (zc : Int32) (h0 : Heap) (v : Option Value) (h : Heap) (L : List Loc) : Prop := ∃ (a3 : Nat), ∃ (k : ClassId), v = none ∧ Fr Z.heap.size L ∧ Keep h0 h [a1] ∧ Exa Z h a1 "java/lang/StringBuilder" ∧ Fld Z h a1 "java/lang/AbstractStringBuilder" "value" "[B" (.ref a3) ∧ Fld Z h a1 "java/lang/AbstractStringBuilder" "coder" "B" (.int (0 : Int32)) ∧ Fld Z h a1 "java/lang/AbstractStringBuilder" "count" "I" (.int (0 : Int32)) ∧ Arv Z h a3 k .byte (Int32.ofNat c0) (own_low ([] : List Int32)) (.int (0 : Int32)) ∧ (h0.size ≤ a3) ∧ (Z.vm.findClass "[B" = some k)
set_option maxRecDepth 65536 in
set_option maxHeartbeats 40000000 in
theorem rm_asbinitI (l : Launch) (Z : State) (a0 : Array Value) (hw : ∀ d ∈ tables_1, d.before a0 Z = true) (ws : List Jvm.Cond) (a1 : Nat) (p2 : Int32) (c0 : Nat) (zc : Int32) (h0 : Heap) (OL : Old Z Z.heap.size h0) (p0_ : Exa Z h0 a1 "java/lang/StringBuilder") (p1_ : Fld Z h0 a1 "java/lang/AbstractStringBuilder" "value" "[B" .null) (p2_ : Fld Z h0 a1 "java/lang/AbstractStringBuilder" "coder" "B" (.int (0 : Int32))) (p3_ : Fld Z h0 a1 "java/lang/AbstractStringBuilder" "count" "I" (.int (0 : Int32))) (st_C : Sta Z Z.heap "java/lang/String" "COMPACT_STRINGS" "Z" (.int zc)) (hzc : ¬ zc = 0) (hp2 : p2 = Int32.ofNat c0) (hc0 : c0 ≤ 3) (hn0 : Z.heap.size ≤ a1) :
    MetFree l mN6 (head1 (Jvm.Cond.code mN6 jdk_68_method_2_code 2 none :: ws) rM10) (fun a U => a = #[(.ref a1), (.int p2)] ∧ Z.Warmed39 U.vm ∧ U.heap = h0) (fun _ _ _ _ _ => True) (fun _ U o U' => ∃ v L, o = .returned v ∧ Q_asbinitI Z a1 p2 c0 zc h0 v U'.heap L ∧ FrameEnd U o U' L rM10.cells rM10.slots) := by
  refine MetFree.of_bodySF (plainFor_of_name pn_56) hisR ?_
  intro p e s m args below meth c s₁ Bd hml0 hP hK
  obtain ⟨rfl, hZ, hh⟩ := hP
  have hx := Bd.exec
  have hby := Bd.bytes
  have hml : c.maxLocals = 2 := hml0
  have hown : s.vm.findClass "java/lang/AbstractStringBuilder" = some m.cls := findClass_of_methodNamed Bd.named
  have hnm := (name_of_methodNamed Bd.named Bd.method).1
  have X0 : Stand p l e rM10 s m #[(.ref a1), (.int p2)] below meth c s₁ [] 0 0 := Stand.of_body Bd
  have e0 : s₁.heap = h0 := by rw [← hh, Bd.state]; rfl
  have N0 := Fr.nil Z.heap.size
  have Z0 : Z.heap.size ≤ h0.size := OL.2.1
  have lt_0 : @LT.lt Nat _ a1 h0.size := p0_.lt
  have lt_1 : @LT.lt Nat _ a1 h0.size := p1_.lt
  have lt_2 : @LT.lt Nat _ a1 h0.size := p2_.lt
  have lt_3 : @LT.lt Nat _ a1 h0.size := p3_.lt
  show oG p.tables e below (fun o tE => ∃ v L, o = .returned v ∧ Q_asbinitI Z a1 p2 c0 zc h0 v tE.heap L ∧ FrameEnd s o tE L rM10.cells rM10.slots) (s₁.setTop (entryFrame m #[(.ref a1), (.int p2)] 2))
  refine own_hd (fun PP hPP => ?_)
  refine oG.st (fun t k => castTop (ef_57 m a1 p2) k) ?_
  subst hp2
  refine oG.st (fun _ k => XS.aloadN X0.here hx rfl (hb hby dj68_2_0) rfl rfl k) ?_
  show oG _ _ _ _ (s₁.setTop (mkF m 1 #[.val (.ref a1), .val (.int (Int32.ofNat c0))] [(.ref a1)]))
  obtain ⟨T132, X132, e132, st132⟩ := initO X0 hx hZ hown (own_w hw 111 rfl) (own_w hw 22 rfl) (own_w hw 23 rfl) e0 (g := (mkF m 1 #[.val (.ref a1), .val (.int (Int32.ofNat c0))] [(.ref a1)])) rfl (by rw [hml]; rfl) rfl (hb hby dj68_2_1) (by decide) (W := 0) (by show 2 * 0 + _ ≤ _; exact Nat.le_of_eq rfl) (by decide)
  refine oG.st st132 ?_
  show oG _ _ _ _ (T132.setTop (mkF m 4 #[.val (.ref a1), .val (.int (Int32.ofNat c0))] []))
  obtain ⟨T133, X133, e133, st133⟩ := getS2 X132 hx hZ hown (host := "") (Or.inl (own_w hw 112 rfl)) Via.refl e132 (st_C.ext OL.2) (g := (mkF m 4 #[.val (.ref a1), .val (.int (Int32.ofNat c0))] [])) rfl (hb hby dj68_2_4)
  refine oG.st st133 ?_
  show oG _ _ _ _ (T133.setTop (mkF m 7 #[.val (.ref a1), .val (.int (Int32.ofNat c0))] [(.int zc)]))
  have hc134 : ¬ (zc = (0 : Int32)) := hzc
  refine oG.st (fun _ k => XS.ifNo X133.here hx rfl (hb hby dj68_2_7) rfl ((if0 _ _).trans (feq hc134).1) k) ?_
  refine oG.st (fun _ k => XS.aloadN X133.here hx rfl (hb hby dj68_2_10) rfl rfl (XS.iloadN X133.here hx rfl (hb hby dj68_2_11) rfl k)) ?_
  show oG _ _ _ _ (T133.setTop (mkF m 12 #[.val (.ref a1), .val (.int (Int32.ofNat c0))] [(.int (Int32.ofNat c0)), (.ref a1)]))
  obtain ⟨T135, h135, k135, X135, e135, E135, A135, kn135, st135⟩ := own_newB X133 hx hZ (own_w hw 16 rfl) e133 (g := (mkF m 12 #[.val (.ref a1), .val (.int (Int32.ofNat c0))] [(.int (Int32.ofNat c0)), (.ref a1)])) rfl (hb hby dj68_2_12) rfl (own_of0 (by omega)) (cap := 3) (by rw [own_ofn (by omega)]; exact hc0) (by decide) (by decide) (by decide)
  obtain ⟨b135, g135⟩ : ∃ z, z = h0.size := ⟨_, rfl⟩
  rw [← g135] at A135 st135
  refine oG.st st135 ?_
  have z135 : h0.size ≤ h135.size := E135.1
  have f136 : Arv Z h135 b135 k135 .byte (Int32.ofNat c0) [] (.int (0 : Int32)) := Arv.new A135 (own_of0 (by omega))
  have lt_b135 : @LT.lt Nat _ b135 h135.size := f136.lt
  show oG _ _ _ _ (T135.setTop (mkF m 14 #[.val (.ref a1), .val (.int (Int32.ofNat c0))] [(.ref b135), (.ref a1)]))
  have f137 : Fld Z h135 a1 "java/lang/AbstractStringBuilder" "value" "[B" .null := p1_.ext E135
  have f138 : Exa Z h135 a1 "java/lang/StringBuilder" := p0_.ext E135
  obtain ⟨T139, h139, X139, e139, W139, st139⟩ := putF X135 hx hZ hown (host := "") (Or.inl (own_w hw 113 rfl)) Via.refl e135 f137 f138 (Or.inl (own_w hw 114 rfl)) (own_w hw 100 rfl) (ty := (.array .byte)) (by decide) rfl rfl (g := (mkF m 14 #[.val (.ref a1), .val (.int (Int32.ofNat c0))] [(.ref b135), (.ref a1)])) rfl rfl (hb hby dj68_2_14)
  refine oG.st st139 ?_
  have N139 := Fr.snoc X139 N0 (by omega)
  have z139 : h135.size ≤ h139.size := Nat.le_of_eq W139.size.symm
  have f140 : Fld Z h139 a1 "java/lang/AbstractStringBuilder" "value" "[B" (.ref b135) := f137.same W139
  refine oG.st (fun _ k => XS.aloadN X139.here hx rfl (hb hby dj68_2_17) rfl rfl (XS.iconst X139.here hx rfl (hb hby dj68_2_18) k)) ?_
  show oG _ _ _ _ (T139.setTop (mkF m 19 #[.val (.ref a1), .val (.int (Int32.ofNat c0))] [(.int (0 : Int32)), (.ref a1)]))
  have f141 : Fld Z h135 a1 "java/lang/AbstractStringBuilder" "coder" "B" (.int (0 : Int32)) := p2_.ext E135
  have f142 : Fld Z h139 a1 "java/lang/AbstractStringBuilder" "coder" "B" (.int (0 : Int32)) := f141.other W139 (Or.inr (slot_ne (Or.inl (own_w hw 116 rfl)) (Or.inl (own_w hw 114 rfl)) (by decide) (t := .byte) (t' := (.array .byte)) (by decide) (by decide)))
  have f143 : Exa Z h139 a1 "java/lang/StringBuilder" := f138.wr W139
  obtain ⟨T144, h144, X144, e144, W144, st144⟩ := putF X139 hx hZ hown (host := "") (Or.inl (own_w hw 115 rfl)) Via.refl e139 f142 f143 (Or.inl (own_w hw 116 rfl)) (own_w hw 100 rfl) (ty := .byte) (by decide) rfl (by decide) (g := (mkF m 19 #[.val (.ref a1), .val (.int (Int32.ofNat c0))] [(.int (0 : Int32)), (.ref a1)])) rfl rfl (hb hby dj68_2_19)
  refine oG.st st144 ?_
  have N144 := Fr.snoc X144 N139 (by omega)
  have z144 : h139.size ≤ h144.size := Nat.le_of_eq W144.size.symm
  have f145 : Fld Z h144 a1 "java/lang/AbstractStringBuilder" "coder" "B" (.int (0 : Int32)) := f142.same W144
  refine oG.st (fun _ k => XS.goto X144.here hx rfl (pc0 := 22) (pc' := 38) rfl (hb hby dj68_2_22) (by decide) (by decide) k) ?_
  show oG _ _ _ _ (T144.setTop (mkF m 38 #[.val (.ref a1), .val (.int (Int32.ofNat c0))] []))
  obtain ⟨fs146, hr146, hrun146, hend146, hW146, hsm146⟩ := X144.leave (v := none) (fun _ => rfl)
  have f147 : Fld Z h144 a1 "java/lang/AbstractStringBuilder" "value" "[B" (.ref b135) := f140.other W144 (Or.inr (slot_ne (Or.inl (own_w hw 114 rfl)) (Or.inl (own_w hw 116 rfl)) (by decide) (t := (.array .byte)) (t' := .byte) (by decide) (by decide)))
  have f148 : Fld Z h135 a1 "java/lang/AbstractStringBuilder" "count" "I" (.int (0 : Int32)) := p3_.ext E135
  have f149 : Fld Z h139 a1 "java/lang/AbstractStringBuilder" "count" "I" (.int (0 : Int32)) := f148.other W139 (Or.inr (slot_ne (Or.inl (own_w hw 131 rfl)) (Or.inl (own_w hw 114 rfl)) (by decide) (t := .int) (t' := (.array .byte)) (by decide) (by decide)))
  have f150 : Fld Z h144 a1 "java/lang/AbstractStringBuilder" "count" "I" (.int (0 : Int32)) := f149.other W144 (Or.inr (slot_ne (Or.inl (own_w hw 131 rfl)) (Or.inl (own_w hw 116 rfl)) (by decide) (t := .int) (t' := .byte) (by decide) (by decide)))
  have ne151 : @Ne Nat a1 b135 := Exa.neArv f138 f136 (own_w hw 100 rfl)
  have f152 : Arv Z h139 b135 k135 .byte (Int32.ofNat c0) [] (.int (0 : Int32)) := f136.other W139 (Ne.symm ne151)
  have f153 : Arv Z h144 b135 k135 .byte (Int32.ofNat c0) [] (.int (0 : Int32)) := f152.other W144 (Ne.symm ne151)
  have K154 : Keep h0 h135 [a1] := (Keep.refl h0 [a1]).ext E135
  have K155 : Keep h0 h139 [a1] := K154.wr W139 (Or.inl (List.mem_of_getElem? (i := 0) rfl))
  have K156 : Keep h0 h144 [a1] := K155.wr W144 (Or.inl (List.mem_of_getElem? (i := 0) rfl))
  have f157 : Exa Z h144 a1 "java/lang/StringBuilder" := f143.wr W144
  subst hPP
  refine ⟨_, _, X144.returnOut hx Bd.returns (hb hby dj68_2_38) hr146, hrun146, hend146, _, _, rfl, ?_, ⟨_, rfl⟩, hW146, hsm146.mono (by decide) (by decide)⟩
  · show Q_asbinitI Z _ _ _ _ h0 _ T144.heap _
    rw [e144]
    exact ⟨b135, k135, rfl, N144, K156, f157, f147, f145, f150, f153, (by omega), kn135⟩
theorem pn_71 : plainName "java/lang/StringBuilder" = true := by first | (simp [plainName, overriddenIn]; done) | decide +kernel
theorem dj67_2_0 : decode jdk_67_method_2_code 0 = .ok (.aload_n 0, 1) := by decide +kernel
theorem dj67_2_1 : decode jdk_67_method_2_code 1 = .ok (.iload_n 1, 1) := by decide +kernel
theorem pd_74 : parseMethodDescriptor "(I)V" = some ⟨[.int], none⟩ := by decide +kernel
theorem dj67_2_2 : decode jdk_67_method_2_code 2 = .ok (.invokespecial 1, 3) := by decide +kernel
theorem dj67_2_5 : decode jdk_67_method_2_code 5 = .ok (.return_, 1) := by decide +kernel
def Q_sbinitI (Z : State) (a1 : Nat) (p2 : Int32) (c0 : Nat) (zc : Int32) (h0 : Heap) (v : Option Value) (h : Heap) (L : List Loc) : Prop := ∃ (a3 : Nat), ∃ (k : ClassId), v = none ∧ Fr Z.heap.size L ∧ Keep h0 h [a1] ∧ Exa Z h a1 "java/lang/StringBuilder" ∧ Fld Z h a1 "java/lang/AbstractStringBuilder" "value" "[B" (.ref a3) ∧ Fld Z h a1 "java/lang/AbstractStringBuilder" "coder" "B" (.int (0 : Int32)) ∧ Fld Z h a1 "java/lang/AbstractStringBuilder" "count" "I" (.int (0 : Int32)) ∧ Arv Z h a3 k .byte (Int32.ofNat c0) (own_low ([] : List Int32)) (.int (0 : Int32)) ∧ (h0.size ≤ a3) ∧ (Z.vm.findClass "[B" = some k)
set_option maxRecDepth 65536 in
set_option maxHeartbeats 40000000 in
theorem rm_sbinitI (l : Launch) (Z : State) (a0 : Array Value) (hw : ∀ d ∈ tables_1, d.before a0 Z = true) (ws : List Jvm.Cond) (a1 : Nat) (p2 : Int32) (c0 : Nat) (zc : Int32) (h0 : Heap) (OL : Old Z Z.heap.size h0) (p0_ : Exa Z h0 a1 "java/lang/StringBuilder") (p1_ : Fld Z h0 a1 "java/lang/AbstractStringBuilder" "value" "[B" .null) (p2_ : Fld Z h0 a1 "java/lang/AbstractStringBuilder" "coder" "B" (.int (0 : Int32))) (p3_ : Fld Z h0 a1 "java/lang/AbstractStringBuilder" "count" "I" (.int (0 : Int32))) (st_C : Sta Z Z.heap "java/lang/String" "COMPACT_STRINGS" "Z" (.int zc)) (hzc : ¬ zc = 0) (hp2 : p2 = Int32.ofNat c0) (hc0 : c0 ≤ 3) (hn0 : Z.heap.size ≤ a1) :
    MetFree l mN29 (head1 (Jvm.Cond.code mN29 jdk_67_method_2_code 2 none :: ws) rM14) (fun a U => a = #[(.ref a1), (.int p2)] ∧ Z.Warmed39 U.vm ∧ U.heap = h0) (fun _ _ _ _ _ => True) (fun _ U o U' => ∃ v L, o = .returned v ∧ Q_sbinitI Z a1 p2 c0 zc h0 v U'.heap L ∧ FrameEnd U o U' L rM14.cells rM14.slots) := by
  refine MetFree.of_bodySF (plainFor_of_name pn_71) hisR ?_
  intro p e s m args below meth c s₁ Bd hml0 hP hK
  obtain ⟨rfl, hZ, hh⟩ := hP
  have hx := Bd.exec
  have hby := Bd.bytes
  have hml : c.maxLocals = 2 := hml0
  have hown : s.vm.findClass "java/lang/StringBuilder" = some m.cls := findClass_of_methodNamed Bd.named
  have hnm := (name_of_methodNamed Bd.named Bd.method).1
  have X0 : Stand p l e rM14 s m #[(.ref a1), (.int p2)] below meth c s₁ [] 0 0 := Stand.of_body Bd
  have e0 : s₁.heap = h0 := by rw [← hh, Bd.state]; rfl
  have N0 := Fr.nil Z.heap.size
  have Z0 : Z.heap.size ≤ h0.size := OL.2.1
  have lt_0 : @LT.lt Nat _ a1 h0.size := p0_.lt
  have lt_1 : @LT.lt Nat _ a1 h0.size := p1_.lt
  have lt_2 : @LT.lt Nat _ a1 h0.size := p2_.lt
  have lt_3 : @LT.lt Nat _ a1 h0.size := p3_.lt
  show oG p.tables e below (fun o tE => ∃ v L, o = .returned v ∧ Q_sbinitI Z a1 p2 c0 zc h0 v tE.heap L ∧ FrameEnd s o tE L rM14.cells rM14.slots) (s₁.setTop (entryFrame m #[(.ref a1), (.int p2)] 2))
  refine own_hd (fun PP hPP => ?_)
  refine oG.st (fun t k => castTop (ef_57 m a1 p2) k) ?_
  subst hp2
  refine oG.st (fun _ k => XS.aloadN X0.here hx rfl (hb hby dj67_2_0) rfl rfl (XS.iloadN X0.here hx rfl (hb hby dj67_2_1) rfl k)) ?_
  show oG _ _ _ _ (s₁.setTop (mkF m 2 #[.val (.ref a1), .val (.int (Int32.ofNat c0))] [(.int (Int32.ofNat c0)), (.ref a1)]))
  obtain ⟨_, _, ⟨T158, L158, k158, n158⟩, -, X158, ⟨Lc158, hQ158, l158, y158, z158⟩, st158⟩ := X0.specialBack hx (y := mN6) rfl hown (own_v hZ hw 105 rfl) (own_v hZ hw 106 rfl) (own_v hZ hw 110 rfl) (by decide) (backOf (W := 0) (rm_asbinitI l Z a0 hw [] a1 (Int32.ofNat c0) c0 zc h0 OL p0_ p1_ p2_ p3_ st_C hzc rfl hc0 hn0) hZ (own_w hw 110 rfl) (own_w hw 109 rfl) (by decide) (by decide)) (g := (mkF m 2 #[.val (.ref a1), .val (.int (Int32.ofNat c0))] [(.int (Int32.ofNat c0)), (.ref a1)])) rfl (by rw [hml]; rfl) (Steps.refl _) (a := a1) (argsL := [(.int (Int32.ofNat c0))]) (rest := []) (lenOf pd_74 rfl) rfl (by show 2 * 0 + _ ≤ _; exact Nat.le_of_eq rfl) (hb hby dj67_2_2) (fun _ _ => ⟨rfl, e0, (by decide : 0 + 1 ≤ _), (by decide : 0 + 3 ≤ _)⟩)
  dsimp only [Pt.U, Pt.locs, Pt.cells, Pt.slots] at X158 l158 y158 z158 st158 hQ158
  subst l158 y158 z158
  obtain ⟨a3_158, k_158, rfl, N158q, K158, f158_0, f158_1, f158_2, f158_3, f158_4, pr158_0, pr158_1⟩ := hQ158
  have N158 := Fr.app N0 N158q
  have z158 : h0.size ≤ T158.heap.size := K158.1
  have lt158_0 : @LT.lt Nat _ a1 T158.heap.size := f158_0.lt
  have lt158_1 : @LT.lt Nat _ a1 T158.heap.size := f158_1.lt
  have lt158_2 : @LT.lt Nat _ a1 T158.heap.size := f158_2.lt
  have lt158_3 : @LT.lt Nat _ a1 T158.heap.size := f158_3.lt
  have lt158_4 : @LT.lt Nat _ a3_158 T158.heap.size := f158_4.lt
  refine oG.tr st158 ?_
  show oG _ _ _ _ (T158.setTop (mkF m 5 #[.val (.ref a1), .val (.int (Int32.ofNat c0))] []))
  obtain ⟨fs159, hr159, hrun159, hend159, hW159, hsm159⟩ := X158.leave (v := none) (fun _ => rfl)
  have K160 : Keep h0 T158.heap [a1] := (Keep.refl h0 [a1]).trans K158 (allS (Or.inl (List.mem_of_getElem? (i := 0) rfl)) all0)
  subst hPP
  refine ⟨_, _, X158.returnOut hx Bd.returns (hb hby dj67_2_5) hr159, hrun159, hend159, _, _, rfl, ?_, ⟨_, rfl⟩, hW159, hsm159.mono (by decide) (by decide)⟩
  · show Q_sbinitI Z _ _ _ _ h0 _ T158.heap _
    exact ⟨a3_158, k_158, rfl, N158, K160, f158_0, f158_1, f158_2, f158_3, f158_4, (by omega), pr158_1⟩
theorem dj29_65_0 : decode cJ2 0 = .ok (.iload_n 0, 1) := by decide +kernel
theorem dj29_65_1 : decode cJ2 1 = .ok (.iload_n 1, 1) := by decide +kernel
theorem dj29_65_2 : decode cJ2 2 = .ok (.if_icmp .lt 7, 3) := by decide +kernel
theorem dj29_65_9 : decode cJ2 9 = .ok (.iload_n 1, 1) := by decide +kernel
theorem dj29_65_10 : decode cJ2 10 = .ok (.ireturn, 1) := by decide +kernel
theorem dj29_65_5 : decode cJ2 5 = .ok (.iload_n 0, 1) := by decide +kernel
theorem dj29_65_6 : decode cJ2 6 = .ok (.goto 4, 3) := by decide +kernel
def Q_mmax (Z : State) (p1 : Int32) (p2 : Int32) (h0 : Heap) (v : Option Value) (h : Heap) (L : List Loc) : Prop := v = some (.int (if p1 < p2 then p2 else p1)) ∧ Fr Z.heap.size L ∧ h = h0
set_option maxRecDepth 65536 in
set_option maxHeartbeats 40000000 in
theorem rm_mmax (l : Launch) (Z : State) (a0 : Array Value) (hw : ∀ d ∈ tables_1, d.before a0 Z = true) (ws : List Jvm.Cond) (p1 : Int32) (p2 : Int32) (h0 : Heap) (OL : Old Z Z.heap.size h0) :
    MetFree l mN14 (head1 (Jvm.Cond.code mN14 jdk_29_method_65_code 2 (some .int) :: ws) rM0) (fun a U => a = #[(.int p1), (.int p2)] ∧ Z.Warmed39 U.vm ∧ U.heap = h0) (fun _ _ _ _ _ => True) (fun _ U o U' => ∃ v L, o = .returned v ∧ Q_mmax Z p1 p2 h0 v U'.heap L ∧ FrameEnd U o U' L rM0.cells rM0.slots) := by
  refine MetFree.of_bodySF (by decide +kernel) hisR ?_
  intro p e s m args below meth c s₁ Bd hml0 hP hK
  obtain ⟨rfl, hZ, hh⟩ := hP
  have hx := Bd.exec
  have hby := Bd.bytes
  have hml : c.maxLocals = 2 := hml0
  have hown : s.vm.findClass "java/lang/Math" = some m.cls := findClass_of_methodNamed Bd.named
  have hnm := (name_of_methodNamed Bd.named Bd.method).1
  have X0 : Stand p l e rM0 s m #[(.int p1), (.int p2)] below meth c s₁ [] 0 0 := Stand.of_body Bd
  have e0 : s₁.heap = h0 := by rw [← hh, Bd.state]; rfl
  have N0 := Fr.nil Z.heap.size
  have Z0 : Z.heap.size ≤ h0.size := OL.2.1
  show oG p.tables e below (fun o tE => ∃ v L, o = .returned v ∧ Q_mmax Z p1 p2 h0 v tE.heap L ∧ FrameEnd s o tE L rM0.cells rM0.slots) (s₁.setTop (entryFrame m #[(.int p1), (.int p2)] 2))
  refine own_hd (fun PP hPP => ?_)
  refine oG.st (fun t k => castTop (ef_0 m p1 p2) k) ?_
  refine oG.st (fun _ k => XS.iloadN X0.here hx rfl (hb hby dj29_65_0) rfl (XS.iloadN X0.here hx rfl (hb hby dj29_65_1) rfl k)) ?_
  show oG _ _ _ _ (s₁.setTop (mkF m 2 #[.val (.int p1), .val (.int p2)] [(.int p2), (.int p1)]))
  by_cases hc161 : p1 < p2
  ·
    refine oG.st (fun _ k => XS.icmpYes X0.here hx rfl (pc0 := 2) (pc' := 9) rfl (hb hby dj29_65_2) rfl (tlt hc161).1 (by decide) (by decide) k) ?_
    refine oG.st (fun _ k => XS.iloadN X0.here hx rfl (hb hby dj29_65_9) rfl k) ?_
    show oG _ _ _ _ (s₁.setTop (mkF m 10 #[.val (.int p1), .val (.int p2)] [(.int p2)]))
    obtain ⟨fs162, hr162, hrun162, hend162, hW162, hsm162⟩ := X0.leave (v := some (.int p2)) (fun h => by rw [Bd.returns] at h; cases h)
    subst hPP
    refine ⟨_, _, own_retI X0 hx Bd.returns (hb hby dj29_65_10) hr162, hrun162, hend162, _, _, rfl, ?_, ⟨_, rfl⟩, hW162, hsm162.mono (by decide) (by decide)⟩
    · show Q_mmax Z _ _ h0 _ s₁.heap _
      rw [e0]
      exact ⟨(by rw [if_pos hc161]), N0, rfl⟩
  ·
    refine oG.st (fun _ k => XS.icmpNo X0.here hx rfl (hb hby dj29_65_2) rfl (flt hc161).1 k) ?_
    refine oG.st (fun _ k => XS.iloadN X0.here hx rfl (hb hby dj29_65_5) rfl (XS.goto X0.here hx rfl (pc0 := 6) (pc' := 10) rfl (hb hby dj29_65_6) (by decide) (by decide) k)) ?_
    show oG _ _ _ _ (s₁.setTop (mkF m 10 #[.val (.int p1), .val (.int p2)] [(.int p1)]))
    obtain ⟨fs163, hr163, hrun163, hend163, hW163, hsm163⟩ := X0.leave (v := some (.int p1)) (fun h => by rw [Bd.returns] at h; cases h)
    subst hPP
    refine ⟨_, _, own_retI X0 hx Bd.returns (hb hby dj29_65_10) hr163, hrun163, hend163, _, _, rfl, ?_, ⟨_, rfl⟩, hW163, hsm163.mono (by decide) (by decide)⟩
    · show Q_mmax Z _ _ h0 _ s₁.heap _
      rw [e0]
      exact ⟨(by rw [if_neg hc161]), N0, rfl⟩
theorem pn_84 : plainName "jdk/internal/util/ArraysSupport" = true := by first | (simp [plainName, overriddenIn]; done) | decide +kernel
theorem ef_85 (m : MethodId) (x0 : Int32) (x1 : Int32) (x2 : Int32) : entryFrame m #[(.int x0), (.int x1), (.int x2)] 4 = mkF m 0 #[.val (.int x0), .val (.int x1), .val (.int x2), .unset] [] := by first | (simp [entryFrame, mkF, argsToLocals, Value.category]; done) | rfl
theorem dj48_27_0 : decode cJ16 0 = .ok (.iload_n 0, 1) := by decide +kernel
theorem dj48_27_1 : decode cJ16 1 = .ok (.iload_n 1, 1) := by decide +kernel
theorem dj48_27_2 : decode cJ16 2 = .ok (.iload_n 2, 1) := by decide +kernel
theorem dj48_27_3 : decode cJ16 3 = .ok (.invokestatic 194, 3) := by decide +kernel
theorem dj48_27_6 : decode cJ16 6 = .ok (.iadd, 1) := by decide +kernel
theorem dj48_27_7 : decode cJ16 7 = .ok (.istore_n 3, 1) := by decide +kernel
theorem dj48_27_8 : decode cJ16 8 = .ok (.iconst 0, 1) := by decide +kernel
theorem dj48_27_9 : decode cJ16 9 = .ok (.iload_n 3, 1) := by decide +kernel
theorem dj48_27_10 : decode cJ16 10 = .ok (.if_icmp .ge 11, 3) := by decide +kernel
theorem dj48_27_13 : decode cJ16 13 = .ok (.iload_n 3, 1) := by decide +kernel
theorem dj48_27_14 : decode cJ16 14 = .ok (.ldc 200, 2) := by decide +kernel
theorem dj48_27_16 : decode cJ16 16 = .ok (.if_icmp .gt 5, 3) := by decide +kernel
theorem dj48_27_19 : decode cJ16 19 = .ok (.iload_n 3, 1) := by decide +kernel
theorem dj48_27_20 : decode cJ16 20 = .ok (.ireturn, 1) := by decide +kernel
def Q_newLen (Z : State) (p1 : Int32) (p2 : Int32) (p3 : Int32) (cap : Nat) (h0 : Heap) (v : Option Value) (h : Heap) (L : List Loc) : Prop := v = some (.int (Int32.ofNat (2 * cap + 2))) ∧ Fr Z.heap.size L ∧ h = h0
set_option maxRecDepth 65536 in
set_option maxHeartbeats 40000000 in
theorem rm_newLen (l : Launch) (Z : State) (a0 : Array Value) (hw : ∀ d ∈ tables_1, d.before a0 Z = true) (ws : List Jvm.Cond) (p1 : Int32) (p2 : Int32) (p3 : Int32) (cap : Nat) (h0 : Heap) (OL : Old Z Z.heap.size h0) (hp1 : p1 = Int32.ofNat cap) (hp2 : p2 = Int32.ofNat 1) (hp3 : p3 = Int32.ofNat (cap + 2)) (hc : cap ≤ 9) :
    MetFree l mN46 (head1 (Jvm.Cond.code mN46 jdk_48_method_27_code 4 (some .int) :: ws) rM3) (fun a U => a = #[(.int p1), (.int p2), (.int p3)] ∧ Z.Warmed39 U.vm ∧ U.heap = h0) (fun _ _ _ _ _ => True) (fun _ U o U' => ∃ v L, o = .returned v ∧ Q_newLen Z p1 p2 p3 cap h0 v U'.heap L ∧ FrameEnd U o U' L rM3.cells rM3.slots) := by
  refine MetFree.of_bodySF (plainFor_of_name pn_84) hisR ?_
  intro p e s m args below meth c s₁ Bd hml0 hP hK
  obtain ⟨rfl, hZ, hh⟩ := hP
  have hx := Bd.exec
  have hby := Bd.bytes
  have hml : c.maxLocals = 4 := hml0
  have hown : s.vm.findClass "jdk/internal/util/ArraysSupport" = some m.cls := findClass_of_methodNamed Bd.named
  have hnm := (name_of_methodNamed Bd.named Bd.method).1
  have X0 : Stand p l e rM3 s m #[(.int p1), (.int p2), (.int p3)] below meth c s₁ [] 0 0 := Stand.of_body Bd
  have e0 : s₁.heap = h0 := by rw [← hh, Bd.state]; rfl
  have N0 := Fr.nil Z.heap.size
  have Z0 : Z.heap.size ≤ h0.size := OL.2.1
  show oG p.tables e below (fun o tE => ∃ v L, o = .returned v ∧ Q_newLen Z p1 p2 p3 cap h0 v tE.heap L ∧ FrameEnd s o tE L rM3.cells rM3.slots) (s₁.setTop (entryFrame m #[(.int p1), (.int p2), (.int p3)] 4))
  refine own_hd (fun PP hPP => ?_)
  refine oG.st (fun t k => castTop (ef_85 m p1 p2 p3) k) ?_
  subst hp1 hp2 hp3
  refine oG.st (fun _ k => XS.iloadN X0.here hx rfl (hb hby dj48_27_0) rfl (XS.iloadN X0.here hx rfl (hb hby dj48_27_1) rfl (XS.iloadN X0.here hx rfl (hb hby dj48_27_2) rfl k))) ?_
  show oG _ _ _ _ (s₁.setTop (mkF m 3 #[.val (.int (Int32.ofNat cap)), .val (.int (Int32.ofNat 1)), .val (.int (Int32.ofNat (cap + 2))), .unset] [(.int (Int32.ofNat (cap + 2))), (.int (Int32.ofNat 1)), (.int (Int32.ofNat cap))]))
  obtain ⟨_, _, ⟨T164, L164, k164, n164⟩, -, X164, ⟨Lc164, hQ164, l164, y164, z164⟩, st164⟩ := Jvm.LawKit.callS X0 hx (y := mN14) hown (own_v hZ hw 154 rfl) (own_v hZ hw 155 rfl) (own_v hZ hw 156 rfl) (own_v hZ hw 157 rfl) (by decide) (backOf (W := 1) (rm_mmax l Z a0 hw [] (Int32.ofNat 1) (Int32.ofNat (cap + 2)) h0 OL ) hZ (own_w hw 157 rfl) (own_w hw 156 rfl) (by decide) (by decide)) (g := (mkF m 3 #[.val (.int (Int32.ofNat cap)), .val (.int (Int32.ofNat 1)), .val (.int (Int32.ofNat (cap + 2))), .unset] [(.int (Int32.ofNat (cap + 2))), (.int (Int32.ofNat 1)), (.int (Int32.ofNat cap))])) rfl (by rw [hml]; rfl) (argsL := [(.int (Int32.ofNat 1)), (.int (Int32.ofNat (cap + 2)))]) (rest := [(.int (Int32.ofNat cap))]) (lenOf pd_34 rfl) rfl (by show 2 * 0 + _ ≤ _; exact Nat.le_of_eq rfl) (hb hby dj48_27_3) (fun _ _ => ⟨rfl, e0, (by decide : 0 + 0 ≤ _), (by decide : 0 + 0 ≤ _)⟩)
  dsimp only [Pt.U, Pt.locs, Pt.cells, Pt.slots] at X164 l164 y164 z164 st164 hQ164
  subst l164 y164 z164
  obtain ⟨rfl, N164q, K164⟩ := hQ164
  have N164 := Fr.app N0 N164q
  refine oG.st st164 ?_
  show oG _ _ _ _ (T164.setTop (mkF m 6 #[.val (.int (Int32.ofNat cap)), .val (.int (Int32.ofNat 1)), .val (.int (Int32.ofNat (cap + 2))), .unset] [(.int (if (Int32.ofNat 1) < (Int32.ofNat (cap + 2)) then (Int32.ofNat (cap + 2)) else (Int32.ofNat 1))), (.int (Int32.ofNat cap))]))
  rw [own_maxG (by omega) (by omega)]
  refine oG.st (fun _ k => XS.iadd X164.here hx rfl (hb hby dj48_27_6) rfl k) ?_
  show oG _ _ _ _ (T164.setTop (mkF m 7 #[.val (.int (Int32.ofNat cap)), .val (.int (Int32.ofNat 1)), .val (.int (Int32.ofNat (cap + 2))), .unset] [(.int ((Int32.ofNat cap) + (Int32.ofNat (cap + 2))))]))
  rw [own_ofA (by omega), show cap + (cap + 2) = 2 * cap + 2 by omega]
  refine oG.st (fun _ k => XS.istoreN X164.here hx rfl (hb hby dj48_27_7) rfl (l' := #[.val (.int (Int32.ofNat cap)), .val (.int (Int32.ofNat 1)), .val (.int (Int32.ofNat (cap + 2))), .val (.int (Int32.ofNat (2 * cap + 2)))]) rfl (XS.iconst X164.here hx rfl (hb hby dj48_27_8) (XS.iloadN X164.here hx rfl (hb hby dj48_27_9) rfl k))) ?_
  show oG _ _ _ _ (T164.setTop (mkF m 10 #[.val (.int (Int32.ofNat cap)), .val (.int (Int32.ofNat 1)), .val (.int (Int32.ofNat (cap + 2))), .val (.int (Int32.ofNat (2 * cap + 2)))] [(.int (Int32.ofNat (2 * cap + 2))), (.int (0 : Int32))]))
  have hc165 : (0 : Int32) < (Int32.ofNat (2 * cap + 2)) := (own_oflt (i := 0) (by omega) (by omega)).mpr (by omega)
  refine oG.st (fun _ k => XS.icmpNo X164.here hx rfl (hb hby dj48_27_10) rfl (tlt hc165).2.1 k) ?_
  refine oG.st (fun _ k => XS.iloadN X164.here hx rfl (hb hby dj48_27_13) rfl k) ?_
  show oG _ _ _ _ (T164.setTop (mkF m 14 #[.val (.int (Int32.ofNat cap)), .val (.int (Int32.ofNat 1)), .val (.int (Int32.ofNat (cap + 2))), .val (.int (Int32.ofNat (2 * cap + 2)))] [(.int (Int32.ofNat (2 * cap + 2)))]))
  refine oG.st (X164.ldcInt hx hown (own_v hZ hw 158 rfl) (g := (mkF m 14 #[.val (.int (Int32.ofNat cap)), .val (.int (Int32.ofNat 1)), .val (.int (Int32.ofNat (cap + 2))), .val (.int (Int32.ofNat (2 * cap + 2)))] [(.int (Int32.ofNat (2 * cap + 2)))])) rfl (hb hby dj48_27_14)) ?_
  show oG _ _ _ _ (T164.setTop (mkF m 16 #[.val (.int (Int32.ofNat cap)), .val (.int (Int32.ofNat 1)), .val (.int (Int32.ofNat (cap + 2))), .val (.int (Int32.ofNat (2 * cap + 2)))] [(.int (2147483639 : Int32)), (.int (Int32.ofNat (2 * cap + 2)))]))
  have hc166 : ¬ ((2147483639 : Int32) < (Int32.ofNat (2 * cap + 2))) := fun q => absurd ((own_oflt (i := 2147483639) (by omega) (by omega)).mp q) (by omega)
  refine oG.st (fun _ k => XS.icmpNo X164.here hx rfl (hb hby dj48_27_16) rfl (flt hc166).2.2.1 k) ?_
  refine oG.st (fun _ k => XS.iloadN X164.here hx rfl (hb hby dj48_27_19) rfl k) ?_
  show oG _ _ _ _ (T164.setTop (mkF m 20 #[.val (.int (Int32.ofNat cap)), .val (.int (Int32.ofNat 1)), .val (.int (Int32.ofNat (cap + 2))), .val (.int (Int32.ofNat (2 * cap + 2)))] [(.int (Int32.ofNat (2 * cap + 2)))]))
  obtain ⟨fs167, hr167, hrun167, hend167, hW167, hsm167⟩ := X164.leave (v := some (.int (Int32.ofNat (2 * cap + 2)))) (fun h => by rw [Bd.returns] at h; cases h)
  subst hPP
  refine ⟨_, _, own_retI X164 hx Bd.returns (hb hby dj48_27_20) hr167, hrun167, hend167, _, _, rfl, ?_, ⟨_, rfl⟩, hW167, hsm167.mono (by decide) (by decide)⟩
  · show Q_newLen Z _ _ _ _ h0 _ T164.heap _
    rw [K164]
    exact ⟨rfl, N164, rfl⟩
theorem ef_100 (m : MethodId) (x0 : Nat) (x1 : Int32) : entryFrame m #[(.ref x0), (.int x1)] 6 = mkF m 0 #[.val (.ref x0), .val (.int x1), .unset, .unset, .unset, .unset] [] := by first | (simp [entryFrame, mkF, argsToLocals, Value.category]; done) | rfl
theorem dj68_10_0 : decode cJ25 0 = .ok (.aload_n 0, 1) := by decide +kernel
theorem dj68_10_1 : decode cJ25 1 = .ok (.getfield 15, 3) := by decide +kernel
theorem dj68_10_4 : decode cJ25 4 = .ok (.arraylength, 1) := by decide +kernel
theorem dj68_10_5 : decode cJ25 5 = .ok (.istore_n 2, 1) := by decide +kernel
theorem dj68_10_6 : decode cJ25 6 = .ok (.iload_n 1, 1) := by decide +kernel
theorem dj68_10_7 : decode cJ25 7 = .ok (.aload_n 0, 1) := by decide +kernel
theorem dj68_10_8 : decode cJ25 8 = .ok (.getfield 22, 3) := by decide +kernel
theorem dj68_10_11 : decode cJ25 11 = .ok (.ishl, 1) := by decide +kernel
theorem dj68_10_12 : decode cJ25 12 = .ok (.istore_n 3, 1) := by decide +kernel
theorem dj68_10_13 : decode cJ25 13 = .ok (.iload_n 3, 1) := by decide +kernel
theorem dj68_10_14 : decode cJ25 14 = .ok (.iload_n 2, 1) := by decide +kernel
theorem dj68_10_15 : decode cJ25 15 = .ok (.isub, 1) := by decide +kernel
theorem dj68_10_16 : decode cJ25 16 = .ok (.istore 4, 2) := by decide +kernel
theorem dj68_10_18 : decode cJ25 18 = .ok (.iload_n 2, 1) := by decide +kernel
theorem dj68_10_19 : decode cJ25 19 = .ok (.iload 4, 2) := by decide +kernel
theorem dj68_10_21 : decode cJ25 21 = .ok (.iload_n 2, 1) := by decide +kernel
theorem dj68_10_22 : decode cJ25 22 = .ok (.iconst 2, 1) := by decide +kernel
theorem dj68_10_23 : decode cJ25 23 = .ok (.aload_n 0, 1) := by decide +kernel
theorem dj68_10_24 : decode cJ25 24 = .ok (.getfield 22, 3) := by decide +kernel
theorem dj68_10_27 : decode cJ25 27 = .ok (.ishl, 1) := by decide +kernel
theorem dj68_10_28 : decode cJ25 28 = .ok (.iadd, 1) := by decide +kernel
theorem pd_122 : parseMethodDescriptor "(III)I" = some ⟨[.int, .int, .int], some .int⟩ := by decide +kernel
theorem dj68_10_29 : decode cJ25 29 = .ok (.invokestatic 114, 3) := by decide +kernel
theorem dj68_10_32 : decode cJ25 32 = .ok (.istore 5, 2) := by decide +kernel
theorem dj68_10_34 : decode cJ25 34 = .ok (.iload 5, 2) := by decide +kernel
theorem dj68_10_36 : decode cJ25 36 = .ok (.ldc 39, 2) := by decide +kernel
theorem dj68_10_38 : decode cJ25 38 = .ok (.if_icmp .ne 13, 3) := by decide +kernel
theorem dj68_10_51 : decode cJ25 51 = .ok (.iload 5, 2) := by decide +kernel
theorem dj68_10_53 : decode cJ25 53 = .ok (.aload_n 0, 1) := by decide +kernel
theorem dj68_10_54 : decode cJ25 54 = .ok (.getfield 22, 3) := by decide +kernel
theorem dj68_10_57 : decode cJ25 57 = .ok (.ishr, 1) := by decide +kernel
theorem dj68_10_58 : decode cJ25 58 = .ok (.ireturn, 1) := by decide +kernel
def Q_newCap (Z : State) (a1 : Nat) (p2 : Int32) (cap : Nat) (a4 : Nat) (k : ClassId) (vs : List Value) (h0 : Heap) (v : Option Value) (h : Heap) (L : List Loc) : Prop := v = some (.int (Int32.ofNat (2 * cap + 2))) ∧ Fr Z.heap.size L ∧ h = h0
set_option maxRecDepth 65536 in
set_option maxHeartbeats 40000000 in
theorem rm_newCap (l : Launch) (Z : State) (a0 : Array Value) (hw : ∀ d ∈ tables_1, d.before a0 Z = true) (ws : List Jvm.Cond) (a1 : Nat) (p2 : Int32) (cap : Nat) (a4 : Nat) (k : ClassId) (vs : List Value) (h0 : Heap) (OL : Old Z Z.heap.size h0) (p0_ : Fld Z h0 a1 "java/lang/AbstractStringBuilder" "value" "[B" (.ref a4)) (p1_ : Fld Z h0 a1 "java/lang/AbstractStringBuilder" "coder" "B" (.int (0 : Int32))) (p2_ : Arv Z h0 a4 k .byte (Int32.ofNat cap) vs (.int (0 : Int32))) (hp2 : p2 = Int32.ofNat (cap + 1)) (hc : cap < 9) :
    MetFree l mN12 (head1 (Jvm.Cond.code mN12 jdk_68_method_10_code 6 (some .int) :: ws) rM12) (fun a U => a = #[(.ref a1), (.int p2)] ∧ Z.Warmed39 U.vm ∧ U.heap = h0) (fun _ _ _ _ _ => True) (fun _ U o U' => ∃ v L, o = .returned v ∧ Q_newCap Z a1 p2 cap a4 k vs h0 v U'.heap L ∧ FrameEnd U o U' L rM12.cells rM12.slots) := by
  refine MetFree.of_bodySF (plainFor_of_name pn_56) hisR ?_
  intro p e s m args below meth c s₁ Bd hml0 hP hK
  obtain ⟨rfl, hZ, hh⟩ := hP
  have hx := Bd.exec
  have hby := Bd.bytes
  have hml : c.maxLocals = 6 := hml0
  have hown : s.vm.findClass "java/lang/AbstractStringBuilder" = some m.cls := findClass_of_methodNamed Bd.named
  have hnm := (name_of_methodNamed Bd.named Bd.method).1
  have X0 : Stand p l e rM12 s m #[(.ref a1), (.int p2)] below meth c s₁ [] 0 0 := Stand.of_body Bd
  have e0 : s₁.heap = h0 := by rw [← hh, Bd.state]; rfl
  have N0 := Fr.nil Z.heap.size
  have Z0 : Z.heap.size ≤ h0.size := OL.2.1
  have lt_0 : @LT.lt Nat _ a1 h0.size := p0_.lt
  have lt_1 : @LT.lt Nat _ a1 h0.size := p1_.lt
  have lt_2 : @LT.lt Nat _ a4 h0.size := p2_.lt
  show oG p.tables e below (fun o tE => ∃ v L, o = .returned v ∧ Q_newCap Z a1 p2 cap a4 k vs h0 v tE.heap L ∧ FrameEnd s o tE L rM12.cells rM12.slots) (s₁.setTop (entryFrame m #[(.ref a1), (.int p2)] 6))
  refine own_hd (fun PP hPP => ?_)
  refine oG.st (fun t k => castTop (ef_100 m a1 p2) k) ?_
  subst hp2
  refine oG.st (fun _ k => XS.aloadN X0.here hx rfl (hb hby dj68_10_0) rfl rfl k) ?_
  show oG _ _ _ _ (s₁.setTop (mkF m 1 #[.val (.ref a1), .val (.int (Int32.ofNat (cap + 1))), .unset, .unset, .unset, .unset] [(.ref a1)]))
  obtain ⟨T168, X168, e168, st168⟩ := getF X0 hx hZ hown (host := "") (Or.inl (own_w hw 113 rfl)) Via.refl e0 p0_ (g := (mkF m 1 #[.val (.ref a1), .val (.int (Int32.ofNat (cap + 1))), .unset, .unset, .unset, .unset] [(.ref a1)])) rfl rfl (hb hby dj68_10_1)
  refine oG.st st168 ?_
  show oG _ _ _ _ (T168.setTop (mkF m 4 #[.val (.ref a1), .val (.int (Int32.ofNat (cap + 1))), .unset, .unset, .unset, .unset] [(.ref a4)]))
  obtain ⟨c169, Ar169, q169, S169, Nn169, H169, G169⟩ := id p2_
  refine oG.st (X168.arraylength hx (own_rwE e168 Ar169.1) (State.isArrayOf_alike hZ.alike Ar169.2.1) (g := (mkF m 4 #[.val (.ref a1), .val (.int (Int32.ofNat (cap + 1))), .unset, .unset, .unset, .unset] [(.ref a4)])) rfl rfl (hb hby dj68_10_4)) ?_
  rw [len_of S169 Nn169]
  refine oG.st (fun _ k => XS.istoreN X168.here hx rfl (hb hby dj68_10_5) rfl (l' := #[.val (.ref a1), .val (.int (Int32.ofNat (cap + 1))), .val (.int (Int32.ofNat cap)), .unset, .unset, .unset]) rfl (XS.iloadN X168.here hx rfl (hb hby dj68_10_6) rfl (XS.aloadN X168.here hx rfl (hb hby dj68_10_7) rfl rfl k))) ?_
  show oG _ _ _ _ (T168.setTop (mkF m 8 #[.val (.ref a1), .val (.int (Int32.ofNat (cap + 1))), .val (.int (Int32.ofNat cap)), .unset, .unset, .unset] [(.ref a1), (.int (Int32.ofNat (cap + 1)))]))
  obtain ⟨T170, X170, e170, st170⟩ := getF X168 hx hZ hown (host := "") (Or.inl (own_w hw 115 rfl)) Via.refl e168 p1_ (g := (mkF m 8 #[.val (.ref a1), .val (.int (Int32.ofNat (cap + 1))), .val (.int (Int32.ofNat cap)), .unset, .unset, .unset] [(.ref a1), (.int (Int32.ofNat (cap + 1)))])) rfl rfl (hb hby dj68_10_8)
  refine oG.st st170 ?_
  refine oG.st (fun _ k => XS.ishl X170.here hx rfl (hb hby dj68_10_11) rfl k) ?_
  show oG _ _ _ _ (T170.setTop (mkF m 12 #[.val (.ref a1), .val (.int (Int32.ofNat (cap + 1))), .val (.int (Int32.ofNat cap)), .unset, .unset, .unset] [(.int ((Int32.ofNat (cap + 1)) <<< ((0 : Int32) &&& 31)))]))
  rw [own_shl0]
  refine oG.st (fun _ k => XS.istoreN X170.here hx rfl (hb hby dj68_10_12) rfl (l' := #[.val (.ref a1), .val (.int (Int32.ofNat (cap + 1))), .val (.int (Int32.ofNat cap)), .val (.int (Int32.ofNat (cap + 1))), .unset, .unset]) rfl (XS.iloadN X170.here hx rfl (hb hby dj68_10_13) rfl (XS.iloadN X170.here hx rfl (hb hby dj68_10_14) rfl (XS.isub X170.here hx rfl (hb hby dj68_10_15) rfl k)))) ?_
  show oG _ _ _ _ (T170.setTop (mkF m 16 #[.val (.ref a1), .val (.int (Int32.ofNat (cap + 1))), .val (.int (Int32.ofNat cap)), .val (.int (Int32.ofNat (cap + 1))), .unset, .unset] [(.int ((Int32.ofNat (cap + 1)) - (Int32.ofNat cap)))]))
  rw [own_ofB (by omega) (by omega), show cap + 1 - cap = 1 by omega]
  refine oG.st (fun _ k => XS.istore X170.here hx rfl (hb hby dj68_10_16) rfl (l' := #[.val (.ref a1), .val (.int (Int32.ofNat (cap + 1))), .val (.int (Int32.ofNat cap)), .val (.int (Int32.ofNat (cap + 1))), .val (.int (Int32.ofNat 1)), .unset]) rfl (XS.iloadN X170.here hx rfl (hb hby dj68_10_18) rfl (XS.iload X170.here hx rfl (hb hby dj68_10_19) rfl (XS.iloadN X170.here hx rfl (hb hby dj68_10_21) rfl (XS.iconst X170.here hx rfl (hb hby dj68_10_22) (XS.aloadN X170.here hx rfl (hb hby dj68_10_23) rfl rfl k)))))) ?_
  show oG _ _ _ _ (T170.setTop (mkF m 24 #[.val (.ref a1), .val (.int (Int32.ofNat (cap + 1))), .val (.int (Int32.ofNat cap)), .val (.int (Int32.ofNat (cap + 1))), .val (.int (Int32.ofNat 1)), .unset] [(.ref a1), (.int (2 : Int32)), (.int (Int32.ofNat cap)), (.int (Int32.ofNat 1)), (.int (Int32.ofNat cap))]))
  obtain ⟨T171, X171, e171, st171⟩ := getF X170 hx hZ hown (host := "") (Or.inl (own_w hw 115 rfl)) Via.refl e170 p1_ (g := (mkF m 24 #[.val (.ref a1), .val (.int (Int32.ofNat (cap + 1))), .val (.int (Int32.ofNat cap)), .val (.int (Int32.ofNat (cap + 1))), .val (.int (Int32.ofNat 1)), .unset] [(.ref a1), (.int (2 : Int32)), (.int (Int32.ofNat cap)), (.int (Int32.ofNat 1)), (.int (Int32.ofNat cap))])) rfl rfl (hb hby dj68_10_24)
  refine oG.st st171 ?_
  refine oG.st (fun _ k => XS.ishl X171.here hx rfl (hb hby dj68_10_27) rfl k) ?_
  show oG _ _ _ _ (T171.setTop (mkF m 28 #[.val (.ref a1), .val (.int (Int32.ofNat (cap + 1))), .val (.int (Int32.ofNat cap)), .val (.int (Int32.ofNat (cap + 1))), .val (.int (Int32.ofNat 1)), .unset] [(.int ((2 : Int32) <<< ((0 : Int32) &&& 31))), (.int (Int32.ofNat cap)), (.int (Int32.ofNat 1)), (.int (Int32.ofNat cap))]))
  rw [own_shl0]
  refine oG.st (fun _ k => XS.iadd X171.here hx rfl (hb hby dj68_10_28) rfl k) ?_
  show oG _ _ _ _ (T171.setTop (mkF m 29 #[.val (.ref a1), .val (.int (Int32.ofNat (cap + 1))), .val (.int (Int32.ofNat cap)), .val (.int (Int32.ofNat (cap + 1))), .val (.int (Int32.ofNat 1)), .unset] [(.int ((Int32.ofNat cap) + (2 : Int32))), (.int (Int32.ofNat 1)), (.int (Int32.ofNat cap))]))
  rw [show (Int32.ofNat cap + (2 : Int32)) = Int32.ofNat (cap + 2) from own_ofA (j := 2) (by omega)]
  show oG _ _ _ _ (T171.setTop (mkF m 29 #[.val (.ref a1), .val (.int (Int32.ofNat (cap + 1))), .val (.int (Int32.ofNat cap)), .val (.int (Int32.ofNat (cap + 1))), .val (.int (Int32.ofNat 1)), .unset] [(.int (Int32.ofNat (cap + 2))), (.int (Int32.ofNat 1)), (.int (Int32.ofNat cap))]))
  obtain ⟨_, _, ⟨T172, L172, k172, n172⟩, -, X172, ⟨Lc172, hQ172, l172, y172, z172⟩, st172⟩ := Jvm.LawKit.callS X171 hx (y := mN46) hown (own_v hZ hw 150 rfl) (own_v hZ hw 151 rfl) (own_v hZ hw 152 rfl) (own_v hZ hw 153 rfl) (by decide) (backOf (W := 0) (rm_newLen l Z a0 hw [] (Int32.ofNat cap) (Int32.ofNat 1) (Int32.ofNat (cap + 2)) cap h0 OL rfl rfl rfl (by omega)) hZ (own_w hw 153 rfl) (own_w hw 152 rfl) (by decide) (by decide)) (g := (mkF m 29 #[.val (.ref a1), .val (.int (Int32.ofNat (cap + 1))), .val (.int (Int32.ofNat cap)), .val (.int (Int32.ofNat (cap + 1))), .val (.int (Int32.ofNat 1)), .unset] [(.int (Int32.ofNat (cap + 2))), (.int (Int32.ofNat 1)), (.int (Int32.ofNat cap))])) rfl (by rw [hml]; rfl) (argsL := [(.int (Int32.ofNat cap)), (.int (Int32.ofNat 1)), (.int (Int32.ofNat (cap + 2)))]) (rest := []) (lenOf pd_122 rfl) rfl (by show 2 * 0 + _ ≤ _; exact Nat.le_of_eq rfl) (hb hby dj68_10_29) (fun _ _ => ⟨rfl, e171, (by decide : 0 + 0 ≤ _), (by decide : 0 + 0 ≤ _)⟩)
  dsimp only [Pt.U, Pt.locs, Pt.cells, Pt.slots] at X172 l172 y172 z172 st172 hQ172
  subst l172 y172 z172
  obtain ⟨rfl, N172q, K172⟩ := hQ172
  have N172 := Fr.app N0 N172q
  refine oG.st st172 ?_
  refine oG.st (fun _ k => XS.istore X172.here hx rfl (hb hby dj68_10_32) rfl (l' := #[.val (.ref a1), .val (.int (Int32.ofNat (cap + 1))), .val (.int (Int32.ofNat cap)), .val (.int (Int32.ofNat (cap + 1))), .val (.int (Int32.ofNat 1)), .val (.int (Int32.ofNat (2 * cap + 2)))]) rfl (XS.iload X172.here hx rfl (hb hby dj68_10_34) rfl k)) ?_
  show oG _ _ _ _ (T172.setTop (mkF m 36 #[.val (.ref a1), .val (.int (Int32.ofNat (cap + 1))), .val (.int (Int32.ofNat cap)), .val (.int (Int32.ofNat (cap + 1))), .val (.int (Int32.ofNat 1)), .val (.int (Int32.ofNat (2 * cap + 2)))] [(.int (Int32.ofNat (2 * cap + 2)))]))
  refine oG.st (X172.ldcInt hx hown (own_v hZ hw 159 rfl) (g := (mkF m 36 #[.val (.ref a1), .val (.int (Int32.ofNat (cap + 1))), .val (.int (Int32.ofNat cap)), .val (.int (Int32.ofNat (cap + 1))), .val (.int (Int32.ofNat 1)), .val (.int (Int32.ofNat (2 * cap + 2)))] [(.int (Int32.ofNat (2 * cap + 2)))])) rfl (hb hby dj68_10_36)) ?_
  show oG _ _ _ _ (T172.setTop (mkF m 38 #[.val (.ref a1), .val (.int (Int32.ofNat (cap + 1))), .val (.int (Int32.ofNat cap)), .val (.int (Int32.ofNat (cap + 1))), .val (.int (Int32.ofNat 1)), .val (.int (Int32.ofNat (2 * cap + 2)))] [(.int (2147483647 : Int32)), (.int (Int32.ofNat (2 * cap + 2)))]))
  have hc173 : ¬ ((Int32.ofNat (2 * cap + 2)) = (2147483647 : Int32)) := fun q => absurd ((own_ofE (j := 2147483647) (by omega) (by omega)).mp q) (by omega)
  refine oG.st (fun _ k => XS.icmpYes X172.here hx rfl (pc0 := 38) (pc' := 51) rfl (hb hby dj68_10_38) rfl (feq hc173).2 (by decide) (by decide) k) ?_
  refine oG.st (fun _ k => XS.iload X172.here hx rfl (hb hby dj68_10_51) rfl (XS.aloadN X172.here hx rfl (hb hby dj68_10_53) rfl rfl k)) ?_
  show oG _ _ _ _ (T172.setTop (mkF m 54 #[.val (.ref a1), .val (.int (Int32.ofNat (cap + 1))), .val (.int (Int32.ofNat cap)), .val (.int (Int32.ofNat (cap + 1))), .val (.int (Int32.ofNat 1)), .val (.int (Int32.ofNat (2 * cap + 2)))] [(.ref a1), (.int (Int32.ofNat (2 * cap + 2)))]))
  obtain ⟨T174, X174, e174, st174⟩ := getF X172 hx hZ hown (host := "") (Or.inl (own_w hw 115 rfl)) Via.refl K172 p1_ (g := (mkF m 54 #[.val (.ref a1), .val (.int (Int32.ofNat (cap + 1))), .val (.int (Int32.ofNat cap)), .val (.int (Int32.ofNat (cap + 1))), .val (.int (Int32.ofNat 1)), .val (.int (Int32.ofNat (2 * cap + 2)))] [(.ref a1), (.int (Int32.ofNat (2 * cap + 2)))])) rfl rfl (hb hby dj68_10_54)
  refine oG.st st174 ?_
  refine oG.st (fun _ k => XS.ishr X174.here hx rfl (hb hby dj68_10_57) rfl k) ?_
  show oG _ _ _ _ (T174.setTop (mkF m 58 #[.val (.ref a1), .val (.int (Int32.ofNat (cap + 1))), .val (.int (Int32.ofNat cap)), .val (.int (Int32.ofNat (cap + 1))), .val (.int (Int32.ofNat 1)), .val (.int (Int32.ofNat (2 * cap + 2)))] [(.int ((Int32.ofNat (2 * cap + 2)) >>> ((0 : Int32) &&& 31)))]))
  rw [own_shr0]
  show oG _ _ _ _ (T174.setTop (mkF m 58 #[.val (.ref a1), .val (.int (Int32.ofNat (cap + 1))), .val (.int (Int32.ofNat cap)), .val (.int (Int32.ofNat (cap + 1))), .val (.int (Int32.ofNat 1)), .val (.int (Int32.ofNat (2 * cap + 2)))] [(.int (Int32.ofNat (2 * cap + 2)))]))
  obtain ⟨fs175, hr175, hrun175, hend175, hW175, hsm175⟩ := X174.leave (v := some (.int (Int32.ofNat (2 * cap + 2)))) (fun h => by rw [Bd.returns] at h; cases h)
  subst hPP
  refine ⟨_, _, own_retI X174 hx Bd.returns (hb hby dj68_10_58) hr175, hrun175, hend175, _, _, rfl, ?_, ⟨_, rfl⟩, hW175, hsm175.mono (by decide) (by decide)⟩
  · show Q_newCap Z _ _ _ _ _ _ h0 _ T174.heap _
    rw [e174]
    exact ⟨rfl, N172, rfl⟩
theorem ef_133 (m : MethodId) (x0 : Nat) (x1 : Int32) : entryFrame m #[(.ref x0), (.int x1)] 3 = mkF m 0 #[.val (.ref x0), .val (.int x1), .unset] [] := by first | (simp [entryFrame, mkF, argsToLocals, Value.category]; done) | rfl
theorem dj65_121_0 : decode cJ21 0 = .ok (.iload_n 1, 1) := by decide +kernel
theorem dj65_121_1 : decode cJ21 1 = .ok (.aload_n 0, 1) := by decide +kernel
theorem dj65_121_2 : decode cJ21 2 = .ok (.arraylength, 1) := by decide +kernel
theorem dj65_121_3 : decode cJ21 3 = .ok (.if_icmp .ne 11, 3) := by decide +kernel
theorem dj65_121_14 : decode cJ21 14 = .ok (.iload_n 1, 1) := by decide +kernel
theorem dj65_121_15 : decode cJ21 15 = .ok (.newarray .byte, 2) := by decide +kernel
theorem dj65_121_17 : decode cJ21 17 = .ok (.astore_n 2, 1) := by decide +kernel
theorem dj65_121_18 : decode cJ21 18 = .ok (.aload_n 0, 1) := by decide +kernel
theorem dj65_121_19 : decode cJ21 19 = .ok (.iconst 0, 1) := by decide +kernel
theorem dj65_121_20 : decode cJ21 20 = .ok (.aload_n 2, 1) := by decide +kernel
theorem dj65_121_21 : decode cJ21 21 = .ok (.iconst 0, 1) := by decide +kernel
theorem dj65_121_22 : decode cJ21 22 = .ok (.aload_n 0, 1) := by decide +kernel
theorem dj65_121_23 : decode cJ21 23 = .ok (.arraylength, 1) := by decide +kernel
theorem dj65_121_24 : decode cJ21 24 = .ok (.iload_n 1, 1) := by decide +kernel
theorem dj65_121_25 : decode cJ21 25 = .ok (.invokestatic 304, 3) := by decide +kernel
theorem dj65_121_28 : decode cJ21 28 = .ok (.invokestatic 150, 3) := by decide +kernel
theorem dj65_121_31 : decode cJ21 31 = .ok (.aload_n 2, 1) := by decide +kernel
theorem dj65_121_32 : decode cJ21 32 = .ok (.areturn, 1) := by decide +kernel
def Q_copyOfG (Z : State) (a1 : Nat) (p2 : Int32) (cs : List Int32) (cap : Nat) (k : ClassId) (h0 : Heap) (v : Option Value) (h : Heap) (L : List Loc) : Prop := ∃ (x : Nat), ∃ (kx : ClassId), v = some (.ref x) ∧ Fr Z.heap.size L ∧ Keep h0 h [] ∧ Arv Z h x kx .byte (Int32.ofNat (2 * cap + 2)) (own_low cs) (.int (0 : Int32)) ∧ (h0.size ≤ x) ∧ (Z.vm.findClass "[B" = some kx)
set_option maxRecDepth 65536 in
set_option maxHeartbeats 40000000 in
theorem rm_copyOfG (l : Launch) (Z : State) (a0 : Array Value) (hw : ∀ d ∈ tables_1, d.before a0 Z = true) (ws : List Jvm.Cond) (a1 : Nat) (p2 : Int32) (cs : List Int32) (cap : Nat) (k : ClassId) (h0 : Heap) (OL : Old Z Z.heap.size h0) (p0_ : Arv Z h0 a1 k .byte (Int32.ofNat cap) (own_low cs) (.int (0 : Int32))) (hp2 : p2 = Int32.ofNat (2 * cap + 2)) (hcs : cs.length ≤ cap) (hc : cap < 9) :
    MetFree l mN43 (head1 (Jvm.Cond.code mN43 jdk_65_method_121_code 3 (some (.array .byte)) :: ws) rM6) (fun a U => a = #[(.ref a1), (.int p2)] ∧ Z.Warmed39 U.vm ∧ U.heap = h0) (fun _ _ _ _ _ => True) (fun _ U o U' => ∃ v L, o = .returned v ∧ Q_copyOfG Z a1 p2 cs cap k h0 v U'.heap L ∧ FrameEnd U o U' L rM6.cells rM6.slots) := by
  refine MetFree.of_bodySF (plainFor_of_name pn_8) hisR ?_
  intro p e s m args below meth c s₁ Bd hml0 hP hK
  obtain ⟨rfl, hZ, hh⟩ := hP
  have hx := Bd.exec
  have hby := Bd.bytes
  have hml : c.maxLocals = 3 := hml0
  have hown : s.vm.findClass "java/util/Arrays" = some m.cls := findClass_of_methodNamed Bd.named
  have hnm := (name_of_methodNamed Bd.named Bd.method).1
  have X0 : Stand p l e rM6 s m #[(.ref a1), (.int p2)] below meth c s₁ [] 0 0 := Stand.of_body Bd
  have e0 : s₁.heap = h0 := by rw [← hh, Bd.state]; rfl
  have N0 := Fr.nil Z.heap.size
  have Z0 : Z.heap.size ≤ h0.size := OL.2.1
  have lt_0 : @LT.lt Nat _ a1 h0.size := p0_.lt
  show oG p.tables e below (fun o tE => ∃ v L, o = .returned v ∧ Q_copyOfG Z a1 p2 cs cap k h0 v tE.heap L ∧ FrameEnd s o tE L rM6.cells rM6.slots) (s₁.setTop (entryFrame m #[(.ref a1), (.int p2)] 3))
  refine own_hd (fun PP hPP => ?_)
  refine oG.st (fun t k => castTop (ef_133 m a1 p2) k) ?_
  subst hp2
  refine oG.st (fun _ k => XS.iloadN X0.here hx rfl (hb hby dj65_121_0) rfl (XS.aloadN X0.here hx rfl (hb hby dj65_121_1) rfl rfl k)) ?_
  show oG _ _ _ _ (s₁.setTop (mkF m 2 #[.val (.ref a1), .val (.int (Int32.ofNat (2 * cap + 2))), .unset] [(.ref a1), (.int (Int32.ofNat (2 * cap + 2)))]))
  obtain ⟨c176, Ar176, q176, S176, Nn176, H176, G176⟩ := id p0_
  refine oG.st (X0.arraylength hx (own_rwE e0 Ar176.1) (State.isArrayOf_alike hZ.alike Ar176.2.1) (g := (mkF m 2 #[.val (.ref a1), .val (.int (Int32.ofNat (2 * cap + 2))), .unset] [(.ref a1), (.int (Int32.ofNat (2 * cap + 2)))])) rfl rfl (hb hby dj65_121_2)) ?_
  rw [len_of S176 Nn176]
  show oG _ _ _ _ (s₁.setTop (mkF m 3 #[.val (.ref a1), .val (.int (Int32.ofNat (2 * cap + 2))), .unset] [(.int (Int32.ofNat cap)), (.int (Int32.ofNat (2 * cap + 2)))]))
  have hc177 : ¬ ((Int32.ofNat (2 * cap + 2)) = (Int32.ofNat cap)) := fun q => absurd ((own_ofE (by omega) (by omega)).mp q) (by omega)
  refine oG.st (fun _ k => XS.icmpYes X0.here hx rfl (pc0 := 3) (pc' := 14) rfl (hb hby dj65_121_3) rfl (feq hc177).2 (by decide) (by decide) k) ?_
  refine oG.st (fun _ k => XS.iloadN X0.here hx rfl (hb hby dj65_121_14) rfl k) ?_
  show oG _ _ _ _ (s₁.setTop (mkF m 15 #[.val (.ref a1), .val (.int (Int32.ofNat (2 * cap + 2))), .unset] [(.int (Int32.ofNat (2 * cap + 2)))]))
  obtain ⟨T178, h178, k178, X178, e178, E178, A178, kn178, st178⟩ := own_newB X0 hx hZ (own_w hw 16 rfl) e0 (g := (mkF m 15 #[.val (.ref a1), .val (.int (Int32.ofNat (2 * cap + 2))), .unset] [(.int (Int32.ofNat (2 * cap + 2)))])) rfl (hb hby dj65_121_15) rfl (own_of0 (by omega)) (cap := 18) (by rw [own_ofn (by omega)]; omega) (by decide) (by decide) (by decide)
  obtain ⟨b178, g178⟩ : ∃ z, z = h0.size := ⟨_, rfl⟩
  rw [← g178] at A178 st178
  refine oG.st st178 ?_
  have z178 : h0.size ≤ h178.size := E178.1
  have f179 : Arv Z h178 b178 k178 .byte (Int32.ofNat (2 * cap + 2)) [] (.int (0 : Int32)) := Arv.new A178 (own_of0 (by omega))
  have lt_b178 : @LT.lt Nat _ b178 h178.size := f179.lt
  refine oG.st (fun _ k => XS.astoreN X178.here hx rfl (hb hby dj65_121_17) rfl rfl (l' := #[.val (.ref a1), .val (.int (Int32.ofNat (2 * cap + 2))), .val (.ref b178)]) rfl (XS.aloadN X178.here hx rfl (hb hby dj65_121_18) rfl rfl (XS.iconst X178.here hx rfl (hb hby dj65_121_19) (XS.aloadN X178.here hx rfl (hb hby dj65_121_20) rfl rfl (XS.iconst X178.here hx rfl (hb hby dj65_121_21) (XS.aloadN X178.here hx rfl (hb hby dj65_121_22) rfl rfl k)))))) ?_
  show oG _ _ _ _ (T178.setTop (mkF m 23 #[.val (.ref a1), .val (.int (Int32.ofNat (2 * cap + 2))), .val (.ref b178)] [(.ref a1), (.int (0 : Int32)), (.ref b178), (.int (0 : Int32)), (.ref a1)]))
  have f180 : Arv Z h178 a1 k .byte (Int32.ofNat cap) (own_low cs) (.int (0 : Int32)) := p0_.ext E178
  obtain ⟨c181, Ar181, q181, S181, Nn181, H181, G181⟩ := id f180
  refine oG.st (X178.arraylength hx (own_rwE e178 Ar181.1) (State.isArrayOf_alike hZ.alike Ar181.2.1) (g := (mkF m 23 #[.val (.ref a1), .val (.int (Int32.ofNat (2 * cap + 2))), .val (.ref b178)] [(.ref a1), (.int (0 : Int32)), (.ref b178), (.int (0 : Int32)), (.ref a1)])) rfl rfl (hb hby dj65_121_23)) ?_
  rw [len_of S181 Nn181]
  refine oG.st (fun _ k => XS.iloadN X178.here hx rfl (hb hby dj65_121_24) rfl k) ?_
  show oG _ _ _ _ (T178.setTop (mkF m 25 #[.val (.ref a1), .val (.int (Int32.ofNat (2 * cap + 2))), .val (.ref b178)] [(.int (Int32.ofNat (2 * cap + 2))), (.int (Int32.ofNat cap)), (.int (0 : Int32)), (.ref b178), (.int (0 : Int32)), (.ref a1)]))
  have f183 : Old Z Z.heap.size h178 := OL.ext E178
  obtain ⟨_, _, ⟨T182, L182, k182, n182⟩, -, X182, ⟨Lc182, hQ182, l182, y182, z182⟩, st182⟩ := Jvm.LawKit.callS X178 hx (y := mN15) hown (own_v hZ hw 164 rfl) (own_v hZ hw 165 rfl) (own_v hZ hw 156 rfl) (own_v hZ hw 166 rfl) (by decide) (backOf (W := 4) (rm_mmin l Z a0 hw [] (Int32.ofNat cap) (Int32.ofNat (2 * cap + 2)) h178 f183 ) hZ (own_w hw 166 rfl) (own_w hw 156 rfl) (by decide) (by decide)) (g := (mkF m 25 #[.val (.ref a1), .val (.int (Int32.ofNat (2 * cap + 2))), .val (.ref b178)] [(.int (Int32.ofNat (2 * cap + 2))), (.int (Int32.ofNat cap)), (.int (0 : Int32)), (.ref b178), (.int (0 : Int32)), (.ref a1)])) rfl (by rw [hml]; rfl) (argsL := [(.int (Int32.ofNat cap)), (.int (Int32.ofNat (2 * cap + 2)))]) (rest := [(.int (0 : Int32)), (.ref b178), (.int (0 : Int32)), (.ref a1)]) (lenOf pd_34 rfl) rfl (by show 2 * 0 + _ ≤ _; exact Nat.le_of_eq rfl) (hb hby dj65_121_25) (fun _ _ => ⟨rfl, e178, (by decide : 1 + 0 ≤ _), (by decide : 18 + 0 ≤ _)⟩)
  dsimp only [Pt.U, Pt.locs, Pt.cells, Pt.slots] at X182 l182 y182 z182 st182 hQ182
  subst l182 y182 z182
  obtain ⟨rfl, N182q, K182⟩ := hQ182
  have N182 := Fr.app N0 N182q
  refine oG.st st182 ?_
  show oG _ _ _ _ (T182.setTop (mkF m 28 #[.val (.ref a1), .val (.int (Int32.ofNat (2 * cap + 2))), .val (.ref b178)] [(.int (if (Int32.ofNat (2 * cap + 2)) < (Int32.ofNat cap) then (Int32.ofNat (2 * cap + 2)) else (Int32.ofNat cap))), (.int (0 : Int32)), (.ref b178), (.int (0 : Int32)), (.ref a1)]))
  rw [show (if Int32.ofNat (2 * cap + 2) < Int32.ofNat cap then Int32.ofNat (2 * cap + 2) else Int32.ofNat cap) = Int32.ofNat cap from if_neg (fun q => absurd ((own_oflt (by omega) (by omega)).mp q) (by omega))]
  show oG _ _ _ _ (T182.setTop (mkF m 28 #[.val (.ref a1), .val (.int (Int32.ofNat (2 * cap + 2))), .val (.ref b178)] [(.int (Int32.ofNat cap)), (.int (0 : Int32)), (.ref b178), (.int (0 : Int32)), (.ref a1)]))
  have f184 : Arv Z h178 b178 k178 .byte (Int32.ofNat (2 * cap + 2)) (List.replicate (2 * cap + 2) (Value.int (0 : Int32))) (.int (0 : Int32)) := f179.pad (pad_rep [] (.int (0 : Int32)) (2 * cap + 2))
  obtain ⟨T185, h185, L185, X185, e185, N185, K185, V185, st185⟩ := cpA (us := (own_low cs ++ List.replicate (cap - cs.length) (Value.int (0 : Int32)))) X182 hx hZ hown (own_w hw 167 rfl) (own_w hw 170 rfl) (own_w hw 168 rfl) (own_w hw 169 rfl) K182 f180 f184 (Or.inl ⟨rfl, rfl⟩) (by decide) (by decide) (own_of0 (by omega)) (by rw [own_ofn (by omega)]; have : (0 : Int32).toNatClampNeg = 0 := (by decide); omega) (by rw [own_ofn (by omega), own_ofn (by omega)]; have : (0 : Int32).toNatClampNeg = 0 := (by decide); omega) (own_usG hcs (by omega)) (by rw [own_ofn (by omega), List.length_replicate]; have : (0 : Int32).toNatClampNeg = 0 := (by decide); omega) N182 (by omega) (g := (mkF m 28 #[.val (.ref a1), .val (.int (Int32.ofNat (2 * cap + 2))), .val (.ref b178)] [(.int (Int32.ofNat cap)), (.int (0 : Int32)), (.ref b178), (.int (0 : Int32)), (.ref a1)])) rfl (by rw [hml]; rfl) rfl (hb hby dj65_121_28) (by decide) (W := 0) (by show 2 * 0 + _ ≤ _; exact Nat.le_of_eq rfl) (by decide)
  refine oG.st st185 ?_
  have z185 : h178.size ≤ h185.size := K185.1
  have f186 : Arv Z h185 b178 k178 .byte (Int32.ofNat (2 * cap + 2)) (own_low cs) (.int (0 : Int32)) := own_copyG (d := cap) (by omega) V185
  refine oG.st (fun _ k => XS.aloadN X185.here hx rfl (hb hby dj65_121_31) rfl rfl k) ?_
  show oG _ _ _ _ (T185.setTop (mkF m 32 #[.val (.ref a1), .val (.int (Int32.ofNat (2 * cap + 2))), .val (.ref b178)] [(.ref b178)]))
  obtain ⟨fs187, hr187, hrun187, hend187, hW187, hsm187⟩ := X185.leave (v := some (.ref b178)) (fun h => by rw [Bd.returns] at h; cases h)
  have K188 : Keep h0 h178 [] := (Keep.refl h0 []).ext E178
  have K189 : Keep h0 h185 [] := K188.trans K185 (allS (Or.inr (by omega)) all0)
  subst hPP
  refine ⟨_, _, own_retA X185 hx Bd.returns rfl rfl (hb hby dj65_121_32) hr187, hrun187, hend187, _, _, rfl, ?_, ⟨_, rfl⟩, hW187, hsm187.mono (by decide) (by decide)⟩
  · show Q_copyOfG Z _ _ _ _ _ h0 _ T185.heap _
    rw [e185]
    exact ⟨b178, k178, rfl, N185, K189, f186, (by omega), kn178⟩
theorem dj68_9_0 : decode cJ29 0 = .ok (.aload_n 0, 1) := by decide +kernel
theorem dj68_9_1 : decode cJ29 1 = .ok (.getfield 15, 3) := by decide +kernel
theorem dj68_9_4 : decode cJ29 4 = .ok (.arraylength, 1) := by decide +kernel
theorem dj68_9_5 : decode cJ29 5 = .ok (.aload_n 0, 1) := by decide +kernel
theorem dj68_9_6 : decode cJ29 6 = .ok (.getfield 22, 3) := by decide +kernel
theorem dj68_9_9 : decode cJ29 9 = .ok (.ishr, 1) := by decide +kernel
theorem dj68_9_10 : decode cJ29 10 = .ok (.istore_n 2, 1) := by decide +kernel
theorem dj68_9_11 : decode cJ29 11 = .ok (.iload_n 1, 1) := by decide +kernel
theorem dj68_9_12 : decode cJ29 12 = .ok (.iload_n 2, 1) := by decide +kernel
theorem dj68_9_13 : decode cJ29 13 = .ok (.isub, 1) := by decide +kernel
theorem dj68_9_14 : decode cJ29 14 = .ok (.ifCond .le 24, 3) := by decide +kernel
theorem dj68_9_17 : decode cJ29 17 = .ok (.aload_n 0, 1) := by decide +kernel
theorem dj68_9_18 : decode cJ29 18 = .ok (.aload_n 0, 1) := by decide +kernel
theorem dj68_9_19 : decode cJ29 19 = .ok (.getfield 15, 3) := by decide +kernel
theorem dj68_9_22 : decode cJ29 22 = .ok (.aload_n 0, 1) := by decide +kernel
theorem dj68_9_23 : decode cJ29 23 = .ok (.iload_n 1, 1) := by decide +kernel
theorem pd_168 : parseMethodDescriptor "(I)I" = some ⟨[.int], some .int⟩ := by decide +kernel
theorem dj68_9_24 : decode cJ29 24 = .ok (.invokevirtual 104, 3) := by decide +kernel
theorem dj68_9_27 : decode cJ29 27 = .ok (.aload_n 0, 1) := by decide +kernel
theorem dj68_9_28 : decode cJ29 28 = .ok (.getfield 22, 3) := by decide +kernel
theorem dj68_9_31 : decode cJ29 31 = .ok (.ishl, 1) := by decide +kernel
theorem pd_173 : parseMethodDescriptor "([BI)[B" = some ⟨[(.array .byte), .int], some (.array .byte)⟩ := by decide +kernel
theorem dj68_9_32 : decode cJ29 32 = .ok (.invokestatic 108, 3) := by decide +kernel
theorem dj68_9_35 : decode cJ29 35 = .ok (.putfield 15, 3) := by decide +kernel
theorem dj68_9_38 : decode cJ29 38 = .ok (.return_, 1) := by decide +kernel
def Q_ensureC (Z : State) (a1 : Nat) (p2 : Int32) (cs : List Int32) (cap : Nat) (a4 : Nat) (k : ClassId) (n1 : Int32) (h0 : Heap) (v : Option Value) (h : Heap) (L : List Loc) : Prop := ∃ (a5 : Nat), ∃ (cap2 : Nat), ∃ (k2 : ClassId), v = none ∧ Fr Z.heap.size L ∧ Keep h0 h [a1] ∧ Exa Z h a1 "java/lang/StringBuilder" ∧ Fld Z h a1 "java/lang/AbstractStringBuilder" "value" "[B" (.ref a5) ∧ Fld Z h a1 "java/lang/AbstractStringBuilder" "coder" "B" (.int (0 : Int32)) ∧ Fld Z h a1 "java/lang/AbstractStringBuilder" "count" "I" (.int n1) ∧ Arv Z h a5 k2 .byte (Int32.ofNat cap2) (own_low cs) (.int (0 : Int32)) ∧ (cs.length < cap2) ∧ (cap2 ≤ 18) ∧ (Z.vm.findClass "[B" = some k2) ∧ (own_New a5 a4 h0.size)
set_option maxRecDepth 65536 in
set_option maxHeartbeats 40000000 in
theorem rm_ensureC (l : Launch) (Z : State) (a0 : Array Value) (hw : ∀ d ∈ tables_1, d.before a0 Z = true) (ws : List Jvm.Cond) (a1 : Nat) (p2 : Int32) (cs : List Int32) (cap : Nat) (a4 : Nat) (k : ClassId) (n1 : Int32) (h0 : Heap) (OL : Old Z Z.heap.size h0) (p0_ : Exa Z h0 a1 "java/lang/StringBuilder") (p1_ : Fld Z h0 a1 "java/lang/AbstractStringBuilder" "value" "[B" (.ref a4)) (p2_ : Fld Z h0 a1 "java/lang/AbstractStringBuilder" "coder" "B" (.int (0 : Int32))) (p3_ : Fld Z h0 a1 "java/lang/AbstractStringBuilder" "count" "I" (.int n1)) (p4_ : Arv Z h0 a4 k .byte (Int32.ofNat cap) (own_low cs) (.int (0 : Int32))) (hp2 : p2 = Int32.ofNat (cs.length + 1)) (hN : cs.length < 9) (hcs : cs.length ≤ cap) (hcap : cap ≤ 18) (hkb : Z.vm.findClass "[B" = some k) (hn0 : Z.heap.size ≤ a1) :
    MetFree l mN8 (head1 (Jvm.Cond.code mN8 jdk_68_method_9_code 3 none :: ws) rM18) (fun a U => a = #[(.ref a1), (.int p2)] ∧ Z.Warmed39 U.vm ∧ U.heap = h0) (fun _ _ _ _ _ => True) (fun _ U o U' => ∃ v L, o = .returned v ∧ Q_ensureC Z a1 p2 cs cap a4 k n1 h0 v U'.heap L ∧ FrameEnd U o U' L rM18.cells rM18.slots) := by
  refine MetFree.of_bodySF (plainFor_of_name pn_56) hisR ?_
  intro p e s m args below meth c s₁ Bd hml0 hP hK
  obtain ⟨rfl, hZ, hh⟩ := hP
  have hx := Bd.exec
  have hby := Bd.bytes
  have hml : c.maxLocals = 3 := hml0
  have hown : s.vm.findClass "java/lang/AbstractStringBuilder" = some m.cls := findClass_of_methodNamed Bd.named
  have hnm := (name_of_methodNamed Bd.named Bd.method).1
  have X0 : Stand p l e rM18 s m #[(.ref a1), (.int p2)] below meth c s₁ [] 0 0 := Stand.of_body Bd
  have e0 : s₁.heap = h0 := by rw [← hh, Bd.state]; rfl
  have N0 := Fr.nil Z.heap.size
  have Z0 : Z.heap.size ≤ h0.size := OL.2.1
  have lt_0 : @LT.lt Nat _ a1 h0.size := p0_.lt
  have lt_1 : @LT.lt Nat _ a1 h0.size := p1_.lt
  have lt_2 : @LT.lt Nat _ a1 h0.size := p2_.lt
  have lt_3 : @LT.lt Nat _ a1 h0.size := p3_.lt
  have lt_4 : @LT.lt Nat _ a4 h0.size := p4_.lt
  show oG p.tables e below (fun o tE => ∃ v L, o = .returned v ∧ Q_ensureC Z a1 p2 cs cap a4 k n1 h0 v tE.heap L ∧ FrameEnd s o tE L rM18.cells rM18.slots) (s₁.setTop (entryFrame m #[(.ref a1), (.int p2)] 3))
  refine own_hd (fun PP hPP => ?_)
  refine oG.st (fun t k => castTop (ef_133 m a1 p2) k) ?_
  refine oG.st (fun _ k => XS.aloadN X0.here hx rfl (hb hby dj68_9_0) rfl rfl k) ?_
  show oG _ _ _ _ (s₁.setTop (mkF m 1 #[.val (.ref a1), .val (.int p2), .unset] [(.ref a1)]))
  obtain ⟨T190, X190, e190, st190⟩ := getF X0 hx hZ hown (host := "") (Or.inl (own_w hw 113 rfl)) Via.refl e0 p1_ (g := (mkF m 1 #[.val (.ref a1), .val (.int p2), .unset] [(.ref a1)])) rfl rfl (hb hby dj68_9_1)
  refine oG.st st190 ?_
  show oG _ _ _ _ (T190.setTop (mkF m 4 #[.val (.ref a1), .val (.int p2), .unset] [(.ref a4)]))
  obtain ⟨c191, Ar191, q191, S191, Nn191, H191, G191⟩ := id p4_
  refine oG.st (X190.arraylength hx (own_rwE e190 Ar191.1) (State.isArrayOf_alike hZ.alike Ar191.2.1) (g := (mkF m 4 #[.val (.ref a1), .val (.int p2), .unset] [(.ref a4)])) rfl rfl (hb hby dj68_9_4)) ?_
  rw [len_of S191 Nn191]
  refine oG.st (fun _ k => XS.aloadN X190.here hx rfl (hb hby dj68_9_5) rfl rfl k) ?_
  show oG _ _ _ _ (T190.setTop (mkF m 6 #[.val (.ref a1), .val (.int p2), .unset] [(.ref a1), (.int (Int32.ofNat cap))]))
  obtain ⟨T192, X192, e192, st192⟩ := getF X190 hx hZ hown (host := "") (Or.inl (own_w hw 115 rfl)) Via.refl e190 p2_ (g := (mkF m 6 #[.val (.ref a1), .val (.int p2), .unset] [(.ref a1), (.int (Int32.ofNat cap))])) rfl rfl (hb hby dj68_9_6)
  refine oG.st st192 ?_
  refine oG.st (fun _ k => XS.ishr X192.here hx rfl (hb hby dj68_9_9) rfl k) ?_
  show oG _ _ _ _ (T192.setTop (mkF m 10 #[.val (.ref a1), .val (.int p2), .unset] [(.int ((Int32.ofNat cap) >>> ((0 : Int32) &&& 31)))]))
  rw [own_shr0]
  refine oG.st (fun _ k => XS.istoreN X192.here hx rfl (hb hby dj68_9_10) rfl (l' := #[.val (.ref a1), .val (.int p2), .val (.int (Int32.ofNat cap))]) rfl (XS.iloadN X192.here hx rfl (hb hby dj68_9_11) rfl (XS.iloadN X192.here hx rfl (hb hby dj68_9_12) rfl (XS.isub X192.here hx rfl (hb hby dj68_9_13) rfl k)))) ?_
  show oG _ _ _ _ (T192.setTop (mkF m 14 #[.val (.ref a1), .val (.int p2), .val (.int (Int32.ofNat cap))] [(.int (p2 - (Int32.ofNat cap)))]))
  by_cases h14 : (0 : Int32) < (p2 - (Int32.ofNat cap))
  ·
    refine oG.st (fun _ k => XS.ifNo X192.here hx rfl (hb hby dj68_9_14) rfl ((if0 _ _).trans (tlt h14).2.2.2) k) ?_
    have hgr : cap = cs.length := by
      rw [hp2] at h14
      have := (own_ofBle (by omega) (by omega)).mp h14
      omega
    refine oG.st (fun _ k => XS.aloadN X192.here hx rfl (hb hby dj68_9_17) rfl rfl (XS.aloadN X192.here hx rfl (hb hby dj68_9_18) rfl rfl k)) ?_
    show oG _ _ _ _ (T192.setTop (mkF m 19 #[.val (.ref a1), .val (.int p2), .val (.int (Int32.ofNat cap))] [(.ref a1), (.ref a1)]))
    obtain ⟨T193, X193, e193, st193⟩ := getF X192 hx hZ hown (host := "") (Or.inl (own_w hw 113 rfl)) Via.refl e192 p1_ (g := (mkF m 19 #[.val (.ref a1), .val (.int p2), .val (.int (Int32.ofNat cap))] [(.ref a1), (.ref a1)])) rfl rfl (hb hby dj68_9_19)
    refine oG.st st193 ?_
    refine oG.st (fun _ k => XS.aloadN X193.here hx rfl (hb hby dj68_9_22) rfl rfl (XS.iloadN X193.here hx rfl (hb hby dj68_9_23) rfl k)) ?_
    show oG _ _ _ _ (T193.setTop (mkF m 24 #[.val (.ref a1), .val (.int p2), .val (.int (Int32.ofNat cap))] [(.int p2), (.ref a1), (.ref a4), (.ref a1)]))
    obtain ⟨cq194, q194, q194'⟩ := p0_.cell
    obtain ⟨_, _, ⟨T194, L194, k194, n194⟩, -, X194, ⟨Lc194, hQ194, l194, y194, z194⟩, st194⟩ := X193.privateBack hx (y := mN12) hown (own_v hZ hw 145 rfl) (own_v hZ hw 146 rfl) (own_selP (own_v hZ hw 148 rfl) (Cond.privateMethod_at (mvP hZ (own_w hw 147 rfl) (args := #[]))) (own_v hZ hw 146 rfl) (by decide)) (Cond.privateMethod_at (mvP hZ (own_w hw 147 rfl) (args := #[]))) (own_v hZ hw 149 rfl) (by decide) (backOf (W := 2) (rm_newCap l Z a0 hw [] a1 p2 cap a4 k (own_low cs) h0 OL p1_ p2_ p4_ (by rw [hp2, hgr]) (by omega)) hZ (own_w hw 149 rfl) (own_w hw 109 rfl) (by decide) (by decide)) (g := (mkF m 24 #[.val (.ref a1), .val (.int p2), .val (.int (Int32.ofNat cap))] [(.int p2), (.ref a1), (.ref a4), (.ref a1)])) rfl (by rw [hml]; rfl) (Steps.refl _) (a := a1) (own_rwE e193 q194) q194' (argsL := [(.int p2)]) (rest := [(.ref a4), (.ref a1)]) (lenOf pd_168 rfl) rfl (by show 2 * 0 + _ ≤ _; exact Nat.le_of_eq rfl) (hb hby dj68_9_24) (fun _ _ => ⟨rfl, e193, (by decide : 0 + 0 ≤ _), (by decide : 0 + 0 ≤ _)⟩)
    dsimp only [Pt.U, Pt.locs, Pt.cells, Pt.slots] at X194 l194 y194 z194 st194 hQ194
    subst l194 y194 z194
    obtain ⟨rfl, N194q, K194⟩ := hQ194
    have N194 := Fr.app N0 N194q
    refine oG.tr st194 ?_
    refine oG.st (fun _ k => XS.aloadN X194.here hx rfl (hb hby dj68_9_27) rfl rfl k) ?_
    show oG _ _ _ _ (T194.setTop (mkF m 28 #[.val (.ref a1), .val (.int p2), .val (.int (Int32.ofNat cap))] [(.ref a1), (.int (Int32.ofNat (2 * cap + 2))), (.ref a4), (.ref a1)]))
    obtain ⟨T195, X195, e195, st195⟩ := getF X194 hx hZ hown (host := "") (Or.inl (own_w hw 115 rfl)) Via.refl K194 p2_ (g := (mkF m 28 #[.val (.ref a1), .val (.int p2), .val (.int (Int32.ofNat cap))] [(.ref a1), (.int (Int32.ofNat (2 * cap + 2))), (.ref a4), (.ref a1)])) rfl rfl (hb hby dj68_9_28)
    refine oG.st st195 ?_
    refine oG.st (fun _ k => XS.ishl X195.here hx rfl (hb hby dj68_9_31) rfl k) ?_
    show oG _ _ _ _ (T195.setTop (mkF m 32 #[.val (.ref a1), .val (.int p2), .val (.int (Int32.ofNat cap))] [(.int ((Int32.ofNat (2 * cap + 2)) <<< ((0 : Int32) &&& 31))), (.ref a4), (.ref a1)]))
    rw [own_shl0]
    show oG _ _ _ _ (T195.setTop (mkF m 32 #[.val (.ref a1), .val (.int p2), .val (.int (Int32.ofNat cap))] [(.int (Int32.ofNat (2 * cap + 2))), (.ref a4), (.ref a1)]))
    obtain ⟨_, _, ⟨T196, L196, k196, n196⟩, -, X196, ⟨Lc196, hQ196, l196, y196, z196⟩, st196⟩ := Jvm.LawKit.callS X195 hx (y := mN43) hown (own_v hZ hw 160 rfl) (own_v hZ hw 161 rfl) (own_v hZ hw 162 rfl) (own_v hZ hw 163 rfl) (by decide) (backOf (W := 1) (rm_copyOfG l Z a0 hw [] a4 (Int32.ofNat (2 * cap + 2)) cs cap k h0 OL p4_ rfl hcs (by omega)) hZ (own_w hw 163 rfl) (own_w hw 162 rfl) (by decide) (by decide)) (g := (mkF m 32 #[.val (.ref a1), .val (.int p2), .val (.int (Int32.ofNat cap))] [(.int (Int32.ofNat (2 * cap + 2))), (.ref a4), (.ref a1)])) rfl (by rw [hml]; rfl) (argsL := [(.ref a4), (.int (Int32.ofNat (2 * cap + 2)))]) (rest := [(.ref a1)]) (lenOf pd_173 rfl) rfl (by show 2 * 0 + _ ≤ _; exact Nat.le_of_eq rfl) (hb hby dj68_9_32) (fun _ _ => ⟨rfl, e195, (by decide : 0 + 1 ≤ _), (by decide : 0 + 18 ≤ _)⟩)
    dsimp only [Pt.U, Pt.locs, Pt.cells, Pt.slots] at X196 l196 y196 z196 st196 hQ196
    subst l196 y196 z196
    obtain ⟨x_196, kx_196, rfl, N196q, K196, f196_0, pr196_0, pr196_1⟩ := hQ196
    have N196 := Fr.app N194 N196q
    have z196 : h0.size ≤ T196.heap.size := K196.1
    have lt196_0 : @LT.lt Nat _ x_196 T196.heap.size := f196_0.lt
    refine oG.st st196 ?_
    show oG _ _ _ _ (T196.setTop (mkF m 35 #[.val (.ref a1), .val (.int p2), .val (.int (Int32.ofNat cap))] [(.ref x_196), (.ref a1)]))
    have f197 : Fld Z T196.heap a1 "java/lang/AbstractStringBuilder" "value" "[B" (.ref a4) := p1_.keep K196 nin0
    have f198 : Exa Z T196.heap a1 "java/lang/StringBuilder" := p0_.keep K196
    obtain ⟨T199, h199, X199, e199, W199, st199⟩ := putF X196 hx hZ hown (host := "") (Or.inl (own_w hw 113 rfl)) Via.refl rfl f197 f198 (Or.inl (own_w hw 114 rfl)) (own_w hw 100 rfl) (ty := (.array .byte)) (by decide) rfl rfl (g := (mkF m 35 #[.val (.ref a1), .val (.int p2), .val (.int (Int32.ofNat cap))] [(.ref x_196), (.ref a1)])) rfl rfl (hb hby dj68_9_35)
    refine oG.st st199 ?_
    have N199 := Fr.snoc X199 N196 (by omega)
    have z199 : T196.heap.size ≤ h199.size := Nat.le_of_eq W199.size.symm
    have f200 : Fld Z h199 a1 "java/lang/AbstractStringBuilder" "value" "[B" (.ref x_196) := f197.same W199
    show oG _ _ _ _ (T199.setTop (mkF m 38 #[.val (.ref a1), .val (.int p2), .val (.int (Int32.ofNat cap))] []))
    obtain ⟨fs201, hr201, hrun201, hend201, hW201, hsm201⟩ := X199.leave (v := none) (fun _ => rfl)
    have f202 : Exa Z h199 a1 "java/lang/StringBuilder" := f198.wr W199
    have f203 : Fld Z T196.heap a1 "java/lang/AbstractStringBuilder" "coder" "B" (.int (0 : Int32)) := p2_.keep K196 nin0
    have f204 : Fld Z h199 a1 "java/lang/AbstractStringBuilder" "coder" "B" (.int (0 : Int32)) := f203.other W199 (Or.inr (slot_ne (Or.inl (own_w hw 116 rfl)) (Or.inl (own_w hw 114 rfl)) (by decide) (t := .byte) (t' := (.array .byte)) (by decide) (by decide)))
    have f205 : Fld Z T196.heap a1 "java/lang/AbstractStringBuilder" "count" "I" (.int n1) := p3_.keep K196 nin0
    have f206 : Fld Z h199 a1 "java/lang/AbstractStringBuilder" "count" "I" (.int n1) := f205.other W199 (Or.inr (slot_ne (Or.inl (own_w hw 131 rfl)) (Or.inl (own_w hw 114 rfl)) (by decide) (t := .int) (t' := (.array .byte)) (by decide) (by decide)))
    have ne207 : @Ne Nat a1 x_196 := Exa.neArv f198 f196_0 (own_w hw 100 rfl)
    have f208 : Arv Z h199 x_196 kx_196 .byte (Int32.ofNat (2 * cap + 2)) (own_low cs) (.int (0 : Int32)) := f196_0.other W199 (Ne.symm ne207)
    have K209 : Keep h0 T196.heap [a1] := (Keep.refl h0 [a1]).trans K196 all0
    have K210 : Keep h0 h199 [a1] := K209.wr W199 (Or.inl (List.mem_of_getElem? (i := 0) rfl))
    subst hPP
    refine ⟨_, _, X199.returnOut hx Bd.returns (hb hby dj68_9_38) hr201, hrun201, hend201, _, _, rfl, ?_, ⟨_, rfl⟩, hW201, hsm201.mono (by decide) (by decide)⟩
    · show Q_ensureC Z _ _ _ _ _ _ _ h0 _ T199.heap _
      rw [e199]
      exact ⟨x_196, (2 * cap + 2), kx_196, rfl, N199, K210, f202, f200, f204, f206, f208, (by omega), (by omega), pr196_1, (Or.inr (by omega))⟩
  ·
    refine oG.st (fun _ k => XS.ifYes X192.here hx rfl (pc0 := 14) (pc' := 38) rfl (hb hby dj68_9_14) rfl ((if0 _ _).trans (flt h14).2.2.2) (by decide) (by decide) k) ?_
    have hgr : cs.length < cap := by
      have : ¬ cap < cs.length + 1 := fun q => h14 (by rw [hp2]; exact (own_ofBle (by omega) (by omega)).mpr q)
      omega
    show oG _ _ _ _ (T192.setTop (mkF m 38 #[.val (.ref a1), .val (.int p2), .val (.int (Int32.ofNat cap))] []))
    obtain ⟨fs211, hr211, hrun211, hend211, hW211, hsm211⟩ := X192.leave (v := none) (fun _ => rfl)
    subst hPP
    refine ⟨_, _, X192.returnOut hx Bd.returns (hb hby dj68_9_38) hr211, hrun211, hend211, _, _, rfl, ?_, ⟨_, rfl⟩, hW211, hsm211.mono (by decide) (by decide)⟩
    · show Q_ensureC Z _ _ _ _ _ _ _ h0 _ T192.heap _
      rw [e192]
      exact ⟨a4, cap, k, rfl, N0, (Keep.refl h0 [a1]), p0_, p1_, p2_, p3_, p4_, hgr, hcap, hkb, (Or.inl rfl)⟩
theorem pn_177 : plainName "java/lang/StringLatin1" = true := by first | (simp [plainName, overriddenIn]; done) | decide +kernel
theorem ef_178 (m : MethodId) (x0 : Int32) : entryFrame m #[(.int x0)] 1 = mkF m 0 #[.val (.int x0)] [] := by first | (simp [entryFrame, mkF, argsToLocals, Value.category]; done) | rfl
theorem dj43_3_0 : decode cJ14 0 = .ok (.iload_n 0, 1) := by decide +kernel
theorem dj43_3_1 : decode cJ14 1 = .ok (.sipush 255, 3) := by decide +kernel
theorem dj43_3_4 : decode cJ14 4 = .ok (.if_icmp .gt 7, 3) := by decide +kernel
theorem dj43_3_7 : decode cJ14 7 = .ok (.iconst 1, 1) := by decide +kernel
theorem dj43_3_8 : decode cJ14 8 = .ok (.goto 4, 3) := by decide +kernel
theorem dj43_3_12 : decode cJ14 12 = .ok (.ireturn, 1) := by decide +kernel
def Q_canEncC (Z : State) (p1 : Int32) (h0 : Heap) (v : Option Value) (h : Heap) (L : List Loc) : Prop := v = some (.int (1 : Int32)) ∧ Fr Z.heap.size L ∧ h = h0
set_option maxRecDepth 65536 in
set_option maxHeartbeats 40000000 in
theorem rm_canEncC (l : Launch) (Z : State) (a0 : Array Value) (hw : ∀ d ∈ tables_1, d.before a0 Z = true) (ws : List Jvm.Cond) (p1 : Int32) (h0 : Heap) (OL : Old Z Z.heap.size h0) (h : ¬ (255 : Int32) < p1) :
    MetFree l mN35 (head1 (Jvm.Cond.code mN35 jdk_43_method_3_code 1 (some .boolean) :: ws) rM0) (fun a U => a = #[(.int p1)] ∧ Z.Warmed39 U.vm ∧ U.heap = h0) (fun _ _ _ _ _ => True) (fun _ U o U' => ∃ v L, o = .returned v ∧ Q_canEncC Z p1 h0 v U'.heap L ∧ FrameEnd U o U' L rM0.cells rM0.slots) := by
  refine MetFree.of_bodySF (plainFor_of_name pn_177) hisR ?_
  intro p e s m args below meth c s₁ Bd hml0 hP hK
  obtain ⟨rfl, hZ, hh⟩ := hP
  have hx := Bd.exec
  have hby := Bd.bytes
  have hml : c.maxLocals = 1 := hml0
  have hown : s.vm.findClass "java/lang/StringLatin1" = some m.cls := findClass_of_methodNamed Bd.named
  have hnm := (name_of_methodNamed Bd.named Bd.method).1
  have X0 : Stand p l e rM0 s m #[(.int p1)] below meth c s₁ [] 0 0 := Stand.of_body Bd
  have e0 : s₁.heap = h0 := by rw [← hh, Bd.state]; rfl
  have N0 := Fr.nil Z.heap.size
  have Z0 : Z.heap.size ≤ h0.size := OL.2.1
  show oG p.tables e below (fun o tE => ∃ v L, o = .returned v ∧ Q_canEncC Z p1 h0 v tE.heap L ∧ FrameEnd s o tE L rM0.cells rM0.slots) (s₁.setTop (entryFrame m #[(.int p1)] 1))
  refine own_hd (fun PP hPP => ?_)
  refine oG.st (fun t k => castTop (ef_178 m p1) k) ?_
  refine oG.st (fun _ k => XS.iloadN X0.here hx rfl (hb hby dj43_3_0) rfl (XS.sipush X0.here hx rfl (hb hby dj43_3_1) k)) ?_
  show oG _ _ _ _ (s₁.setTop (mkF m 4 #[.val (.int p1)] [(.int (255 : Int32)), (.int p1)]))
  have hc212 : ¬ ((255 : Int32) < p1) := h
  refine oG.st (fun _ k => XS.icmpNo X0.here hx rfl (hb hby dj43_3_4) rfl (flt hc212).2.2.1 k) ?_
  refine oG.st (fun _ k => XS.iconst X0.here hx rfl (hb hby dj43_3_7) (XS.goto X0.here hx rfl (pc0 := 8) (pc' := 12) rfl (hb hby dj43_3_8) (by decide) (by decide) k)) ?_
  show oG _ _ _ _ (s₁.setTop (mkF m 12 #[.val (.int p1)] [(.int (1 : Int32))]))
  obtain ⟨fs213, hr213, hrun213, hend213, hW213, hsm213⟩ := X0.leave (v := some (.int (nar .boolean (1 : Int32)))) (fun h => by rw [Bd.returns] at h; cases h)
  subst hPP
  refine ⟨_, _, retN X0 hx (t := .boolean) Bd.returns (by simp) (hb hby dj43_3_12) hr213, hrun213, hend213, _, _, rfl, ?_, ⟨_, rfl⟩, hW213, hsm213.mono (by decide) (by decide)⟩
  · show Q_canEncC Z _ h0 _ s₁.heap _
    rw [e0]
    exact ⟨rfl, N0, rfl⟩
theorem ef_185 (m : MethodId) (x0 : Nat) : entryFrame m #[(.ref x0)] 1 = mkF m 0 #[.val (.ref x0)] [] := by first | (simp [entryFrame, mkF, argsToLocals, Value.category]; done) | rfl
theorem dj68_68_0 : decode cJ28 0 = .ok (.getstatic 18, 3) := by decide +kernel
theorem dj68_68_3 : decode cJ28 3 = .ok (.ifCond .eq 14, 3) := by decide +kernel
theorem dj68_68_6 : decode cJ28 6 = .ok (.aload_n 0, 1) := by decide +kernel
theorem dj68_68_7 : decode cJ28 7 = .ok (.getfield 22, 3) := by decide +kernel
theorem dj68_68_10 : decode cJ28 10 = .ok (.ifCond .ne 7, 3) := by decide +kernel
theorem dj68_68_13 : decode cJ28 13 = .ok (.iconst 1, 1) := by decide +kernel
theorem dj68_68_14 : decode cJ28 14 = .ok (.goto 4, 3) := by decide +kernel
theorem dj68_68_18 : decode cJ28 18 = .ok (.ireturn, 1) := by decide +kernel
def Q_asbl1 (Z : State) (a1 : Nat) (zc : Int32) (h0 : Heap) (v : Option Value) (h : Heap) (L : List Loc) : Prop := v = some (.int (1 : Int32)) ∧ Fr Z.heap.size L ∧ h = h0
set_option maxRecDepth 65536 in
set_option maxHeartbeats 40000000 in
theorem rm_asbl1 (l : Launch) (Z : State) (a0 : Array Value) (hw : ∀ d ∈ tables_1, d.before a0 Z = true) (ws : List Jvm.Cond) (a1 : Nat) (zc : Int32) (h0 : Heap) (OL : Old Z Z.heap.size h0) (p0_ : Fld Z h0 a1 "java/lang/AbstractStringBuilder" "coder" "B" (.int (0 : Int32))) (st_C : Sta Z Z.heap "java/lang/String" "COMPACT_STRINGS" "Z" (.int zc)) (hzc : ¬ zc = 0) :
    MetFree l mN10 (head1 (Jvm.Cond.code mN10 jdk_68_method_68_code 1 (some .boolean) :: ws) rM0) (fun a U => a = #[(.ref a1)] ∧ Z.Warmed39 U.vm ∧ U.heap = h0) (fun _ _ _ _ _ => True) (fun _ U o U' => ∃ v L, o = .returned v ∧ Q_asbl1 Z a1 zc h0 v U'.heap L ∧ FrameEnd U o U' L rM0.cells rM0.slots) := by
  refine MetFree.of_bodySF (plainFor_of_name pn_56) hisR ?_
  intro p e s m args below meth c s₁ Bd hml0 hP hK
  obtain ⟨rfl, hZ, hh⟩ := hP
  have hx := Bd.exec
  have hby := Bd.bytes
  have hml : c.maxLocals = 1 := hml0
  have hown : s.vm.findClass "java/lang/AbstractStringBuilder" = some m.cls := findClass_of_methodNamed Bd.named
  have hnm := (name_of_methodNamed Bd.named Bd.method).1
  have X0 : Stand p l e rM0 s m #[(.ref a1)] below meth c s₁ [] 0 0 := Stand.of_body Bd
  have e0 : s₁.heap = h0 := by rw [← hh, Bd.state]; rfl
  have N0 := Fr.nil Z.heap.size
  have Z0 : Z.heap.size ≤ h0.size := OL.2.1
  have lt_0 : @LT.lt Nat _ a1 h0.size := p0_.lt
  show oG p.tables e below (fun o tE => ∃ v L, o = .returned v ∧ Q_asbl1 Z a1 zc h0 v tE.heap L ∧ FrameEnd s o tE L rM0.cells rM0.slots) (s₁.setTop (entryFrame m #[(.ref a1)] 1))
  refine own_hd (fun PP hPP => ?_)
  refine oG.st (fun t k => castTop (ef_185 m a1) k) ?_
  show oG _ _ _ _ (s₁.setTop (mkF m 0 #[.val (.ref a1)] []))
  obtain ⟨T214, X214, e214, st214⟩ := getS2 X0 hx hZ hown (host := "") (Or.inl (own_w hw 112 rfl)) Via.refl e0 (st_C.ext OL.2) (g := (mkF m 0 #[.val (.ref a1)] [])) rfl (hb hby dj68_68_0)
  refine oG.st st214 ?_
  show oG _ _ _ _ (T214.setTop (mkF m 3 #[.val (.ref a1)] [(.int zc)]))
  have hc215 : ¬ (zc = (0 : Int32)) := hzc
  refine oG.st (fun _ k => XS.ifNo X214.here hx rfl (hb hby dj68_68_3) rfl ((if0 _ _).trans (feq hc215).1) k) ?_
  refine oG.st (fun _ k => XS.aloadN X214.here hx rfl (hb hby dj68_68_6) rfl rfl k) ?_
  show oG _ _ _ _ (T214.setTop (mkF m 7 #[.val (.ref a1)] [(.ref a1)]))
  obtain ⟨T216, X216, e216, st216⟩ := getF X214 hx hZ hown (host := "") (Or.inl (own_w hw 115 rfl)) Via.refl e214 p0_ (g := (mkF m 7 #[.val (.ref a1)] [(.ref a1)])) rfl rfl (hb hby dj68_68_7)
  refine oG.st st216 ?_
  show oG _ _ _ _ (T216.setTop (mkF m 10 #[.val (.ref a1)] [(.int (0 : Int32))]))
  refine oG.st (fun _ k => XS.ifNo X216.here hx rfl (hb hby dj68_68_10) rfl ((if0 _ _).trans (teq (rfl : (0 : Int32) = (0 : Int32))).2) k) ?_
  refine oG.st (fun _ k => XS.iconst X216.here hx rfl (hb hby dj68_68_13) (XS.goto X216.here hx rfl (pc0 := 14) (pc' := 18) rfl (hb hby dj68_68_14) (by decide) (by decide) k)) ?_
  show oG _ _ _ _ (T216.setTop (mkF m 18 #[.val (.ref a1)] [(.int (1 : Int32))]))
  obtain ⟨fs217, hr217, hrun217, hend217, hW217, hsm217⟩ := X216.leave (v := some (.int (nar .boolean (1 : Int32)))) (fun h => by rw [Bd.returns] at h; cases h)
  subst hPP
  refine ⟨_, _, retN X216 hx (t := .boolean) Bd.returns (by simp) (hb hby dj68_68_18) hr217, hrun217, hend217, _, _, rfl, ?_, ⟨_, rfl⟩, hW217, hsm217.mono (by decide) (by decide)⟩
  · show Q_asbl1 Z _ _ h0 _ T216.heap _
    rw [e216]
    exact ⟨rfl, N0, rfl⟩
theorem dj68_31_0 : decode cJ27 0 = .ok (.aload_n 0, 1) := by decide +kernel
theorem dj68_31_1 : decode cJ27 1 = .ok (.aload_n 0, 1) := by decide +kernel
theorem dj68_31_2 : decode cJ27 2 = .ok (.getfield 79, 3) := by decide +kernel
theorem dj68_31_5 : decode cJ27 5 = .ok (.iconst 1, 1) := by decide +kernel
theorem dj68_31_6 : decode cJ27 6 = .ok (.iadd, 1) := by decide +kernel
theorem dj68_31_7 : decode cJ27 7 = .ok (.invokevirtual 100, 3) := by decide +kernel
theorem dj68_31_10 : decode cJ27 10 = .ok (.aload_n 0, 1) := by decide +kernel
theorem pd_201 : parseMethodDescriptor "()Z" = some ⟨[], some .boolean⟩ := by decide +kernel
theorem dj68_31_11 : decode cJ27 11 = .ok (.invokevirtual 83, 3) := by decide +kernel
theorem dj68_31_14 : decode cJ27 14 = .ok (.ifCond .eq 31, 3) := by decide +kernel
theorem dj68_31_17 : decode cJ27 17 = .ok (.iload_n 1, 1) := by decide +kernel
theorem pd_205 : parseMethodDescriptor "(C)Z" = some ⟨[.char], some .boolean⟩ := by decide +kernel
theorem dj68_31_18 : decode cJ27 18 = .ok (.invokestatic 191, 3) := by decide +kernel
theorem dj68_31_21 : decode cJ27 21 = .ok (.ifCond .eq 24, 3) := by decide +kernel
theorem dj68_31_24 : decode cJ27 24 = .ok (.aload_n 0, 1) := by decide +kernel
theorem dj68_31_25 : decode cJ27 25 = .ok (.getfield 15, 3) := by decide +kernel
theorem dj68_31_28 : decode cJ27 28 = .ok (.aload_n 0, 1) := by decide +kernel
theorem dj68_31_29 : decode cJ27 29 = .ok (.dup, 1) := by decide +kernel
theorem dj68_31_30 : decode cJ27 30 = .ok (.getfield 79, 3) := by decide +kernel
theorem dj68_31_33 : decode cJ27 33 = .ok (.dup_x1, 1) := by decide +kernel
theorem dj68_31_34 : decode cJ27 34 = .ok (.iconst 1, 1) := by decide +kernel
theorem dj68_31_35 : decode cJ27 35 = .ok (.iadd, 1) := by decide +kernel
theorem dj68_31_36 : decode cJ27 36 = .ok (.putfield 79, 3) := by decide +kernel
theorem dj68_31_39 : decode cJ27 39 = .ok (.iload_n 1, 1) := by decide +kernel
theorem dj68_31_40 : decode cJ27 40 = .ok (.i2b, 1) := by decide +kernel
theorem dj68_31_41 : decode cJ27 41 = .ok (.bastore, 1) := by decide +kernel
theorem dj68_31_42 : decode cJ27 42 = .ok (.goto 33, 3) := by decide +kernel
theorem dj68_31_75 : decode cJ27 75 = .ok (.aload_n 0, 1) := by decide +kernel
theorem dj68_31_76 : decode cJ27 76 = .ok (.areturn, 1) := by decide +kernel
def Q_asbappC (Z : State) (a1 : Nat) (p2 : Int32) (cs : List Int32) (cap : Nat) (k : ClassId) (zc : Int32) (a4 : Nat) (h0 : Heap) (v : Option Value) (h : Heap) (L : List Loc) : Prop := ∃ (a5 : Nat), ∃ (cap2 : Nat), ∃ (k2 : ClassId), v = some (.ref a1) ∧ Fr Z.heap.size L ∧ Keep h0 h [a1, a4] ∧ Exa Z h a1 "java/lang/StringBuilder" ∧ Fld Z h a1 "java/lang/AbstractStringBuilder" "value" "[B" (.ref a5) ∧ Fld Z h a1 "java/lang/AbstractStringBuilder" "coder" "B" (.int (0 : Int32)) ∧ Fld Z h a1 "java/lang/AbstractStringBuilder" "count" "I" (.int (Int32.ofNat (cs ++ [p2]).length)) ∧ Arv Z h a5 k2 .byte (Int32.ofNat cap2) (own_low (cs ++ [p2])) (.int (0 : Int32)) ∧ ((cs ++ [p2]).length ≤ cap2) ∧ (cap2 ≤ 18) ∧ (Z.vm.findClass "[B" = some k2) ∧ (own_New a5 a4 h0.size)
set_option maxRecDepth 65536 in
set_option maxHeartbeats 40000000 in
theorem rm_asbappC (l : Launch) (Z : State) (a0 : Array Value) (hw : ∀ d ∈ tables_1, d.before a0 Z = true) (ws : List Jvm.Cond) (a1 : Nat) (p2 : Int32) (cs : List Int32) (cap : Nat) (k : ClassId) (zc : Int32) (a4 : Nat) (h0 : Heap) (OL : Old Z Z.heap.size h0) (p0_ : Exa Z h0 a1 "java/lang/StringBuilder") (p1_ : Fld Z h0 a1 "java/lang/AbstractStringBuilder" "value" "[B" (.ref a4)) (p2_ : Fld Z h0 a1 "java/lang/AbstractStringBuilder" "coder" "B" (.int (0 : Int32))) (p3_ : Fld Z h0 a1 "java/lang/AbstractStringBuilder" "count" "I" (.int (Int32.ofNat cs.length))) (p4_ : Arv Z h0 a4 k .byte (Int32.ofNat cap) (own_low cs) (.int (0 : Int32))) (st_C : Sta Z Z.heap "java/lang/String" "COMPACT_STRINGS" "Z" (.int zc)) (hzc : ¬ zc = 0) (hp2 : ¬ (255 : Int32) < p2) (hN : cs.length < 9) (hcs : cs.length ≤ cap) (hcap : cap ≤ 18) (hkb : Z.vm.findClass "[B" = some k) (hn0 : Z.heap.size ≤ a1) (hn4 : Z.heap.size ≤ a4) :
    MetFree l mN7 (head1 (Jvm.Cond.code mN7 jdk_68_method_31_code 2 (some (.object "java/lang/AbstractStringBuilder")) :: ws) rM21) (fun a U => a = #[(.ref a1), (.int p2)] ∧ Z.Warmed39 U.vm ∧ U.heap = h0) (fun _ _ _ _ _ => True) (fun _ U o U' => ∃ v L, o = .returned v ∧ Q_asbappC Z a1 p2 cs cap k zc a4 h0 v U'.heap L ∧ FrameEnd U o U' L rM21.cells rM21.slots) := by
  refine MetFree.of_bodySF (plainFor_of_name pn_56) hisR ?_
  intro p e s m args below meth c s₁ Bd hml0 hP hK
  obtain ⟨rfl, hZ, hh⟩ := hP
  have hx := Bd.exec
  have hby := Bd.bytes
  have hml : c.maxLocals = 2 := hml0
  have hown : s.vm.findClass "java/lang/AbstractStringBuilder" = some m.cls := findClass_of_methodNamed Bd.named
  have hnm := (name_of_methodNamed Bd.named Bd.method).1
  have X0 : Stand p l e rM21 s m #[(.ref a1), (.int p2)] below meth c s₁ [] 0 0 := Stand.of_body Bd
  have e0 : s₁.heap = h0 := by rw [← hh, Bd.state]; rfl
  have N0 := Fr.nil Z.heap.size
  have Z0 : Z.heap.size ≤ h0.size := OL.2.1
  have lt_0 : @LT.lt Nat _ a1 h0.size := p0_.lt
  have lt_1 : @LT.lt Nat _ a1 h0.size := p1_.lt
  have lt_2 : @LT.lt Nat _ a1 h0.size := p2_.lt
  have lt_3 : @LT.lt Nat _ a1 h0.size := p3_.lt
  have lt_4 : @LT.lt Nat _ a4 h0.size := p4_.lt
  show oG p.tables e below (fun o tE => ∃ v L, o = .returned v ∧ Q_asbappC Z a1 p2 cs cap k zc a4 h0 v tE.heap L ∧ FrameEnd s o tE L rM21.cells rM21.slots) (s₁.setTop (entryFrame m #[(.ref a1), (.int p2)] 2))
  refine own_hd (fun PP hPP => ?_)
  refine oG.st (fun t k => castTop (ef_57 m a1 p2) k) ?_
  refine oG.st (fun _ k => XS.aloadN X0.here hx rfl (hb hby dj68_31_0) rfl rfl (XS.aloadN X0.here hx rfl (hb hby dj68_31_1) rfl rfl k)) ?_
  show oG _ _ _ _ (s₁.setTop (mkF m 2 #[.val (.ref a1), .val (.int p2)] [(.ref a1), (.ref a1)]))
  obtain ⟨T218, X218, e218, st218⟩ := getF X0 hx hZ hown (host := "") (Or.inl (own_w hw 130 rfl)) Via.refl e0 p3_ (g := (mkF m 2 #[.val (.ref a1), .val (.int p2)] [(.ref a1), (.ref a1)])) rfl rfl (hb hby dj68_31_2)
  refine oG.st st218 ?_
  refine oG.st (fun _ k => XS.iconst X218.here hx rfl (hb hby dj68_31_5) (XS.iadd X218.here hx rfl (hb hby dj68_31_6) rfl k)) ?_
  show oG _ _ _ _ (T218.setTop (mkF m 7 #[.val (.ref a1), .val (.int p2)] [(.int ((Int32.ofNat cs.length) + (1 : Int32))), (.ref a1)]))
  rw [own_ofS (by omega)]
  show oG _ _ _ _ (T218.setTop (mkF m 7 #[.val (.ref a1), .val (.int p2)] [(.int (Int32.ofNat (cs.length + 1))), (.ref a1)]))
  obtain ⟨cq219, q219, q219'⟩ := p0_.cell
  obtain ⟨_, _, ⟨T219, L219, k219, n219⟩, -, X219, ⟨Lc219, hQ219, l219, y219, z219⟩, st219⟩ := X218.privateBack hx (y := mN8) hown (own_v hZ hw 132 rfl) (own_v hZ hw 133 rfl) (own_selP (own_v hZ hw 135 rfl) (Cond.privateMethod_at (mvP hZ (own_w hw 134 rfl) (args := #[]))) (own_v hZ hw 133 rfl) (by decide)) (Cond.privateMethod_at (mvP hZ (own_w hw 134 rfl) (args := #[]))) (own_v hZ hw 136 rfl) (by decide) (backOf (W := 0) (rm_ensureC l Z a0 hw [] a1 (Int32.ofNat (cs.length + 1)) cs cap a4 k (Int32.ofNat cs.length) h0 OL p0_ p1_ p2_ p3_ p4_ rfl hN hcs hcap hkb hn0) hZ (own_w hw 136 rfl) (own_w hw 109 rfl) (by decide) (by decide)) (g := (mkF m 7 #[.val (.ref a1), .val (.int p2)] [(.int (Int32.ofNat (cs.length + 1))), (.ref a1)])) rfl (by rw [hml]; rfl) (Steps.refl _) (a := a1) (own_rwE e218 q219) q219' (argsL := [(.int (Int32.ofNat (cs.length + 1)))]) (rest := []) (lenOf pd_74 rfl) rfl (by show 2 * 0 + _ ≤ _; exact Nat.le_of_eq rfl) (hb hby dj68_31_7) (fun _ _ => ⟨rfl, e218, (by decide : 0 + 1 ≤ _), (by decide : 0 + 18 ≤ _)⟩)
  dsimp only [Pt.U, Pt.locs, Pt.cells, Pt.slots] at X219 l219 y219 z219 st219 hQ219
  subst l219 y219 z219
  obtain ⟨a5_219, cap2_219, k2_219, rfl, N219q, K219, f219_0, f219_1, f219_2, f219_3, f219_4, pr219_0, pr219_1, pr219_2, pr219_3⟩ := hQ219
  have N219 := Fr.app N0 N219q
  have z219 : h0.size ≤ T219.heap.size := K219.1
  have lt219_0 : @LT.lt Nat _ a1 T219.heap.size := f219_0.lt
  have lt219_1 : @LT.lt Nat _ a1 T219.heap.size := f219_1.lt
  have lt219_2 : @LT.lt Nat _ a1 T219.heap.size := f219_2.lt
  have lt219_3 : @LT.lt Nat _ a1 T219.heap.size := f219_3.lt
  have lt219_4 : @LT.lt Nat _ a5_219 T219.heap.size := f219_4.lt
  have hz5 : Z.heap.size ≤ a5_219 := own_New.le pr219_3 (by omega) (by omega)
  refine oG.tr st219 ?_
  refine oG.st (fun _ k => XS.aloadN X219.here hx rfl (hb hby dj68_31_10) rfl rfl k) ?_
  show oG _ _ _ _ (T219.setTop (mkF m 11 #[.val (.ref a1), .val (.int p2)] [(.ref a1)]))
  have f221 : Old Z Z.heap.size T219.heap := OL.keep K219 (allS (by omega) all0)
  obtain ⟨cq220, kq220, q220a, q220b, q220c⟩ := isOf hZ rfl f219_0
  obtain ⟨_, _, ⟨T220, L220, k220, n220⟩, -, X220, ⟨Lc220, hQ220, l220, y220, z220⟩, st220⟩ := X219.virtualBack hx (y := mN10) (z := mN10) hown (own_v hZ hw 137 rfl) (own_v hZ hw 138 rfl) (notFace_of_selects (args := #[]) (own_v hZ hw 140 rfl)) (own_v hZ hw 140 rfl) (own_v hZ hw 139 rfl) (by decide) (backOf (W := 0) (rm_asbl1 l Z a0 hw [] a1 zc T219.heap f221 f219_2 st_C hzc) hZ (own_w hw 141 rfl) (own_w hw 109 rfl) (by decide) (by decide)) q220a q220c (g := (mkF m 11 #[.val (.ref a1), .val (.int p2)] [(.ref a1)])) rfl (by rw [hml]; rfl) (Steps.refl _) (argsL := []) (rest := []) (lenOf pd_201 rfl) rfl (by show 2 * 0 + _ ≤ _; exact Nat.le_of_eq rfl) (hb hby dj68_31_11) (fun _ _ => ⟨rfl, rfl, (by decide : 1 + 0 ≤ _), (by decide : 18 + 0 ≤ _)⟩)
  dsimp only [Pt.U, Pt.locs, Pt.cells, Pt.slots] at X220 l220 y220 z220 st220 hQ220
  subst l220 y220 z220
  obtain ⟨rfl, N220q, K220⟩ := hQ220
  have N220 := Fr.app N219 N220q
  refine oG.tr st220 ?_
  show oG _ _ _ _ (T220.setTop (mkF m 14 #[.val (.ref a1), .val (.int p2)] [(.int (1 : Int32))]))
  refine oG.st (fun _ k => XS.ifNo X220.here hx rfl (hb hby dj68_31_14) rfl ((if0 _ _).trans (feq (by decide : ¬ ((1 : Int32) = (0 : Int32)))).1) k) ?_
  refine oG.st (fun _ k => XS.iloadN X220.here hx rfl (hb hby dj68_31_17) rfl k) ?_
  show oG _ _ _ _ (T220.setTop (mkF m 18 #[.val (.ref a1), .val (.int p2)] [(.int p2)]))
  obtain ⟨_, _, ⟨T222, L222, k222, n222⟩, -, X222, ⟨Lc222, hQ222, l222, y222, z222⟩, st222⟩ := Jvm.LawKit.callS X220 hx (y := mN35) hown (own_v hZ hw 142 rfl) (own_v hZ hw 8 rfl) (own_v hZ hw 9 rfl) (own_v hZ hw 10 rfl) (by decide) (backOf (W := 0) (rm_canEncC l Z a0 hw [] p2 T219.heap f221 hp2) hZ (own_w hw 10 rfl) (own_w hw 9 rfl) (by decide) (by decide)) (g := (mkF m 18 #[.val (.ref a1), .val (.int p2)] [(.int p2)])) rfl (by rw [hml]; rfl) (argsL := [(.int p2)]) (rest := []) (lenOf pd_205 rfl) rfl (by show 2 * 0 + _ ≤ _; exact Nat.le_of_eq rfl) (hb hby dj68_31_18) (fun _ _ => ⟨rfl, K220, (by decide : 1 + 0 ≤ _), (by decide : 18 + 0 ≤ _)⟩)
  dsimp only [Pt.U, Pt.locs, Pt.cells, Pt.slots] at X222 l222 y222 z222 st222 hQ222
  subst l222 y222 z222
  obtain ⟨rfl, N222q, K222⟩ := hQ222
  have N222 := Fr.app N220 N222q
  refine oG.st st222 ?_
  show oG _ _ _ _ (T222.setTop (mkF m 21 #[.val (.ref a1), .val (.int p2)] [(.int (1 : Int32))]))
  refine oG.st (fun _ k => XS.ifNo X222.here hx rfl (hb hby dj68_31_21) rfl ((if0 _ _).trans (feq (by decide : ¬ ((1 : Int32) = (0 : Int32)))).1) k) ?_
  refine oG.st (fun _ k => XS.aloadN X222.here hx rfl (hb hby dj68_31_24) rfl rfl k) ?_
  show oG _ _ _ _ (T222.setTop (mkF m 25 #[.val (.ref a1), .val (.int p2)] [(.ref a1)]))
  obtain ⟨T223, X223, e223, st223⟩ := getF X222 hx hZ hown (host := "") (Or.inl (own_w hw 113 rfl)) Via.refl K222 f219_1 (g := (mkF m 25 #[.val (.ref a1), .val (.int p2)] [(.ref a1)])) rfl rfl (hb hby dj68_31_25)
  refine oG.st st223 ?_
  refine oG.st (fun _ k => XS.aloadN X223.here hx rfl (hb hby dj68_31_28) rfl rfl (XS.dup X223.here hx rfl (hb hby dj68_31_29) rfl rfl k)) ?_
  show oG _ _ _ _ (T223.setTop (mkF m 30 #[.val (.ref a1), .val (.int p2)] [(.ref a1), (.ref a1), (.ref a5_219)]))
  obtain ⟨T224, X224, e224, st224⟩ := getF X223 hx hZ hown (host := "") (Or.inl (own_w hw 130 rfl)) Via.refl e223 f219_3 (g := (mkF m 30 #[.val (.ref a1), .val (.int p2)] [(.ref a1), (.ref a1), (.ref a5_219)])) rfl rfl (hb hby dj68_31_30)
  refine oG.st st224 ?_
  refine oG.st (fun _ k => XS.dupX1 X224.here hx rfl (hb hby dj68_31_33) rfl rfl rfl (XS.iconst X224.here hx rfl (hb hby dj68_31_34) (XS.iadd X224.here hx rfl (hb hby dj68_31_35) rfl k))) ?_
  show oG _ _ _ _ (T224.setTop (mkF m 36 #[.val (.ref a1), .val (.int p2)] [(.int ((Int32.ofNat cs.length) + (1 : Int32))), (.ref a1), (.int (Int32.ofNat cs.length)), (.ref a5_219)]))
  rw [show Int32.ofNat cs.length + (1 : Int32) = Int32.ofNat (cs ++ [p2]).length from (own_ofS (by omega)).trans (congrArg Int32.ofNat (by simp))]
  show oG _ _ _ _ (T224.setTop (mkF m 36 #[.val (.ref a1), .val (.int p2)] [(.int (Int32.ofNat (cs ++ [p2]).length)), (.ref a1), (.int (Int32.ofNat cs.length)), (.ref a5_219)]))
  obtain ⟨T225, h225, X225, e225, W225, st225⟩ := putF X224 hx hZ hown (host := "") (Or.inl (own_w hw 130 rfl)) Via.refl e224 f219_3 f219_0 (Or.inl (own_w hw 131 rfl)) (own_w hw 100 rfl) (ty := .int) (by decide) rfl rfl (g := (mkF m 36 #[.val (.ref a1), .val (.int p2)] [(.int (Int32.ofNat (cs ++ [p2]).length)), (.ref a1), (.int (Int32.ofNat cs.length)), (.ref a5_219)])) rfl rfl (hb hby dj68_31_36)
  refine oG.st st225 ?_
  have N225 := Fr.snoc X225 N222 (by omega)
  have z225 : T219.heap.size ≤ h225.size := Nat.le_of_eq W225.size.symm
  have f226 : Fld Z h225 a1 "java/lang/AbstractStringBuilder" "count" "I" (.int (Int32.ofNat (cs ++ [p2]).length)) := f219_3.same W225
  refine oG.st (fun _ k => XS.iloadN X225.here hx rfl (hb hby dj68_31_39) rfl (XS.i2b X225.here hx rfl (hb hby dj68_31_40) rfl k)) ?_
  show oG _ _ _ _ (T225.setTop (mkF m 41 #[.val (.ref a1), .val (.int p2)] [(.int (p2.toInt8.toInt32)), (.int (Int32.ofNat cs.length)), (.ref a5_219)]))
  have ne227 : @Ne Nat a1 a5_219 := Exa.neArv f219_0 f219_4 (own_w hw 100 rfl)
  have f228 : Arv Z h225 a5_219 k2_219 .byte (Int32.ofNat cap2_219) (own_low cs) (.int (0 : Int32)) := f219_4.other W225 (Ne.symm ne227)
  obtain ⟨c229, Ar229, q229, S229, Nn229, H229, G229⟩ := id f228
  have hin229 : ¬ ((Int32.ofNat cs.length) < 0 ∨ c229.slots.size ≤ ((Int32.ofNat cs.length)).toNatClampNeg) := inb_of S229 ⟨own_of0 (by omega), (own_oflt (by omega) (by omega)).mpr (by omega)⟩
  obtain ⟨T229, h229, X229, e229, W229, st229⟩ := stB X225 hx hZ e225 Ar229 (j := (Int32.ofNat cs.length)) hin229 (g := (mkF m 41 #[.val (.ref a1), .val (.int p2)] [(.int (p2.toInt8.toInt32)), (.int (Int32.ofNat cs.length)), (.ref a5_219)])) rfl rfl (hb hby dj68_31_41)
  refine oG.st st229 ?_
  have N229 := Fr.snoc X229 N225 (by omega)
  have z229 : h225.size ≤ h229.size := Nat.le_of_eq W229.size.symm
  have f231 : Arv Z h229 a5_219 k2_219 .byte (Int32.ofNat cap2_219) (own_low (cs ++ [p2])) (.int (0 : Int32)) := own_pushB f228 W229 rfl (by omega)
  refine oG.st (fun _ k => XS.goto X229.here hx rfl (pc0 := 42) (pc' := 75) rfl (hb hby dj68_31_42) (by decide) (by decide) (XS.aloadN X229.here hx rfl (hb hby dj68_31_75) rfl rfl k)) ?_
  show oG _ _ _ _ (T229.setTop (mkF m 76 #[.val (.ref a1), .val (.int p2)] [(.ref a1)]))
  obtain ⟨fs232, hr232, hrun232, hend232, hW232, hsm232⟩ := X229.leave (v := some (.ref a1)) (fun h => by rw [Bd.returns] at h; cases h)
  have f233 : Exa Z h225 a1 "java/lang/StringBuilder" := f219_0.wr W225
  have f234 : Exa Z h229 a1 "java/lang/StringBuilder" := f233.wr W229
  have f235 : Fld Z h225 a1 "java/lang/AbstractStringBuilder" "value" "[B" (.ref a5_219) := f219_1.other W225 (Or.inr (slot_ne (Or.inl (own_w hw 114 rfl)) (Or.inl (own_w hw 131 rfl)) (by decide) (t := (.array .byte)) (t' := .int) (by decide) (by decide)))
  have f236 : Fld Z h229 a1 "java/lang/AbstractStringBuilder" "value" "[B" (.ref a5_219) := f235.other W229 (Or.inl ne227)
  have f237 : Fld Z h225 a1 "java/lang/AbstractStringBuilder" "coder" "B" (.int (0 : Int32)) := f219_2.other W225 (Or.inr (slot_ne (Or.inl (own_w hw 116 rfl)) (Or.inl (own_w hw 131 rfl)) (by decide) (t := .byte) (t' := .int) (by decide) (by decide)))
  have f238 : Fld Z h229 a1 "java/lang/AbstractStringBuilder" "coder" "B" (.int (0 : Int32)) := f237.other W229 (Or.inl ne227)
  have f239 : Fld Z h229 a1 "java/lang/AbstractStringBuilder" "count" "I" (.int (Int32.ofNat (cs ++ [p2]).length)) := f226.other W229 (Or.inl ne227)
  have K240 : Keep h0 T219.heap [a1, a4] := (Keep.refl h0 [a1, a4]).trans K219 (allS (Or.inl (List.mem_of_getElem? (i := 0) rfl)) all0)
  have K241 : Keep h0 h225 [a1, a4] := K240.wr W225 (Or.inl (List.mem_of_getElem? (i := 0) rfl))
  have K242 : Keep h0 h229 [a1, a4] := K241.wr W229 (Or.elim pr219_3 (fun q => Or.inl (by rw [q]; exact List.mem_of_getElem? (i := 1) rfl)) Or.inr)
  subst hPP
  refine ⟨_, _, own_retA X229 hx Bd.returns rfl rfl (hb hby dj68_31_76) hr232, hrun232, hend232, _, _, rfl, ?_, ⟨_, rfl⟩, hW232, hsm232.mono (by decide) (by decide)⟩
  · show Q_asbappC Z _ _ _ _ _ _ _ h0 _ T229.heap _
    rw [e229]
    exact ⟨a5_219, cap2_219, k2_219, rfl, N229, K242, f234, f236, f238, f239, f231, (by rw [List.length_append]; exact pr219_0), pr219_1, pr219_2, pr219_3⟩
theorem dj67_14_0 : decode cJ24 0 = .ok (.aload_n 0, 1) := by decide +kernel
theorem dj67_14_1 : decode cJ24 1 = .ok (.iload_n 1, 1) := by decide +kernel
theorem pd_225 : parseMethodDescriptor "(C)Ljava/lang/AbstractStringBuilder;" = some ⟨[.char], some (.object "java/lang/AbstractStringBuilder")⟩ := by decide +kernel
theorem dj67_14_2 : decode cJ24 2 = .ok (.invokespecial 50, 3) := by decide +kernel
theorem dj67_14_5 : decode cJ24 5 = .ok (.pop, 1) := by decide +kernel
theorem dj67_14_6 : decode cJ24 6 = .ok (.aload_n 0, 1) := by decide +kernel
theorem dj67_14_7 : decode cJ24 7 = .ok (.areturn, 1) := by decide +kernel
def Q_sbappC (Z : State) (a1 : Nat) (p2 : Int32) (cs : List Int32) (cap : Nat) (k : ClassId) (zc : Int32) (a4 : Nat) (h0 : Heap) (v : Option Value) (h : Heap) (L : List Loc) : Prop := ∃ (a5 : Nat), ∃ (cap2 : Nat), ∃ (k2 : ClassId), v = some (.ref a1) ∧ Fr Z.heap.size L ∧ Keep h0 h [a1, a4] ∧ Exa Z h a1 "java/lang/StringBuilder" ∧ Fld Z h a1 "java/lang/AbstractStringBuilder" "value" "[B" (.ref a5) ∧ Fld Z h a1 "java/lang/AbstractStringBuilder" "coder" "B" (.int (0 : Int32)) ∧ Fld Z h a1 "java/lang/AbstractStringBuilder" "count" "I" (.int (Int32.ofNat (cs ++ [p2]).length)) ∧ Arv Z h a5 k2 .byte (Int32.ofNat cap2) (own_low (cs ++ [p2])) (.int (0 : Int32)) ∧ ((cs ++ [p2]).length ≤ cap2) ∧ (cap2 ≤ 18) ∧ (Z.vm.findClass "[B" = some k2) ∧ (own_New a5 a4 h0.size)
set_option maxRecDepth 65536 in
set_option maxHeartbeats 40000000 in
theorem rm_sbappC (l : Launch) (Z : State) (a0 : Array Value) (hw : ∀ d ∈ tables_1, d.before a0 Z = true) (ws : List Jvm.Cond) (a1 : Nat) (p2 : Int32) (cs : List Int32) (cap : Nat) (k : ClassId) (zc : Int32) (a4 : Nat) (h0 : Heap) (OL : Old Z Z.heap.size h0) (p0_ : Exa Z h0 a1 "java/lang/StringBuilder") (p1_ : Fld Z h0 a1 "java/lang/AbstractStringBuilder" "value" "[B" (.ref a4)) (p2_ : Fld Z h0 a1 "java/lang/AbstractStringBuilder" "coder" "B" (.int (0 : Int32))) (p3_ : Fld Z h0 a1 "java/lang/AbstractStringBuilder" "count" "I" (.int (Int32.ofNat cs.length))) (p4_ : Arv Z h0 a4 k .byte (Int32.ofNat cap) (own_low cs) (.int (0 : Int32))) (st_C : Sta Z Z.heap "java/lang/String" "COMPACT_STRINGS" "Z" (.int zc)) (hzc : ¬ zc = 0) (hp2 : ¬ (255 : Int32) < p2) (hN : cs.length < 9) (hcs : cs.length ≤ cap) (hcap : cap ≤ 18) (hkb : Z.vm.findClass "[B" = some k) (hn0 : Z.heap.size ≤ a1) (hn4 : Z.heap.size ≤ a4) :
    MetFree l mN30 (head1 (Jvm.Cond.code mN30 jdk_67_method_14_code 2 (some (.object "java/lang/StringBuilder")) :: ws) rM24) (fun a U => a = #[(.ref a1), (.int p2)] ∧ Z.Warmed39 U.vm ∧ U.heap = h0) (fun _ _ _ _ _ => True) (fun _ U o U' => ∃ v L, o = .returned v ∧ Q_sbappC Z a1 p2 cs cap k zc a4 h0 v U'.heap L ∧ FrameEnd U o U' L rM24.cells rM24.slots) := by
  refine MetFree.of_bodySF (plainFor_of_name pn_71) hisR ?_
  intro p e s m args below meth c s₁ Bd hml0 hP hK
  obtain ⟨rfl, hZ, hh⟩ := hP
  have hx := Bd.exec
  have hby := Bd.bytes
  have hml : c.maxLocals = 2 := hml0
  have hown : s.vm.findClass "java/lang/StringBuilder" = some m.cls := findClass_of_methodNamed Bd.named
  have hnm := (name_of_methodNamed Bd.named Bd.method).1
  have X0 : Stand p l e rM24 s m #[(.ref a1), (.int p2)] below meth c s₁ [] 0 0 := Stand.of_body Bd
  have e0 : s₁.heap = h0 := by rw [← hh, Bd.state]; rfl
  have N0 := Fr.nil Z.heap.size
  have Z0 : Z.heap.size ≤ h0.size := OL.2.1
  have lt_0 : @LT.lt Nat _ a1 h0.size := p0_.lt
  have lt_1 : @LT.lt Nat _ a1 h0.size := p1_.lt
  have lt_2 : @LT.lt Nat _ a1 h0.size := p2_.lt
  have lt_3 : @LT.lt Nat _ a1 h0.size := p3_.lt
  have lt_4 : @LT.lt Nat _ a4 h0.size := p4_.lt
  show oG p.tables e below (fun o tE => ∃ v L, o = .returned v ∧ Q_sbappC Z a1 p2 cs cap k zc a4 h0 v tE.heap L ∧ FrameEnd s o tE L rM24.cells rM24.slots) (s₁.setTop (entryFrame m #[(.ref a1), (.int p2)] 2))
  refine own_hd (fun PP hPP => ?_)
  refine oG.st (fun t k => castTop (ef_57 m a1 p2) k) ?_
  refine oG.st (fun _ k => XS.aloadN X0.here hx rfl (hb hby dj67_14_0) rfl rfl (XS.iloadN X0.here hx rfl (hb hby dj67_14_1) rfl k)) ?_
  show oG _ _ _ _ (s₁.setTop (mkF m 2 #[.val (.ref a1), .val (.int p2)] [(.int p2), (.ref a1)]))
  obtain ⟨_, _, ⟨T243, L243, k243, n243⟩, -, X243, ⟨Lc243, hQ243, l243, y243, z243⟩, st243⟩ := superBack X0 hx hZ (y := mN7) hown (own_w hw 125 rfl) (own_sameP (own_w hw 128 rfl) (own_w hw 135 rfl) rfl (by decide)) (own_w hw 126 rfl) (own_w hw 127 rfl) (by decide) (backOf (W := 0) (rm_asbappC l Z a0 hw [] a1 p2 cs cap k zc a4 h0 OL p0_ p1_ p2_ p3_ p4_ st_C hzc hp2 hN hcs hcap hkb hn0 hn4) hZ (own_w hw 129 rfl) (own_w hw 109 rfl) (by decide) (by decide)) e0 (Ins.self p0_) (g := (mkF m 2 #[.val (.ref a1), .val (.int p2)] [(.int p2), (.ref a1)])) rfl (by rw [hml]; rfl) (own_w hw 129 rfl) (argsL := [(.int p2)]) (rest := []) (lenOf pd_225 rfl) rfl (by show 2 * 0 + _ ≤ _; exact Nat.le_of_eq rfl) (hb hby dj67_14_2) (fun _ _ => ⟨rfl, e0, (by decide : 0 + 1 ≤ _), (by decide : 0 + 18 ≤ _)⟩)
  dsimp only [Pt.U, Pt.locs, Pt.cells, Pt.slots] at X243 l243 y243 z243 st243 hQ243
  subst l243 y243 z243
  obtain ⟨a5_243, cap2_243, k2_243, rfl, N243q, K243, f243_0, f243_1, f243_2, f243_3, f243_4, pr243_0, pr243_1, pr243_2, pr243_3⟩ := hQ243
  have N243 := Fr.app N0 N243q
  have z243 : h0.size ≤ T243.heap.size := K243.1
  have lt243_0 : @LT.lt Nat _ a1 T243.heap.size := f243_0.lt
  have lt243_1 : @LT.lt Nat _ a1 T243.heap.size := f243_1.lt
  have lt243_2 : @LT.lt Nat _ a1 T243.heap.size := f243_2.lt
  have lt243_3 : @LT.lt Nat _ a1 T243.heap.size := f243_3.lt
  have lt243_4 : @LT.lt Nat _ a5_243 T243.heap.size := f243_4.lt
  refine oG.tr st243 ?_
  refine oG.st (fun _ k => XS.pop X243.here hx rfl (hb hby dj67_14_5) rfl rfl (XS.aloadN X243.here hx rfl (hb hby dj67_14_6) rfl rfl k)) ?_
  show oG _ _ _ _ (T243.setTop (mkF m 7 #[.val (.ref a1), .val (.int p2)] [(.ref a1)]))
  obtain ⟨fs244, hr244, hrun244, hend244, hW244, hsm244⟩ := X243.leave (v := some (.ref a1)) (fun h => by rw [Bd.returns] at h; cases h)
  have K245 : Keep h0 T243.heap [a1, a4] := (Keep.refl h0 [a1, a4]).trans K243 (allS (Or.inl (List.mem_of_getElem? (i := 0) rfl)) (allS (Or.inl (List.mem_of_getElem? (i := 1) rfl)) all0))
  subst hPP
  refine ⟨_, _, own_retA X243 hx Bd.returns rfl rfl (hb hby dj67_14_7) hr244, hrun244, hend244, _, _, rfl, ?_, ⟨_, rfl⟩, hW244, hsm244.mono (by decide) (by decide)⟩
  · show Q_sbappC Z _ _ _ _ _ _ _ h0 _ T243.heap _
    exact ⟨a5_243, cap2_243, k2_243, rfl, N243, K245, f243_0, f243_1, f243_2, f243_3, f243_4, pr243_0, pr243_1, pr243_2, pr243_3⟩
theorem dj68_64_0 : decode jdk_68_method_64_code 0 = .ok (.aload_n 0, 1) := by decide +kernel
theorem dj68_64_1 : decode jdk_68_method_64_code 1 = .ok (.getfield 15, 3) := by decide +kernel
theorem dj68_64_4 : decode jdk_68_method_64_code 4 = .ok (.areturn, 1) := by decide +kernel
def Q_getValue (Z : State) (a1 : Nat) (a4 : Nat) (h0 : Heap) (v : Option Value) (h : Heap) (L : List Loc) : Prop := v = some (.ref a4) ∧ Fr Z.heap.size L ∧ h = h0
set_option maxRecDepth 65536 in
set_option maxHeartbeats 40000000 in
theorem rm_getValue (l : Launch) (Z : State) (a0 : Array Value) (hw : ∀ d ∈ tables_1, d.before a0 Z = true) (ws : List Jvm.Cond) (a1 : Nat) (a4 : Nat) (h0 : Heap) (OL : Old Z Z.heap.size h0) (p0_ : Fld Z h0 a1 "java/lang/AbstractStringBuilder" "value" "[B" (.ref a4)) :
    MetFree l mN9 (head1 (Jvm.Cond.code mN9 jdk_68_method_64_code 1 (some (.array .byte)) :: ws) rM0) (fun a U => a = #[(.ref a1)] ∧ Z.Warmed39 U.vm ∧ U.heap = h0) (fun _ _ _ _ _ => True) (fun _ U o U' => ∃ v L, o = .returned v ∧ Q_getValue Z a1 a4 h0 v U'.heap L ∧ FrameEnd U o U' L rM0.cells rM0.slots) := by
  refine MetFree.of_bodySF (plainFor_of_name pn_56) hisR ?_
  intro p e s m args below meth c s₁ Bd hml0 hP hK
  obtain ⟨rfl, hZ, hh⟩ := hP
  have hx := Bd.exec
  have hby := Bd.bytes
  have hml : c.maxLocals = 1 := hml0
  have hown : s.vm.findClass "java/lang/AbstractStringBuilder" = some m.cls := findClass_of_methodNamed Bd.named
  have hnm := (name_of_methodNamed Bd.named Bd.method).1
  have X0 : Stand p l e rM0 s m #[(.ref a1)] below meth c s₁ [] 0 0 := Stand.of_body Bd
  have e0 : s₁.heap = h0 := by rw [← hh, Bd.state]; rfl
  have N0 := Fr.nil Z.heap.size
  have Z0 : Z.heap.size ≤ h0.size := OL.2.1
  have lt_0 : @LT.lt Nat _ a1 h0.size := p0_.lt
  show oG p.tables e below (fun o tE => ∃ v L, o = .returned v ∧ Q_getValue Z a1 a4 h0 v tE.heap L ∧ FrameEnd s o tE L rM0.cells rM0.slots) (s₁.setTop (entryFrame m #[(.ref a1)] 1))
  refine own_hd (fun PP hPP => ?_)
  refine oG.st (fun t k => castTop (ef_185 m a1) k) ?_
  refine oG.st (fun _ k => XS.aloadN X0.here hx rfl (hb hby dj68_64_0) rfl rfl k) ?_
  show oG _ _ _ _ (s₁.setTop (mkF m 1 #[.val (.ref a1)] [(.ref a1)]))
  obtain ⟨T246, X246, e246, st246⟩ := getF X0 hx hZ hown (host := "") (Or.inl (own_w hw 113 rfl)) Via.refl e0 p0_ (g := (mkF m 1 #[.val (.ref a1)] [(.ref a1)])) rfl rfl (hb hby dj68_64_1)
  refine oG.st st246 ?_
  show oG _ _ _ _ (T246.setTop (mkF m 4 #[.val (.ref a1)] [(.ref a4)]))
  obtain ⟨fs247, hr247, hrun247, hend247, hW247, hsm247⟩ := X246.leave (v := some (.ref a4)) (fun h => by rw [Bd.returns] at h; cases h)
  subst hPP
  refine ⟨_, _, own_retA X246 hx Bd.returns rfl rfl (hb hby dj68_64_4) hr247, hrun247, hend247, _, _, rfl, ?_, ⟨_, rfl⟩, hW247, hsm247.mono (by decide) (by decide)⟩
  · show Q_getValue Z _ _ h0 _ T246.heap _
    rw [e246]
    exact ⟨rfl, N0, rfl⟩
theorem dj68_6_0 : decode jdk_68_method_6_code 0 = .ok (.aload_n 0, 1) := by decide +kernel
theorem dj68_6_1 : decode jdk_68_method_6_code 1 = .ok (.getfield 79, 3) := by decide +kernel
theorem dj68_6_4 : decode jdk_68_method_6_code 4 = .ok (.ireturn, 1) := by decide +kernel
def Q_asblen (Z : State) (a1 : Nat) (n1 : Int32) (h0 : Heap) (v : Option Value) (h : Heap) (L : List Loc) : Prop := v = some (.int n1) ∧ Fr Z.heap.size L ∧ h = h0
set_option maxRecDepth 65536 in
set_option maxHeartbeats 40000000 in
theorem rm_asblen (l : Launch) (Z : State) (a0 : Array Value) (hw : ∀ d ∈ tables_1, d.before a0 Z = true) (ws : List Jvm.Cond) (a1 : Nat) (n1 : Int32) (h0 : Heap) (OL : Old Z Z.heap.size h0) (p0_ : Fld Z h0 a1 "java/lang/AbstractStringBuilder" "count" "I" (.int n1)) :
    MetFree l mN11 (head1 (Jvm.Cond.code mN11 jdk_68_method_6_code 1 (some .int) :: ws) rM0) (fun a U => a = #[(.ref a1)] ∧ Z.Warmed39 U.vm ∧ U.heap = h0) (fun _ _ _ _ _ => True) (fun _ U o U' => ∃ v L, o = .returned v ∧ Q_asblen Z a1 n1 h0 v U'.heap L ∧ FrameEnd U o U' L rM0.cells rM0.slots) := by
  refine MetFree.of_bodySF (plainFor_of_name pn_56) hisR ?_
  intro p e s m args below meth c s₁ Bd hml0 hP hK
  obtain ⟨rfl, hZ, hh⟩ := hP
  have hx := Bd.exec
  have hby := Bd.bytes
  have hml : c.maxLocals = 1 := hml0
  have hown : s.vm.findClass "java/lang/AbstractStringBuilder" = some m.cls := findClass_of_methodNamed Bd.named
  have hnm := (name_of_methodNamed Bd.named Bd.method).1
  have X0 : Stand p l e rM0 s m #[(.ref a1)] below meth c s₁ [] 0 0 := Stand.of_body Bd
  have e0 : s₁.heap = h0 := by rw [← hh, Bd.state]; rfl
  have N0 := Fr.nil Z.heap.size
  have Z0 : Z.heap.size ≤ h0.size := OL.2.1
  have lt_0 : @LT.lt Nat _ a1 h0.size := p0_.lt
  show oG p.tables e below (fun o tE => ∃ v L, o = .returned v ∧ Q_asblen Z a1 n1 h0 v tE.heap L ∧ FrameEnd s o tE L rM0.cells rM0.slots) (s₁.setTop (entryFrame m #[(.ref a1)] 1))
  refine own_hd (fun PP hPP => ?_)
  refine oG.st (fun t k => castTop (ef_185 m a1) k) ?_
  refine oG.st (fun _ k => XS.aloadN X0.here hx rfl (hb hby dj68_6_0) rfl rfl k) ?_
  show oG _ _ _ _ (s₁.setTop (mkF m 1 #[.val (.ref a1)] [(.ref a1)]))
  obtain ⟨T248, X248, e248, st248⟩ := getF X0 hx hZ hown (host := "") (Or.inl (own_w hw 130 rfl)) Via.refl e0 p0_ (g := (mkF m 1 #[.val (.ref a1)] [(.ref a1)])) rfl rfl (hb hby dj68_6_1)
  refine oG.st st248 ?_
  show oG _ _ _ _ (T248.setTop (mkF m 4 #[.val (.ref a1)] [(.int n1)]))
  obtain ⟨fs249, hr249, hrun249, hend249, hW249, hsm249⟩ := X248.leave (v := some (.int n1)) (fun h => by rw [Bd.returns] at h; cases h)
  subst hPP
  refine ⟨_, _, own_retI X248 hx Bd.returns (hb hby dj68_6_4) hr249, hrun249, hend249, _, _, rfl, ?_, ⟨_, rfl⟩, hW249, hsm249.mono (by decide) (by decide)⟩
  · show Q_asblen Z _ _ h0 _ T248.heap _
    rw [e248]
    exact ⟨rfl, N0, rfl⟩
theorem dj67_93_0 : decode jdk_67_method_93_code 0 = .ok (.aload_n 0, 1) := by decide +kernel
theorem pd_237 : parseMethodDescriptor "()I" = some ⟨[], some .int⟩ := by decide +kernel
theorem dj67_93_1 : decode jdk_67_method_93_code 1 = .ok (.invokespecial 343, 3) := by decide +kernel
theorem dj67_93_4 : decode jdk_67_method_93_code 4 = .ok (.ireturn, 1) := by decide +kernel
def Q_sblen (Z : State) (a1 : Nat) (n1 : Int32) (h0 : Heap) (v : Option Value) (h : Heap) (L : List Loc) : Prop := v = some (.int n1) ∧ Fr Z.heap.size L ∧ h = h0
set_option maxRecDepth 65536 in
set_option maxHeartbeats 40000000 in
theorem rm_sblen (l : Launch) (Z : State) (a0 : Array Value) (hw : ∀ d ∈ tables_1, d.before a0 Z = true) (ws : List Jvm.Cond) (a1 : Nat) (n1 : Int32) (h0 : Heap) (OL : Old Z Z.heap.size h0) (p0_ : Exa Z h0 a1 "java/lang/StringBuilder") (p1_ : Fld Z h0 a1 "java/lang/AbstractStringBuilder" "count" "I" (.int n1)) :
    MetFree l mN31 (head1 (Jvm.Cond.code mN31 jdk_67_method_93_code 1 (some .int) :: ws) rM2) (fun a U => a = #[(.ref a1)] ∧ Z.Warmed39 U.vm ∧ U.heap = h0) (fun _ _ _ _ _ => True) (fun _ U o U' => ∃ v L, o = .returned v ∧ Q_sblen Z a1 n1 h0 v U'.heap L ∧ FrameEnd U o U' L rM2.cells rM2.slots) := by
  refine MetFree.of_bodySF (plainFor_of_name pn_71) hisR ?_
  intro p e s m args below meth c s₁ Bd hml0 hP hK
  obtain ⟨rfl, hZ, hh⟩ := hP
  have hx := Bd.exec
  have hby := Bd.bytes
  have hml : c.maxLocals = 1 := hml0
  have hown : s.vm.findClass "java/lang/StringBuilder" = some m.cls := findClass_of_methodNamed Bd.named
  have hnm := (name_of_methodNamed Bd.named Bd.method).1
  have X0 : Stand p l e rM2 s m #[(.ref a1)] below meth c s₁ [] 0 0 := Stand.of_body Bd
  have e0 : s₁.heap = h0 := by rw [← hh, Bd.state]; rfl
  have N0 := Fr.nil Z.heap.size
  have Z0 : Z.heap.size ≤ h0.size := OL.2.1
  have lt_0 : @LT.lt Nat _ a1 h0.size := p0_.lt
  have lt_1 : @LT.lt Nat _ a1 h0.size := p1_.lt
  show oG p.tables e below (fun o tE => ∃ v L, o = .returned v ∧ Q_sblen Z a1 n1 h0 v tE.heap L ∧ FrameEnd s o tE L rM2.cells rM2.slots) (s₁.setTop (entryFrame m #[(.ref a1)] 1))
  refine own_hd (fun PP hPP => ?_)
  refine oG.st (fun t k => castTop (ef_185 m a1) k) ?_
  refine oG.st (fun _ k => XS.aloadN X0.here hx rfl (hb hby dj67_93_0) rfl rfl k) ?_
  show oG _ _ _ _ (s₁.setTop (mkF m 1 #[.val (.ref a1)] [(.ref a1)]))
  obtain ⟨_, _, ⟨T250, L250, k250, n250⟩, -, X250, ⟨Lc250, hQ250, l250, y250, z250⟩, st250⟩ := superBack X0 hx hZ (y := mN11) hown (own_w hw 194 rfl) (own_sameP (own_w hw 189 rfl) (own_w hw 135 rfl) rfl (by decide)) (own_w hw 190 rfl) (own_w hw 127 rfl) (by decide) (backOf (W := 0) (rm_asblen l Z a0 hw [] a1 n1 h0 OL p1_) hZ (own_w hw 195 rfl) (own_w hw 109 rfl) (by decide) (by decide)) e0 (Ins.self p0_) (g := (mkF m 1 #[.val (.ref a1)] [(.ref a1)])) rfl (by rw [hml]; rfl) (own_w hw 195 rfl) (argsL := []) (rest := []) (lenOf pd_237 rfl) rfl (by show 2 * 0 + _ ≤ _; exact Nat.le_of_eq rfl) (hb hby dj67_93_1) (fun _ _ => ⟨rfl, e0, (by decide : 0 + 0 ≤ _), (by decide : 0 + 0 ≤ _)⟩)
  dsimp only [Pt.U, Pt.locs, Pt.cells, Pt.slots] at X250 l250 y250 z250 st250 hQ250
  subst l250 y250 z250
  obtain ⟨rfl, N250q, K250⟩ := hQ250
  have N250 := Fr.app N0 N250q
  refine oG.tr st250 ?_
  show oG _ _ _ _ (T250.setTop (mkF m 4 #[.val (.ref a1)] [(.int n1)]))
  obtain ⟨fs251, hr251, hrun251, hend251, hW251, hsm251⟩ := X250.leave (v := some (.int n1)) (fun h => by rw [Bd.returns] at h; cases h)
  subst hPP
  refine ⟨_, _, own_retI X250 hx Bd.returns (hb hby dj67_93_4) hr251, hrun251, hend251, _, _, rfl, ?_, ⟨_, rfl⟩, hW251, hsm251.mono (by decide) (by decide)⟩
  · show Q_sblen Z _ _ h0 _ T250.heap _
    rw [K250]
    exact ⟨rfl, N250, rfl⟩

theorem own_all (cs : List Int32) : (cs.drop 0).take (cs.length - 0) = cs := by simp

theorem pn_240 : plainName "java/lang/String" = true := by first | (simp [plainName, overriddenIn]; done) | decide +kernel
theorem ef_241 (m : MethodId) (x0 : Nat) (x1 : Nat) : entryFrame m #[(.ref x0), (.ref x1), .null] 5 = mkF m 0 #[.val (.ref x0), .val (.ref x1), .val .null, .unset, .unset] [] := by first | (simp [entryFrame, mkF, argsToLocals, Value.category]; done) | rfl
theorem dj42_150_0 : decode cJ6 0 = .ok (.aload_n 0, 1) := by decide +kernel
theorem dj42_150_1 : decode cJ6 1 = .ok (.invokespecial 1, 3) := by decide +kernel
theorem dj42_150_4 : decode cJ6 4 = .ok (.aload_n 1, 1) := by decide +kernel
theorem pd_245 : parseMethodDescriptor "()[B" = some ⟨[], some (.array .byte)⟩ := by decide +kernel
theorem dj42_150_5 : decode cJ6 5 = .ok (.invokevirtual 552, 3) := by decide +kernel
theorem dj42_150_8 : decode cJ6 8 = .ok (.astore_n 3, 1) := by decide +kernel
theorem dj42_150_9 : decode cJ6 9 = .ok (.aload_n 1, 1) := by decide +kernel
theorem dj42_150_10 : decode cJ6 10 = .ok (.invokevirtual 549, 3) := by decide +kernel
theorem dj42_150_13 : decode cJ6 13 = .ok (.istore 4, 2) := by decide +kernel
theorem dj42_150_15 : decode cJ6 15 = .ok (.aload_n 1, 1) := by decide +kernel
theorem dj42_150_16 : decode cJ6 16 = .ok (.invokevirtual 1047, 3) := by decide +kernel
theorem dj42_150_19 : decode cJ6 19 = .ok (.ifCond .eq 22, 3) := by decide +kernel
theorem dj42_150_22 : decode cJ6 22 = .ok (.aload_n 0, 1) := by decide +kernel
theorem dj42_150_23 : decode cJ6 23 = .ok (.iconst 0, 1) := by decide +kernel
theorem dj42_150_24 : decode cJ6 24 = .ok (.putfield 15, 3) := by decide +kernel
theorem dj42_150_27 : decode cJ6 27 = .ok (.aload_n 0, 1) := by decide +kernel
theorem dj42_150_28 : decode cJ6 28 = .ok (.aload_n 3, 1) := by decide +kernel
theorem dj42_150_29 : decode cJ6 29 = .ok (.iconst 0, 1) := by decide +kernel
theorem dj42_150_30 : decode cJ6 30 = .ok (.iload 4, 2) := by decide +kernel
theorem dj42_150_32 : decode cJ6 32 = .ok (.invokestatic 54, 3) := by decide +kernel
theorem dj42_150_35 : decode cJ6 35 = .ok (.putfield 9, 3) := by decide +kernel
theorem dj42_150_38 : decode cJ6 38 = .ok (.goto 59, 3) := by decide +kernel
theorem dj42_150_97 : decode cJ6 97 = .ok (.return_, 1) := by decide +kernel
def Q_sinit2 (Z : State) (a1 : Nat) (a2 : Nat) (cs : List Int32) (cap : Nat) (a4 : Nat) (k : ClassId) (zc : Int32) (h0 : Heap) (v : Option Value) (h : Heap) (L : List Loc) : Prop := ∃ (t : Nat), v = none ∧ Fr Z.heap.size L ∧ Keep h0 h [a1] ∧ own_Str Z h a1 t cs ∧ (h0.size ≤ t)
set_option maxRecDepth 65536 in
set_option maxHeartbeats 40000000 in
theorem rm_sinit2 (l : Launch) (Z : State) (a0 : Array Value) (hw : ∀ d ∈ tables_1, d.before a0 Z = true) (ws : List Jvm.Cond) (a1 : Nat) (a2 : Nat) (cs : List Int32) (cap : Nat) (a4 : Nat) (k : ClassId) (zc : Int32) (h0 : Heap) (OL : Old Z Z.heap.size h0) (p0_ : Exa Z h0 a1 "java/lang/String") (p1_ : Fld Z h0 a1 "java/lang/String" "value" "[B" .null) (p2_ : Fld Z h0 a1 "java/lang/String" "coder" "B" (.int (0 : Int32))) (p3_ : Exa Z h0 a2 "java/lang/StringBuilder") (p4_ : Fld Z h0 a2 "java/lang/AbstractStringBuilder" "value" "[B" (.ref a4)) (p5_ : Fld Z h0 a2 "java/lang/AbstractStringBuilder" "coder" "B" (.int (0 : Int32))) (p6_ : Fld Z h0 a2 "java/lang/AbstractStringBuilder" "count" "I" (.int (Int32.ofNat cs.length))) (p7_ : Arv Z h0 a4 k .byte (Int32.ofNat cap) (own_low cs) (.int (0 : Int32))) (st_C : Sta Z Z.heap "java/lang/String" "COMPACT_STRINGS" "Z" (.int zc)) (hzc : ¬ zc = 0) (hcs : cs.length ≤ cap) (hkb : Z.vm.findClass "[B" = some k) (hcap : cap ≤ 100) (hmx : cs.length ≤ 18) (hlc : ∀ c ∈ cs, ¬ c < 0 ∧ ¬ (255 : Int32) < c) (hn0 : Z.heap.size ≤ a1) :
    MetFree l mN16 (head1 (Jvm.Cond.code mN16 jdk_42_method_150_code 5 none :: ws) rM19) (fun a U => a = #[(.ref a1), (.ref a2), .null] ∧ Z.Warmed39 U.vm ∧ U.heap = h0) (fun _ _ _ _ _ => True) (fun _ U o U' => ∃ v L, o = .returned v ∧ Q_sinit2 Z a1 a2 cs cap a4 k zc h0 v U'.heap L ∧ FrameEnd U o U' L rM19.cells rM19.slots) := by
  refine MetFree.of_bodySF (plainFor_of_name pn_240) hisR ?_
  intro p e s m args below meth c s₁ Bd hml0 hP hK
  obtain ⟨rfl, hZ, hh⟩ := hP
  have hx := Bd.exec
  have hby := Bd.bytes
  have hml : c.maxLocals = 5 := hml0
  have hown : s.vm.findClass "java/lang/String" = some m.cls := findClass_of_methodNamed Bd.named
  have hnm := (name_of_methodNamed Bd.named Bd.method).1
  have X0 : Stand p l e rM19 s m #[(.ref a1), (.ref a2), .null] below meth c s₁ [] 0 0 := Stand.of_body Bd
  have e0 : s₁.heap = h0 := by rw [← hh, Bd.state]; rfl
  have N0 := Fr.nil Z.heap.size
  have Z0 : Z.heap.size ≤ h0.size := OL.2.1
  have lt_0 : @LT.lt Nat _ a1 h0.size := p0_.lt
  have lt_1 : @LT.lt Nat _ a1 h0.size := p1_.lt
  have lt_2 : @LT.lt Nat _ a1 h0.size := p2_.lt
  have lt_3 : @LT.lt Nat _ a2 h0.size := p3_.lt
  have lt_4 : @LT.lt Nat _ a2 h0.size := p4_.lt
  have lt_5 : @LT.lt Nat _ a2 h0.size := p5_.lt
  have lt_6 : @LT.lt Nat _ a2 h0.size := p6_.lt
  have lt_7 : @LT.lt Nat _ a4 h0.size := p7_.lt
  show oG p.tables e below (fun o tE => ∃ v L, o = .returned v ∧ Q_sinit2 Z a1 a2 cs cap a4 k zc h0 v tE.heap L ∧ FrameEnd s o tE L rM19.cells rM19.slots) (s₁.setTop (entryFrame m #[(.ref a1), (.ref a2), .null] 5))
  refine own_hd (fun PP hPP => ?_)
  refine oG.st (fun t k => castTop (ef_241 m a1 a2) k) ?_
  refine oG.st (fun _ k => XS.aloadN X0.here hx rfl (hb hby dj42_150_0) rfl rfl k) ?_
  show oG _ _ _ _ (s₁.setTop (mkF m 1 #[.val (.ref a1), .val (.ref a2), .val .null, .unset, .unset] [(.ref a1)]))
  obtain ⟨T252, X252, e252, st252⟩ := initO X0 hx hZ hown (own_w hw 21 rfl) (own_w hw 22 rfl) (own_w hw 23 rfl) e0 (g := (mkF m 1 #[.val (.ref a1), .val (.ref a2), .val .null, .unset, .unset] [(.ref a1)])) rfl (by rw [hml]; rfl) rfl (hb hby dj42_150_1) (by decide) (W := 0) (by show 2 * 0 + _ ≤ _; exact Nat.le_of_eq rfl) (by decide)
  refine oG.st st252 ?_
  refine oG.st (fun _ k => XS.aloadN X252.here hx rfl (hb hby dj42_150_4) rfl rfl k) ?_
  show oG _ _ _ _ (T252.setTop (mkF m 5 #[.val (.ref a1), .val (.ref a2), .val .null, .unset, .unset] [(.ref a2)]))
  obtain ⟨cq253, kq253, q253a, q253b, q253c⟩ := isOf hZ e252 p3_
  obtain ⟨_, _, ⟨T253, L253, k253, n253⟩, -, X253, ⟨Lc253, hQ253, l253, y253, z253⟩, st253⟩ := X252.virtualBack hx (y := mN9) (z := mN9) hown (own_v hZ hw 183 rfl) (own_v hZ hw 184 rfl) (notFace_of_selects (args := #[]) (own_v hZ hw 186 rfl)) (own_v hZ hw 186 rfl) (own_v hZ hw 185 rfl) (by decide) (backOf (W := 0) (rm_getValue l Z a0 hw [] a2 a4 h0 OL p4_) hZ (own_w hw 187 rfl) (own_w hw 109 rfl) (by decide) (by decide)) q253a q253c (g := (mkF m 5 #[.val (.ref a1), .val (.ref a2), .val .null, .unset, .unset] [(.ref a2)])) rfl (by rw [hml]; rfl) (Steps.refl _) (argsL := []) (rest := []) (lenOf pd_245 rfl) rfl (by show 2 * 0 + _ ≤ _; exact Nat.le_of_eq rfl) (hb hby dj42_150_5) (fun _ _ => ⟨rfl, e252, (by decide : 0 + 0 ≤ _), (by decide : 0 + 0 ≤ _)⟩)
  dsimp only [Pt.U, Pt.locs, Pt.cells, Pt.slots] at X253 l253 y253 z253 st253 hQ253
  subst l253 y253 z253
  obtain ⟨rfl, N253q, K253⟩ := hQ253
  have N253 := Fr.app N0 N253q
  refine oG.tr st253 ?_
  refine oG.st (fun _ k => XS.astoreN X253.here hx rfl (hb hby dj42_150_8) rfl rfl (l' := #[.val (.ref a1), .val (.ref a2), .val .null, .val (.ref a4), .unset]) rfl (XS.aloadN X253.here hx rfl (hb hby dj42_150_9) rfl rfl k)) ?_
  show oG _ _ _ _ (T253.setTop (mkF m 10 #[.val (.ref a1), .val (.ref a2), .val .null, .val (.ref a4), .unset] [(.ref a2)]))
  obtain ⟨cq254, kq254, q254a, q254b, q254c⟩ := isOf hZ K253 p3_
  obtain ⟨_, _, ⟨T254, L254, k254, n254⟩, -, X254, ⟨Lc254, hQ254, l254, y254, z254⟩, st254⟩ := X253.virtualBack hx (y := mN11) (z := mN31) hown (own_v hZ hw 188 rfl) (own_v hZ hw 189 rfl) (own_nf (args := #[]) (own_v hZ hw 135 rfl) rfl) (own_v hZ hw 191 rfl) (own_v hZ hw 192 rfl) (by decide) (backOf (W := 0) (rm_sblen l Z a0 hw [] a2 (Int32.ofNat cs.length) h0 OL p3_ p6_) hZ (own_w hw 193 rfl) (own_w hw 101 rfl) (by decide) (by decide)) q254a q254c (g := (mkF m 10 #[.val (.ref a1), .val (.ref a2), .val .null, .val (.ref a4), .unset] [(.ref a2)])) rfl (by rw [hml]; rfl) (Steps.refl _) (argsL := []) (rest := []) (lenOf pd_237 rfl) rfl (by show 2 * 0 + _ ≤ _; exact Nat.le_of_eq rfl) (hb hby dj42_150_10) (fun _ _ => ⟨rfl, K253, (by decide : 0 + 0 ≤ _), (by decide : 0 + 0 ≤ _)⟩)
  dsimp only [Pt.U, Pt.locs, Pt.cells, Pt.slots] at X254 l254 y254 z254 st254 hQ254
  subst l254 y254 z254
  obtain ⟨rfl, N254q, K254⟩ := hQ254
  have N254 := Fr.app N253 N254q
  refine oG.tr st254 ?_
  refine oG.st (fun _ k => XS.istore X254.here hx rfl (hb hby dj42_150_13) rfl (l' := #[.val (.ref a1), .val (.ref a2), .val .null, .val (.ref a4), .val (.int (Int32.ofNat cs.length))]) rfl (XS.aloadN X254.here hx rfl (hb hby dj42_150_15) rfl rfl k)) ?_
  show oG _ _ _ _ (T254.setTop (mkF m 16 #[.val (.ref a1), .val (.ref a2), .val .null, .val (.ref a4), .val (.int (Int32.ofNat cs.length))] [(.ref a2)]))
  obtain ⟨cq255, kq255, q255a, q255b, q255c⟩ := isOf hZ K254 p3_
  obtain ⟨_, _, ⟨T255, L255, k255, n255⟩, -, X255, ⟨Lc255, hQ255, l255, y255, z255⟩, st255⟩ := X254.virtualBack hx (y := mN10) (z := mN10) hown (own_v hZ hw 196 rfl) (own_v hZ hw 138 rfl) (notFace_of_selects (args := #[]) (own_v hZ hw 140 rfl)) (own_v hZ hw 140 rfl) (own_v hZ hw 139 rfl) (by decide) (backOf (W := 0) (rm_asbl1 l Z a0 hw [] a2 zc h0 OL p5_ st_C hzc) hZ (own_w hw 141 rfl) (own_w hw 109 rfl) (by decide) (by decide)) q255a q255c (g := (mkF m 16 #[.val (.ref a1), .val (.ref a2), .val .null, .val (.ref a4), .val (.int (Int32.ofNat cs.length))] [(.ref a2)])) rfl (by rw [hml]; rfl) (Steps.refl _) (argsL := []) (rest := []) (lenOf pd_201 rfl) rfl (by show 2 * 0 + _ ≤ _; exact Nat.le_of_eq rfl) (hb hby dj42_150_16) (fun _ _ => ⟨rfl, K254, (by decide : 0 + 0 ≤ _), (by decide : 0 + 0 ≤ _)⟩)
  dsimp only [Pt.U, Pt.locs, Pt.cells, Pt.slots] at X255 l255 y255 z255 st255 hQ255
  subst l255 y255 z255
  obtain ⟨rfl, N255q, K255⟩ := hQ255
  have N255 := Fr.app N254 N255q
  refine oG.tr st255 ?_
  show oG _ _ _ _ (T255.setTop (mkF m 19 #[.val (.ref a1), .val (.ref a2), .val .null, .val (.ref a4), .val (.int (Int32.ofNat cs.length))] [(.int (1 : Int32))]))
  refine oG.st (fun _ k => XS.ifNo X255.here hx rfl (hb hby dj42_150_19) rfl ((if0 _ _).trans (feq (by decide : ¬ ((1 : Int32) = (0 : Int32)))).1) k) ?_
  refine oG.st (fun _ k => XS.aloadN X255.here hx rfl (hb hby dj42_150_22) rfl rfl (XS.iconst X255.here hx rfl (hb hby dj42_150_23) k)) ?_
  show oG _ _ _ _ (T255.setTop (mkF m 24 #[.val (.ref a1), .val (.ref a2), .val .null, .val (.ref a4), .val (.int (Int32.ofNat cs.length))] [(.int (0 : Int32)), (.ref a1)]))
  obtain ⟨T256, h256, X256, e256, W256, st256⟩ := putF X255 hx hZ hown (host := "") (Or.inl (own_w hw 26 rfl)) Via.refl K255 p2_ p0_ (Or.inr ⟨(own_w hw 27 rfl), rfl, hnm⟩) (own_w hw 12 rfl) (ty := .byte) (by decide) rfl (by decide) (g := (mkF m 24 #[.val (.ref a1), .val (.ref a2), .val .null, .val (.ref a4), .val (.int (Int32.ofNat cs.length))] [(.int (0 : Int32)), (.ref a1)])) rfl rfl (hb hby dj42_150_24)
  refine oG.st st256 ?_
  have N256 := Fr.snoc X256 N255 (by omega)
  have z256 : h0.size ≤ h256.size := Nat.le_of_eq W256.size.symm
  have f257 : Fld Z h256 a1 "java/lang/String" "coder" "B" (.int (0 : Int32)) := p2_.same W256
  refine oG.st (fun _ k => XS.aloadN X256.here hx rfl (hb hby dj42_150_27) rfl rfl (XS.aloadN X256.here hx rfl (hb hby dj42_150_28) rfl rfl (XS.iconst X256.here hx rfl (hb hby dj42_150_29) (XS.iload X256.here hx rfl (hb hby dj42_150_30) rfl k)))) ?_
  show oG _ _ _ _ (T256.setTop (mkF m 32 #[.val (.ref a1), .val (.ref a2), .val .null, .val (.ref a4), .val (.int (Int32.ofNat cs.length))] [(.int (Int32.ofNat cs.length)), (.int (0 : Int32)), (.ref a4), (.ref a1)]))
  have ne259 : @Ne Nat a1 a4 := Exa.neArv p0_ p7_ (own_w hw 12 rfl)
  have f260 : Arv Z h256 a4 k .byte (Int32.ofNat cap) (own_low cs) (.int (0 : Int32)) := p7_.other W256 (Ne.symm ne259)
  have f261 : Old Z Z.heap.size h256 := OL.wr W256 (by omega)
  obtain ⟨_, _, ⟨T258, L258, k258, n258⟩, -, X258, ⟨Lc258, hQ258, l258, y258, z258⟩, st258⟩ := Jvm.LawKit.callS X256 hx (y := mN44) hown (own_v hZ hw 197 rfl) (own_v hZ hw 198 rfl) (own_v hZ hw 162 rfl) (own_v hZ hw 199 rfl) (by decide) (backOf (W := 1) (rm_cor l Z a0 hw [] a4 (0 : Int32) (Int32.ofNat cs.length) 0 cs.length cs cap k h256 f261 f260 rfl rfl (Nat.zero_le _) (Nat.le_refl _) (by omega) hcap (by omega) hkb) hZ (own_w hw 199 rfl) (own_w hw 162 rfl) (by decide) (by decide)) (g := (mkF m 32 #[.val (.ref a1), .val (.ref a2), .val .null, .val (.ref a4), .val (.int (Int32.ofNat cs.length))] [(.int (Int32.ofNat cs.length)), (.int (0 : Int32)), (.ref a4), (.ref a1)])) rfl (by rw [hml]; rfl) (argsL := [(.ref a4), (.int (0 : Int32)), (.int (Int32.ofNat cs.length))]) (rest := [(.ref a1)]) (lenOf pd_53 rfl) rfl (by show 2 * 0 + _ ≤ _; exact Nat.le_of_eq rfl) (hb hby dj42_150_32) (fun _ _ => ⟨rfl, e256, (by decide : 0 + 1 ≤ _), (by decide : 0 + 18 ≤ _)⟩)
  dsimp only [Pt.U, Pt.locs, Pt.cells, Pt.slots] at X258 l258 y258 z258 st258 hQ258
  subst l258 y258 z258
  obtain ⟨x_258, kx_258, rfl, N258q, K258, f258_0, pr258_0⟩ := hQ258
  have N258 := Fr.app N256 N258q
  have z258 : h256.size ≤ T258.heap.size := K258.1
  have lt258_0 : @LT.lt Nat _ x_258 T258.heap.size := f258_0.lt
  have f262 : Arv Z T258.heap x_258 kx_258 .byte (Int32.ofNat cs.length) (own_low cs) (.int (0 : Int32)) := by
    have q := f258_0
    rw [own_all, Nat.sub_zero] at q
    exact q
  refine oG.st st258 ?_
  show oG _ _ _ _ (T258.setTop (mkF m 35 #[.val (.ref a1), .val (.ref a2), .val .null, .val (.ref a4), .val (.int (Int32.ofNat cs.length))] [(.ref x_258), (.ref a1)]))
  have f263 : Fld Z h256 a1 "java/lang/String" "value" "[B" .null := p1_.other W256 (Or.inr (slot_ne (Or.inr (own_w hw 25 rfl)) (Or.inr (own_w hw 27 rfl)) (by decide) (t := (.array .byte)) (t' := .byte) (by decide) (by decide)))
  have f264 : Fld Z T258.heap a1 "java/lang/String" "value" "[B" .null := f263.keep K258 nin0
  have f265 : Exa Z h256 a1 "java/lang/String" := p0_.wr W256
  have f266 : Exa Z T258.heap a1 "java/lang/String" := f265.keep K258
  obtain ⟨T267, h267, X267, e267, W267, st267⟩ := putF X258 hx hZ hown (host := "") (Or.inl (own_w hw 24 rfl)) Via.refl rfl f264 f266 (Or.inr ⟨(own_w hw 25 rfl), rfl, hnm⟩) (own_w hw 12 rfl) (ty := (.array .byte)) (by decide) rfl rfl (g := (mkF m 35 #[.val (.ref a1), .val (.ref a2), .val .null, .val (.ref a4), .val (.int (Int32.ofNat cs.length))] [(.ref x_258), (.ref a1)])) rfl rfl (hb hby dj42_150_35)
  refine oG.st st267 ?_
  have N267 := Fr.snoc X267 N258 (by omega)
  have z267 : T258.heap.size ≤ h267.size := Nat.le_of_eq W267.size.symm
  have f268 : Fld Z h267 a1 "java/lang/String" "value" "[B" (.ref x_258) := f264.same W267
  refine oG.st (fun _ k => XS.goto X267.here hx rfl (pc0 := 38) (pc' := 97) rfl (hb hby dj42_150_38) (by decide) (by decide) k) ?_
  show oG _ _ _ _ (T267.setTop (mkF m 97 #[.val (.ref a1), .val (.ref a2), .val .null, .val (.ref a4), .val (.int (Int32.ofNat cs.length))] []))
  obtain ⟨fs269, hr269, hrun269, hend269, hW269, hsm269⟩ := X267.leave (v := none) (fun _ => rfl)
  have f270 : Exa Z h267 a1 "java/lang/String" := f266.wr W267
  have f271 : Fld Z T258.heap a1 "java/lang/String" "coder" "B" (.int (0 : Int32)) := f257.keep K258 nin0
  have f272 : Fld Z h267 a1 "java/lang/String" "coder" "B" (.int (0 : Int32)) := f271.other W267 (Or.inr (slot_ne (Or.inr (own_w hw 27 rfl)) (Or.inr (own_w hw 25 rfl)) (by decide) (t := .byte) (t' := (.array .byte)) (by decide) (by decide)))
  have ne273 : @Ne Nat a1 x_258 := Exa.neArv f266 f262 (own_w hw 12 rfl)
  have f274 : Arv Z h267 x_258 kx_258 .byte (Int32.ofNat cs.length) (own_low cs) (.int (0 : Int32)) := f262.other W267 (Ne.symm ne273)
  have K275 : Keep h0 h256 [a1] := (Keep.refl h0 [a1]).wr W256 (Or.inl (List.mem_of_getElem? (i := 0) rfl))
  have K276 : Keep h0 T258.heap [a1] := K275.trans K258 all0
  have K277 : Keep h0 h267 [a1] := K276.wr W267 (Or.inl (List.mem_of_getElem? (i := 0) rfl))
  subst hPP
  refine ⟨_, _, X267.returnOut hx Bd.returns (hb hby dj42_150_97) hr269, hrun269, hend269, _, _, rfl, ?_, ⟨_, rfl⟩, hW269, hsm269.mono (by decide) (by decide)⟩
  · show Q_sinit2 Z _ _ _ _ _ _ _ h0 _ T267.heap _
    rw [e267]
    exact ⟨x_258, rfl, N267, K277, (own_Str.mkL f270 f268 f272 f274 hlc (by omega)), (by omega)⟩
theorem ef_265 (m : MethodId) (x0 : Nat) (x1 : Nat) : entryFrame m #[(.ref x0), (.ref x1)] 2 = mkF m 0 #[.val (.ref x0), .val (.ref x1)] [] := by first | (simp [entryFrame, mkF, argsToLocals, Value.category]; done) | rfl
theorem dj42_53_0 : decode jdk_42_method_53_code 0 = .ok (.aload_n 0, 1) := by decide +kernel
theorem dj42_53_1 : decode jdk_42_method_53_code 1 = .ok (.aload_n 1, 1) := by decide +kernel
theorem dj42_53_2 : decode jdk_42_method_53_code 2 = .ok (.aconst_null, 1) := by decide +kernel
theorem pd_269 : parseMethodDescriptor "(Ljava/lang/AbstractStringBuilder;Ljava/lang/Void;)V" = some ⟨[(.object "java/lang/AbstractStringBuilder"), (.object "java/lang/Void")], none⟩ := by decide +kernel
theorem dj42_53_3 : decode jdk_42_method_53_code 3 = .ok (.invokespecial 489, 3) := by decide +kernel
theorem dj42_53_6 : decode jdk_42_method_53_code 6 = .ok (.return_, 1) := by decide +kernel
def Q_sinit1 (Z : State) (a1 : Nat) (a2 : Nat) (cs : List Int32) (cap : Nat) (a4 : Nat) (k : ClassId) (zc : Int32) (h0 : Heap) (v : Option Value) (h : Heap) (L : List Loc) : Prop := ∃ (t : Nat), v = none ∧ Fr Z.heap.size L ∧ Keep h0 h [a1] ∧ own_Str Z h a1 t cs ∧ (h0.size ≤ t)
set_option maxRecDepth 65536 in
set_option maxHeartbeats 40000000 in
theorem rm_sinit1 (l : Launch) (Z : State) (a0 : Array Value) (hw : ∀ d ∈ tables_1, d.before a0 Z = true) (ws : List Jvm.Cond) (a1 : Nat) (a2 : Nat) (cs : List Int32) (cap : Nat) (a4 : Nat) (k : ClassId) (zc : Int32) (h0 : Heap) (OL : Old Z Z.heap.size h0) (p0_ : Exa Z h0 a1 "java/lang/String") (p1_ : Fld Z h0 a1 "java/lang/String" "value" "[B" .null) (p2_ : Fld Z h0 a1 "java/lang/String" "coder" "B" (.int (0 : Int32))) (p3_ : Exa Z h0 a2 "java/lang/StringBuilder") (p4_ : Fld Z h0 a2 "java/lang/AbstractStringBuilder" "value" "[B" (.ref a4)) (p5_ : Fld Z h0 a2 "java/lang/AbstractStringBuilder" "coder" "B" (.int (0 : Int32))) (p6_ : Fld Z h0 a2 "java/lang/AbstractStringBuilder" "count" "I" (.int (Int32.ofNat cs.length))) (p7_ : Arv Z h0 a4 k .byte (Int32.ofNat cap) (own_low cs) (.int (0 : Int32))) (st_C : Sta Z Z.heap "java/lang/String" "COMPACT_STRINGS" "Z" (.int zc)) (hzc : ¬ zc = 0) (hcs : cs.length ≤ cap) (hkb : Z.vm.findClass "[B" = some k) (hcap : cap ≤ 100) (hmx : cs.length ≤ 18) (hlc : ∀ c ∈ cs, ¬ c < 0 ∧ ¬ (255 : Int32) < c) (hn0 : Z.heap.size ≤ a1) :
    MetFree l mN17 (head1 (Jvm.Cond.code mN17 jdk_42_method_53_code 2 none :: ws) rM22) (fun a U => a = #[(.ref a1), (.ref a2)] ∧ Z.Warmed39 U.vm ∧ U.heap = h0) (fun _ _ _ _ _ => True) (fun _ U o U' => ∃ v L, o = .returned v ∧ Q_sinit1 Z a1 a2 cs cap a4 k zc h0 v U'.heap L ∧ FrameEnd U o U' L rM22.cells rM22.slots) := by
  refine MetFree.of_bodySF (plainFor_of_name pn_240) hisR ?_
  intro p e s m args below meth c s₁ Bd hml0 hP hK
  obtain ⟨rfl, hZ, hh⟩ := hP
  have hx := Bd.exec
  have hby := Bd.bytes
  have hml : c.maxLocals = 2 := hml0
  have hown : s.vm.findClass "java/lang/String" = some m.cls := findClass_of_methodNamed Bd.named
  have hnm := (name_of_methodNamed Bd.named Bd.method).1
  have X0 : Stand p l e rM22 s m #[(.ref a1), (.ref a2)] below meth c s₁ [] 0 0 := Stand.of_body Bd
  have e0 : s₁.heap = h0 := by rw [← hh, Bd.state]; rfl
  have N0 := Fr.nil Z.heap.size
  have Z0 : Z.heap.size ≤ h0.size := OL.2.1
  have lt_0 : @LT.lt Nat _ a1 h0.size := p0_.lt
  have lt_1 : @LT.lt Nat _ a1 h0.size := p1_.lt
  have lt_2 : @LT.lt Nat _ a1 h0.size := p2_.lt
  have lt_3 : @LT.lt Nat _ a2 h0.size := p3_.lt
  have lt_4 : @LT.lt Nat _ a2 h0.size := p4_.lt
  have lt_5 : @LT.lt Nat _ a2 h0.size := p5_.lt
  have lt_6 : @LT.lt Nat _ a2 h0.size := p6_.lt
  have lt_7 : @LT.lt Nat _ a4 h0.size := p7_.lt
  show oG p.tables e below (fun o tE => ∃ v L, o = .returned v ∧ Q_sinit1 Z a1 a2 cs cap a4 k zc h0 v tE.heap L ∧ FrameEnd s o tE L rM22.cells rM22.slots) (s₁.setTop (entryFrame m #[(.ref a1), (.ref a2)] 2))
  refine own_hd (fun PP hPP => ?_)
  refine oG.st (fun t k => castTop (ef_265 m a1 a2) k) ?_
  refine oG.st (fun _ k => XS.aloadN X0.here hx rfl (hb hby dj42_53_0) rfl rfl (XS.aloadN X0.here hx rfl (hb hby dj42_53_1) rfl rfl (XS.aconstNull X0.here hx rfl (hb hby dj42_53_2) k))) ?_
  show oG _ _ _ _ (s₁.setTop (mkF m 3 #[.val (.ref a1), .val (.ref a2)] [.null, (.ref a2), (.ref a1)]))
  obtain ⟨_, _, ⟨T278, L278, k278, n278⟩, -, X278, ⟨Lc278, hQ278, l278, y278, z278⟩, st278⟩ := X0.specialBack hx (y := mN16) rfl hown (own_v hZ hw 180 rfl) (own_v hZ hw 181 rfl) (own_v hZ hw 182 rfl) (by decide) (backOf (W := 0) (rm_sinit2 l Z a0 hw [] a1 a2 cs cap a4 k zc h0 OL p0_ p1_ p2_ p3_ p4_ p5_ p6_ p7_ st_C hzc hcs hkb hcap hmx hlc hn0) hZ (own_w hw 182 rfl) (own_w hw 4 rfl) (by decide) (by decide)) (g := (mkF m 3 #[.val (.ref a1), .val (.ref a2)] [.null, (.ref a2), (.ref a1)])) rfl (by rw [hml]; rfl) (Steps.refl _) (a := a1) (argsL := [(.ref a2), .null]) (rest := []) (lenOf pd_269 rfl) rfl (by show 2 * 0 + _ ≤ _; exact Nat.le_of_eq rfl) (hb hby dj42_53_3) (fun _ _ => ⟨rfl, e0, (by decide : 0 + 1 ≤ _), (by decide : 0 + 18 ≤ _)⟩)
  dsimp only [Pt.U, Pt.locs, Pt.cells, Pt.slots] at X278 l278 y278 z278 st278 hQ278
  subst l278 y278 z278
  obtain ⟨t_278, rfl, N278q, K278, f278_0, pr278_0⟩ := hQ278
  have N278 := Fr.app N0 N278q
  have z278 : h0.size ≤ T278.heap.size := K278.1
  have lt278_0 : @LT.lt Nat _ a1 T278.heap.size := f278_0.lt
  have ltv278_0 : @LT.lt Nat _ t_278 T278.heap.size := f278_0.ltv
  refine oG.tr st278 ?_
  show oG _ _ _ _ (T278.setTop (mkF m 6 #[.val (.ref a1), .val (.ref a2)] []))
  obtain ⟨fs279, hr279, hrun279, hend279, hW279, hsm279⟩ := X278.leave (v := none) (fun _ => rfl)
  have K280 : Keep h0 T278.heap [a1] := (Keep.refl h0 [a1]).trans K278 (allS (Or.inl (List.mem_of_getElem? (i := 0) rfl)) all0)
  subst hPP
  refine ⟨_, _, X278.returnOut hx Bd.returns (hb hby dj42_53_6) hr279, hrun279, hend279, _, _, rfl, ?_, ⟨_, rfl⟩, hW279, hsm279.mono (by decide) (by decide)⟩
  · show Q_sinit1 Z _ _ _ _ _ _ _ h0 _ T278.heap _
    exact ⟨t_278, rfl, N278, K280, f278_0, (by omega)⟩
theorem dj67_42_0 : decode jdk_67_method_42_code 0 = .ok (.new 18, 3) := by decide +kernel
theorem dj67_42_3 : decode jdk_67_method_42_code 3 = .ok (.dup, 1) := by decide +kernel
theorem dj67_42_4 : decode jdk_67_method_42_code 4 = .ok (.aload_n 0, 1) := by decide +kernel
theorem pd_275 : parseMethodDescriptor "(Ljava/lang/StringBuilder;)V" = some ⟨[(.object "java/lang/StringBuilder")], none⟩ := by decide +kernel
theorem dj67_42_5 : decode jdk_67_method_42_code 5 = .ok (.invokespecial 137, 3) := by decide +kernel
theorem dj67_42_8 : decode jdk_67_method_42_code 8 = .ok (.areturn, 1) := by decide +kernel
def Q_tostr (Z : State) (a1 : Nat) (cs : List Int32) (cap : Nat) (a4 : Nat) (k : ClassId) (zc : Int32) (h0 : Heap) (v : Option Value) (h : Heap) (L : List Loc) : Prop := ∃ (x : Nat), ∃ (t : Nat), v = some (.ref x) ∧ Fr Z.heap.size L ∧ Keep h0 h [] ∧ own_Str Z h x t cs ∧ (h0.size ≤ x) ∧ (h0.size ≤ t)
set_option maxRecDepth 65536 in
set_option maxHeartbeats 40000000 in
theorem rm_tostr (l : Launch) (Z : State) (a0 : Array Value) (hw : ∀ d ∈ tables_1, d.before a0 Z = true) (ws : List Jvm.Cond) (a1 : Nat) (cs : List Int32) (cap : Nat) (a4 : Nat) (k : ClassId) (zc : Int32) (h0 : Heap) (OL : Old Z Z.heap.size h0) (p0_ : Exa Z h0 a1 "java/lang/StringBuilder") (p1_ : Fld Z h0 a1 "java/lang/AbstractStringBuilder" "value" "[B" (.ref a4)) (p2_ : Fld Z h0 a1 "java/lang/AbstractStringBuilder" "coder" "B" (.int (0 : Int32))) (p3_ : Fld Z h0 a1 "java/lang/AbstractStringBuilder" "count" "I" (.int (Int32.ofNat cs.length))) (p4_ : Arv Z h0 a4 k .byte (Int32.ofNat cap) (own_low cs) (.int (0 : Int32))) (st_C : Sta Z Z.heap "java/lang/String" "COMPACT_STRINGS" "Z" (.int zc)) (hzc : ¬ zc = 0) (hcs : cs.length ≤ cap) (hkb : Z.vm.findClass "[B" = some k) (hcap : cap ≤ 100) (hmx : cs.length ≤ 18) (hlc : ∀ c ∈ cs, ¬ c < 0 ∧ ¬ (255 : Int32) < c) :
    MetFree l mN32 (head1 (Jvm.Cond.code mN32 jdk_67_method_42_code 1 (some (.object "java/lang/String")) :: ws) rM25) (fun a U => a = #[(.ref a1)] ∧ Z.Warmed39 U.vm ∧ U.heap = h0) (fun _ _ _ _ _ => True) (fun _ U o U' => ∃ v L, o = .returned v ∧ Q_tostr Z a1 cs cap a4 k zc h0 v U'.heap L ∧ FrameEnd U o U' L rM25.cells rM25.slots) := by
  refine MetFree.of_bodySF (plainFor_of_name pn_71) hisR ?_
  intro p e s m args below meth c s₁ Bd hml0 hP hK
  obtain ⟨rfl, hZ, hh⟩ := hP
  have hx := Bd.exec
  have hby := Bd.bytes
  have hml : c.maxLocals = 1 := hml0
  have hown : s.vm.findClass "java/lang/StringBuilder" = some m.cls := findClass_of_methodNamed Bd.named
  have hnm := (name_of_methodNamed Bd.named Bd.method).1
  have X0 : Stand p l e rM25 s m #[(.ref a1)] below meth c s₁ [] 0 0 := Stand.of_body Bd
  have e0 : s₁.heap = h0 := by rw [← hh, Bd.state]; rfl
  have N0 := Fr.nil Z.heap.size
  have Z0 : Z.heap.size ≤ h0.size := OL.2.1
  have lt_0 : @LT.lt Nat _ a1 h0.size := p0_.lt
  have lt_1 : @LT.lt Nat _ a1 h0.size := p1_.lt
  have lt_2 : @LT.lt Nat _ a1 h0.size := p2_.lt
  have lt_3 : @LT.lt Nat _ a1 h0.size := p3_.lt
  have lt_4 : @LT.lt Nat _ a4 h0.size := p4_.lt
  show oG p.tables e below (fun o tE => ∃ v L, o = .returned v ∧ Q_tostr Z a1 cs cap a4 k zc h0 v tE.heap L ∧ FrameEnd s o tE L rM25.cells rM25.slots) (s₁.setTop (entryFrame m #[(.ref a1)] 1))
  refine own_hd (fun PP hPP => ?_)
  refine oG.st (fun t k => castTop (ef_185 m a1) k) ?_
  show oG _ _ _ _ (s₁.setTop (mkF m 0 #[.val (.ref a1)] []))
  obtain ⟨T281, h281, X281, e281, E281, A281, D281, U281, st281⟩ := newO X0 hx hZ hown (own_w hw 176 rfl) (own_w hw 12 rfl) (own_w hw 4 rfl) e0 (g := (mkF m 0 #[.val (.ref a1)] [])) rfl (hb hby dj67_42_0) (by decide) (by decide)
  obtain ⟨b281, g281⟩ : ∃ z, z = h0.size := ⟨_, rfl⟩
  rw [← g281] at A281 D281 U281 st281
  refine oG.st st281 ?_
  have z281 : h0.size ≤ h281.size := E281.1
  have lt_b281 : @LT.lt Nat _ b281 h281.size := A281.lt
  have f282 : Fld Z h281 b281 "java/lang/String" "value" "[B" .null := D281 (Or.inr (own_w hw 25 rfl)) (ty := (.array .byte)) (by decide)
  have f283 : Fld Z h281 b281 "java/lang/String" "coder" "B" (.int (0 : Int32)) := D281 (Or.inr (own_w hw 27 rfl)) (ty := .byte) (by decide)
  refine oG.st (fun _ k => XS.dup X281.here hx rfl (hb hby dj67_42_3) rfl rfl (XS.aloadN X281.here hx rfl (hb hby dj67_42_4) rfl rfl k)) ?_
  show oG _ _ _ _ (T281.setTop (mkF m 5 #[.val (.ref a1)] [(.ref a1), (.ref b281), (.ref b281)]))
  have f285 : Exa Z h281 a1 "java/lang/StringBuilder" := p0_.ext E281
  have f286 : Fld Z h281 a1 "java/lang/AbstractStringBuilder" "value" "[B" (.ref a4) := p1_.ext E281
  have f287 : Fld Z h281 a1 "java/lang/AbstractStringBuilder" "coder" "B" (.int (0 : Int32)) := p2_.ext E281
  have f288 : Fld Z h281 a1 "java/lang/AbstractStringBuilder" "count" "I" (.int (Int32.ofNat cs.length)) := p3_.ext E281
  have f289 : Arv Z h281 a4 k .byte (Int32.ofNat cap) (own_low cs) (.int (0 : Int32)) := p4_.ext E281
  have f290 : Old Z Z.heap.size h281 := OL.ext E281
  obtain ⟨_, _, ⟨T284, L284, k284, n284⟩, -, X284, ⟨Lc284, hQ284, l284, y284, z284⟩, st284⟩ := X281.specialBack hx (y := mN17) rfl hown (own_v hZ hw 177 rfl) (own_v hZ hw 178 rfl) (own_v hZ hw 179 rfl) (by decide) (backOf (W := 1) (rm_sinit1 l Z a0 hw [] b281 a1 cs cap a4 k zc h281 f290 A281 f282 f283 f285 f286 f287 f288 f289 st_C hzc hcs hkb hcap hmx hlc (by omega)) hZ (own_w hw 179 rfl) (own_w hw 4 rfl) (by decide) (by decide)) (g := (mkF m 5 #[.val (.ref a1)] [(.ref a1), (.ref b281), (.ref b281)])) rfl (by rw [hml]; rfl) (Steps.refl _) (a := b281) (argsL := [(.ref a1)]) (rest := [(.ref b281)]) (lenOf pd_275 rfl) rfl (by show 2 * 0 + _ ≤ _; exact Nat.le_of_eq rfl) (hb hby dj67_42_5) (fun _ _ => ⟨rfl, e281, (by decide : 1 + 1 ≤ _), (by decide : 4 + 18 ≤ _)⟩)
  dsimp only [Pt.U, Pt.locs, Pt.cells, Pt.slots] at X284 l284 y284 z284 st284 hQ284
  subst l284 y284 z284
  obtain ⟨t_284, rfl, N284q, K284, f284_0, pr284_0⟩ := hQ284
  have N284 := Fr.app N0 N284q
  have z284 : h281.size ≤ T284.heap.size := K284.1
  have lt284_0 : @LT.lt Nat _ b281 T284.heap.size := f284_0.lt
  have ltv284_0 : @LT.lt Nat _ t_284 T284.heap.size := f284_0.ltv
  refine oG.tr st284 ?_
  show oG _ _ _ _ (T284.setTop (mkF m 8 #[.val (.ref a1)] [(.ref b281)]))
  obtain ⟨fs291, hr291, hrun291, hend291, hW291, hsm291⟩ := X284.leave (v := some (.ref b281)) (fun h => by rw [Bd.returns] at h; cases h)
  have K292 : Keep h0 h281 [] := (Keep.refl h0 []).ext E281
  have K293 : Keep h0 T284.heap [] := K292.trans K284 (allS (Or.inr (by omega)) all0)
  subst hPP
  refine ⟨_, _, own_retA X284 hx Bd.returns rfl rfl (hb hby dj67_42_8) hr291, hrun291, hend291, _, _, rfl, ?_, ⟨_, rfl⟩, hW291, hsm291.mono (by decide) (by decide)⟩
  · show Q_tostr Z _ _ _ _ _ _ h0 _ T284.heap _
    exact ⟨b281, t_284, rfl, N284, K293, f284_0, (by omega), (by omega)⟩
theorem pn_278 : plainName "java/lang/StringUTF16" = true := by first | (simp [plainName, overriddenIn]; done) | decide +kernel
theorem dj52_4_0 : decode cJ19 0 = .ok (.getstatic 44, 3) := by decide +kernel
theorem dj52_4_3 : decode cJ19 3 = .ok (.ifCond .ne 25, 3) := by decide +kernel
theorem dj52_4_28 : decode cJ19 28 = .ok (.iload_n 1, 1) := by decide +kernel
theorem dj52_4_29 : decode cJ19 29 = .ok (.iconst 1, 1) := by decide +kernel
theorem dj52_4_30 : decode cJ19 30 = .ok (.ishl, 1) := by decide +kernel
theorem dj52_4_31 : decode cJ19 31 = .ok (.istore_n 1, 1) := by decide +kernel
theorem dj52_4_32 : decode cJ19 32 = .ok (.aload_n 0, 1) := by decide +kernel
theorem dj52_4_33 : decode cJ19 33 = .ok (.iload_n 1, 1) := by decide +kernel
theorem dj52_4_34 : decode cJ19 34 = .ok (.iinc 1 1, 3) := by decide +kernel
theorem dj52_4_37 : decode cJ19 37 = .ok (.iload_n 2, 1) := by decide +kernel
theorem dj52_4_38 : decode cJ19 38 = .ok (.getstatic 59, 3) := by decide +kernel
theorem dj52_4_41 : decode cJ19 41 = .ok (.ishr, 1) := by decide +kernel
theorem dj52_4_42 : decode cJ19 42 = .ok (.i2b, 1) := by decide +kernel
theorem dj52_4_43 : decode cJ19 43 = .ok (.bastore, 1) := by decide +kernel
theorem dj52_4_44 : decode cJ19 44 = .ok (.aload_n 0, 1) := by decide +kernel
theorem dj52_4_45 : decode cJ19 45 = .ok (.iload_n 1, 1) := by decide +kernel
theorem dj52_4_46 : decode cJ19 46 = .ok (.iload_n 2, 1) := by decide +kernel
theorem dj52_4_47 : decode cJ19 47 = .ok (.getstatic 63, 3) := by decide +kernel
theorem dj52_4_50 : decode cJ19 50 = .ok (.ishr, 1) := by decide +kernel
theorem dj52_4_51 : decode cJ19 51 = .ok (.i2b, 1) := by decide +kernel
theorem dj52_4_52 : decode cJ19 52 = .ok (.bastore, 1) := by decide +kernel
theorem dj52_4_53 : decode cJ19 53 = .ok (.return_, 1) := by decide +kernel
def Q_putc (Z : State) (a1 : Nat) (p2 : Int32) (p3 : Int32) (i : Nat) (k : ClassId) (n : Int32) (vs : List Value) (d : Value) (h0 : Heap) (v : Option Value) (h : Heap) (L : List Loc) : Prop := v = none ∧ Fr Z.heap.size L ∧ Keep h0 h [a1] ∧ Arv Z h a1 k .byte n ((vs.set (2 * i) (.int (StrChars.lo8 p3))).set (2 * i + 1) (.int (StrChars.hi8 p3))) d
set_option maxRecDepth 65536 in
set_option maxHeartbeats 40000000 in
theorem rm_putc (l : Launch) (Z : State) (a0 : Array Value) (hw : ∀ d ∈ tables_1, d.before a0 Z = true) (ws : List Jvm.Cond) (a1 : Nat) (p2 : Int32) (p3 : Int32) (i : Nat) (k : ClassId) (n : Int32) (vs : List Value) (d : Value) (h0 : Heap) (OL : Old Z Z.heap.size h0) (p0_ : Arv Z h0 a1 k .byte n vs d) (st_A : Sta Z Z.heap "java/lang/StringUTF16" "$assertionsDisabled" "Z" (.int (1 : Int32))) (st_H : Sta Z Z.heap "java/lang/StringUTF16" "HI_BYTE_SHIFT" "I" (.int (0 : Int32))) (st_L : Sta Z Z.heap "java/lang/StringUTF16" "LO_BYTE_SHIFT" "I" (.int (8 : Int32))) (hp2 : p2 = Int32.ofNat i) (hin : 2 * i + 1 < vs.length) (hvl : n = Int32.ofNat vs.length) (hvs : vs.length ≤ 8000) (hn0 : Z.heap.size ≤ a1) :
    MetFree l mN40 (head1 (Jvm.Cond.code mN40 jdk_52_method_4_code 3 none :: ws) rM0) (fun a U => a = #[(.ref a1), (.int p2), (.int p3)] ∧ Z.Warmed39 U.vm ∧ U.heap = h0) (fun _ _ _ _ _ => True) (fun _ U o U' => ∃ v L, o = .returned v ∧ Q_putc Z a1 p2 p3 i k n vs d h0 v U'.heap L ∧ FrameEnd U o U' L rM0.cells rM0.slots) := by
  refine MetFree.of_bodySF (plainFor_of_name pn_278) hisR ?_
  intro p e s m args below meth c s₁ Bd hml0 hP hK
  obtain ⟨rfl, hZ, hh⟩ := hP
  have hx := Bd.exec
  have hby := Bd.bytes
  have hml : c.maxLocals = 3 := hml0
  have hown : s.vm.findClass "java/lang/StringUTF16" = some m.cls := findClass_of_methodNamed Bd.named
  have hnm := (name_of_methodNamed Bd.named Bd.method).1
  have X0 : Stand p l e rM0 s m #[(.ref a1), (.int p2), (.int p3)] below meth c s₁ [] 0 0 := Stand.of_body Bd
  have e0 : s₁.heap = h0 := by rw [← hh, Bd.state]; rfl
  have N0 := Fr.nil Z.heap.size
  have Z0 : Z.heap.size ≤ h0.size := OL.2.1
  have lt_0 : @LT.lt Nat _ a1 h0.size := p0_.lt
  show oG p.tables e below (fun o tE => ∃ v L, o = .returned v ∧ Q_putc Z a1 p2 p3 i k n vs d h0 v tE.heap L ∧ FrameEnd s o tE L rM0.cells rM0.slots) (s₁.setTop (entryFrame m #[(.ref a1), (.int p2), (.int p3)] 3))
  refine own_hd (fun PP hPP => ?_)
  refine oG.st (fun t k => castTop (ef_39 m a1 p2 p3) k) ?_
  subst hp2
  show oG _ _ _ _ (s₁.setTop (mkF m 0 #[.val (.ref a1), .val (.int (Int32.ofNat i)), .val (.int p3)] []))
  obtain ⟨T294, X294, e294, st294⟩ := getS2 X0 hx hZ hown (host := "") (Or.inl (own_w hw 230 rfl)) Via.refl e0 (st_A.ext OL.2) (g := (mkF m 0 #[.val (.ref a1), .val (.int (Int32.ofNat i)), .val (.int p3)] [])) rfl (hb hby dj52_4_0)
  refine oG.st st294 ?_
  show oG _ _ _ _ (T294.setTop (mkF m 3 #[.val (.ref a1), .val (.int (Int32.ofNat i)), .val (.int p3)] [(.int (1 : Int32))]))
  refine oG.st (fun _ k => XS.ifYes X294.here hx rfl (pc0 := 3) (pc' := 28) rfl (hb hby dj52_4_3) rfl ((if0 _ _).trans (feq (by decide : ¬ ((1 : Int32) = (0 : Int32)))).2) (by decide) (by decide) k) ?_
  refine oG.st (fun _ k => XS.iloadN X294.here hx rfl (hb hby dj52_4_28) rfl (XS.iconst X294.here hx rfl (hb hby dj52_4_29) (XS.ishl X294.here hx rfl (hb hby dj52_4_30) rfl (XS.istoreN X294.here hx rfl (hb hby dj52_4_31) rfl (l' := #[.val (.ref a1), .val (.int ((Int32.ofNat i) <<< ((1 : Int32) &&& 31))), .val (.int p3)]) rfl k)))) ?_
  show oG _ _ _ _ (T294.setTop (mkF m 32 #[.val (.ref a1), .val (.int ((Int32.ofNat i) <<< ((1 : Int32) &&& 31))), .val (.int p3)] []))
  rw [own_shl1 (by omega : i < 1000000)]
  refine oG.st (fun _ k => XS.aloadN X294.here hx rfl (hb hby dj52_4_32) rfl rfl (XS.iloadN X294.here hx rfl (hb hby dj52_4_33) rfl (XS.iinc X294.here hx rfl (hb hby dj52_4_34) rfl (l' := #[.val (.ref a1), .val (.int ((Int32.ofNat (2 * i)) + (1 : Int32))), .val (.int p3)]) rfl k))) ?_
  show oG _ _ _ _ (T294.setTop (mkF m 37 #[.val (.ref a1), .val (.int ((Int32.ofNat (2 * i)) + (1 : Int32))), .val (.int p3)] [(.int (Int32.ofNat (2 * i))), (.ref a1)]))
  rw [own_ofS (by omega : 2 * i < 1073741823)]
  refine oG.st (fun _ k => XS.iloadN X294.here hx rfl (hb hby dj52_4_37) rfl k) ?_
  show oG _ _ _ _ (T294.setTop (mkF m 38 #[.val (.ref a1), .val (.int (Int32.ofNat (2 * i + 1))), .val (.int p3)] [(.int p3), (.int (Int32.ofNat (2 * i))), (.ref a1)]))
  obtain ⟨T295, X295, e295, st295⟩ := getS2 X294 hx hZ hown (host := "") (Or.inl (own_w hw 231 rfl)) Via.refl e294 (st_H.ext OL.2) (g := (mkF m 38 #[.val (.ref a1), .val (.int (Int32.ofNat (2 * i + 1))), .val (.int p3)] [(.int p3), (.int (Int32.ofNat (2 * i))), (.ref a1)])) rfl (hb hby dj52_4_38)
  refine oG.st st295 ?_
  refine oG.st (fun _ k => XS.ishr X295.here hx rfl (hb hby dj52_4_41) rfl (XS.i2b X295.here hx rfl (hb hby dj52_4_42) rfl k)) ?_
  show oG _ _ _ _ (T295.setTop (mkF m 43 #[.val (.ref a1), .val (.int (Int32.ofNat (2 * i + 1))), .val (.int p3)] [(.int ((p3 >>> ((0 : Int32) &&& 31)).toInt8.toInt32)), (.int (Int32.ofNat (2 * i))), (.ref a1)]))
  obtain ⟨c296, Ar296, q296, S296, Nn296, H296, G296⟩ := id p0_
  have hin296 : ¬ ((Int32.ofNat (2 * i)) < 0 ∨ c296.slots.size ≤ ((Int32.ofNat (2 * i))).toNatClampNeg) := inb_of S296 ⟨own_of0 (by omega), by rw [hvl]; exact (own_oflt (by omega) (by omega)).mpr (by omega)⟩
  obtain ⟨T296, h296, X296, e296, W296, st296⟩ := stB X295 hx hZ e295 Ar296 (j := (Int32.ofNat (2 * i))) hin296 (g := (mkF m 43 #[.val (.ref a1), .val (.int (Int32.ofNat (2 * i + 1))), .val (.int p3)] [(.int ((p3 >>> ((0 : Int32) &&& 31)).toInt8.toInt32)), (.int (Int32.ofNat (2 * i))), (.ref a1)])) rfl rfl (hb hby dj52_4_43)
  refine oG.st st296 ?_
  have N296 := Fr.snoc X296 N0 (by omega)
  have z296 : h0.size ≤ h296.size := Nat.le_of_eq W296.size.symm
  have f298 := Arv.set Ar296 q296 S296 Nn296 H296 G296 (fits_nar_byte _) W296 (2 * i) (own_ofn (by omega)) (by (try simp only [List.length_set]); omega)
  rw [own_i2b2, StrChars.shr0] at f298
  have f299 : Arv Z h296 a1 k .byte n (vs.set (2 * i) (.int (StrChars.lo8 p3))) d := f298
  refine oG.st (fun _ k => XS.aloadN X296.here hx rfl (hb hby dj52_4_44) rfl rfl (XS.iloadN X296.here hx rfl (hb hby dj52_4_45) rfl (XS.iloadN X296.here hx rfl (hb hby dj52_4_46) rfl k))) ?_
  show oG _ _ _ _ (T296.setTop (mkF m 47 #[.val (.ref a1), .val (.int (Int32.ofNat (2 * i + 1))), .val (.int p3)] [(.int p3), (.int (Int32.ofNat (2 * i + 1))), (.ref a1)]))
  have f300 : Old Z Z.heap.size h296 := OL.wr W296 (by omega)
  obtain ⟨T301, X301, e301, st301⟩ := getS2 X296 hx hZ hown (host := "") (Or.inl (own_w hw 232 rfl)) Via.refl e296 (st_L.ext f300.2) (g := (mkF m 47 #[.val (.ref a1), .val (.int (Int32.ofNat (2 * i + 1))), .val (.int p3)] [(.int p3), (.int (Int32.ofNat (2 * i + 1))), (.ref a1)])) rfl (hb hby dj52_4_47)
  refine oG.st st301 ?_
  refine oG.st (fun _ k => XS.ishr X301.here hx rfl (hb hby dj52_4_50) rfl (XS.i2b X301.here hx rfl (hb hby dj52_4_51) rfl k)) ?_
  show oG _ _ _ _ (T301.setTop (mkF m 52 #[.val (.ref a1), .val (.int (Int32.ofNat (2 * i + 1))), .val (.int p3)] [(.int ((p3 >>> ((8 : Int32) &&& 31)).toInt8.toInt32)), (.int (Int32.ofNat (2 * i + 1))), (.ref a1)]))
  obtain ⟨c302, Ar302, q302, S302, Nn302, H302, G302⟩ := id f299
  have hin302 : ¬ ((Int32.ofNat (2 * i + 1)) < 0 ∨ c302.slots.size ≤ ((Int32.ofNat (2 * i + 1))).toNatClampNeg) := inb_of S302 ⟨own_of0 (by omega), by rw [hvl]; exact (own_oflt (by omega) (by omega)).mpr (by omega)⟩
  obtain ⟨T302, h302, X302, e302, W302, st302⟩ := stB X301 hx hZ e301 Ar302 (j := (Int32.ofNat (2 * i + 1))) hin302 (g := (mkF m 52 #[.val (.ref a1), .val (.int (Int32.ofNat (2 * i + 1))), .val (.int p3)] [(.int ((p3 >>> ((8 : Int32) &&& 31)).toInt8.toInt32)), (.int (Int32.ofNat (2 * i + 1))), (.ref a1)])) rfl rfl (hb hby dj52_4_52)
  refine oG.st st302 ?_
  have N302 := Fr.snoc X302 N296 (by omega)
  have z302 : h296.size ≤ h302.size := Nat.le_of_eq W302.size.symm
  have f304 := Arv.set Ar302 q302 S302 Nn302 H302 G302 (fits_nar_byte _) W302 (2 * i + 1) (own_ofn (by omega)) (by (try simp only [List.length_set]); omega)
  rw [own_i2b2] at f304
  have f305 : Arv Z h302 a1 k .byte n ((vs.set (2 * i) (.int (StrChars.lo8 p3))).set (2 * i + 1) (.int (StrChars.hi8 p3))) d := f304
  show oG _ _ _ _ (T302.setTop (mkF m 53 #[.val (.ref a1), .val (.int (Int32.ofNat (2 * i + 1))), .val (.int p3)] []))
  obtain ⟨fs306, hr306, hrun306, hend306, hW306, hsm306⟩ := X302.leave (v := none) (fun _ => rfl)
  have K307 : Keep h0 h296 [a1] := (Keep.refl h0 [a1]).wr W296 (Or.inl (List.mem_of_getElem? (i := 0) rfl))
  have K308 : Keep h0 h302 [a1] := K307.wr W302 (Or.inl (List.mem_of_getElem? (i := 0) rfl))
  subst hPP
  refine ⟨_, _, X302.returnOut hx Bd.returns (hb hby dj52_4_53) hr306, hrun306, hend306, _, _, rfl, ?_, ⟨_, rfl⟩, hW306, hsm306.mono (by decide) (by decide)⟩
  · show Q_putc Z _ _ _ _ _ _ _ _ h0 _ T302.heap _
    rw [e302]
    exact ⟨rfl, N302, K308, f305⟩
theorem dj52_5_0 : decode cJ20 0 = .ok (.getstatic 44, 3) := by decide +kernel
theorem dj52_5_3 : decode cJ20 3 = .ok (.ifCond .ne 25, 3) := by decide +kernel
theorem dj52_5_28 : decode cJ20 28 = .ok (.iload_n 1, 1) := by decide +kernel
theorem dj52_5_29 : decode cJ20 29 = .ok (.iconst 1, 1) := by decide +kernel
theorem dj52_5_30 : decode cJ20 30 = .ok (.ishl, 1) := by decide +kernel
theorem dj52_5_31 : decode cJ20 31 = .ok (.istore_n 1, 1) := by decide +kernel
theorem dj52_5_32 : decode cJ20 32 = .ok (.aload_n 0, 1) := by decide +kernel
theorem dj52_5_33 : decode cJ20 33 = .ok (.iload_n 1, 1) := by decide +kernel
theorem dj52_5_34 : decode cJ20 34 = .ok (.iinc 1 1, 3) := by decide +kernel
theorem dj52_5_37 : decode cJ20 37 = .ok (.baload, 1) := by decide +kernel
theorem dj52_5_38 : decode cJ20 38 = .ok (.sipush 255, 3) := by decide +kernel
theorem dj52_5_41 : decode cJ20 41 = .ok (.iand, 1) := by decide +kernel
theorem dj52_5_42 : decode cJ20 42 = .ok (.getstatic 59, 3) := by decide +kernel
theorem dj52_5_45 : decode cJ20 45 = .ok (.ishl, 1) := by decide +kernel
theorem dj52_5_46 : decode cJ20 46 = .ok (.aload_n 0, 1) := by decide +kernel
theorem dj52_5_47 : decode cJ20 47 = .ok (.iload_n 1, 1) := by decide +kernel
theorem dj52_5_48 : decode cJ20 48 = .ok (.baload, 1) := by decide +kernel
theorem dj52_5_49 : decode cJ20 49 = .ok (.sipush 255, 3) := by decide +kernel
theorem dj52_5_52 : decode cJ20 52 = .ok (.iand, 1) := by decide +kernel
theorem dj52_5_53 : decode cJ20 53 = .ok (.getstatic 63, 3) := by decide +kernel
theorem dj52_5_56 : decode cJ20 56 = .ok (.ishl, 1) := by decide +kernel
theorem dj52_5_57 : decode cJ20 57 = .ok (.ior, 1) := by decide +kernel
theorem dj52_5_58 : decode cJ20 58 = .ok (.i2c, 1) := by decide +kernel
theorem dj52_5_59 : decode cJ20 59 = .ok (.ireturn, 1) := by decide +kernel
def Q_getc (Z : State) (a1 : Nat) (p2 : Int32) (i : Nat) (k : ClassId) (n : Int32) (vs : List Value) (d : Value) (ch : Int32) (h0 : Heap) (v : Option Value) (h : Heap) (L : List Loc) : Prop := v = some (.int ch) ∧ Fr Z.heap.size L ∧ h = h0
set_option maxRecDepth 65536 in
set_option maxHeartbeats 40000000 in
theorem rm_getc (l : Launch) (Z : State) (a0 : Array Value) (hw : ∀ d ∈ tables_1, d.before a0 Z = true) (ws : List Jvm.Cond) (a1 : Nat) (p2 : Int32) (i : Nat) (k : ClassId) (n : Int32) (vs : List Value) (d : Value) (ch : Int32) (h0 : Heap) (OL : Old Z Z.heap.size h0) (p0_ : Arv Z h0 a1 k .byte n vs d) (st_A : Sta Z Z.heap "java/lang/StringUTF16" "$assertionsDisabled" "Z" (.int (1 : Int32))) (st_H : Sta Z Z.heap "java/lang/StringUTF16" "HI_BYTE_SHIFT" "I" (.int (0 : Int32))) (st_L : Sta Z Z.heap "java/lang/StringUTF16" "LO_BYTE_SHIFT" "I" (.int (8 : Int32))) (hp2 : p2 = Int32.ofNat i) (hin : 2 * i + 1 < vs.length) (hvl : n = Int32.ofNat vs.length) (hvs : vs.length ≤ 8000) (hlo : vs.getD (2 * i) d = .int (StrChars.lo8 ch)) (hhi : vs.getD (2 * i + 1) d = .int (StrChars.hi8 ch)) (hch : ¬ ch < 0 ∧ ¬ (65535 : Int32) < ch) :
    MetFree l mN37 (head1 (Jvm.Cond.code mN37 jdk_52_method_5_code 2 (some .char) :: ws) rM0) (fun a U => a = #[(.ref a1), (.int p2)] ∧ Z.Warmed39 U.vm ∧ U.heap = h0) (fun _ _ _ _ _ => True) (fun _ U o U' => ∃ v L, o = .returned v ∧ Q_getc Z a1 p2 i k n vs d ch h0 v U'.heap L ∧ FrameEnd U o U' L rM0.cells rM0.slots) := by
  refine MetFree.of_bodySF (plainFor_of_name pn_278) hisR ?_
  intro p e s m args below meth c s₁ Bd hml0 hP hK
  obtain ⟨rfl, hZ, hh⟩ := hP
  have hx := Bd.exec
  have hby := Bd.bytes
  have hml : c.maxLocals = 2 := hml0
  have hown : s.vm.findClass "java/lang/StringUTF16" = some m.cls := findClass_of_methodNamed Bd.named
  have hnm := (name_of_methodNamed Bd.named Bd.method).1
  have X0 : Stand p l e rM0 s m #[(.ref a1), (.int p2)] below meth c s₁ [] 0 0 := Stand.of_body Bd
  have e0 : s₁.heap = h0 := by rw [← hh, Bd.state]; rfl
  have N0 := Fr.nil Z.heap.size
  have Z0 : Z.heap.size ≤ h0.size := OL.2.1
  have lt_0 : @LT.lt Nat _ a1 h0.size := p0_.lt
  show oG p.tables e below (fun o tE => ∃ v L, o = .returned v ∧ Q_getc Z a1 p2 i k n vs d ch h0 v tE.heap L ∧ FrameEnd s o tE L rM0.cells rM0.slots) (s₁.setTop (entryFrame m #[(.ref a1), (.int p2)] 2))
  refine own_hd (fun PP hPP => ?_)
  refine oG.st (fun t k => castTop (ef_57 m a1 p2) k) ?_
  subst hp2
  show oG _ _ _ _ (s₁.setTop (mkF m 0 #[.val (.ref a1), .val (.int (Int32.ofNat i))] []))
  obtain ⟨T309, X309, e309, st309⟩ := getS2 X0 hx hZ hown (host := "") (Or.inl (own_w hw 230 rfl)) Via.refl e0 (st_A.ext OL.2) (g := (mkF m 0 #[.val (.ref a1), .val (.int (Int32.ofNat i))] [])) rfl (hb hby dj52_5_0)
  refine oG.st st309 ?_
  show oG _ _ _ _ (T309.setTop (mkF m 3 #[.val (.ref a1), .val (.int (Int32.ofNat i))] [(.int (1 : Int32))]))
  refine oG.st (fun _ k => XS.ifYes X309.here hx rfl (pc0 := 3) (pc' := 28) rfl (hb hby dj52_5_3) rfl ((if0 _ _).trans (feq (by decide : ¬ ((1 : Int32) = (0 : Int32)))).2) (by decide) (by decide) k) ?_
  refine oG.st (fun _ k => XS.iloadN X309.here hx rfl (hb hby dj52_5_28) rfl (XS.iconst X309.here hx rfl (hb hby dj52_5_29) (XS.ishl X309.here hx rfl (hb hby dj52_5_30) rfl (XS.istoreN X309.here hx rfl (hb hby dj52_5_31) rfl (l' := #[.val (.ref a1), .val (.int ((Int32.ofNat i) <<< ((1 : Int32) &&& 31)))]) rfl k)))) ?_
  show oG _ _ _ _ (T309.setTop (mkF m 32 #[.val (.ref a1), .val (.int ((Int32.ofNat i) <<< ((1 : Int32) &&& 31)))] []))
  rw [own_shl1 (by omega : i < 1000000)]
  refine oG.st (fun _ k => XS.aloadN X309.here hx rfl (hb hby dj52_5_32) rfl rfl (XS.iloadN X309.here hx rfl (hb hby dj52_5_33) rfl (XS.iinc X309.here hx rfl (hb hby dj52_5_34) rfl (l' := #[.val (.ref a1), .val (.int ((Int32.ofNat (2 * i)) + (1 : Int32)))]) rfl k))) ?_
  show oG _ _ _ _ (T309.setTop (mkF m 37 #[.val (.ref a1), .val (.int ((Int32.ofNat (2 * i)) + (1 : Int32)))] [(.int (Int32.ofNat (2 * i))), (.ref a1)]))
  rw [own_ofS (by omega : 2 * i < 1073741823)]
  show oG _ _ _ _ (T309.setTop (mkF m 37 #[.val (.ref a1), .val (.int (Int32.ofNat (2 * i + 1)))] [(.int (Int32.ofNat (2 * i))), (.ref a1)]))
  obtain ⟨c310, Ar310, q310, S310, Nn310, H310, G310⟩ := id p0_
  have hin310 : ¬ ((Int32.ofNat (2 * i)) < 0 ∨ c310.slots.size ≤ ((Int32.ofNat (2 * i))).toNatClampNeg) := inb_of S310 ⟨own_of0 (by omega), by rw [hvl]; exact (own_oflt (by omega) (by omega)).mpr (by omega)⟩
  have hat310 : c310.slots[((Int32.ofNat (2 * i))).toNatClampNeg]? = some (.int (StrChars.lo8 ch)) := H310.at hin310 (by rw [own_ofn (by omega)]; exact hlo)
  refine oG.st (X309.baloadBytes hx (j := (Int32.ofNat (2 * i))) (v := (.int (StrChars.lo8 ch))) (own_rwE e309 Ar310.1) (State.isArrayOf_alike hZ.alike Ar310.2.1) Ar310.2.2 hin310 hat310 (g := (mkF m 37 #[.val (.ref a1), .val (.int (Int32.ofNat (2 * i + 1)))] [(.int (Int32.ofNat (2 * i))), (.ref a1)])) rfl rfl (hb hby dj52_5_37)) ?_
  refine oG.st (fun _ k => XS.sipush X309.here hx rfl (hb hby dj52_5_38) (XS.iand X309.here hx rfl (hb hby dj52_5_41) rfl k)) ?_
  show oG _ _ _ _ (T309.setTop (mkF m 42 #[.val (.ref a1), .val (.int (Int32.ofNat (2 * i + 1)))] [(.int ((StrChars.lo8 ch) &&& (255 : Int32)))]))
  obtain ⟨T311, X311, e311, st311⟩ := getS2 X309 hx hZ hown (host := "") (Or.inl (own_w hw 231 rfl)) Via.refl e309 (st_H.ext OL.2) (g := (mkF m 42 #[.val (.ref a1), .val (.int (Int32.ofNat (2 * i + 1)))] [(.int ((StrChars.lo8 ch) &&& (255 : Int32)))])) rfl (hb hby dj52_5_42)
  refine oG.st st311 ?_
  refine oG.st (fun _ k => XS.ishl X311.here hx rfl (hb hby dj52_5_45) rfl (XS.aloadN X311.here hx rfl (hb hby dj52_5_46) rfl rfl (XS.iloadN X311.here hx rfl (hb hby dj52_5_47) rfl k))) ?_
  show oG _ _ _ _ (T311.setTop (mkF m 48 #[.val (.ref a1), .val (.int (Int32.ofNat (2 * i + 1)))] [(.int (Int32.ofNat (2 * i + 1))), (.ref a1), (.int (((StrChars.lo8 ch) &&& (255 : Int32)) <<< ((0 : Int32) &&& 31)))]))
  obtain ⟨c312, Ar312, q312, S312, Nn312, H312, G312⟩ := id p0_
  have hin312 : ¬ ((Int32.ofNat (2 * i + 1)) < 0 ∨ c312.slots.size ≤ ((Int32.ofNat (2 * i + 1))).toNatClampNeg) := inb_of S312 ⟨own_of0 (by omega), by rw [hvl]; exact (own_oflt (by omega) (by omega)).mpr (by omega)⟩
  have hat312 : c312.slots[((Int32.ofNat (2 * i + 1))).toNatClampNeg]? = some (.int (StrChars.hi8 ch)) := H312.at hin312 (by rw [own_ofn (by omega)]; exact hhi)
  refine oG.st (X311.baloadBytes hx (j := (Int32.ofNat (2 * i + 1))) (v := (.int (StrChars.hi8 ch))) (own_rwE e311 Ar312.1) (State.isArrayOf_alike hZ.alike Ar312.2.1) Ar312.2.2 hin312 hat312 (g := (mkF m 48 #[.val (.ref a1), .val (.int (Int32.ofNat (2 * i + 1)))] [(.int (Int32.ofNat (2 * i + 1))), (.ref a1), (.int (((StrChars.lo8 ch) &&& (255 : Int32)) <<< ((0 : Int32) &&& 31)))])) rfl rfl (hb hby dj52_5_48)) ?_
  refine oG.st (fun _ k => XS.sipush X311.here hx rfl (hb hby dj52_5_49) (XS.iand X311.here hx rfl (hb hby dj52_5_52) rfl k)) ?_
  show oG _ _ _ _ (T311.setTop (mkF m 53 #[.val (.ref a1), .val (.int (Int32.ofNat (2 * i + 1)))] [(.int ((StrChars.hi8 ch) &&& (255 : Int32))), (.int (((StrChars.lo8 ch) &&& (255 : Int32)) <<< ((0 : Int32) &&& 31)))]))
  obtain ⟨T313, X313, e313, st313⟩ := getS2 X311 hx hZ hown (host := "") (Or.inl (own_w hw 232 rfl)) Via.refl e311 (st_L.ext OL.2) (g := (mkF m 53 #[.val (.ref a1), .val (.int (Int32.ofNat (2 * i + 1)))] [(.int ((StrChars.hi8 ch) &&& (255 : Int32))), (.int (((StrChars.lo8 ch) &&& (255 : Int32)) <<< ((0 : Int32) &&& 31)))])) rfl (hb hby dj52_5_53)
  refine oG.st st313 ?_
  refine oG.st (fun _ k => XS.ishl X313.here hx rfl (hb hby dj52_5_56) rfl (XS.ior X313.here hx rfl (hb hby dj52_5_57) rfl (XS.i2c X313.here hx rfl (hb hby dj52_5_58) rfl k))) ?_
  show oG _ _ _ _ (T313.setTop (mkF m 59 #[.val (.ref a1), .val (.int (Int32.ofNat (2 * i + 1)))] [(.int (((((StrChars.lo8 ch) &&& (255 : Int32)) <<< ((0 : Int32) &&& 31)) ||| (((StrChars.hi8 ch) &&& (255 : Int32)) <<< ((8 : Int32) &&& 31))).toUInt32.toUInt16.toUInt32.toInt32))]))
  obtain ⟨fs314, hr314, hrun314, hend314, hW314, hsm314⟩ := X313.leave (v := some (.int (nar .char (((((StrChars.lo8 ch) &&& (255 : Int32)) <<< ((0 : Int32) &&& 31)) ||| (((StrChars.hi8 ch) &&& (255 : Int32)) <<< ((8 : Int32) &&& 31))).toUInt32.toUInt16.toUInt32.toInt32)))) (fun h => by rw [Bd.returns] at h; cases h)
  subst hPP
  refine ⟨_, _, retN X313 hx (t := .char) Bd.returns (by simp) (hb hby dj52_5_59) hr314, hrun314, hend314, _, _, rfl, ?_, ⟨_, rfl⟩, hW314, hsm314.mono (by decide) (by decide)⟩
  · show Q_getc Z _ _ _ _ _ _ _ _ h0 _ T313.heap _
    rw [e313]
    exact ⟨(by have q := StrChars.pair_says hch.1 hch.2; unfold StrChars.pairCh at q; rw [q, own_nar hch]), N0, rfl⟩
theorem dj43_3_11 : decode cJ14 11 = .ok (.iconst 0, 1) := by decide +kernel
def Q_canEnc (Z : State) (p1 : Int32) (h0 : Heap) (v : Option Value) (h : Heap) (L : List Loc) : Prop := v = some (.int (if (255 : Int32) < p1 then (0 : Int32) else 1)) ∧ Fr Z.heap.size L ∧ h = h0
set_option maxRecDepth 65536 in
set_option maxHeartbeats 40000000 in
theorem rm_canEnc (l : Launch) (Z : State) (a0 : Array Value) (hw : ∀ d ∈ tables_1, d.before a0 Z = true) (ws : List Jvm.Cond) (p1 : Int32) (h0 : Heap) (OL : Old Z Z.heap.size h0) :
    MetFree l mN35 (head1 (Jvm.Cond.code mN35 jdk_43_method_3_code 1 (some .boolean) :: ws) rM0) (fun a U => a = #[(.int p1)] ∧ Z.Warmed39 U.vm ∧ U.heap = h0) (fun _ _ _ _ _ => True) (fun _ U o U' => ∃ v L, o = .returned v ∧ Q_canEnc Z p1 h0 v U'.heap L ∧ FrameEnd U o U' L rM0.cells rM0.slots) := by
  refine MetFree.of_bodySF (plainFor_of_name pn_177) hisR ?_
  intro p e s m args below meth c s₁ Bd hml0 hP hK
  obtain ⟨rfl, hZ, hh⟩ := hP
  have hx := Bd.exec
  have hby := Bd.bytes
  have hml : c.maxLocals = 1 := hml0
  have hown : s.vm.findClass "java/lang/StringLatin1" = some m.cls := findClass_of_methodNamed Bd.named
  have hnm := (name_of_methodNamed Bd.named Bd.method).1
  have X0 : Stand p l e rM0 s m #[(.int p1)] below meth c s₁ [] 0 0 := Stand.of_body Bd
  have e0 : s₁.heap = h0 := by rw [← hh, Bd.state]; rfl
  have N0 := Fr.nil Z.heap.size
  have Z0 : Z.heap.size ≤ h0.size := OL.2.1
  show oG p.tables e below (fun o tE => ∃ v L, o = .returned v ∧ Q_canEnc Z p1 h0 v tE.heap L ∧ FrameEnd s o tE L rM0.cells rM0.slots) (s₁.setTop (entryFrame m #[(.int p1)] 1))
  refine own_hd (fun PP hPP => ?_)
  refine oG.st (fun t k => castTop (ef_178 m p1) k) ?_
  refine oG.st (fun _ k => XS.iloadN X0.here hx rfl (hb hby dj43_3_0) rfl (XS.sipush X0.here hx rfl (hb hby dj43_3_1) k)) ?_
  show oG _ _ _ _ (s₁.setTop (mkF m 4 #[.val (.int p1)] [(.int (255 : Int32)), (.int p1)]))
  by_cases hc315 : (255 : Int32) < p1
  ·
    refine oG.st (fun _ k => XS.icmpYes X0.here hx rfl (pc0 := 4) (pc' := 11) rfl (hb hby dj43_3_4) rfl (tlt hc315).2.2.1 (by decide) (by decide) k) ?_
    refine oG.st (fun _ k => XS.iconst X0.here hx rfl (hb hby dj43_3_11) k) ?_
    show oG _ _ _ _ (s₁.setTop (mkF m 12 #[.val (.int p1)] [(.int (0 : Int32))]))
    obtain ⟨fs316, hr316, hrun316, hend316, hW316, hsm316⟩ := X0.leave (v := some (.int (nar .boolean (0 : Int32)))) (fun h => by rw [Bd.returns] at h; cases h)
    subst hPP
    refine ⟨_, _, retN X0 hx (t := .boolean) Bd.returns (by simp) (hb hby dj43_3_12) hr316, hrun316, hend316, _, _, rfl, ?_, ⟨_, rfl⟩, hW316, hsm316.mono (by decide) (by decide)⟩
    · show Q_canEnc Z _ h0 _ s₁.heap _
      rw [e0]
      exact ⟨(by rw [if_pos hc315]; rfl), N0, rfl⟩
  ·
    refine oG.st (fun _ k => XS.icmpNo X0.here hx rfl (hb hby dj43_3_4) rfl (flt hc315).2.2.1 k) ?_
    refine oG.st (fun _ k => XS.iconst X0.here hx rfl (hb hby dj43_3_7) (XS.goto X0.here hx rfl (pc0 := 8) (pc' := 12) rfl (hb hby dj43_3_8) (by decide) (by decide) k)) ?_
    show oG _ _ _ _ (s₁.setTop (mkF m 12 #[.val (.int p1)] [(.int (1 : Int32))]))
    obtain ⟨fs317, hr317, hrun317, hend317, hW317, hsm317⟩ := X0.leave (v := some (.int (nar .boolean (1 : Int32)))) (fun h => by rw [Bd.returns] at h; cases h)
    subst hPP
    refine ⟨_, _, retN X0 hx (t := .boolean) Bd.returns (by simp) (hb hby dj43_3_12) hr317, hrun317, hend317, _, _, rfl, ?_, ⟨_, rfl⟩, hW317, hsm317.mono (by decide) (by decide)⟩
    · show Q_canEnc Z _ h0 _ s₁.heap _
      rw [e0]
      exact ⟨(by rw [if_neg hc315]; rfl), N0, rfl⟩
theorem dj43_46_0 : decode cJ15 0 = .ok (.iconst 1, 1) := by decide +kernel
theorem dj43_46_1 : decode cJ15 1 = .ok (.newarray .byte, 2) := by decide +kernel
theorem dj43_46_3 : decode cJ15 3 = .ok (.dup, 1) := by decide +kernel
theorem dj43_46_4 : decode cJ15 4 = .ok (.iconst 0, 1) := by decide +kernel
theorem dj43_46_5 : decode cJ15 5 = .ok (.iload_n 0, 1) := by decide +kernel
theorem dj43_46_6 : decode cJ15 6 = .ok (.i2b, 1) := by decide +kernel
theorem dj43_46_7 : decode cJ15 7 = .ok (.bastore, 1) := by decide +kernel
theorem dj43_46_8 : decode cJ15 8 = .ok (.areturn, 1) := by decide +kernel
def Q_toBytes1 (Z : State) (p1 : Int32) (h0 : Heap) (v : Option Value) (h : Heap) (L : List Loc) : Prop := ∃ (x : Nat), ∃ (k : ClassId), v = some (.ref x) ∧ Fr Z.heap.size L ∧ Keep h0 h [] ∧ Arv Z h x k .byte (1 : Int32) [(.int (StrChars.lo8 p1))] (.int (0 : Int32)) ∧ Exa Z h x "[B" ∧ (h0.size ≤ x)
set_option maxRecDepth 65536 in
set_option maxHeartbeats 40000000 in
theorem rm_toBytes1 (l : Launch) (Z : State) (a0 : Array Value) (hw : ∀ d ∈ tables_1, d.before a0 Z = true) (ws : List Jvm.Cond) (p1 : Int32) (h0 : Heap) (OL : Old Z Z.heap.size h0) :
    MetFree l mN36 (head1 (Jvm.Cond.code mN36 jdk_43_method_46_code 1 (some (.array .byte)) :: ws) rM1) (fun a U => a = #[(.int p1)] ∧ Z.Warmed39 U.vm ∧ U.heap = h0) (fun _ _ _ _ _ => True) (fun _ U o U' => ∃ v L, o = .returned v ∧ Q_toBytes1 Z p1 h0 v U'.heap L ∧ FrameEnd U o U' L rM1.cells rM1.slots) := by
  refine MetFree.of_bodySF (plainFor_of_name pn_177) hisR ?_
  intro p e s m args below meth c s₁ Bd hml0 hP hK
  obtain ⟨rfl, hZ, hh⟩ := hP
  have hx := Bd.exec
  have hby := Bd.bytes
  have hml : c.maxLocals = 1 := hml0
  have hown : s.vm.findClass "java/lang/StringLatin1" = some m.cls := findClass_of_methodNamed Bd.named
  have hnm := (name_of_methodNamed Bd.named Bd.method).1
  have X0 : Stand p l e rM1 s m #[(.int p1)] below meth c s₁ [] 0 0 := Stand.of_body Bd
  have e0 : s₁.heap = h0 := by rw [← hh, Bd.state]; rfl
  have N0 := Fr.nil Z.heap.size
  have Z0 : Z.heap.size ≤ h0.size := OL.2.1
  show oG p.tables e below (fun o tE => ∃ v L, o = .returned v ∧ Q_toBytes1 Z p1 h0 v tE.heap L ∧ FrameEnd s o tE L rM1.cells rM1.slots) (s₁.setTop (entryFrame m #[(.int p1)] 1))
  refine own_hd (fun PP hPP => ?_)
  refine oG.st (fun t k => castTop (ef_178 m p1) k) ?_
  refine oG.st (fun _ k => XS.iconst X0.here hx rfl (hb hby dj43_46_0) k) ?_
  show oG _ _ _ _ (s₁.setTop (mkF m 1 #[.val (.int p1)] [(.int (1 : Int32))]))
  obtain ⟨T318, h318, k318, X318, e318, E318, A318, kn318, st318⟩ := own_newB X0 hx hZ (own_w hw 16 rfl) e0 (g := (mkF m 1 #[.val (.int p1)] [(.int (1 : Int32))])) rfl (hb hby dj43_46_1) rfl (by decide) (cap := 1) (by decide) (by decide) (by decide) (by decide)
  obtain ⟨b318, g318⟩ : ∃ z, z = h0.size := ⟨_, rfl⟩
  rw [← g318] at A318 st318
  refine oG.st st318 ?_
  have z318 : h0.size ≤ h318.size := E318.1
  have f319 : Arv Z h318 b318 k318 .byte (1 : Int32) [(.int (0 : Int32))] (.int (0 : Int32)) := (Arv.new A318 (by decide)).pad (pad_rep [] (.int (0 : Int32)) 1)
  have x318 : Exa Z h318 b318 "[B" := own_exaB A318 rfl kn318
  have lt_b318 : @LT.lt Nat _ b318 h318.size := f319.lt
  refine oG.st (fun _ k => XS.dup X318.here hx rfl (hb hby dj43_46_3) rfl rfl (XS.iconst X318.here hx rfl (hb hby dj43_46_4) (XS.iloadN X318.here hx rfl (hb hby dj43_46_5) rfl (XS.i2b X318.here hx rfl (hb hby dj43_46_6) rfl k)))) ?_
  show oG _ _ _ _ (T318.setTop (mkF m 7 #[.val (.int p1)] [(.int (p1.toInt8.toInt32)), (.int (0 : Int32)), (.ref b318), (.ref b318)]))
  obtain ⟨c320, Ar320, q320, S320, Nn320, H320, G320⟩ := id f319
  have hin320 : ¬ ((0 : Int32) < 0 ∨ c320.slots.size ≤ ((0 : Int32)).toNatClampNeg) := inb_of S320 ⟨by decide, by decide⟩
  obtain ⟨T320, h320, X320, e320, W320, st320⟩ := stB X318 hx hZ e318 Ar320 (j := (0 : Int32)) hin320 (g := (mkF m 7 #[.val (.int p1)] [(.int (p1.toInt8.toInt32)), (.int (0 : Int32)), (.ref b318), (.ref b318)])) rfl rfl (hb hby dj43_46_7)
  refine oG.st st320 ?_
  have N320 := Fr.snoc X320 N0 (by omega)
  have z320 : h318.size ≤ h320.size := Nat.le_of_eq W320.size.symm
  have f321 := Arv.set Ar320 q320 S320 Nn320 H320 G320 (fits_nar_byte _) W320 0 rfl (Nat.le_of_ble_eq_true rfl)
  have f322 : Arv Z h320 b318 k318 .byte (1 : Int32) [(.int (nar .byte (p1.toInt8.toInt32)))] (.int (0 : Int32)) := f321
  show oG _ _ _ _ (T320.setTop (mkF m 8 #[.val (.int p1)] [(.ref b318)]))
  obtain ⟨fs323, hr323, hrun323, hend323, hW323, hsm323⟩ := X320.leave (v := some (.ref b318)) (fun h => by rw [Bd.returns] at h; cases h)
  have f324 : Arv Z h320 b318 k318 .byte (1 : Int32) [(.int (StrChars.lo8 p1))] (.int (0 : Int32)) := by
    have q := f322
    rw [own_narB] at q
    exact q
  have f325 : Exa Z h320 b318 "[B" := x318.wr W320
  have K326 : Keep h0 h318 [] := (Keep.refl h0 []).ext E318
  have K327 : Keep h0 h320 [] := K326.wr W320 (Or.inr (by omega))
  subst hPP
  refine ⟨_, _, own_retA X320 hx Bd.returns rfl rfl (hb hby dj43_46_8) hr323, hrun323, hend323, _, _, rfl, ?_, ⟨_, rfl⟩, hW323, hsm323.mono (by decide) (by decide)⟩
  · show Q_toBytes1 Z _ h0 _ T320.heap _
    rw [e320]
    exact ⟨b318, k318, rfl, N320, K327, f324, f325, (by omega)⟩
theorem ef_334 (m : MethodId) (x0 : Int32) : entryFrame m #[(.int x0)] 2 = mkF m 0 #[.val (.int x0), .unset] [] := by first | (simp [entryFrame, mkF, argsToLocals, Value.category]; done) | rfl
theorem dj52_24_0 : decode cJ17 0 = .ok (.iconst 2, 1) := by decide +kernel
theorem dj52_24_1 : decode cJ17 1 = .ok (.newarray .byte, 2) := by decide +kernel
theorem dj52_24_3 : decode cJ17 3 = .ok (.astore_n 1, 1) := by decide +kernel
theorem dj52_24_4 : decode cJ17 4 = .ok (.aload_n 1, 1) := by decide +kernel
theorem dj52_24_5 : decode cJ17 5 = .ok (.iconst 0, 1) := by decide +kernel
theorem dj52_24_6 : decode cJ17 6 = .ok (.iload_n 0, 1) := by decide +kernel
theorem pd_341 : parseMethodDescriptor "([BII)V" = some ⟨[(.array .byte), .int, .int], none⟩ := by decide +kernel
theorem dj52_24_7 : decode cJ17 7 = .ok (.invokestatic 111, 3) := by decide +kernel
theorem dj52_24_10 : decode cJ17 10 = .ok (.aload_n 1, 1) := by decide +kernel
theorem dj52_24_11 : decode cJ17 11 = .ok (.areturn, 1) := by decide +kernel
def Q_toBytesU (Z : State) (p1 : Int32) (h0 : Heap) (v : Option Value) (h : Heap) (L : List Loc) : Prop := ∃ (x : Nat), ∃ (k : ClassId), v = some (.ref x) ∧ Fr Z.heap.size L ∧ Keep h0 h [] ∧ Arv Z h x k .byte (2 : Int32) [(.int (StrChars.lo8 p1)), (.int (StrChars.hi8 p1))] (.int (0 : Int32)) ∧ Exa Z h x "[B" ∧ (h0.size ≤ x)
set_option maxRecDepth 65536 in
set_option maxHeartbeats 40000000 in
theorem rm_toBytesU (l : Launch) (Z : State) (a0 : Array Value) (hw : ∀ d ∈ tables_1, d.before a0 Z = true) (ws : List Jvm.Cond) (p1 : Int32) (h0 : Heap) (OL : Old Z Z.heap.size h0) (st_A : Sta Z Z.heap "java/lang/StringUTF16" "$assertionsDisabled" "Z" (.int (1 : Int32))) (st_H : Sta Z Z.heap "java/lang/StringUTF16" "HI_BYTE_SHIFT" "I" (.int (0 : Int32))) (st_L : Sta Z Z.heap "java/lang/StringUTF16" "LO_BYTE_SHIFT" "I" (.int (8 : Int32))) :
    MetFree l mN41 (head1 (Jvm.Cond.code mN41 jdk_52_method_24_code 2 (some (.array .byte)) :: ws) rM8) (fun a U => a = #[(.int p1)] ∧ Z.Warmed39 U.vm ∧ U.heap = h0) (fun _ _ _ _ _ => True) (fun _ U o U' => ∃ v L, o = .returned v ∧ Q_toBytesU Z p1 h0 v U'.heap L ∧ FrameEnd U o U' L rM8.cells rM8.slots) := by
  refine MetFree.of_bodySF (plainFor_of_name pn_278) hisR ?_
  intro p e s m args below meth c s₁ Bd hml0 hP hK
  obtain ⟨rfl, hZ, hh⟩ := hP
  have hx := Bd.exec
  have hby := Bd.bytes
  have hml : c.maxLocals = 2 := hml0
  have hown : s.vm.findClass "java/lang/StringUTF16" = some m.cls := findClass_of_methodNamed Bd.named
  have hnm := (name_of_methodNamed Bd.named Bd.method).1
  have X0 : Stand p l e rM8 s m #[(.int p1)] below meth c s₁ [] 0 0 := Stand.of_body Bd
  have e0 : s₁.heap = h0 := by rw [← hh, Bd.state]; rfl
  have N0 := Fr.nil Z.heap.size
  have Z0 : Z.heap.size ≤ h0.size := OL.2.1
  show oG p.tables e below (fun o tE => ∃ v L, o = .returned v ∧ Q_toBytesU Z p1 h0 v tE.heap L ∧ FrameEnd s o tE L rM8.cells rM8.slots) (s₁.setTop (entryFrame m #[(.int p1)] 2))
  refine own_hd (fun PP hPP => ?_)
  refine oG.st (fun t k => castTop (ef_334 m p1) k) ?_
  refine oG.st (fun _ k => XS.iconst X0.here hx rfl (hb hby dj52_24_0) k) ?_
  show oG _ _ _ _ (s₁.setTop (mkF m 1 #[.val (.int p1), .unset] [(.int (2 : Int32))]))
  obtain ⟨T328, h328, k328, X328, e328, E328, A328, kn328, st328⟩ := own_newB X0 hx hZ (own_w hw 16 rfl) e0 (g := (mkF m 1 #[.val (.int p1), .unset] [(.int (2 : Int32))])) rfl (hb hby dj52_24_1) rfl (by decide) (cap := 2) (by decide) (by decide) (by decide) (by decide)
  obtain ⟨b328, g328⟩ : ∃ z, z = h0.size := ⟨_, rfl⟩
  rw [← g328] at A328 st328
  refine oG.st st328 ?_
  have z328 : h0.size ≤ h328.size := E328.1
  have f329 : Arv Z h328 b328 k328 .byte (2 : Int32) [(.int (0 : Int32)), (.int (0 : Int32))] (.int (0 : Int32)) := (Arv.new A328 (by decide)).pad (pad_rep [] (.int (0 : Int32)) 2)
  have x328 : Exa Z h328 b328 "[B" := own_exaB A328 rfl kn328
  have lt_b328 : @LT.lt Nat _ b328 h328.size := f329.lt
  refine oG.st (fun _ k => XS.astoreN X328.here hx rfl (hb hby dj52_24_3) rfl rfl (l' := #[.val (.int p1), .val (.ref b328)]) rfl (XS.aloadN X328.here hx rfl (hb hby dj52_24_4) rfl rfl (XS.iconst X328.here hx rfl (hb hby dj52_24_5) (XS.iloadN X328.here hx rfl (hb hby dj52_24_6) rfl k)))) ?_
  show oG _ _ _ _ (T328.setTop (mkF m 7 #[.val (.int p1), .val (.ref b328)] [(.int p1), (.int (0 : Int32)), (.ref b328)]))
  have f331 : Old Z Z.heap.size h328 := OL.ext E328
  obtain ⟨_, _, ⟨T330, L330, k330, n330⟩, -, X330, ⟨Lc330, hQ330, l330, y330, z330⟩, st330⟩ := Jvm.LawKit.callS X328 hx (y := mN40) hown (own_v hZ hw 227 rfl) (own_v hZ hw 228 rfl) (own_v hZ hw 51 rfl) (own_v hZ hw 229 rfl) (by decide) (backOf (W := 0) (rm_putc l Z a0 hw [] b328 (0 : Int32) p1 0 k328 (2 : Int32) [(.int (0 : Int32)), (.int (0 : Int32))] (.int (0 : Int32)) h328 f331 f329 st_A st_H st_L rfl (Nat.le_of_ble_eq_true rfl) rfl (Nat.le_of_ble_eq_true rfl) (by omega)) hZ (own_w hw 229 rfl) (own_w hw 51 rfl) (by decide) (by decide)) (g := (mkF m 7 #[.val (.int p1), .val (.ref b328)] [(.int p1), (.int (0 : Int32)), (.ref b328)])) rfl (by rw [hml]; rfl) (argsL := [(.ref b328), (.int (0 : Int32)), (.int p1)]) (rest := []) (lenOf pd_341 rfl) rfl (by show 2 * 0 + _ ≤ _; exact Nat.le_of_eq rfl) (hb hby dj52_24_7) (fun _ _ => ⟨rfl, e328, (by decide : 1 + 0 ≤ _), (by decide : 2 + 0 ≤ _)⟩)
  dsimp only [Pt.U, Pt.locs, Pt.cells, Pt.slots] at X330 l330 y330 z330 st330 hQ330
  subst l330 y330 z330
  obtain ⟨rfl, N330q, K330, f330_0⟩ := hQ330
  have N330 := Fr.app N0 N330q
  have z330 : h328.size ≤ T330.heap.size := K330.1
  have lt330_0 : @LT.lt Nat _ b328 T330.heap.size := f330_0.lt
  refine oG.st st330 ?_
  refine oG.st (fun _ k => XS.aloadN X330.here hx rfl (hb hby dj52_24_10) rfl rfl k) ?_
  show oG _ _ _ _ (T330.setTop (mkF m 11 #[.val (.int p1), .val (.ref b328)] [(.ref b328)]))
  obtain ⟨fs332, hr332, hrun332, hend332, hW332, hsm332⟩ := X330.leave (v := some (.ref b328)) (fun h => by rw [Bd.returns] at h; cases h)
  have f333 : Arv Z T330.heap b328 k328 .byte (2 : Int32) [(.int (StrChars.lo8 p1)), (.int (StrChars.hi8 p1))] (.int (0 : Int32)) := f330_0
  have f334 : Exa Z T330.heap b328 "[B" := x328.keep K330
  have K335 : Keep h0 h328 [] := (Keep.refl h0 []).ext E328
  have K336 : Keep h0 T330.heap [] := K335.trans K330 (allS (Or.inr (by omega)) all0)
  subst hPP
  refine ⟨_, _, own_retA X330 hx Bd.returns rfl rfl (hb hby dj52_24_11) hr332, hrun332, hend332, _, _, rfl, ?_, ⟨_, rfl⟩, hW332, hsm332.mono (by decide) (by decide)⟩
  · show Q_toBytesU Z _ h0 _ T330.heap _
    exact ⟨b328, k328, rfl, N330, K336, f333, f334, (by omega)⟩
theorem ef_345 (m : MethodId) (x0 : Nat) (x1 : Nat) (x2 : Int32) : entryFrame m #[(.ref x0), (.ref x1), (.int x2)] 3 = mkF m 0 #[.val (.ref x0), .val (.ref x1), .val (.int x2)] [] := by first | (simp [entryFrame, mkF, argsToLocals, Value.category]; done) | rfl
theorem dj42_151_0 : decode cJ7 0 = .ok (.aload_n 0, 1) := by decide +kernel
theorem dj42_151_1 : decode cJ7 1 = .ok (.invokespecial 1, 3) := by decide +kernel
theorem dj42_151_4 : decode cJ7 4 = .ok (.aload_n 0, 1) := by decide +kernel
theorem dj42_151_5 : decode cJ7 5 = .ok (.aload_n 1, 1) := by decide +kernel
theorem dj42_151_6 : decode cJ7 6 = .ok (.putfield 9, 3) := by decide +kernel
theorem dj42_151_9 : decode cJ7 9 = .ok (.aload_n 0, 1) := by decide +kernel
theorem dj42_151_10 : decode cJ7 10 = .ok (.iload_n 2, 1) := by decide +kernel
theorem dj42_151_11 : decode cJ7 11 = .ok (.putfield 15, 3) := by decide +kernel
theorem dj42_151_14 : decode cJ7 14 = .ok (.return_, 1) := by decide +kernel
def Q_sinitBB0 (Z : State) (a1 : Nat) (a2 : Nat) (h0 : Heap) (v : Option Value) (h : Heap) (L : List Loc) : Prop := v = none ∧ Fr Z.heap.size L ∧ Keep h0 h [a1] ∧ Exa Z h a1 "java/lang/String" ∧ Fld Z h a1 "java/lang/String" "value" "[B" (.ref a2) ∧ Fld Z h a1 "java/lang/String" "coder" "B" (.int (0 : Int32))
set_option maxRecDepth 65536 in
set_option maxHeartbeats 40000000 in
theorem rm_sinitBB0 (l : Launch) (Z : State) (a0 : Array Value) (hw : ∀ d ∈ tables_1, d.before a0 Z = true) (ws : List Jvm.Cond) (a1 : Nat) (a2 : Nat) (h0 : Heap) (OL : Old Z Z.heap.size h0) (p0_ : Exa Z h0 a1 "java/lang/String") (p1_ : Fld Z h0 a1 "java/lang/String" "value" "[B" .null) (p2_ : Fld Z h0 a1 "java/lang/String" "coder" "B" (.int (0 : Int32))) (hn0 : Z.heap.size ≤ a1) :
    MetFree l mN18 (head1 (Jvm.Cond.code mN18 jdk_42_method_151_code 3 none :: ws) rM2) (fun a U => a = #[(.ref a1), (.ref a2), (.int (0 : Int32))] ∧ Z.Warmed39 U.vm ∧ U.heap = h0) (fun _ _ _ _ _ => True) (fun _ U o U' => ∃ v L, o = .returned v ∧ Q_sinitBB0 Z a1 a2 h0 v U'.heap L ∧ FrameEnd U o U' L rM2.cells rM2.slots) := by
  refine MetFree.of_bodySF (plainFor_of_name pn_240) hisR ?_
  intro p e s m args below meth c s₁ Bd hml0 hP hK
  obtain ⟨rfl, hZ, hh⟩ := hP
  have hx := Bd.exec
  have hby := Bd.bytes
  have hml : c.maxLocals = 3 := hml0
  have hown : s.vm.findClass "java/lang/String" = some m.cls := findClass_of_methodNamed Bd.named
  have hnm := (name_of_methodNamed Bd.named Bd.method).1
  have X0 : Stand p l e rM2 s m #[(.ref a1), (.ref a2), (.int (0 : Int32))] below meth c s₁ [] 0 0 := Stand.of_body Bd
  have e0 : s₁.heap = h0 := by rw [← hh, Bd.state]; rfl
  have N0 := Fr.nil Z.heap.size
  have Z0 : Z.heap.size ≤ h0.size := OL.2.1
  have lt_0 : @LT.lt Nat _ a1 h0.size := p0_.lt
  have lt_1 : @LT.lt Nat _ a1 h0.size := p1_.lt
  have lt_2 : @LT.lt Nat _ a1 h0.size := p2_.lt
  show oG p.tables e below (fun o tE => ∃ v L, o = .returned v ∧ Q_sinitBB0 Z a1 a2 h0 v tE.heap L ∧ FrameEnd s o tE L rM2.cells rM2.slots) (s₁.setTop (entryFrame m #[(.ref a1), (.ref a2), (.int (0 : Int32))] 3))
  refine own_hd (fun PP hPP => ?_)
  refine oG.st (fun t k => castTop (ef_345 m a1 a2 (0 : Int32)) k) ?_
  refine oG.st (fun _ k => XS.aloadN X0.here hx rfl (hb hby dj42_151_0) rfl rfl k) ?_
  show oG _ _ _ _ (s₁.setTop (mkF m 1 #[.val (.ref a1), .val (.ref a2), .val (.int (0 : Int32))] [(.ref a1)]))
  obtain ⟨T337, X337, e337, st337⟩ := initO X0 hx hZ hown (own_w hw 21 rfl) (own_w hw 22 rfl) (own_w hw 23 rfl) e0 (g := (mkF m 1 #[.val (.ref a1), .val (.ref a2), .val (.int (0 : Int32))] [(.ref a1)])) rfl (by rw [hml]; rfl) rfl (hb hby dj42_151_1) (by decide) (W := 0) (by show 2 * 0 + _ ≤ _; exact Nat.le_of_eq rfl) (by decide)
  refine oG.st st337 ?_
  refine oG.st (fun _ k => XS.aloadN X337.here hx rfl (hb hby dj42_151_4) rfl rfl (XS.aloadN X337.here hx rfl (hb hby dj42_151_5) rfl rfl k)) ?_
  show oG _ _ _ _ (T337.setTop (mkF m 6 #[.val (.ref a1), .val (.ref a2), .val (.int (0 : Int32))] [(.ref a2), (.ref a1)]))
  obtain ⟨T338, h338, X338, e338, W338, st338⟩ := putF X337 hx hZ hown (host := "") (Or.inl (own_w hw 24 rfl)) Via.refl e337 p1_ p0_ (Or.inr ⟨(own_w hw 25 rfl), rfl, hnm⟩) (own_w hw 12 rfl) (ty := (.array .byte)) (by decide) rfl rfl (g := (mkF m 6 #[.val (.ref a1), .val (.ref a2), .val (.int (0 : Int32))] [(.ref a2), (.ref a1)])) rfl rfl (hb hby dj42_151_6)
  refine oG.st st338 ?_
  have N338 := Fr.snoc X338 N0 (by omega)
  have z338 : h0.size ≤ h338.size := Nat.le_of_eq W338.size.symm
  have f339 : Fld Z h338 a1 "java/lang/String" "value" "[B" (.ref a2) := p1_.same W338
  refine oG.st (fun _ k => XS.aloadN X338.here hx rfl (hb hby dj42_151_9) rfl rfl (XS.iloadN X338.here hx rfl (hb hby dj42_151_10) rfl k)) ?_
  show oG _ _ _ _ (T338.setTop (mkF m 11 #[.val (.ref a1), .val (.ref a2), .val (.int (0 : Int32))] [(.int (0 : Int32)), (.ref a1)]))
  have f340 : Fld Z h338 a1 "java/lang/String" "coder" "B" (.int (0 : Int32)) := p2_.other W338 (Or.inr (slot_ne (Or.inr (own_w hw 27 rfl)) (Or.inr (own_w hw 25 rfl)) (by decide) (t := .byte) (t' := (.array .byte)) (by decide) (by decide)))
  have f341 : Exa Z h338 a1 "java/lang/String" := p0_.wr W338
  obtain ⟨T342, h342, X342, e342, W342, st342⟩ := putF X338 hx hZ hown (host := "") (Or.inl (own_w hw 26 rfl)) Via.refl e338 f340 f341 (Or.inr ⟨(own_w hw 27 rfl), rfl, hnm⟩) (own_w hw 12 rfl) (ty := .byte) (by decide) rfl (by decide) (g := (mkF m 11 #[.val (.ref a1), .val (.ref a2), .val (.int (0 : Int32))] [(.int (0 : Int32)), (.ref a1)])) rfl rfl (hb hby dj42_151_11)
  refine oG.st st342 ?_
  have N342 := Fr.snoc X342 N338 (by omega)
  have z342 : h338.size ≤ h342.size := Nat.le_of_eq W342.size.symm
  have f343 : Fld Z h342 a1 "java/lang/String" "coder" "B" (.int (0 : Int32)) := f340.same W342
  show oG _ _ _ _ (T342.setTop (mkF m 14 #[.val (.ref a1), .val (.ref a2), .val (.int (0 : Int32))] []))
  obtain ⟨fs344, hr344, hrun344, hend344, hW344, hsm344⟩ := X342.leave (v := none) (fun _ => rfl)
  have K345 : Keep h0 h338 [a1] := (Keep.refl h0 [a1]).wr W338 (Or.inl (List.mem_of_getElem? (i := 0) rfl))
  have K346 : Keep h0 h342 [a1] := K345.wr W342 (Or.inl (List.mem_of_getElem? (i := 0) rfl))
  have f347 : Exa Z h342 a1 "java/lang/String" := f341.wr W342
  have f348 : Fld Z h342 a1 "java/lang/String" "value" "[B" (.ref a2) := f339.other W342 (Or.inr (slot_ne (Or.inr (own_w hw 25 rfl)) (Or.inr (own_w hw 27 rfl)) (by decide) (t := (.array .byte)) (t' := .byte) (by decide) (by decide)))
  subst hPP
  refine ⟨_, _, X342.returnOut hx Bd.returns (hb hby dj42_151_14) hr344, hrun344, hend344, _, _, rfl, ?_, ⟨_, rfl⟩, hW344, hsm344.mono (by decide) (by decide)⟩
  · show Q_sinitBB0 Z _ _ h0 _ T342.heap _
    rw [e342]
    exact ⟨rfl, N342, K346, f347, f348, f343⟩
def Q_sinitBB1 (Z : State) (a1 : Nat) (a2 : Nat) (h0 : Heap) (v : Option Value) (h : Heap) (L : List Loc) : Prop := v = none ∧ Fr Z.heap.size L ∧ Keep h0 h [a1] ∧ Exa Z h a1 "java/lang/String" ∧ Fld Z h a1 "java/lang/String" "value" "[B" (.ref a2) ∧ Fld Z h a1 "java/lang/String" "coder" "B" (.int (1 : Int32))
set_option maxRecDepth 65536 in
set_option maxHeartbeats 40000000 in
theorem rm_sinitBB1 (l : Launch) (Z : State) (a0 : Array Value) (hw : ∀ d ∈ tables_1, d.before a0 Z = true) (ws : List Jvm.Cond) (a1 : Nat) (a2 : Nat) (h0 : Heap) (OL : Old Z Z.heap.size h0) (p0_ : Exa Z h0 a1 "java/lang/String") (p1_ : Fld Z h0 a1 "java/lang/String" "value" "[B" .null) (p2_ : Fld Z h0 a1 "java/lang/String" "coder" "B" (.int (0 : Int32))) (hn0 : Z.heap.size ≤ a1) :
    MetFree l mN18 (head1 (Jvm.Cond.code mN18 jdk_42_method_151_code 3 none :: ws) rM2) (fun a U => a = #[(.ref a1), (.ref a2), (.int (1 : Int32))] ∧ Z.Warmed39 U.vm ∧ U.heap = h0) (fun _ _ _ _ _ => True) (fun _ U o U' => ∃ v L, o = .returned v ∧ Q_sinitBB1 Z a1 a2 h0 v U'.heap L ∧ FrameEnd U o U' L rM2.cells rM2.slots) := by
  refine MetFree.of_bodySF (plainFor_of_name pn_240) hisR ?_
  intro p e s m args below meth c s₁ Bd hml0 hP hK
  obtain ⟨rfl, hZ, hh⟩ := hP
  have hx := Bd.exec
  have hby := Bd.bytes
  have hml : c.maxLocals = 3 := hml0
  have hown : s.vm.findClass "java/lang/String" = some m.cls := findClass_of_methodNamed Bd.named
  have hnm := (name_of_methodNamed Bd.named Bd.method).1
  have X0 : Stand p l e rM2 s m #[(.ref a1), (.ref a2), (.int (1 : Int32))] below meth c s₁ [] 0 0 := Stand.of_body Bd
  have e0 : s₁.heap = h0 := by rw [← hh, Bd.state]; rfl
  have N0 := Fr.nil Z.heap.size
  have Z0 : Z.heap.size ≤ h0.size := OL.2.1
  have lt_0 : @LT.lt Nat _ a1 h0.size := p0_.lt
  have lt_1 : @LT.lt Nat _ a1 h0.size := p1_.lt
  have lt_2 : @LT.lt Nat _ a1 h0.size := p2_.lt
  show oG p.tables e below (fun o tE => ∃ v L, o = .returned v ∧ Q_sinitBB1 Z a1 a2 h0 v tE.heap L ∧ FrameEnd s o tE L rM2.cells rM2.slots) (s₁.setTop (entryFrame m #[(.ref a1), (.ref a2), (.int (1 : Int32))] 3))
  refine own_hd (fun PP hPP => ?_)
  refine oG.st (fun t k => castTop (ef_345 m a1 a2 (1 : Int32)) k) ?_
  refine oG.st (fun _ k => XS.aloadN X0.here hx rfl (hb hby dj42_151_0) rfl rfl k) ?_
  show oG _ _ _ _ (s₁.setTop (mkF m 1 #[.val (.ref a1), .val (.ref a2), .val (.int (1 : Int32))] [(.ref a1)]))
  obtain ⟨T349, X349, e349, st349⟩ := initO X0 hx hZ hown (own_w hw 21 rfl) (own_w hw 22 rfl) (own_w hw 23 rfl) e0 (g := (mkF m 1 #[.val (.ref a1), .val (.ref a2), .val (.int (1 : Int32))] [(.ref a1)])) rfl (by rw [hml]; rfl) rfl (hb hby dj42_151_1) (by decide) (W := 0) (by show 2 * 0 + _ ≤ _; exact Nat.le_of_eq rfl) (by decide)
  refine oG.st st349 ?_
  refine oG.st (fun _ k => XS.aloadN X349.here hx rfl (hb hby dj42_151_4) rfl rfl (XS.aloadN X349.here hx rfl (hb hby dj42_151_5) rfl rfl k)) ?_
  show oG _ _ _ _ (T349.setTop (mkF m 6 #[.val (.ref a1), .val (.ref a2), .val (.int (1 : Int32))] [(.ref a2), (.ref a1)]))
  obtain ⟨T350, h350, X350, e350, W350, st350⟩ := putF X349 hx hZ hown (host := "") (Or.inl (own_w hw 24 rfl)) Via.refl e349 p1_ p0_ (Or.inr ⟨(own_w hw 25 rfl), rfl, hnm⟩) (own_w hw 12 rfl) (ty := (.array .byte)) (by decide) rfl rfl (g := (mkF m 6 #[.val (.ref a1), .val (.ref a2), .val (.int (1 : Int32))] [(.ref a2), (.ref a1)])) rfl rfl (hb hby dj42_151_6)
  refine oG.st st350 ?_
  have N350 := Fr.snoc X350 N0 (by omega)
  have z350 : h0.size ≤ h350.size := Nat.le_of_eq W350.size.symm
  have f351 : Fld Z h350 a1 "java/lang/String" "value" "[B" (.ref a2) := p1_.same W350
  refine oG.st (fun _ k => XS.aloadN X350.here hx rfl (hb hby dj42_151_9) rfl rfl (XS.iloadN X350.here hx rfl (hb hby dj42_151_10) rfl k)) ?_
  show oG _ _ _ _ (T350.setTop (mkF m 11 #[.val (.ref a1), .val (.ref a2), .val (.int (1 : Int32))] [(.int (1 : Int32)), (.ref a1)]))
  have f352 : Fld Z h350 a1 "java/lang/String" "coder" "B" (.int (0 : Int32)) := p2_.other W350 (Or.inr (slot_ne (Or.inr (own_w hw 27 rfl)) (Or.inr (own_w hw 25 rfl)) (by decide) (t := .byte) (t' := (.array .byte)) (by decide) (by decide)))
  have f353 : Exa Z h350 a1 "java/lang/String" := p0_.wr W350
  obtain ⟨T354, h354, X354, e354, W354, st354⟩ := putF X350 hx hZ hown (host := "") (Or.inl (own_w hw 26 rfl)) Via.refl e350 f352 f353 (Or.inr ⟨(own_w hw 27 rfl), rfl, hnm⟩) (own_w hw 12 rfl) (ty := .byte) (by decide) rfl (by decide) (g := (mkF m 11 #[.val (.ref a1), .val (.ref a2), .val (.int (1 : Int32))] [(.int (1 : Int32)), (.ref a1)])) rfl rfl (hb hby dj42_151_11)
  refine oG.st st354 ?_
  have N354 := Fr.snoc X354 N350 (by omega)
  have z354 : h350.size ≤ h354.size := Nat.le_of_eq W354.size.symm
  have f355 : Fld Z h354 a1 "java/lang/String" "coder" "B" (.int (1 : Int32)) := f352.same W354
  show oG _ _ _ _ (T354.setTop (mkF m 14 #[.val (.ref a1), .val (.ref a2), .val (.int (1 : Int32))] []))
  obtain ⟨fs356, hr356, hrun356, hend356, hW356, hsm356⟩ := X354.leave (v := none) (fun _ => rfl)
  have K357 : Keep h0 h350 [a1] := (Keep.refl h0 [a1]).wr W350 (Or.inl (List.mem_of_getElem? (i := 0) rfl))
  have K358 : Keep h0 h354 [a1] := K357.wr W354 (Or.inl (List.mem_of_getElem? (i := 0) rfl))
  have f359 : Exa Z h354 a1 "java/lang/String" := f353.wr W354
  have f360 : Fld Z h354 a1 "java/lang/String" "value" "[B" (.ref a2) := f351.other W354 (Or.inr (slot_ne (Or.inr (own_w hw 25 rfl)) (Or.inr (own_w hw 27 rfl)) (by decide) (t := (.array .byte)) (t' := .byte) (by decide) (by decide)))
  subst hPP
  refine ⟨_, _, X354.returnOut hx Bd.returns (hb hby dj42_151_14) hr356, hrun356, hend356, _, _, rfl, ?_, ⟨_, rfl⟩, hW356, hsm356.mono (by decide) (by decide)⟩
  · show Q_sinitBB1 Z _ _ h0 _ T354.heap _
    rw [e354]
    exact ⟨rfl, N354, K358, f359, f360, f355⟩
theorem dj42_139_0 : decode cJ4 0 = .ok (.getstatic 38, 3) := by decide +kernel
theorem dj42_139_3 : decode cJ4 3 = .ok (.ifCond .eq 23, 3) := by decide +kernel
theorem dj42_139_6 : decode cJ4 6 = .ok (.iload_n 0, 1) := by decide +kernel
theorem dj42_139_7 : decode cJ4 7 = .ok (.invokestatic 1015, 3) := by decide +kernel
theorem dj42_139_10 : decode cJ4 10 = .ok (.ifCond .eq 16, 3) := by decide +kernel
theorem dj42_139_26 : decode cJ4 26 = .ok (.new 10, 3) := by decide +kernel
theorem dj42_139_29 : decode cJ4 29 = .ok (.dup, 1) := by decide +kernel
theorem dj42_139_30 : decode cJ4 30 = .ok (.iload_n 0, 1) := by decide +kernel
theorem pd_363 : parseMethodDescriptor "(C)[B" = some ⟨[.char], some (.array .byte)⟩ := by decide +kernel
theorem dj42_139_31 : decode cJ4 31 = .ok (.invokestatic 1021, 3) := by decide +kernel
theorem dj42_139_34 : decode cJ4 34 = .ok (.iconst 1, 1) := by decide +kernel
theorem pd_366 : parseMethodDescriptor "([BB)V" = some ⟨[(.array .byte), .byte], none⟩ := by decide +kernel
theorem dj42_139_35 : decode cJ4 35 = .ok (.invokespecial 209, 3) := by decide +kernel
theorem dj42_139_38 : decode cJ4 38 = .ok (.areturn, 1) := by decide +kernel
theorem dj42_139_13 : decode cJ4 13 = .ok (.new 10, 3) := by decide +kernel
theorem dj42_139_16 : decode cJ4 16 = .ok (.dup, 1) := by decide +kernel
theorem dj42_139_17 : decode cJ4 17 = .ok (.iload_n 0, 1) := by decide +kernel
theorem dj42_139_18 : decode cJ4 18 = .ok (.invokestatic 1018, 3) := by decide +kernel
theorem dj42_139_21 : decode cJ4 21 = .ok (.iconst 0, 1) := by decide +kernel
theorem dj42_139_22 : decode cJ4 22 = .ok (.invokespecial 209, 3) := by decide +kernel
theorem dj42_139_25 : decode cJ4 25 = .ok (.areturn, 1) := by decide +kernel
def Q_valueOfC (Z : State) (p1 : Int32) (zc : Int32) (h0 : Heap) (v : Option Value) (h : Heap) (L : List Loc) : Prop := ∃ (x : Nat), ∃ (t : Nat), v = some (.ref x) ∧ Fr Z.heap.size L ∧ Keep h0 h [] ∧ own_Str Z h x t [p1] ∧ Exa Z h t "[B" ∧ (h0.size ≤ x) ∧ (h0.size ≤ t)
set_option maxRecDepth 65536 in
set_option maxHeartbeats 40000000 in
theorem rm_valueOfC (l : Launch) (Z : State) (a0 : Array Value) (hw : ∀ d ∈ tables_1, d.before a0 Z = true) (ws : List Jvm.Cond) (p1 : Int32) (zc : Int32) (h0 : Heap) (OL : Old Z Z.heap.size h0) (st_C : Sta Z Z.heap "java/lang/String" "COMPACT_STRINGS" "Z" (.int zc)) (st_A : Sta Z Z.heap "java/lang/StringUTF16" "$assertionsDisabled" "Z" (.int (1 : Int32))) (st_H : Sta Z Z.heap "java/lang/StringUTF16" "HI_BYTE_SHIFT" "I" (.int (0 : Int32))) (st_L : Sta Z Z.heap "java/lang/StringUTF16" "LO_BYTE_SHIFT" "I" (.int (8 : Int32))) (hzc : ¬ zc = 0) (h : ¬ p1 < 0 ∧ ¬ (65535 : Int32) < p1) :
    MetFree l mN28 (head1 (Jvm.Cond.code mN28 jdk_42_method_139_code 1 (some (.object "java/lang/String")) :: ws) rM16) (fun a U => a = #[(.int p1)] ∧ Z.Warmed39 U.vm ∧ U.heap = h0) (fun _ _ _ _ _ => True) (fun _ U o U' => ∃ v L, o = .returned v ∧ Q_valueOfC Z p1 zc h0 v U'.heap L ∧ FrameEnd U o U' L rM16.cells rM16.slots) := by
  refine MetFree.of_bodySF (plainFor_of_name pn_240) hisR ?_
  intro p e s m args below meth c s₁ Bd hml0 hP hK
  obtain ⟨rfl, hZ, hh⟩ := hP
  have hx := Bd.exec
  have hby := Bd.bytes
  have hml : c.maxLocals = 1 := hml0
  have hown : s.vm.findClass "java/lang/String" = some m.cls := findClass_of_methodNamed Bd.named
  have hnm := (name_of_methodNamed Bd.named Bd.method).1
  have X0 : Stand p l e rM16 s m #[(.int p1)] below meth c s₁ [] 0 0 := Stand.of_body Bd
  have e0 : s₁.heap = h0 := by rw [← hh, Bd.state]; rfl
  have N0 := Fr.nil Z.heap.size
  have Z0 : Z.heap.size ≤ h0.size := OL.2.1
  show oG p.tables e below (fun o tE => ∃ v L, o = .returned v ∧ Q_valueOfC Z p1 zc h0 v tE.heap L ∧ FrameEnd s o tE L rM16.cells rM16.slots) (s₁.setTop (entryFrame m #[(.int p1)] 1))
  refine own_hd (fun PP hPP => ?_)
  refine oG.st (fun t k => castTop (ef_178 m p1) k) ?_
  show oG _ _ _ _ (s₁.setTop (mkF m 0 #[.val (.int p1)] []))
  obtain ⟨T361, X361, e361, st361⟩ := getS2 X0 hx hZ hown (host := "") (Or.inl (own_w hw 6 rfl)) Via.refl e0 (st_C.ext OL.2) (g := (mkF m 0 #[.val (.int p1)] [])) rfl (hb hby dj42_139_0)
  refine oG.st st361 ?_
  show oG _ _ _ _ (T361.setTop (mkF m 3 #[.val (.int p1)] [(.int zc)]))
  have hc362 : ¬ (zc = (0 : Int32)) := hzc
  refine oG.st (fun _ k => XS.ifNo X361.here hx rfl (hb hby dj42_139_3) rfl ((if0 _ _).trans (feq hc362).1) k) ?_
  refine oG.st (fun _ k => XS.iloadN X361.here hx rfl (hb hby dj42_139_6) rfl k) ?_
  show oG _ _ _ _ (T361.setTop (mkF m 7 #[.val (.int p1)] [(.int p1)]))
  obtain ⟨_, _, ⟨T363, L363, k363, n363⟩, -, X363, ⟨Lc363, hQ363, l363, y363, z363⟩, st363⟩ := Jvm.LawKit.callS X361 hx (y := mN35) hown (own_v hZ hw 7 rfl) (own_v hZ hw 8 rfl) (own_v hZ hw 9 rfl) (own_v hZ hw 10 rfl) (by decide) (backOf (W := 0) (rm_canEnc l Z a0 hw [] p1 h0 OL ) hZ (own_w hw 10 rfl) (own_w hw 9 rfl) (by decide) (by decide)) (g := (mkF m 7 #[.val (.int p1)] [(.int p1)])) rfl (by rw [hml]; rfl) (argsL := [(.int p1)]) (rest := []) (lenOf pd_205 rfl) rfl (by show 2 * 0 + _ ≤ _; exact Nat.le_of_eq rfl) (hb hby dj42_139_7) (fun _ _ => ⟨rfl, e361, (by decide : 0 + 0 ≤ _), (by decide : 0 + 0 ≤ _)⟩)
  dsimp only [Pt.U, Pt.locs, Pt.cells, Pt.slots] at X363 l363 y363 z363 st363 hQ363
  subst l363 y363 z363
  obtain ⟨rfl, N363q, K363⟩ := hQ363
  have N363 := Fr.app N0 N363q
  refine oG.st st363 ?_
  show oG _ _ _ _ (T363.setTop (mkF m 10 #[.val (.int p1)] [(.int (if (255 : Int32) < p1 then (0 : Int32) else 1))]))
  by_cases hc364 : (if (255 : Int32) < p1 then (0 : Int32) else 1) = (0 : Int32)
  ·
    refine oG.st (fun _ k => XS.ifYes X363.here hx rfl (pc0 := 10) (pc' := 26) rfl (hb hby dj42_139_10) rfl ((if0 _ _).trans (teq hc364).1) (by decide) (by decide) k) ?_
    show oG _ _ _ _ (T363.setTop (mkF m 26 #[.val (.int p1)] []))
    obtain ⟨T365, h365, X365, e365, E365, A365, D365, U365, st365⟩ := newO X363 hx hZ hown (own_w hw 11 rfl) (own_w hw 12 rfl) (own_w hw 4 rfl) K363 (g := (mkF m 26 #[.val (.int p1)] [])) rfl (hb hby dj42_139_26) (by decide) (by decide)
    obtain ⟨b365, g365⟩ : ∃ z, z = h0.size := ⟨_, rfl⟩
    rw [← g365] at A365 D365 U365 st365
    refine oG.st st365 ?_
    have z365 : h0.size ≤ h365.size := E365.1
    have lt_b365 : @LT.lt Nat _ b365 h365.size := A365.lt
    have f366 : Fld Z h365 b365 "java/lang/String" "value" "[B" .null := D365 (Or.inr (own_w hw 25 rfl)) (ty := (.array .byte)) (by decide)
    have f367 : Fld Z h365 b365 "java/lang/String" "coder" "B" (.int (0 : Int32)) := D365 (Or.inr (own_w hw 27 rfl)) (ty := .byte) (by decide)
    refine oG.st (fun _ k => XS.dup X365.here hx rfl (hb hby dj42_139_29) rfl rfl (XS.iloadN X365.here hx rfl (hb hby dj42_139_30) rfl k)) ?_
    show oG _ _ _ _ (T365.setTop (mkF m 31 #[.val (.int p1)] [(.int p1), (.ref b365), (.ref b365)]))
    have f369 : Old Z Z.heap.size h365 := OL.ext E365
    obtain ⟨_, _, ⟨T368, L368, k368, n368⟩, -, X368, ⟨Lc368, hQ368, l368, y368, z368⟩, st368⟩ := Jvm.LawKit.callS X365 hx (y := mN41) hown (own_v hZ hw 224 rfl) (own_v hZ hw 225 rfl) (own_v hZ hw 51 rfl) (own_v hZ hw 226 rfl) (by decide) (backOf (W := 2) (rm_toBytesU l Z a0 hw [] p1 h365 f369 st_A st_H st_L) hZ (own_w hw 226 rfl) (own_w hw 51 rfl) (by decide) (by decide)) (g := (mkF m 31 #[.val (.int p1)] [(.int p1), (.ref b365), (.ref b365)])) rfl (by rw [hml]; rfl) (argsL := [(.int p1)]) (rest := [(.ref b365), (.ref b365)]) (lenOf pd_363 rfl) rfl (by show 2 * 0 + _ ≤ _; exact Nat.le_of_eq rfl) (hb hby dj42_139_31) (fun _ _ => ⟨rfl, e365, (by decide : 1 + 1 ≤ _), (by decide : 4 + 2 ≤ _)⟩)
    dsimp only [Pt.U, Pt.locs, Pt.cells, Pt.slots] at X368 l368 y368 z368 st368 hQ368
    subst l368 y368 z368
    obtain ⟨x_368, k_368, rfl, N368q, K368, f368_0, f368_1, pr368_0⟩ := hQ368
    have N368 := Fr.app N363 N368q
    have z368 : h365.size ≤ T368.heap.size := K368.1
    have lt368_0 : @LT.lt Nat _ x_368 T368.heap.size := f368_0.lt
    have lt368_1 : @LT.lt Nat _ x_368 T368.heap.size := f368_1.lt
    refine oG.st st368 ?_
    refine oG.st (fun _ k => XS.iconst X368.here hx rfl (hb hby dj42_139_34) k) ?_
    show oG _ _ _ _ (T368.setTop (mkF m 35 #[.val (.int p1)] [(.int (1 : Int32)), (.ref x_368), (.ref b365), (.ref b365)]))
    have f371 : Exa Z T368.heap b365 "java/lang/String" := A365.keep K368
    have f372 : Fld Z T368.heap b365 "java/lang/String" "value" "[B" .null := f366.keep K368 nin0
    have f373 : Fld Z T368.heap b365 "java/lang/String" "coder" "B" (.int (0 : Int32)) := f367.keep K368 nin0
    have f374 : Old Z Z.heap.size T368.heap := f369.keep K368 all0
    obtain ⟨_, _, ⟨T370, L370, k370, n370⟩, -, X370, ⟨Lc370, hQ370, l370, y370, z370⟩, st370⟩ := X368.specialBack hx (y := mN18) rfl hown (own_v hZ hw 17 rfl) (own_v hZ hw 18 rfl) (own_v hZ hw 20 rfl) (by decide) (backOf (W := 1) (rm_sinitBB1 l Z a0 hw [] b365 x_368 T368.heap f374 f371 f372 f373 (by omega)) hZ (own_w hw 20 rfl) (own_w hw 4 rfl) (by decide) (by decide)) (g := (mkF m 35 #[.val (.int p1)] [(.int (1 : Int32)), (.ref x_368), (.ref b365), (.ref b365)])) rfl (by rw [hml]; rfl) (Steps.refl _) (a := b365) (argsL := [(.ref x_368), (.int (1 : Int32))]) (rest := [(.ref b365)]) (lenOf pd_366 rfl) rfl (by show 2 * 0 + _ ≤ _; exact Nat.le_of_eq rfl) (hb hby dj42_139_35) (fun _ _ => ⟨rfl, rfl, (by decide : 2 + 0 ≤ _), (by decide : 6 + 0 ≤ _)⟩)
    dsimp only [Pt.U, Pt.locs, Pt.cells, Pt.slots] at X370 l370 y370 z370 st370 hQ370
    subst l370 y370 z370
    obtain ⟨rfl, N370q, K370, f370_0, f370_1, f370_2⟩ := hQ370
    have N370 := Fr.app N368 N370q
    have z370 : T368.heap.size ≤ T370.heap.size := K370.1
    have lt370_0 : @LT.lt Nat _ b365 T370.heap.size := f370_0.lt
    have lt370_1 : @LT.lt Nat _ b365 T370.heap.size := f370_1.lt
    have lt370_2 : @LT.lt Nat _ b365 T370.heap.size := f370_2.lt
    refine oG.tr st370 ?_
    show oG _ _ _ _ (T370.setTop (mkF m 38 #[.val (.int p1)] [(.ref b365)]))
    obtain ⟨fs375, hr375, hrun375, hend375, hW375, hsm375⟩ := X370.leave (v := some (.ref b365)) (fun h => by rw [Bd.returns] at h; cases h)
    have hb_ : (255 : Int32) < p1 := Classical.byContradiction fun q => by rw [if_neg q] at hc364; exact absurd hc364 (by decide)
    have ne376 : @Ne Nat x_368 b365 := Exa.ne f368_1 f371 (by decide)
    have f377 : Arv Z T370.heap x_368 k_368 .byte (2 : Int32) [(.int (StrChars.lo8 p1)), (.int (StrChars.hi8 p1))] (.int (0 : Int32)) := f368_0.keep K370 (ninS ne376 nin0)
    have f378 : Exa Z T370.heap x_368 "[B" := f368_1.keep K370
    have K379 : Keep h0 h365 [] := (Keep.refl h0 []).ext E365
    have K380 : Keep h0 T368.heap [] := K379.trans K368 all0
    have K381 : Keep h0 T370.heap [] := K380.trans K370 (allS (Or.inr (by omega)) all0)
    subst hPP
    refine ⟨_, _, own_retA X370 hx Bd.returns rfl rfl (hb hby dj42_139_38) hr375, hrun375, hend375, _, _, rfl, ?_, ⟨_, rfl⟩, hW375, hsm375.mono (by decide) (by decide)⟩
    · show Q_valueOfC Z _ _ h0 _ T370.heap _
      exact ⟨b365, x_368, rfl, N370, K381, ⟨k_368, 1, _, _, f370_0, f370_1, f370_2, f377, Or.inr ⟨rfl, rfl, rfl, p1, List.mem_singleton.mpr rfl, hb_⟩, own_aS h own_a0, (Nat.le_of_ble_eq_true rfl)⟩, f378, (by omega), (by omega)⟩
  ·
    refine oG.st (fun _ k => XS.ifNo X363.here hx rfl (hb hby dj42_139_10) rfl ((if0 _ _).trans (feq hc364).1) k) ?_
    show oG _ _ _ _ (T363.setTop (mkF m 13 #[.val (.int p1)] []))
    obtain ⟨T382, h382, X382, e382, E382, A382, D382, U382, st382⟩ := newO X363 hx hZ hown (own_w hw 11 rfl) (own_w hw 12 rfl) (own_w hw 4 rfl) K363 (g := (mkF m 13 #[.val (.int p1)] [])) rfl (hb hby dj42_139_13) (by decide) (by decide)
    obtain ⟨b382, g382⟩ : ∃ z, z = h0.size := ⟨_, rfl⟩
    rw [← g382] at A382 D382 U382 st382
    refine oG.st st382 ?_
    have z382 : h0.size ≤ h382.size := E382.1
    have lt_b382 : @LT.lt Nat _ b382 h382.size := A382.lt
    have f383 : Fld Z h382 b382 "java/lang/String" "value" "[B" .null := D382 (Or.inr (own_w hw 25 rfl)) (ty := (.array .byte)) (by decide)
    have f384 : Fld Z h382 b382 "java/lang/String" "coder" "B" (.int (0 : Int32)) := D382 (Or.inr (own_w hw 27 rfl)) (ty := .byte) (by decide)
    refine oG.st (fun _ k => XS.dup X382.here hx rfl (hb hby dj42_139_16) rfl rfl (XS.iloadN X382.here hx rfl (hb hby dj42_139_17) rfl k)) ?_
    show oG _ _ _ _ (T382.setTop (mkF m 18 #[.val (.int p1)] [(.int p1), (.ref b382), (.ref b382)]))
    have f386 : Old Z Z.heap.size h382 := OL.ext E382
    obtain ⟨_, _, ⟨T385, L385, k385, n385⟩, -, X385, ⟨Lc385, hQ385, l385, y385, z385⟩, st385⟩ := Jvm.LawKit.callS X382 hx (y := mN36) hown (own_v hZ hw 13 rfl) (own_v hZ hw 14 rfl) (own_v hZ hw 9 rfl) (own_v hZ hw 15 rfl) (by decide) (backOf (W := 2) (rm_toBytes1 l Z a0 hw [] p1 h382 f386 ) hZ (own_w hw 15 rfl) (own_w hw 9 rfl) (by decide) (by decide)) (g := (mkF m 18 #[.val (.int p1)] [(.int p1), (.ref b382), (.ref b382)])) rfl (by rw [hml]; rfl) (argsL := [(.int p1)]) (rest := [(.ref b382), (.ref b382)]) (lenOf pd_363 rfl) rfl (by show 2 * 0 + _ ≤ _; exact Nat.le_of_eq rfl) (hb hby dj42_139_18) (fun _ _ => ⟨rfl, e382, (by decide : 1 + 1 ≤ _), (by decide : 4 + 1 ≤ _)⟩)
    dsimp only [Pt.U, Pt.locs, Pt.cells, Pt.slots] at X385 l385 y385 z385 st385 hQ385
    subst l385 y385 z385
    obtain ⟨x_385, k_385, rfl, N385q, K385, f385_0, f385_1, pr385_0⟩ := hQ385
    have N385 := Fr.app N363 N385q
    have z385 : h382.size ≤ T385.heap.size := K385.1
    have lt385_0 : @LT.lt Nat _ x_385 T385.heap.size := f385_0.lt
    have lt385_1 : @LT.lt Nat _ x_385 T385.heap.size := f385_1.lt
    refine oG.st st385 ?_
    refine oG.st (fun _ k => XS.iconst X385.here hx rfl (hb hby dj42_139_21) k) ?_
    show oG _ _ _ _ (T385.setTop (mkF m 22 #[.val (.int p1)] [(.int (0 : Int32)), (.ref x_385), (.ref b382), (.ref b382)]))
    have f388 : Exa Z T385.heap b382 "java/lang/String" := A382.keep K385
    have f389 : Fld Z T385.heap b382 "java/lang/String" "value" "[B" .null := f383.keep K385 nin0
    have f390 : Fld Z T385.heap b382 "java/lang/String" "coder" "B" (.int (0 : Int32)) := f384.keep K385 nin0
    have f391 : Old Z Z.heap.size T385.heap := f386.keep K385 all0
    obtain ⟨_, _, ⟨T387, L387, k387, n387⟩, -, X387, ⟨Lc387, hQ387, l387, y387, z387⟩, st387⟩ := X385.specialBack hx (y := mN18) rfl hown (own_v hZ hw 17 rfl) (own_v hZ hw 18 rfl) (own_v hZ hw 20 rfl) (by decide) (backOf (W := 1) (rm_sinitBB0 l Z a0 hw [] b382 x_385 T385.heap f391 f388 f389 f390 (by omega)) hZ (own_w hw 20 rfl) (own_w hw 4 rfl) (by decide) (by decide)) (g := (mkF m 22 #[.val (.int p1)] [(.int (0 : Int32)), (.ref x_385), (.ref b382), (.ref b382)])) rfl (by rw [hml]; rfl) (Steps.refl _) (a := b382) (argsL := [(.ref x_385), (.int (0 : Int32))]) (rest := [(.ref b382)]) (lenOf pd_366 rfl) rfl (by show 2 * 0 + _ ≤ _; exact Nat.le_of_eq rfl) (hb hby dj42_139_22) (fun _ _ => ⟨rfl, rfl, (by decide : 2 + 0 ≤ _), (by decide : 5 + 0 ≤ _)⟩)
    dsimp only [Pt.U, Pt.locs, Pt.cells, Pt.slots] at X387 l387 y387 z387 st387 hQ387
    subst l387 y387 z387
    obtain ⟨rfl, N387q, K387, f387_0, f387_1, f387_2⟩ := hQ387
    have N387 := Fr.app N385 N387q
    have z387 : T385.heap.size ≤ T387.heap.size := K387.1
    have lt387_0 : @LT.lt Nat _ b382 T387.heap.size := f387_0.lt
    have lt387_1 : @LT.lt Nat _ b382 T387.heap.size := f387_1.lt
    have lt387_2 : @LT.lt Nat _ b382 T387.heap.size := f387_2.lt
    refine oG.tr st387 ?_
    show oG _ _ _ _ (T387.setTop (mkF m 25 #[.val (.int p1)] [(.ref b382)]))
    obtain ⟨fs392, hr392, hrun392, hend392, hW392, hsm392⟩ := X387.leave (v := some (.ref b382)) (fun h => by rw [Bd.returns] at h; cases h)
    have hb_ : ¬ (255 : Int32) < p1 := fun q => by rw [if_pos q] at hc364; exact hc364 rfl
    have ne393 : @Ne Nat x_385 b382 := Exa.ne f385_1 f388 (by decide)
    have f394 : Arv Z T387.heap x_385 k_385 .byte (1 : Int32) [(.int (StrChars.lo8 p1))] (.int (0 : Int32)) := f385_0.keep K387 (ninS ne393 nin0)
    have f395 : Exa Z T387.heap x_385 "[B" := f385_1.keep K387
    have K396 : Keep h0 h382 [] := (Keep.refl h0 []).ext E382
    have K397 : Keep h0 T385.heap [] := K396.trans K385 all0
    have K398 : Keep h0 T387.heap [] := K397.trans K387 (allS (Or.inr (by omega)) all0)
    subst hPP
    refine ⟨_, _, own_retA X387 hx Bd.returns rfl rfl (hb hby dj42_139_25) hr392, hrun392, hend392, _, _, rfl, ?_, ⟨_, rfl⟩, hW392, hsm392.mono (by decide) (by decide)⟩
    · show Q_valueOfC Z _ _ h0 _ T387.heap _
      exact ⟨b382, x_385, rfl, N387, K398, ⟨k_385, 0, _, _, f387_0, f387_1, f387_2, f394, Or.inl ⟨rfl, rfl, rfl, own_aS hb_ own_a0⟩, own_aS h own_a0, (Nat.le_of_ble_eq_true rfl)⟩, f395, (by omega), (by omega)⟩
theorem pn_376 : plainName "java/lang/StringCoding" = true := by first | (simp [plainName, overriddenIn]; done) | decide +kernel
theorem dj123_3_0 : decode cJ1 0 = .ok (.iload_n 1, 1) := by decide +kernel
theorem dj123_3_1 : decode cJ1 1 = .ok (.iload_n 2, 1) := by decide +kernel
theorem dj123_3_2 : decode cJ1 2 = .ok (.iadd, 1) := by decide +kernel
theorem dj123_3_3 : decode cJ1 3 = .ok (.istore_n 3, 1) := by decide +kernel
theorem dj123_3_4 : decode cJ1 4 = .ok (.iload_n 1, 1) := by decide +kernel
theorem dj123_3_5 : decode cJ1 5 = .ok (.istore 4, 2) := by decide +kernel
theorem dj123_3_7 : decode cJ1 7 = .ok (.iload 4, 2) := by decide +kernel
theorem dj123_3_9 : decode cJ1 9 = .ok (.iload_n 3, 1) := by decide +kernel
theorem dj123_3_10 : decode cJ1 10 = .ok (.if_icmp .ge 21, 3) := by decide +kernel
theorem dj123_3_31 : decode cJ1 31 = .ok (.iload_n 2, 1) := by decide +kernel
theorem dj123_3_32 : decode cJ1 32 = .ok (.ireturn, 1) := by decide +kernel
def Q_cpos0 (Z : State) (a1 : Nat) (k : ClassId) (h0 : Heap) (v : Option Value) (h : Heap) (L : List Loc) : Prop := v = some (.int (0 : Int32)) ∧ Fr Z.heap.size L ∧ h = h0
set_option maxRecDepth 65536 in
set_option maxHeartbeats 40000000 in
theorem rm_cpos0 (l : Launch) (Z : State) (a0 : Array Value) (hw : ∀ d ∈ tables_1, d.before a0 Z = true) (ws : List Jvm.Cond) (a1 : Nat) (k : ClassId) (h0 : Heap) (OL : Old Z Z.heap.size h0) (p0_ : Arv Z h0 a1 k .byte (0 : Int32) [] (.int (0 : Int32))) :
    MetFree l mN33 (head1 (Jvm.Cond.code mN33 jdk_123_method_3_code 5 (some .int) :: ws) rM0) (fun a U => a = #[(.ref a1), (.int (0 : Int32)), (.int (0 : Int32))] ∧ Z.Warmed39 U.vm ∧ U.heap = h0) (fun _ _ _ _ _ => True) (fun _ U o U' => ∃ v L, o = .returned v ∧ Q_cpos0 Z a1 k h0 v U'.heap L ∧ FrameEnd U o U' L rM0.cells rM0.slots) := by
  refine MetFree.of_bodySF (plainFor_of_name pn_376) hisR ?_
  intro p e s m args below meth c s₁ Bd hml0 hP hK
  obtain ⟨rfl, hZ, hh⟩ := hP
  have hx := Bd.exec
  have hby := Bd.bytes
  have hml : c.maxLocals = 5 := hml0
  have hown : s.vm.findClass "java/lang/StringCoding" = some m.cls := findClass_of_methodNamed Bd.named
  have hnm := (name_of_methodNamed Bd.named Bd.method).1
  have X0 : Stand p l e rM0 s m #[(.ref a1), (.int (0 : Int32)), (.int (0 : Int32))] below meth c s₁ [] 0 0 := Stand.of_body Bd
  have e0 : s₁.heap = h0 := by rw [← hh, Bd.state]; rfl
  have N0 := Fr.nil Z.heap.size
  have Z0 : Z.heap.size ≤ h0.size := OL.2.1
  have lt_0 : @LT.lt Nat _ a1 h0.size := p0_.lt
  show oG p.tables e below (fun o tE => ∃ v L, o = .returned v ∧ Q_cpos0 Z a1 k h0 v tE.heap L ∧ FrameEnd s o tE L rM0.cells rM0.slots) (s₁.setTop (entryFrame m #[(.ref a1), (.int (0 : Int32)), (.int (0 : Int32))] 5))
  refine own_hd (fun PP hPP => ?_)
  refine oG.st (fun t k => castTop (ef_13 m a1 (0 : Int32) (0 : Int32)) k) ?_
  refine oG.st (fun _ k => XS.iloadN X0.here hx rfl (hb hby dj123_3_0) rfl (XS.iloadN X0.here hx rfl (hb hby dj123_3_1) rfl (XS.iadd X0.here hx rfl (hb hby dj123_3_2) rfl (XS.istoreN X0.here hx rfl (hb hby dj123_3_3) rfl (l' := #[.val (.ref a1), .val (.int (0 : Int32)), .val (.int (0 : Int32)), .val (.int (0 : Int32)), .unset]) rfl (XS.iloadN X0.here hx rfl (hb hby dj123_3_4) rfl (XS.istore X0.here hx rfl (hb hby dj123_3_5) rfl (l' := #[.val (.ref a1), .val (.int (0 : Int32)), .val (.int (0 : Int32)), .val (.int (0 : Int32)), .val (.int (0 : Int32))]) rfl (XS.iload X0.here hx rfl (hb hby dj123_3_7) rfl k))))))) ?_
  show oG _ _ _ _ (s₁.setTop (mkF m 9 #[.val (.ref a1), .val (.int (0 : Int32)), .val (.int (0 : Int32)), .val (.int (0 : Int32)), .val (.int (0 : Int32))] [(.int (0 : Int32))]))
  refine oG.st (fun _ k => XS.iloadN X0.here hx rfl (hb hby dj123_3_9) rfl k) ?_
  show oG _ _ _ _ (s₁.setTop (mkF m 10 #[.val (.ref a1), .val (.int (0 : Int32)), .val (.int (0 : Int32)), .val (.int (0 : Int32)), .val (.int (0 : Int32))] [(.int (0 : Int32)), (.int (0 : Int32))]))
  refine oG.st (fun _ k => XS.icmpYes X0.here hx rfl (pc0 := 10) (pc' := 31) rfl (hb hby dj123_3_10) rfl (flt (by decide : ¬ ((0 : Int32) < (0 : Int32)))).2.1 (by decide) (by decide) k) ?_
  refine oG.st (fun _ k => XS.iloadN X0.here hx rfl (hb hby dj123_3_31) rfl k) ?_
  show oG _ _ _ _ (s₁.setTop (mkF m 32 #[.val (.ref a1), .val (.int (0 : Int32)), .val (.int (0 : Int32)), .val (.int (0 : Int32)), .val (.int (0 : Int32))] [(.int (0 : Int32))]))
  obtain ⟨fs399, hr399, hrun399, hend399, hW399, hsm399⟩ := X0.leave (v := some (.int (0 : Int32))) (fun h => by rw [Bd.returns] at h; cases h)
  subst hPP
  refine ⟨_, _, own_retI X0 hx Bd.returns (hb hby dj123_3_32) hr399, hrun399, hend399, _, _, rfl, ?_, ⟨_, rfl⟩, hW399, hsm399.mono (by decide) (by decide)⟩
  · show Q_cpos0 Z _ _ h0 _ s₁.heap _
    rw [e0]
    exact ⟨rfl, N0, rfl⟩
theorem dj123_2_0 : decode cJ0 0 = .ok (.aload_n 0, 1) := by decide +kernel
theorem dj123_2_1 : decode cJ0 1 = .ok (.iload_n 1, 1) := by decide +kernel
theorem dj123_2_2 : decode cJ0 2 = .ok (.iload_n 2, 1) := by decide +kernel
theorem pd_391 : parseMethodDescriptor "([BII)I" = some ⟨[(.array .byte), .int, .int], some .int⟩ := by decide +kernel
theorem dj123_2_3 : decode cJ0 3 = .ok (.invokestatic 7, 3) := by decide +kernel
theorem dj123_2_6 : decode cJ0 6 = .ok (.iload_n 2, 1) := by decide +kernel
theorem dj123_2_7 : decode cJ0 7 = .ok (.if_icmp .eq 7, 3) := by decide +kernel
theorem dj123_2_14 : decode cJ0 14 = .ok (.iconst 0, 1) := by decide +kernel
theorem dj123_2_15 : decode cJ0 15 = .ok (.ireturn, 1) := by decide +kernel
def Q_hneg0 (Z : State) (a1 : Nat) (k : ClassId) (h0 : Heap) (v : Option Value) (h : Heap) (L : List Loc) : Prop := v = some (.int (0 : Int32)) ∧ Fr Z.heap.size L ∧ h = h0
set_option maxRecDepth 65536 in
set_option maxHeartbeats 40000000 in
theorem rm_hneg0 (l : Launch) (Z : State) (a0 : Array Value) (hw : ∀ d ∈ tables_1, d.before a0 Z = true) (ws : List Jvm.Cond) (a1 : Nat) (k : ClassId) (h0 : Heap) (OL : Old Z Z.heap.size h0) (p0_ : Arv Z h0 a1 k .byte (0 : Int32) [] (.int (0 : Int32))) :
    MetFree l mN34 (head1 (Jvm.Cond.code mN34 jdk_123_method_2_code 3 (some .boolean) :: ws) rM4) (fun a U => a = #[(.ref a1), (.int (0 : Int32)), (.int (0 : Int32))] ∧ Z.Warmed39 U.vm ∧ U.heap = h0) (fun _ _ _ _ _ => True) (fun _ U o U' => ∃ v L, o = .returned v ∧ Q_hneg0 Z a1 k h0 v U'.heap L ∧ FrameEnd U o U' L rM4.cells rM4.slots) := by
  refine MetFree.of_bodySF (plainFor_of_name pn_376) hisR ?_
  intro p e s m args below meth c s₁ Bd hml0 hP hK
  obtain ⟨rfl, hZ, hh⟩ := hP
  have hx := Bd.exec
  have hby := Bd.bytes
  have hml : c.maxLocals = 3 := hml0
  have hown : s.vm.findClass "java/lang/StringCoding" = some m.cls := findClass_of_methodNamed Bd.named
  have hnm := (name_of_methodNamed Bd.named Bd.method).1
  have X0 : Stand p l e rM4 s m #[(.ref a1), (.int (0 : Int32)), (.int (0 : Int32))] below meth c s₁ [] 0 0 := Stand.of_body Bd
  have e0 : s₁.heap = h0 := by rw [← hh, Bd.state]; rfl
  have N0 := Fr.nil Z.heap.size
  have Z0 : Z.heap.size ≤ h0.size := OL.2.1
  have lt_0 : @LT.lt Nat _ a1 h0.size := p0_.lt
  show oG p.tables e below (fun o tE => ∃ v L, o = .returned v ∧ Q_hneg0 Z a1 k h0 v tE.heap L ∧ FrameEnd s o tE L rM4.cells rM4.slots) (s₁.setTop (entryFrame m #[(.ref a1), (.int (0 : Int32)), (.int (0 : Int32))] 3))
  refine own_hd (fun PP hPP => ?_)
  refine oG.st (fun t k => castTop (ef_39 m a1 (0 : Int32) (0 : Int32)) k) ?_
  refine oG.st (fun _ k => XS.aloadN X0.here hx rfl (hb hby dj123_2_0) rfl rfl (XS.iloadN X0.here hx rfl (hb hby dj123_2_1) rfl (XS.iloadN X0.here hx rfl (hb hby dj123_2_2) rfl k))) ?_
  show oG _ _ _ _ (s₁.setTop (mkF m 3 #[.val (.ref a1), .val (.int (0 : Int32)), .val (.int (0 : Int32))] [(.int (0 : Int32)), (.int (0 : Int32)), (.ref a1)]))
  obtain ⟨_, _, ⟨T400, L400, k400, n400⟩, -, X400, ⟨Lc400, hQ400, l400, y400, z400⟩, st400⟩ := Jvm.LawKit.callS X0 hx (y := mN33) hown (own_v hZ hw 87 rfl) (own_v hZ hw 88 rfl) (own_v hZ hw 85 rfl) (own_v hZ hw 89 rfl) (by decide) (backOf (W := 0) (rm_cpos0 l Z a0 hw [] a1 k h0 OL p0_) hZ (own_w hw 89 rfl) (own_w hw 85 rfl) (by decide) (by decide)) (g := (mkF m 3 #[.val (.ref a1), .val (.int (0 : Int32)), .val (.int (0 : Int32))] [(.int (0 : Int32)), (.int (0 : Int32)), (.ref a1)])) rfl (by rw [hml]; rfl) (argsL := [(.ref a1), (.int (0 : Int32)), (.int (0 : Int32))]) (rest := []) (lenOf pd_391 rfl) rfl (by show 2 * 0 + _ ≤ _; exact Nat.le_of_eq rfl) (hb hby dj123_2_3) (fun _ _ => ⟨rfl, e0, (by decide : 0 + 0 ≤ _), (by decide : 0 + 0 ≤ _)⟩)
  dsimp only [Pt.U, Pt.locs, Pt.cells, Pt.slots] at X400 l400 y400 z400 st400 hQ400
  subst l400 y400 z400
  obtain ⟨rfl, N400q, K400⟩ := hQ400
  have N400 := Fr.app N0 N400q
  refine oG.st st400 ?_
  refine oG.st (fun _ k => XS.iloadN X400.here hx rfl (hb hby dj123_2_6) rfl k) ?_
  show oG _ _ _ _ (T400.setTop (mkF m 7 #[.val (.ref a1), .val (.int (0 : Int32)), .val (.int (0 : Int32))] [(.int (0 : Int32)), (.int (0 : Int32))]))
  refine oG.st (fun _ k => XS.icmpYes X400.here hx rfl (pc0 := 7) (pc' := 14) rfl (hb hby dj123_2_7) rfl (teq (rfl : (0 : Int32) = (0 : Int32))).1 (by decide) (by decide) k) ?_
  refine oG.st (fun _ k => XS.iconst X400.here hx rfl (hb hby dj123_2_14) k) ?_
  show oG _ _ _ _ (T400.setTop (mkF m 15 #[.val (.ref a1), .val (.int (0 : Int32)), .val (.int (0 : Int32))] [(.int (0 : Int32))]))
  obtain ⟨fs401, hr401, hrun401, hend401, hW401, hsm401⟩ := X400.leave (v := some (.int (nar .boolean (0 : Int32)))) (fun h => by rw [Bd.returns] at h; cases h)
  subst hPP
  refine ⟨_, _, retN X400 hx (t := .boolean) Bd.returns (by simp) (hb hby dj123_2_15) hr401, hrun401, hend401, _, _, rfl, ?_, ⟨_, rfl⟩, hW401, hsm401.mono (by decide) (by decide)⟩
  · show Q_hneg0 Z _ _ h0 _ T400.heap _
    rw [K400]
    exact ⟨rfl, N400, rfl⟩
theorem dj123_3_13 : decode cJ1 13 = .ok (.aload_n 0, 1) := by decide +kernel
theorem dj123_3_14 : decode cJ1 14 = .ok (.iload 4, 2) := by decide +kernel
theorem dj123_3_16 : decode cJ1 16 = .ok (.baload, 1) := by decide +kernel
theorem dj123_3_17 : decode cJ1 17 = .ok (.ifCond .ge 8, 3) := by decide +kernel
theorem dj123_3_20 : decode cJ1 20 = .ok (.iload 4, 2) := by decide +kernel
theorem dj123_3_22 : decode cJ1 22 = .ok (.iload_n 1, 1) := by decide +kernel
theorem dj123_3_23 : decode cJ1 23 = .ok (.isub, 1) := by decide +kernel
theorem dj123_3_24 : decode cJ1 24 = .ok (.ireturn, 1) := by decide +kernel
theorem dj123_3_25 : decode cJ1 25 = .ok (.iinc 4 1, 3) := by decide +kernel
theorem dj123_3_28 : decode cJ1 28 = .ok (.goto (-21), 3) := by decide +kernel
def Q_cpos1 (Z : State) (a1 : Nat) (k : ClassId) (u1 : Int32) (h0 : Heap) (v : Option Value) (h : Heap) (L : List Loc) : Prop := v = some (.int (if u1 < 0 then (0 : Int32) else 1)) ∧ Fr Z.heap.size L ∧ h = h0
set_option maxRecDepth 65536 in
set_option maxHeartbeats 40000000 in
theorem rm_cpos1 (l : Launch) (Z : State) (a0 : Array Value) (hw : ∀ d ∈ tables_1, d.before a0 Z = true) (ws : List Jvm.Cond) (a1 : Nat) (k : ClassId) (u1 : Int32) (h0 : Heap) (OL : Old Z Z.heap.size h0) (p0_ : Arv Z h0 a1 k .byte (1 : Int32) [(.int u1)] (.int (0 : Int32))) :
    MetFree l mN33 (head1 (Jvm.Cond.code mN33 jdk_123_method_3_code 5 (some .int) :: ws) rM0) (fun a U => a = #[(.ref a1), (.int (0 : Int32)), (.int (1 : Int32))] ∧ Z.Warmed39 U.vm ∧ U.heap = h0) (fun _ _ _ _ _ => True) (fun _ U o U' => ∃ v L, o = .returned v ∧ Q_cpos1 Z a1 k u1 h0 v U'.heap L ∧ FrameEnd U o U' L rM0.cells rM0.slots) := by
  refine MetFree.of_bodySF (plainFor_of_name pn_376) hisR ?_
  intro p e s m args below meth c s₁ Bd hml0 hP hK
  obtain ⟨rfl, hZ, hh⟩ := hP
  have hx := Bd.exec
  have hby := Bd.bytes
  have hml : c.maxLocals = 5 := hml0
  have hown : s.vm.findClass "java/lang/StringCoding" = some m.cls := findClass_of_methodNamed Bd.named
  have hnm := (name_of_methodNamed Bd.named Bd.method).1
  have X0 : Stand p l e rM0 s m #[(.ref a1), (.int (0 : Int32)), (.int (1 : Int32))] below meth c s₁ [] 0 0 := Stand.of_body Bd
  have e0 : s₁.heap = h0 := by rw [← hh, Bd.state]; rfl
  have N0 := Fr.nil Z.heap.size
  have Z0 : Z.heap.size ≤ h0.size := OL.2.1
  have lt_0 : @LT.lt Nat _ a1 h0.size := p0_.lt
  show oG p.tables e below (fun o tE => ∃ v L, o = .returned v ∧ Q_cpos1 Z a1 k u1 h0 v tE.heap L ∧ FrameEnd s o tE L rM0.cells rM0.slots) (s₁.setTop (entryFrame m #[(.ref a1), (.int (0 : Int32)), (.int (1 : Int32))] 5))
  refine own_hd (fun PP hPP => ?_)
  refine oG.st (fun t k => castTop (ef_13 m a1 (0 : Int32) (1 : Int32)) k) ?_
  refine oG.st (fun _ k => XS.iloadN X0.here hx rfl (hb hby dj123_3_0) rfl (XS.iloadN X0.here hx rfl (hb hby dj123_3_1) rfl (XS.iadd X0.here hx rfl (hb hby dj123_3_2) rfl (XS.istoreN X0.here hx rfl (hb hby dj123_3_3) rfl (l' := #[.val (.ref a1), .val (.int (0 : Int32)), .val (.int (1 : Int32)), .val (.int (1 : Int32)), .unset]) rfl (XS.iloadN X0.here hx rfl (hb hby dj123_3_4) rfl (XS.istore X0.here hx rfl (hb hby dj123_3_5) rfl (l' := #[.val (.ref a1), .val (.int (0 : Int32)), .val (.int (1 : Int32)), .val (.int (1 : Int32)), .val (.int (0 : Int32))]) rfl (XS.iload X0.here hx rfl (hb hby dj123_3_7) rfl k))))))) ?_
  show oG _ _ _ _ (s₁.setTop (mkF m 9 #[.val (.ref a1), .val (.int (0 : Int32)), .val (.int (1 : Int32)), .val (.int (1 : Int32)), .val (.int (0 : Int32))] [(.int (0 : Int32))]))
  refine oG.st (fun _ k => XS.iloadN X0.here hx rfl (hb hby dj123_3_9) rfl k) ?_
  show oG _ _ _ _ (s₁.setTop (mkF m 10 #[.val (.ref a1), .val (.int (0 : Int32)), .val (.int (1 : Int32)), .val (.int (1 : Int32)), .val (.int (0 : Int32))] [(.int (1 : Int32)), (.int (0 : Int32))]))
  refine oG.st (fun _ k => XS.icmpNo X0.here hx rfl (hb hby dj123_3_10) rfl (tlt (by decide : (0 : Int32) < (1 : Int32))).2.1 k) ?_
  refine oG.st (fun _ k => XS.aloadN X0.here hx rfl (hb hby dj123_3_13) rfl rfl (XS.iload X0.here hx rfl (hb hby dj123_3_14) rfl k)) ?_
  show oG _ _ _ _ (s₁.setTop (mkF m 16 #[.val (.ref a1), .val (.int (0 : Int32)), .val (.int (1 : Int32)), .val (.int (1 : Int32)), .val (.int (0 : Int32))] [(.int (0 : Int32)), (.ref a1)]))
  obtain ⟨c402, Ar402, q402, S402, Nn402, H402, G402⟩ := id p0_
  have hin402 : ¬ ((0 : Int32) < 0 ∨ c402.slots.size ≤ ((0 : Int32)).toNatClampNeg) := inb_of S402 ⟨by decide, by decide⟩
  have hat402 : c402.slots[((0 : Int32)).toNatClampNeg]? = some (.int u1) := H402.at hin402 rfl
  refine oG.st (X0.baloadBytes hx (j := (0 : Int32)) (v := (.int u1)) (own_rwE e0 Ar402.1) (State.isArrayOf_alike hZ.alike Ar402.2.1) Ar402.2.2 hin402 hat402 (g := (mkF m 16 #[.val (.ref a1), .val (.int (0 : Int32)), .val (.int (1 : Int32)), .val (.int (1 : Int32)), .val (.int (0 : Int32))] [(.int (0 : Int32)), (.ref a1)])) rfl rfl (hb hby dj123_3_16)) ?_
  show oG _ _ _ _ (s₁.setTop (mkF m 17 #[.val (.ref a1), .val (.int (0 : Int32)), .val (.int (1 : Int32)), .val (.int (1 : Int32)), .val (.int (0 : Int32))] [(.int u1)]))
  by_cases hc403 : u1 < (0 : Int32)
  ·
    refine oG.st (fun _ k => XS.ifNo X0.here hx rfl (hb hby dj123_3_17) rfl ((if0 _ _).trans (tlt hc403).2.1) k) ?_
    refine oG.st (fun _ k => XS.iload X0.here hx rfl (hb hby dj123_3_20) rfl (XS.iloadN X0.here hx rfl (hb hby dj123_3_22) rfl (XS.isub X0.here hx rfl (hb hby dj123_3_23) rfl k))) ?_
    show oG _ _ _ _ (s₁.setTop (mkF m 24 #[.val (.ref a1), .val (.int (0 : Int32)), .val (.int (1 : Int32)), .val (.int (1 : Int32)), .val (.int (0 : Int32))] [(.int (0 : Int32))]))
    obtain ⟨fs404, hr404, hrun404, hend404, hW404, hsm404⟩ := X0.leave (v := some (.int (0 : Int32))) (fun h => by rw [Bd.returns] at h; cases h)
    subst hPP
    refine ⟨_, _, own_retI X0 hx Bd.returns (hb hby dj123_3_24) hr404, hrun404, hend404, _, _, rfl, ?_, ⟨_, rfl⟩, hW404, hsm404.mono (by decide) (by decide)⟩
    · show Q_cpos1 Z _ _ _ h0 _ s₁.heap _
      rw [e0]
      exact ⟨(by rw [if_pos hc403]), N0, rfl⟩
  ·
    refine oG.st (fun _ k => XS.ifYes X0.here hx rfl (pc0 := 17) (pc' := 25) rfl (hb hby dj123_3_17) rfl ((if0 _ _).trans (flt hc403).2.1) (by decide) (by decide) k) ?_
    refine oG.st (fun _ k => XS.iinc X0.here hx rfl (hb hby dj123_3_25) rfl (l' := #[.val (.ref a1), .val (.int (0 : Int32)), .val (.int (1 : Int32)), .val (.int (1 : Int32)), .val (.int (1 : Int32))]) rfl (XS.goto X0.here hx rfl (pc0 := 28) (pc' := 7) rfl (hb hby dj123_3_28) (by decide) (by decide) (XS.iload X0.here hx rfl (hb hby dj123_3_7) rfl (XS.iloadN X0.here hx rfl (hb hby dj123_3_9) rfl k)))) ?_
    show oG _ _ _ _ (s₁.setTop (mkF m 10 #[.val (.ref a1), .val (.int (0 : Int32)), .val (.int (1 : Int32)), .val (.int (1 : Int32)), .val (.int (1 : Int32))] [(.int (1 : Int32)), (.int (1 : Int32))]))
    refine oG.st (fun _ k => XS.icmpYes X0.here hx rfl (pc0 := 10) (pc' := 31) rfl (hb hby dj123_3_10) rfl (flt (by decide : ¬ ((1 : Int32) < (1 : Int32)))).2.1 (by decide) (by decide) k) ?_
    refine oG.st (fun _ k => XS.iloadN X0.here hx rfl (hb hby dj123_3_31) rfl k) ?_
    show oG _ _ _ _ (s₁.setTop (mkF m 32 #[.val (.ref a1), .val (.int (0 : Int32)), .val (.int (1 : Int32)), .val (.int (1 : Int32)), .val (.int (1 : Int32))] [(.int (1 : Int32))]))
    obtain ⟨fs405, hr405, hrun405, hend405, hW405, hsm405⟩ := X0.leave (v := some (.int (1 : Int32))) (fun h => by rw [Bd.returns] at h; cases h)
    subst hPP
    refine ⟨_, _, own_retI X0 hx Bd.returns (hb hby dj123_3_32) hr405, hrun405, hend405, _, _, rfl, ?_, ⟨_, rfl⟩, hW405, hsm405.mono (by decide) (by decide)⟩
    · show Q_cpos1 Z _ _ _ h0 _ s₁.heap _
      rw [e0]
      exact ⟨(by rw [if_neg hc403]), N0, rfl⟩
theorem dj123_2_10 : decode cJ0 10 = .ok (.iconst 1, 1) := by decide +kernel
theorem dj123_2_11 : decode cJ0 11 = .ok (.goto 4, 3) := by decide +kernel
def Q_hneg1 (Z : State) (a1 : Nat) (k : ClassId) (u1 : Int32) (h0 : Heap) (v : Option Value) (h : Heap) (L : List Loc) : Prop := v = some (.int (if u1 < 0 then (1 : Int32) else 0)) ∧ Fr Z.heap.size L ∧ h = h0
set_option maxRecDepth 65536 in
set_option maxHeartbeats 40000000 in
theorem rm_hneg1 (l : Launch) (Z : State) (a0 : Array Value) (hw : ∀ d ∈ tables_1, d.before a0 Z = true) (ws : List Jvm.Cond) (a1 : Nat) (k : ClassId) (u1 : Int32) (h0 : Heap) (OL : Old Z Z.heap.size h0) (p0_ : Arv Z h0 a1 k .byte (1 : Int32) [(.int u1)] (.int (0 : Int32))) :
    MetFree l mN34 (head1 (Jvm.Cond.code mN34 jdk_123_method_2_code 3 (some .boolean) :: ws) rM4) (fun a U => a = #[(.ref a1), (.int (0 : Int32)), (.int (1 : Int32))] ∧ Z.Warmed39 U.vm ∧ U.heap = h0) (fun _ _ _ _ _ => True) (fun _ U o U' => ∃ v L, o = .returned v ∧ Q_hneg1 Z a1 k u1 h0 v U'.heap L ∧ FrameEnd U o U' L rM4.cells rM4.slots) := by
  refine MetFree.of_bodySF (plainFor_of_name pn_376) hisR ?_
  intro p e s m args below meth c s₁ Bd hml0 hP hK
  obtain ⟨rfl, hZ, hh⟩ := hP
  have hx := Bd.exec
  have hby := Bd.bytes
  have hml : c.maxLocals = 3 := hml0
  have hown : s.vm.findClass "java/lang/StringCoding" = some m.cls := findClass_of_methodNamed Bd.named
  have hnm := (name_of_methodNamed Bd.named Bd.method).1
  have X0 : Stand p l e rM4 s m #[(.ref a1), (.int (0 : Int32)), (.int (1 : Int32))] below meth c s₁ [] 0 0 := Stand.of_body Bd
  have e0 : s₁.heap = h0 := by rw [← hh, Bd.state]; rfl
  have N0 := Fr.nil Z.heap.size
  have Z0 : Z.heap.size ≤ h0.size := OL.2.1
  have lt_0 : @LT.lt Nat _ a1 h0.size := p0_.lt
  show oG p.tables e below (fun o tE => ∃ v L, o = .returned v ∧ Q_hneg1 Z a1 k u1 h0 v tE.heap L ∧ FrameEnd s o tE L rM4.cells rM4.slots) (s₁.setTop (entryFrame m #[(.ref a1), (.int (0 : Int32)), (.int (1 : Int32))] 3))
  refine own_hd (fun PP hPP => ?_)
  refine oG.st (fun t k => castTop (ef_39 m a1 (0 : Int32) (1 : Int32)) k) ?_
  refine oG.st (fun _ k => XS.aloadN X0.here hx rfl (hb hby dj123_2_0) rfl rfl (XS.iloadN X0.here hx rfl (hb hby dj123_2_1) rfl (XS.iloadN X0.here hx rfl (hb hby dj123_2_2) rfl k))) ?_
  show oG _ _ _ _ (s₁.setTop (mkF m 3 #[.val (.ref a1), .val (.int (0 : Int32)), .val (.int (1 : Int32))] [(.int (1 : Int32)), (.int (0 : Int32)), (.ref a1)]))
  obtain ⟨_, _, ⟨T406, L406, k406, n406⟩, -, X406, ⟨Lc406, hQ406, l406, y406, z406⟩, st406⟩ := Jvm.LawKit.callS X0 hx (y := mN33) hown (own_v hZ hw 87 rfl) (own_v hZ hw 88 rfl) (own_v hZ hw 85 rfl) (own_v hZ hw 89 rfl) (by decide) (backOf (W := 0) (rm_cpos1 l Z a0 hw [] a1 k u1 h0 OL p0_) hZ (own_w hw 89 rfl) (own_w hw 85 rfl) (by decide) (by decide)) (g := (mkF m 3 #[.val (.ref a1), .val (.int (0 : Int32)), .val (.int (1 : Int32))] [(.int (1 : Int32)), (.int (0 : Int32)), (.ref a1)])) rfl (by rw [hml]; rfl) (argsL := [(.ref a1), (.int (0 : Int32)), (.int (1 : Int32))]) (rest := []) (lenOf pd_391 rfl) rfl (by show 2 * 0 + _ ≤ _; exact Nat.le_of_eq rfl) (hb hby dj123_2_3) (fun _ _ => ⟨rfl, e0, (by decide : 0 + 0 ≤ _), (by decide : 0 + 0 ≤ _)⟩)
  dsimp only [Pt.U, Pt.locs, Pt.cells, Pt.slots] at X406 l406 y406 z406 st406 hQ406
  subst l406 y406 z406
  obtain ⟨rfl, N406q, K406⟩ := hQ406
  have N406 := Fr.app N0 N406q
  refine oG.st st406 ?_
  refine oG.st (fun _ k => XS.iloadN X406.here hx rfl (hb hby dj123_2_6) rfl k) ?_
  show oG _ _ _ _ (T406.setTop (mkF m 7 #[.val (.ref a1), .val (.int (0 : Int32)), .val (.int (1 : Int32))] [(.int (1 : Int32)), (.int (if u1 < 0 then (0 : Int32) else 1))]))
  by_cases hc407 : (if u1 < 0 then (0 : Int32) else 1) = (1 : Int32)
  ·
    refine oG.st (fun _ k => XS.icmpYes X406.here hx rfl (pc0 := 7) (pc' := 14) rfl (hb hby dj123_2_7) rfl (teq hc407).1 (by decide) (by decide) k) ?_
    refine oG.st (fun _ k => XS.iconst X406.here hx rfl (hb hby dj123_2_14) k) ?_
    show oG _ _ _ _ (T406.setTop (mkF m 15 #[.val (.ref a1), .val (.int (0 : Int32)), .val (.int (1 : Int32))] [(.int (0 : Int32))]))
    obtain ⟨fs408, hr408, hrun408, hend408, hW408, hsm408⟩ := X406.leave (v := some (.int (nar .boolean (0 : Int32)))) (fun h => by rw [Bd.returns] at h; cases h)
    subst hPP
    refine ⟨_, _, retN X406 hx (t := .boolean) Bd.returns (by simp) (hb hby dj123_2_15) hr408, hrun408, hend408, _, _, rfl, ?_, ⟨_, rfl⟩, hW408, hsm408.mono (by decide) (by decide)⟩
    · show Q_hneg1 Z _ _ _ h0 _ T406.heap _
      rw [K406]
      exact ⟨(by
          by_cases q : u1 < 0
          · rw [if_pos q] at hc407 ⊢; first | rfl | exact absurd hc407 (by decide)
          · rw [if_neg q] at hc407 ⊢; first | rfl | exact absurd rfl hc407), N406, rfl⟩
  ·
    refine oG.st (fun _ k => XS.icmpNo X406.here hx rfl (hb hby dj123_2_7) rfl (feq hc407).1 k) ?_
    refine oG.st (fun _ k => XS.iconst X406.here hx rfl (hb hby dj123_2_10) (XS.goto X406.here hx rfl (pc0 := 11) (pc' := 15) rfl (hb hby dj123_2_11) (by decide) (by decide) k)) ?_
    show oG _ _ _ _ (T406.setTop (mkF m 15 #[.val (.ref a1), .val (.int (0 : Int32)), .val (.int (1 : Int32))] [(.int (1 : Int32))]))
    obtain ⟨fs409, hr409, hrun409, hend409, hW409, hsm409⟩ := X406.leave (v := some (.int (nar .boolean (1 : Int32)))) (fun h => by rw [Bd.returns] at h; cases h)
    subst hPP
    refine ⟨_, _, retN X406 hx (t := .boolean) Bd.returns (by simp) (hb hby dj123_2_15) hr409, hrun409, hend409, _, _, rfl, ?_, ⟨_, rfl⟩, hW409, hsm409.mono (by decide) (by decide)⟩
    · show Q_hneg1 Z _ _ _ h0 _ T406.heap _
      rw [K406]
      exact ⟨(by
          by_cases q : u1 < 0
          · rw [if_pos q] at hc407 ⊢; first | rfl | exact absurd hc407 (by decide)
          · rw [if_neg q] at hc407 ⊢; first | rfl | exact absurd rfl hc407), N406, rfl⟩
theorem dj52_3_0 : decode cJ18 0 = .ok (.iload_n 0, 1) := by decide +kernel
theorem dj52_3_1 : decode cJ18 1 = .ok (.ifCond .ge 11, 3) := by decide +kernel
theorem dj52_3_12 : decode cJ18 12 = .ok (.iload_n 0, 1) := by decide +kernel
theorem dj52_3_13 : decode cJ18 13 = .ok (.ldc 20, 2) := by decide +kernel
theorem dj52_3_15 : decode cJ18 15 = .ok (.if_icmp .lt 40, 3) := by decide +kernel
theorem dj52_3_55 : decode cJ18 55 = .ok (.iload_n 0, 1) := by decide +kernel
theorem dj52_3_56 : decode cJ18 56 = .ok (.iconst 1, 1) := by decide +kernel
theorem dj52_3_57 : decode cJ18 57 = .ok (.ishl, 1) := by decide +kernel
theorem dj52_3_58 : decode cJ18 58 = .ok (.ireturn, 1) := by decide +kernel
def Q_nbl (Z : State)  (h0 : Heap) (v : Option Value) (h : Heap) (L : List Loc) : Prop := v = some (.int (2 : Int32)) ∧ Fr Z.heap.size L ∧ h = h0
set_option maxRecDepth 65536 in
set_option maxHeartbeats 40000000 in
theorem rm_nbl (l : Launch) (Z : State) (a0 : Array Value) (hw : ∀ d ∈ tables_1, d.before a0 Z = true) (ws : List Jvm.Cond)  (h0 : Heap) (OL : Old Z Z.heap.size h0) :
    MetFree l mN39 (head1 (Jvm.Cond.code mN39 jdk_52_method_3_code 1 (some .int) :: ws) rM0) (fun a U => a = #[(.int (1 : Int32))] ∧ Z.Warmed39 U.vm ∧ U.heap = h0) (fun _ _ _ _ _ => True) (fun _ U o U' => ∃ v L, o = .returned v ∧ Q_nbl Z  h0 v U'.heap L ∧ FrameEnd U o U' L rM0.cells rM0.slots) := by
  refine MetFree.of_bodySF (plainFor_of_name pn_278) hisR ?_
  intro p e s m args below meth c s₁ Bd hml0 hP hK
  obtain ⟨rfl, hZ, hh⟩ := hP
  have hx := Bd.exec
  have hby := Bd.bytes
  have hml : c.maxLocals = 1 := hml0
  have hown : s.vm.findClass "java/lang/StringUTF16" = some m.cls := findClass_of_methodNamed Bd.named
  have hnm := (name_of_methodNamed Bd.named Bd.method).1
  have X0 : Stand p l e rM0 s m #[(.int (1 : Int32))] below meth c s₁ [] 0 0 := Stand.of_body Bd
  have e0 : s₁.heap = h0 := by rw [← hh, Bd.state]; rfl
  have N0 := Fr.nil Z.heap.size
  have Z0 : Z.heap.size ≤ h0.size := OL.2.1
  show oG p.tables e below (fun o tE => ∃ v L, o = .returned v ∧ Q_nbl Z  h0 v tE.heap L ∧ FrameEnd s o tE L rM0.cells rM0.slots) (s₁.setTop (entryFrame m #[(.int (1 : Int32))] 1))
  refine own_hd (fun PP hPP => ?_)
  refine oG.st (fun t k => castTop (ef_178 m (1 : Int32)) k) ?_
  refine oG.st (fun _ k => XS.iloadN X0.here hx rfl (hb hby dj52_3_0) rfl k) ?_
  show oG _ _ _ _ (s₁.setTop (mkF m 1 #[.val (.int (1 : Int32))] [(.int (1 : Int32))]))
  refine oG.st (fun _ k => XS.ifYes X0.here hx rfl (pc0 := 1) (pc' := 12) rfl (hb hby dj52_3_1) rfl ((if0 _ _).trans (flt (by decide : ¬ ((1 : Int32) < (0 : Int32)))).2.1) (by decide) (by decide) k) ?_
  refine oG.st (fun _ k => XS.iloadN X0.here hx rfl (hb hby dj52_3_12) rfl k) ?_
  show oG _ _ _ _ (s₁.setTop (mkF m 13 #[.val (.int (1 : Int32))] [(.int (1 : Int32))]))
  refine oG.st (X0.ldcInt hx hown (own_v hZ hw 252 rfl) (g := (mkF m 13 #[.val (.int (1 : Int32))] [(.int (1 : Int32))])) rfl (hb hby dj52_3_13)) ?_
  show oG _ _ _ _ (s₁.setTop (mkF m 15 #[.val (.int (1 : Int32))] [(.int (1073741823 : Int32)), (.int (1 : Int32))]))
  refine oG.st (fun _ k => XS.icmpYes X0.here hx rfl (pc0 := 15) (pc' := 55) rfl (hb hby dj52_3_15) rfl (tlt (by decide : (1 : Int32) < (1073741823 : Int32))).1 (by decide) (by decide) k) ?_
  refine oG.st (fun _ k => XS.iloadN X0.here hx rfl (hb hby dj52_3_55) rfl (XS.iconst X0.here hx rfl (hb hby dj52_3_56) (XS.ishl X0.here hx rfl (hb hby dj52_3_57) rfl k))) ?_
  show oG _ _ _ _ (s₁.setTop (mkF m 58 #[.val (.int (1 : Int32))] [(.int ((1 : Int32) <<< ((1 : Int32) &&& 31)))]))
  obtain ⟨fs410, hr410, hrun410, hend410, hW410, hsm410⟩ := X0.leave (v := some (.int ((1 : Int32) <<< ((1 : Int32) &&& 31)))) (fun h => by rw [Bd.returns] at h; cases h)
  subst hPP
  refine ⟨_, _, own_retI X0 hx Bd.returns (hb hby dj52_3_58) hr410, hrun410, hend410, _, _, rfl, ?_, ⟨_, rfl⟩, hW410, hsm410.mono (by decide) (by decide)⟩
  · show Q_nbl Z  h0 _ s₁.heap _
    rw [e0]
    exact ⟨(by decide), N0, rfl⟩
theorem dj52_2_0 : decode jdk_52_method_2_code 0 = .ok (.iload_n 0, 1) := by decide +kernel
theorem dj52_2_1 : decode jdk_52_method_2_code 1 = .ok (.invokestatic 11, 3) := by decide +kernel
theorem dj52_2_4 : decode jdk_52_method_2_code 4 = .ok (.newarray .byte, 2) := by decide +kernel
theorem dj52_2_6 : decode jdk_52_method_2_code 6 = .ok (.areturn, 1) := by decide +kernel
def Q_nbf (Z : State)  (h0 : Heap) (v : Option Value) (h : Heap) (L : List Loc) : Prop := ∃ (x : Nat), ∃ (k : ClassId), v = some (.ref x) ∧ Fr Z.heap.size L ∧ Keep h0 h [] ∧ Arv Z h x k .byte (2 : Int32) [(.int (0 : Int32)), (.int (0 : Int32))] (.int (0 : Int32)) ∧ (h0.size ≤ x)
set_option maxRecDepth 65536 in
set_option maxHeartbeats 40000000 in
theorem rm_nbf (l : Launch) (Z : State) (a0 : Array Value) (hw : ∀ d ∈ tables_1, d.before a0 Z = true) (ws : List Jvm.Cond)  (h0 : Heap) (OL : Old Z Z.heap.size h0) :
    MetFree l mN38 (head1 (Jvm.Cond.code mN38 jdk_52_method_2_code 1 (some (.array .byte)) :: ws) rM7) (fun a U => a = #[(.int (1 : Int32))] ∧ Z.Warmed39 U.vm ∧ U.heap = h0) (fun _ _ _ _ _ => True) (fun _ U o U' => ∃ v L, o = .returned v ∧ Q_nbf Z  h0 v U'.heap L ∧ FrameEnd U o U' L rM7.cells rM7.slots) := by
  refine MetFree.of_bodySF (plainFor_of_name pn_278) hisR ?_
  intro p e s m args below meth c s₁ Bd hml0 hP hK
  obtain ⟨rfl, hZ, hh⟩ := hP
  have hx := Bd.exec
  have hby := Bd.bytes
  have hml : c.maxLocals = 1 := hml0
  have hown : s.vm.findClass "java/lang/StringUTF16" = some m.cls := findClass_of_methodNamed Bd.named
  have hnm := (name_of_methodNamed Bd.named Bd.method).1
  have X0 : Stand p l e rM7 s m #[(.int (1 : Int32))] below meth c s₁ [] 0 0 := Stand.of_body Bd
  have e0 : s₁.heap = h0 := by rw [← hh, Bd.state]; rfl
  have N0 := Fr.nil Z.heap.size
  have Z0 : Z.heap.size ≤ h0.size := OL.2.1
  show oG p.tables e below (fun o tE => ∃ v L, o = .returned v ∧ Q_nbf Z  h0 v tE.heap L ∧ FrameEnd s o tE L rM7.cells rM7.slots) (s₁.setTop (entryFrame m #[(.int (1 : Int32))] 1))
  refine own_hd (fun PP hPP => ?_)
  refine oG.st (fun t k => castTop (ef_178 m (1 : Int32)) k) ?_
  refine oG.st (fun _ k => XS.iloadN X0.here hx rfl (hb hby dj52_2_0) rfl k) ?_
  show oG _ _ _ _ (s₁.setTop (mkF m 1 #[.val (.int (1 : Int32))] [(.int (1 : Int32))]))
  obtain ⟨_, _, ⟨T411, L411, k411, n411⟩, -, X411, ⟨Lc411, hQ411, l411, y411, z411⟩, st411⟩ := Jvm.LawKit.callS X0 hx (y := mN39) hown (own_v hZ hw 249 rfl) (own_v hZ hw 250 rfl) (own_v hZ hw 51 rfl) (own_v hZ hw 251 rfl) (by decide) (backOf (W := 0) (rm_nbl l Z a0 hw []  h0 OL ) hZ (own_w hw 251 rfl) (own_w hw 51 rfl) (by decide) (by decide)) (g := (mkF m 1 #[.val (.int (1 : Int32))] [(.int (1 : Int32))])) rfl (by rw [hml]; rfl) (argsL := [(.int (1 : Int32))]) (rest := []) (lenOf pd_168 rfl) rfl (by show 2 * 0 + _ ≤ _; exact Nat.le_of_eq rfl) (hb hby dj52_2_1) (fun _ _ => ⟨rfl, e0, (by decide : 0 + 0 ≤ _), (by decide : 0 + 0 ≤ _)⟩)
  dsimp only [Pt.U, Pt.locs, Pt.cells, Pt.slots] at X411 l411 y411 z411 st411 hQ411
  subst l411 y411 z411
  obtain ⟨rfl, N411q, K411⟩ := hQ411
  have N411 := Fr.app N0 N411q
  refine oG.st st411 ?_
  show oG _ _ _ _ (T411.setTop (mkF m 4 #[.val (.int (1 : Int32))] [(.int (2 : Int32))]))
  obtain ⟨T412, h412, k412, X412, e412, E412, A412, st412⟩ := newP X411 hx hZ (own_w hw 16 rfl) K411 (g := (mkF m 4 #[.val (.int (1 : Int32))] [(.int (2 : Int32))])) rfl (hb hby dj52_2_4) rfl (by decide) (cap := 2) (by decide) (by decide) (by decide) (by decide)
  obtain ⟨b412, g412⟩ : ∃ z, z = h0.size := ⟨_, rfl⟩
  rw [← g412] at A412 st412
  refine oG.st st412 ?_
  have z412 : h0.size ≤ h412.size := E412.1
  have f413 : Arv Z h412 b412 k412 .byte (2 : Int32) [(.int (0 : Int32)), (.int (0 : Int32))] (.int (0 : Int32)) := (Arv.new A412 (by decide)).pad (pad_rep [] (.int (0 : Int32)) 2)
  have lt_b412 : @LT.lt Nat _ b412 h412.size := f413.lt
  show oG _ _ _ _ (T412.setTop (mkF m 6 #[.val (.int (1 : Int32))] [(.ref b412)]))
  obtain ⟨fs414, hr414, hrun414, hend414, hW414, hsm414⟩ := X412.leave (v := some (.ref b412)) (fun h => by rw [Bd.returns] at h; cases h)
  have K415 : Keep h0 h412 [] := (Keep.refl h0 []).ext E412
  subst hPP
  refine ⟨_, _, own_retA X412 hx Bd.returns rfl rfl (hb hby dj52_2_6) hr414, hrun414, hend414, _, _, rfl, ?_, ⟨_, rfl⟩, hW414, hsm414.mono (by decide) (by decide)⟩
  · show Q_nbf Z  h0 _ T412.heap _
    rw [e412]
    exact ⟨b412, k412, rfl, N411, K415, f413, (by omega)⟩
theorem pn_422 : plainName "java/lang/Character" = true := by first | (simp [plainName, overriddenIn]; done) | decide +kernel
theorem dj89_16_0 : decode cJ30 0 = .ok (.iload_n 0, 1) := by decide +kernel
theorem dj89_16_1 : decode cJ30 1 = .ok (.ldc 75, 2) := by decide +kernel
theorem dj89_16_3 : decode cJ30 3 = .ok (.if_icmp .lt 13, 3) := by decide +kernel
theorem dj89_16_16 : decode cJ30 16 = .ok (.iconst 0, 1) := by decide +kernel
theorem dj89_16_17 : decode cJ30 17 = .ok (.ireturn, 1) := by decide +kernel
theorem dj89_16_6 : decode cJ30 6 = .ok (.iload_n 0, 1) := by decide +kernel
theorem dj89_16_7 : decode cJ30 7 = .ok (.ldc 77, 2) := by decide +kernel
theorem dj89_16_9 : decode cJ30 9 = .ok (.if_icmp .ge 7, 3) := by decide +kernel
def Q_isSur (Z : State) (p1 : Int32) (h0 : Heap) (v : Option Value) (h : Heap) (L : List Loc) : Prop := v = some (.int (0 : Int32)) ∧ Fr Z.heap.size L ∧ h = h0
set_option maxRecDepth 65536 in
set_option maxHeartbeats 40000000 in
theorem rm_isSur (l : Launch) (Z : State) (a0 : Array Value) (hw : ∀ d ∈ tables_1, d.before a0 Z = true) (ws : List Jvm.Cond) (p1 : Int32) (h0 : Heap) (OL : Old Z Z.heap.size h0) (h : own_nsur p1) :
    MetFree l mN13 (head1 (Jvm.Cond.code mN13 jdk_89_method_16_code 1 (some .boolean) :: ws) rM0) (fun a U => a = #[(.int p1)] ∧ Z.Warmed39 U.vm ∧ U.heap = h0) (fun _ _ _ _ _ => True) (fun _ U o U' => ∃ v L, o = .returned v ∧ Q_isSur Z p1 h0 v U'.heap L ∧ FrameEnd U o U' L rM0.cells rM0.slots) := by
  refine MetFree.of_bodySF (plainFor_of_name pn_422) hisR ?_
  intro p e s m args below meth c s₁ Bd hml0 hP hK
  obtain ⟨rfl, hZ, hh⟩ := hP
  have hx := Bd.exec
  have hby := Bd.bytes
  have hml : c.maxLocals = 1 := hml0
  have hown : s.vm.findClass "java/lang/Character" = some m.cls := findClass_of_methodNamed Bd.named
  have hnm := (name_of_methodNamed Bd.named Bd.method).1
  have X0 : Stand p l e rM0 s m #[(.int p1)] below meth c s₁ [] 0 0 := Stand.of_body Bd
  have e0 : s₁.heap = h0 := by rw [← hh, Bd.state]; rfl
  have N0 := Fr.nil Z.heap.size
  have Z0 : Z.heap.size ≤ h0.size := OL.2.1
  show oG p.tables e below (fun o tE => ∃ v L, o = .returned v ∧ Q_isSur Z p1 h0 v tE.heap L ∧ FrameEnd s o tE L rM0.cells rM0.slots) (s₁.setTop (entryFrame m #[(.int p1)] 1))
  refine own_hd (fun PP hPP => ?_)
  refine oG.st (fun t k => castTop (ef_178 m p1) k) ?_
  refine oG.st (fun _ k => XS.iloadN X0.here hx rfl (hb hby dj89_16_0) rfl k) ?_
  show oG _ _ _ _ (s₁.setTop (mkF m 1 #[.val (.int p1)] [(.int p1)]))
  refine oG.st (X0.ldcInt hx hown (own_v hZ hw 243 rfl) (g := (mkF m 1 #[.val (.int p1)] [(.int p1)])) rfl (hb hby dj89_16_1)) ?_
  show oG _ _ _ _ (s₁.setTop (mkF m 3 #[.val (.int p1)] [(.int (55296 : Int32)), (.int p1)]))
  by_cases h3 : p1 < (55296 : Int32)
  ·
    refine oG.st (fun _ k => XS.icmpYes X0.here hx rfl (pc0 := 3) (pc' := 16) rfl (hb hby dj89_16_3) rfl (tlt h3).1 (by decide) (by decide) k) ?_
    refine oG.st (fun _ k => XS.iconst X0.here hx rfl (hb hby dj89_16_16) k) ?_
    show oG _ _ _ _ (s₁.setTop (mkF m 17 #[.val (.int p1)] [(.int (0 : Int32))]))
    obtain ⟨fs416, hr416, hrun416, hend416, hW416, hsm416⟩ := X0.leave (v := some (.int (nar .boolean (0 : Int32)))) (fun h => by rw [Bd.returns] at h; cases h)
    subst hPP
    refine ⟨_, _, retN X0 hx (t := .boolean) Bd.returns (by simp) (hb hby dj89_16_17) hr416, hrun416, hend416, _, _, rfl, ?_, ⟨_, rfl⟩, hW416, hsm416.mono (by decide) (by decide)⟩
    · show Q_isSur Z _ h0 _ s₁.heap _
      rw [e0]
      exact ⟨rfl, N0, rfl⟩
  ·
    refine oG.st (fun _ k => XS.icmpNo X0.here hx rfl (hb hby dj89_16_3) rfl (flt h3).1 k) ?_
    refine oG.st (fun _ k => XS.iloadN X0.here hx rfl (hb hby dj89_16_6) rfl k) ?_
    show oG _ _ _ _ (s₁.setTop (mkF m 7 #[.val (.int p1)] [(.int p1)]))
    refine oG.st (X0.ldcInt hx hown (own_v hZ hw 245 rfl) (g := (mkF m 7 #[.val (.int p1)] [(.int p1)])) rfl (hb hby dj89_16_7)) ?_
    show oG _ _ _ _ (s₁.setTop (mkF m 9 #[.val (.int p1)] [(.int (57344 : Int32)), (.int p1)]))
    have hc417 : ¬ (p1 < (57344 : Int32)) := Or.elim h (fun q => absurd q h3) id
    refine oG.st (fun _ k => XS.icmpYes X0.here hx rfl (pc0 := 9) (pc' := 16) rfl (hb hby dj89_16_9) rfl (flt hc417).2.1 (by decide) (by decide) k) ?_
    refine oG.st (fun _ k => XS.iconst X0.here hx rfl (hb hby dj89_16_16) k) ?_
    show oG _ _ _ _ (s₁.setTop (mkF m 17 #[.val (.int p1)] [(.int (0 : Int32))]))
    obtain ⟨fs418, hr418, hrun418, hend418, hW418, hsm418⟩ := X0.leave (v := some (.int (nar .boolean (0 : Int32)))) (fun h => by rw [Bd.returns] at h; cases h)
    subst hPP
    refine ⟨_, _, retN X0 hx (t := .boolean) Bd.returns (by simp) (hb hby dj89_16_17) hr418, hrun418, hend418, _, _, rfl, ?_, ⟨_, rfl⟩, hW418, hsm418.mono (by decide) (by decide)⟩
    · show Q_isSur Z _ h0 _ s₁.heap _
      rw [e0]
      exact ⟨rfl, N0, rfl⟩
def Q_copyOf2 (Z : State) (a1 : Nat) (x0 : Value) (x1 : Value) (x2 : Value) (ka : ClassId) (h0 : Heap) (v : Option Value) (h : Heap) (L : List Loc) : Prop := ∃ (x : Nat), ∃ (k : ClassId), v = some (.ref x) ∧ Fr Z.heap.size L ∧ Keep h0 h [] ∧ Arv Z h x k .byte (2 : Int32) [x0, x1] (.int (0 : Int32)) ∧ (h0.size ≤ x)
set_option maxRecDepth 65536 in
set_option maxHeartbeats 40000000 in
theorem rm_copyOf2 (l : Launch) (Z : State) (a0 : Array Value) (hw : ∀ d ∈ tables_1, d.before a0 Z = true) (ws : List Jvm.Cond) (a1 : Nat) (x0 : Value) (x1 : Value) (x2 : Value) (ka : ClassId) (h0 : Heap) (OL : Old Z Z.heap.size h0) (p0_ : Arv Z h0 a1 ka .byte (3 : Int32) [x0, x1, x2] (.int (0 : Int32))) :
    MetFree l mN43 (head1 (Jvm.Cond.code mN43 jdk_65_method_121_code 3 (some (.array .byte)) :: ws) rM9) (fun a U => a = #[(.ref a1), (.int (2 : Int32))] ∧ Z.Warmed39 U.vm ∧ U.heap = h0) (fun _ _ _ _ _ => True) (fun _ U o U' => ∃ v L, o = .returned v ∧ Q_copyOf2 Z a1 x0 x1 x2 ka h0 v U'.heap L ∧ FrameEnd U o U' L rM9.cells rM9.slots) := by
  refine MetFree.of_bodySF (plainFor_of_name pn_8) hisR ?_
  intro p e s m args below meth c s₁ Bd hml0 hP hK
  obtain ⟨rfl, hZ, hh⟩ := hP
  have hx := Bd.exec
  have hby := Bd.bytes
  have hml : c.maxLocals = 3 := hml0
  have hown : s.vm.findClass "java/util/Arrays" = some m.cls := findClass_of_methodNamed Bd.named
  have hnm := (name_of_methodNamed Bd.named Bd.method).1
  have X0 : Stand p l e rM9 s m #[(.ref a1), (.int (2 : Int32))] below meth c s₁ [] 0 0 := Stand.of_body Bd
  have e0 : s₁.heap = h0 := by rw [← hh, Bd.state]; rfl
  have N0 := Fr.nil Z.heap.size
  have Z0 : Z.heap.size ≤ h0.size := OL.2.1
  have lt_0 : @LT.lt Nat _ a1 h0.size := p0_.lt
  show oG p.tables e below (fun o tE => ∃ v L, o = .returned v ∧ Q_copyOf2 Z a1 x0 x1 x2 ka h0 v tE.heap L ∧ FrameEnd s o tE L rM9.cells rM9.slots) (s₁.setTop (entryFrame m #[(.ref a1), (.int (2 : Int32))] 3))
  refine own_hd (fun PP hPP => ?_)
  refine oG.st (fun t k => castTop (ef_133 m a1 (2 : Int32)) k) ?_
  refine oG.st (fun _ k => XS.iloadN X0.here hx rfl (hb hby dj65_121_0) rfl (XS.aloadN X0.here hx rfl (hb hby dj65_121_1) rfl rfl k)) ?_
  show oG _ _ _ _ (s₁.setTop (mkF m 2 #[.val (.ref a1), .val (.int (2 : Int32)), .unset] [(.ref a1), (.int (2 : Int32))]))
  obtain ⟨c419, Ar419, q419, S419, Nn419, H419, G419⟩ := id p0_
  refine oG.st (X0.arraylength hx (own_rwE e0 Ar419.1) (State.isArrayOf_alike hZ.alike Ar419.2.1) (g := (mkF m 2 #[.val (.ref a1), .val (.int (2 : Int32)), .unset] [(.ref a1), (.int (2 : Int32))])) rfl rfl (hb hby dj65_121_2)) ?_
  rw [len_of S419 Nn419]
  show oG _ _ _ _ (s₁.setTop (mkF m 3 #[.val (.ref a1), .val (.int (2 : Int32)), .unset] [(.int (3 : Int32)), (.int (2 : Int32))]))
  refine oG.st (fun _ k => XS.icmpYes X0.here hx rfl (pc0 := 3) (pc' := 14) rfl (hb hby dj65_121_3) rfl (feq (by decide : ¬ ((2 : Int32) = (3 : Int32)))).2 (by decide) (by decide) k) ?_
  refine oG.st (fun _ k => XS.iloadN X0.here hx rfl (hb hby dj65_121_14) rfl k) ?_
  show oG _ _ _ _ (s₁.setTop (mkF m 15 #[.val (.ref a1), .val (.int (2 : Int32)), .unset] [(.int (2 : Int32))]))
  obtain ⟨T420, h420, k420, X420, e420, E420, A420, st420⟩ := newP X0 hx hZ (own_w hw 16 rfl) e0 (g := (mkF m 15 #[.val (.ref a1), .val (.int (2 : Int32)), .unset] [(.int (2 : Int32))])) rfl (hb hby dj65_121_15) rfl (by decide) (cap := 2) (by decide) (by decide) (by decide) (by decide)
  obtain ⟨b420, g420⟩ : ∃ z, z = h0.size := ⟨_, rfl⟩
  rw [← g420] at A420 st420
  refine oG.st st420 ?_
  have z420 : h0.size ≤ h420.size := E420.1
  have f421 : Arv Z h420 b420 k420 .byte (2 : Int32) [(.int (0 : Int32)), (.int (0 : Int32))] (.int (0 : Int32)) := (Arv.new A420 (by decide)).pad (pad_rep [] (.int (0 : Int32)) 2)
  have lt_b420 : @LT.lt Nat _ b420 h420.size := f421.lt
  refine oG.st (fun _ k => XS.astoreN X420.here hx rfl (hb hby dj65_121_17) rfl rfl (l' := #[.val (.ref a1), .val (.int (2 : Int32)), .val (.ref b420)]) rfl (XS.aloadN X420.here hx rfl (hb hby dj65_121_18) rfl rfl (XS.iconst X420.here hx rfl (hb hby dj65_121_19) (XS.aloadN X420.here hx rfl (hb hby dj65_121_20) rfl rfl (XS.iconst X420.here hx rfl (hb hby dj65_121_21) (XS.aloadN X420.here hx rfl (hb hby dj65_121_22) rfl rfl k)))))) ?_
  show oG _ _ _ _ (T420.setTop (mkF m 23 #[.val (.ref a1), .val (.int (2 : Int32)), .val (.ref b420)] [(.ref a1), (.int (0 : Int32)), (.ref b420), (.int (0 : Int32)), (.ref a1)]))
  have f422 : Arv Z h420 a1 ka .byte (3 : Int32) [x0, x1, x2] (.int (0 : Int32)) := p0_.ext E420
  obtain ⟨c423, Ar423, q423, S423, Nn423, H423, G423⟩ := id f422
  refine oG.st (X420.arraylength hx (own_rwE e420 Ar423.1) (State.isArrayOf_alike hZ.alike Ar423.2.1) (g := (mkF m 23 #[.val (.ref a1), .val (.int (2 : Int32)), .val (.ref b420)] [(.ref a1), (.int (0 : Int32)), (.ref b420), (.int (0 : Int32)), (.ref a1)])) rfl rfl (hb hby dj65_121_23)) ?_
  rw [len_of S423 Nn423]
  refine oG.st (fun _ k => XS.iloadN X420.here hx rfl (hb hby dj65_121_24) rfl k) ?_
  show oG _ _ _ _ (T420.setTop (mkF m 25 #[.val (.ref a1), .val (.int (2 : Int32)), .val (.ref b420)] [(.int (2 : Int32)), (.int (3 : Int32)), (.int (0 : Int32)), (.ref b420), (.int (0 : Int32)), (.ref a1)]))
  have f425 : Old Z Z.heap.size h420 := OL.ext E420
  obtain ⟨_, _, ⟨T424, L424, k424, n424⟩, -, X424, ⟨Lc424, hQ424, l424, y424, z424⟩, st424⟩ := Jvm.LawKit.callS X420 hx (y := mN15) hown (own_v hZ hw 164 rfl) (own_v hZ hw 165 rfl) (own_v hZ hw 156 rfl) (own_v hZ hw 166 rfl) (by decide) (backOf (W := 4) (rm_mmin l Z a0 hw [] (3 : Int32) (2 : Int32) h420 f425 ) hZ (own_w hw 166 rfl) (own_w hw 156 rfl) (by decide) (by decide)) (g := (mkF m 25 #[.val (.ref a1), .val (.int (2 : Int32)), .val (.ref b420)] [(.int (2 : Int32)), (.int (3 : Int32)), (.int (0 : Int32)), (.ref b420), (.int (0 : Int32)), (.ref a1)])) rfl (by rw [hml]; rfl) (argsL := [(.int (3 : Int32)), (.int (2 : Int32))]) (rest := [(.int (0 : Int32)), (.ref b420), (.int (0 : Int32)), (.ref a1)]) (lenOf pd_34 rfl) rfl (by show 2 * 0 + _ ≤ _; exact Nat.le_of_eq rfl) (hb hby dj65_121_25) (fun _ _ => ⟨rfl, e420, (by decide : 1 + 0 ≤ _), (by decide : 2 + 0 ≤ _)⟩)
  dsimp only [Pt.U, Pt.locs, Pt.cells, Pt.slots] at X424 l424 y424 z424 st424 hQ424
  subst l424 y424 z424
  obtain ⟨rfl, N424q, K424⟩ := hQ424
  have N424 := Fr.app N0 N424q
  refine oG.st st424 ?_
  show oG _ _ _ _ (T424.setTop (mkF m 28 #[.val (.ref a1), .val (.int (2 : Int32)), .val (.ref b420)] [(.int (if (2 : Int32) < (3 : Int32) then (2 : Int32) else (3 : Int32))), (.int (0 : Int32)), (.ref b420), (.int (0 : Int32)), (.ref a1)]))
  rw [show (if (2 : Int32) < (3 : Int32) then (2 : Int32) else (3 : Int32)) = (2 : Int32) from by decide]
  show oG _ _ _ _ (T424.setTop (mkF m 28 #[.val (.ref a1), .val (.int (2 : Int32)), .val (.ref b420)] [(.int (2 : Int32)), (.int (0 : Int32)), (.ref b420), (.int (0 : Int32)), (.ref a1)]))
  obtain ⟨T426, h426, L426, X426, e426, N426, K426, V426, st426⟩ := cpA (us := [x0, x1]) X424 hx hZ hown (own_w hw 167 rfl) (own_w hw 170 rfl) (own_w hw 168 rfl) (own_w hw 169 rfl) K424 f422 f421 (Or.inl ⟨rfl, rfl⟩) (by decide) (by decide) (by decide) (by decide) (by decide) (own_us2 x0 x1 x2) (by decide) N424 (by omega) (g := (mkF m 28 #[.val (.ref a1), .val (.int (2 : Int32)), .val (.ref b420)] [(.int (2 : Int32)), (.int (0 : Int32)), (.ref b420), (.int (0 : Int32)), (.ref a1)])) rfl (by rw [hml]; rfl) rfl (hb hby dj65_121_28) (by decide) (W := 0) (by show 2 * 0 + _ ≤ _; exact Nat.le_of_eq rfl) (by decide)
  refine oG.st st426 ?_
  have z426 : h420.size ≤ h426.size := K426.1
  have f427 : Arv Z h426 b420 k420 .byte (2 : Int32) [x0, x1] (.int (0 : Int32)) := own_co2 V426
  refine oG.st (fun _ k => XS.aloadN X426.here hx rfl (hb hby dj65_121_31) rfl rfl k) ?_
  show oG _ _ _ _ (T426.setTop (mkF m 32 #[.val (.ref a1), .val (.int (2 : Int32)), .val (.ref b420)] [(.ref b420)]))
  obtain ⟨fs428, hr428, hrun428, hend428, hW428, hsm428⟩ := X426.leave (v := some (.ref b420)) (fun h => by rw [Bd.returns] at h; cases h)
  have K429 : Keep h0 h420 [] := (Keep.refl h0 []).ext E420
  have K430 : Keep h0 h426 [] := K429.trans K426 (allS (Or.inr (by omega)) all0)
  subst hPP
  refine ⟨_, _, own_retA X426 hx Bd.returns rfl rfl (hb hby dj65_121_32) hr428, hrun428, hend428, _, _, rfl, ?_, ⟨_, rfl⟩, hW428, hsm428.mono (by decide) (by decide)⟩
  · show Q_copyOf2 Z _ _ _ _ _ h0 _ T426.heap _
    rw [e426]
    exact ⟨b420, k420, rfl, N426, K430, f427, (by omega)⟩
theorem ef_431 (m : MethodId) (x0 : Nat) (x1 : Int32) : entryFrame m #[(.ref x0), (.int x1)] 9 = mkF m 0 #[.val (.ref x0), .val (.int x1), .unset, .unset, .unset, .unset, .unset, .unset, .unset] [] := by first | (simp [entryFrame, mkF, argsToLocals, Value.category]; done) | rfl
theorem dj42_47_0 : decode cJ12 0 = .ok (.iconst 0, 1) := by decide +kernel
theorem dj42_47_1 : decode cJ12 1 = .ok (.istore_n 2, 1) := by decide +kernel
theorem dj42_47_2 : decode cJ12 2 = .ok (.iconst 0, 1) := by decide +kernel
theorem dj42_47_3 : decode cJ12 3 = .ok (.istore_n 3, 1) := by decide +kernel
theorem dj42_47_4 : decode cJ12 4 = .ok (.aload_n 0, 1) := by decide +kernel
theorem dj42_47_5 : decode cJ12 5 = .ok (.arraylength, 1) := by decide +kernel
theorem dj42_47_6 : decode cJ12 6 = .ok (.iconst 1, 1) := by decide +kernel
theorem dj42_47_7 : decode cJ12 7 = .ok (.ishr, 1) := by decide +kernel
theorem dj42_47_8 : decode cJ12 8 = .ok (.istore 4, 2) := by decide +kernel
theorem dj42_47_10 : decode cJ12 10 = .ok (.iload 4, 2) := by decide +kernel
theorem dj42_47_12 : decode cJ12 12 = .ok (.iconst 3, 1) := by decide +kernel
theorem dj42_47_13 : decode cJ12 13 = .ok (.imul, 1) := by decide +kernel
theorem dj42_47_14 : decode cJ12 14 = .ok (.newarray .byte, 2) := by decide +kernel
theorem dj42_47_16 : decode cJ12 16 = .ok (.astore 5, 2) := by decide +kernel
theorem dj42_47_18 : decode cJ12 18 = .ok (.iload_n 3, 1) := by decide +kernel
theorem dj42_47_19 : decode cJ12 19 = .ok (.iload 4, 2) := by decide +kernel
theorem dj42_47_21 : decode cJ12 21 = .ok (.if_icmp .ge 37, 3) := by decide +kernel
theorem dj42_47_24 : decode cJ12 24 = .ok (.aload_n 0, 1) := by decide +kernel
theorem dj42_47_25 : decode cJ12 25 = .ok (.iload_n 3, 1) := by decide +kernel
theorem pd_451 : parseMethodDescriptor "([BI)C" = some ⟨[(.array .byte), .int], some .char⟩ := by decide +kernel
theorem dj42_47_26 : decode cJ12 26 = .ok (.invokestatic 360, 3) := by decide +kernel
theorem dj42_47_29 : decode cJ12 29 = .ok (.istore 6, 2) := by decide +kernel
theorem dj42_47_31 : decode cJ12 31 = .ok (.iload 6, 2) := by decide +kernel
theorem dj42_47_33 : decode cJ12 33 = .ok (.sipush 128, 3) := by decide +kernel
theorem dj42_47_36 : decode cJ12 36 = .ok (.if_icmp .lt 6, 3) := by decide +kernel
theorem dj42_47_39 : decode cJ12 39 = .ok (.goto 19, 3) := by decide +kernel
theorem dj42_47_58 : decode cJ12 58 = .ok (.iload_n 3, 1) := by decide +kernel
theorem dj42_47_59 : decode cJ12 59 = .ok (.iload 4, 2) := by decide +kernel
theorem dj42_47_61 : decode cJ12 61 = .ok (.if_icmp .ge 294, 3) := by decide +kernel
theorem dj42_47_64 : decode cJ12 64 = .ok (.aload_n 0, 1) := by decide +kernel
theorem dj42_47_65 : decode cJ12 65 = .ok (.iload_n 3, 1) := by decide +kernel
theorem dj42_47_66 : decode cJ12 66 = .ok (.iinc 3 1, 3) := by decide +kernel
theorem dj42_47_69 : decode cJ12 69 = .ok (.invokestatic 360, 3) := by decide +kernel
theorem dj42_47_72 : decode cJ12 72 = .ok (.istore 6, 2) := by decide +kernel
theorem dj42_47_74 : decode cJ12 74 = .ok (.iload 6, 2) := by decide +kernel
theorem dj42_47_76 : decode cJ12 76 = .ok (.sipush 128, 3) := by decide +kernel
theorem dj42_47_79 : decode cJ12 79 = .ok (.if_icmp .ge 16, 3) := by decide +kernel
theorem dj42_47_95 : decode cJ12 95 = .ok (.iload 6, 2) := by decide +kernel
theorem dj42_47_97 : decode cJ12 97 = .ok (.sipush 2048, 3) := by decide +kernel
theorem dj42_47_100 : decode cJ12 100 = .ok (.if_icmp .ge 40, 3) := by decide +kernel
theorem dj42_47_103 : decode cJ12 103 = .ok (.aload 5, 2) := by decide +kernel
theorem dj42_47_105 : decode cJ12 105 = .ok (.iload_n 2, 1) := by decide +kernel
theorem dj42_47_106 : decode cJ12 106 = .ok (.iinc 2 1, 3) := by decide +kernel
theorem dj42_47_109 : decode cJ12 109 = .ok (.sipush 192, 3) := by decide +kernel
theorem dj42_47_112 : decode cJ12 112 = .ok (.iload 6, 2) := by decide +kernel
theorem dj42_47_114 : decode cJ12 114 = .ok (.bipush 6, 2) := by decide +kernel
theorem dj42_47_116 : decode cJ12 116 = .ok (.ishr, 1) := by decide +kernel
theorem dj42_47_117 : decode cJ12 117 = .ok (.ior, 1) := by decide +kernel
theorem dj42_47_118 : decode cJ12 118 = .ok (.i2b, 1) := by decide +kernel
theorem dj42_47_119 : decode cJ12 119 = .ok (.bastore, 1) := by decide +kernel
theorem dj42_47_120 : decode cJ12 120 = .ok (.aload 5, 2) := by decide +kernel
theorem dj42_47_122 : decode cJ12 122 = .ok (.iload_n 2, 1) := by decide +kernel
theorem dj42_47_123 : decode cJ12 123 = .ok (.iinc 2 1, 3) := by decide +kernel
theorem dj42_47_126 : decode cJ12 126 = .ok (.sipush 128, 3) := by decide +kernel
theorem dj42_47_129 : decode cJ12 129 = .ok (.iload 6, 2) := by decide +kernel
theorem dj42_47_131 : decode cJ12 131 = .ok (.bipush 63, 2) := by decide +kernel
theorem dj42_47_133 : decode cJ12 133 = .ok (.iand, 1) := by decide +kernel
theorem dj42_47_134 : decode cJ12 134 = .ok (.ior, 1) := by decide +kernel
theorem dj42_47_135 : decode cJ12 135 = .ok (.i2b, 1) := by decide +kernel
theorem dj42_47_136 : decode cJ12 136 = .ok (.bastore, 1) := by decide +kernel
theorem dj42_47_137 : decode cJ12 137 = .ok (.goto 215, 3) := by decide +kernel
theorem dj42_47_352 : decode cJ12 352 = .ok (.goto (-294), 3) := by decide +kernel
theorem dj42_47_355 : decode cJ12 355 = .ok (.iload_n 2, 1) := by decide +kernel
theorem dj42_47_356 : decode cJ12 356 = .ok (.aload 5, 2) := by decide +kernel
theorem dj42_47_358 : decode cJ12 358 = .ok (.arraylength, 1) := by decide +kernel
theorem dj42_47_359 : decode cJ12 359 = .ok (.if_icmp .ne 6, 3) := by decide +kernel
theorem dj42_47_365 : decode cJ12 365 = .ok (.aload 5, 2) := by decide +kernel
theorem dj42_47_367 : decode cJ12 367 = .ok (.iload_n 2, 1) := by decide +kernel
theorem dj42_47_368 : decode cJ12 368 = .ok (.invokestatic 102, 3) := by decide +kernel
theorem dj42_47_371 : decode cJ12 371 = .ok (.areturn, 1) := by decide +kernel
theorem dj42_47_140 : decode cJ12 140 = .ok (.iload 6, 2) := by decide +kernel
theorem dj42_47_142 : decode cJ12 142 = .ok (.invokestatic 404, 3) := by decide +kernel
theorem dj42_47_145 : decode cJ12 145 = .ok (.ifCond .eq 153, 3) := by decide +kernel
theorem dj42_47_298 : decode cJ12 298 = .ok (.aload 5, 2) := by decide +kernel
theorem dj42_47_300 : decode cJ12 300 = .ok (.iload_n 2, 1) := by decide +kernel
theorem dj42_47_301 : decode cJ12 301 = .ok (.iinc 2 1, 3) := by decide +kernel
theorem dj42_47_304 : decode cJ12 304 = .ok (.sipush 224, 3) := by decide +kernel
theorem dj42_47_307 : decode cJ12 307 = .ok (.iload 6, 2) := by decide +kernel
theorem dj42_47_309 : decode cJ12 309 = .ok (.bipush 12, 2) := by decide +kernel
theorem dj42_47_311 : decode cJ12 311 = .ok (.ishr, 1) := by decide +kernel
theorem dj42_47_312 : decode cJ12 312 = .ok (.ior, 1) := by decide +kernel
theorem dj42_47_313 : decode cJ12 313 = .ok (.i2b, 1) := by decide +kernel
theorem dj42_47_314 : decode cJ12 314 = .ok (.bastore, 1) := by decide +kernel
theorem dj42_47_315 : decode cJ12 315 = .ok (.aload 5, 2) := by decide +kernel
theorem dj42_47_317 : decode cJ12 317 = .ok (.iload_n 2, 1) := by decide +kernel
theorem dj42_47_318 : decode cJ12 318 = .ok (.iinc 2 1, 3) := by decide +kernel
theorem dj42_47_321 : decode cJ12 321 = .ok (.sipush 128, 3) := by decide +kernel
theorem dj42_47_324 : decode cJ12 324 = .ok (.iload 6, 2) := by decide +kernel
theorem dj42_47_326 : decode cJ12 326 = .ok (.bipush 6, 2) := by decide +kernel
theorem dj42_47_328 : decode cJ12 328 = .ok (.ishr, 1) := by decide +kernel
theorem dj42_47_329 : decode cJ12 329 = .ok (.bipush 63, 2) := by decide +kernel
theorem dj42_47_331 : decode cJ12 331 = .ok (.iand, 1) := by decide +kernel
theorem dj42_47_332 : decode cJ12 332 = .ok (.ior, 1) := by decide +kernel
theorem dj42_47_333 : decode cJ12 333 = .ok (.i2b, 1) := by decide +kernel
theorem dj42_47_334 : decode cJ12 334 = .ok (.bastore, 1) := by decide +kernel
theorem dj42_47_335 : decode cJ12 335 = .ok (.aload 5, 2) := by decide +kernel
theorem dj42_47_337 : decode cJ12 337 = .ok (.iload_n 2, 1) := by decide +kernel
theorem dj42_47_338 : decode cJ12 338 = .ok (.iinc 2 1, 3) := by decide +kernel
theorem dj42_47_341 : decode cJ12 341 = .ok (.sipush 128, 3) := by decide +kernel
theorem dj42_47_344 : decode cJ12 344 = .ok (.iload 6, 2) := by decide +kernel
theorem dj42_47_346 : decode cJ12 346 = .ok (.bipush 63, 2) := by decide +kernel
theorem dj42_47_348 : decode cJ12 348 = .ok (.iand, 1) := by decide +kernel
theorem dj42_47_349 : decode cJ12 349 = .ok (.ior, 1) := by decide +kernel
theorem dj42_47_350 : decode cJ12 350 = .ok (.i2b, 1) := by decide +kernel
theorem dj42_47_351 : decode cJ12 351 = .ok (.bastore, 1) := by decide +kernel
theorem dj42_47_362 : decode cJ12 362 = .ok (.aload 5, 2) := by decide +kernel
theorem dj42_47_364 : decode cJ12 364 = .ok (.areturn, 1) := by decide +kernel
def Q_enc16 (Z : State) (a1 : Nat) (ch : Int32) (ka : ClassId) (h0 : Heap) (v : Option Value) (h : Heap) (L : List Loc) : Prop := ∃ (x : Nat), ∃ (k : ClassId), v = some (.ref x) ∧ Fr Z.heap.size L ∧ Keep h0 h [] ∧ Arv Z h x k .byte (Int32.ofNat (own_utf [ch]).length) (own_low (own_utf [ch])) (.int (0 : Int32)) ∧ (h0.size ≤ x)
set_option maxRecDepth 65536 in
set_option maxHeartbeats 40000000 in
theorem rm_enc16 (l : Launch) (Z : State) (a0 : Array Value) (hw : ∀ d ∈ tables_1, d.before a0 Z = true) (ws : List Jvm.Cond) (a1 : Nat) (ch : Int32) (ka : ClassId) (h0 : Heap) (OL : Old Z Z.heap.size h0) (p0_ : Arv Z h0 a1 ka .byte (2 : Int32) [(.int (StrChars.lo8 ch)), (.int (StrChars.hi8 ch))] (.int (0 : Int32))) (st_A : Sta Z Z.heap "java/lang/StringUTF16" "$assertionsDisabled" "Z" (.int (1 : Int32))) (st_H : Sta Z Z.heap "java/lang/StringUTF16" "HI_BYTE_SHIFT" "I" (.int (0 : Int32))) (st_L : Sta Z Z.heap "java/lang/StringUTF16" "LO_BYTE_SHIFT" "I" (.int (8 : Int32))) (h1 : (255 : Int32) < ch) (h2 : ¬ (65535 : Int32) < ch) (h3 : own_nsur ch) :
    MetFree l mN24 (head1 (Jvm.Cond.code mN24 jdk_42_method_47_code 9 (some (.array .byte)) :: ws) rM15) (fun a U => a = #[(.ref a1), (.int (1 : Int32))] ∧ Z.Warmed39 U.vm ∧ U.heap = h0) (fun _ _ _ _ _ => True) (fun _ U o U' => ∃ v L, o = .returned v ∧ Q_enc16 Z a1 ch ka h0 v U'.heap L ∧ FrameEnd U o U' L rM15.cells rM15.slots) := by
  refine MetFree.of_bodySF (plainFor_of_name pn_240) hisR ?_
  intro p e s m args below meth c s₁ Bd hml0 hP hK
  obtain ⟨rfl, hZ, hh⟩ := hP
  have hx := Bd.exec
  have hby := Bd.bytes
  have hml : c.maxLocals = 9 := hml0
  have hown : s.vm.findClass "java/lang/String" = some m.cls := findClass_of_methodNamed Bd.named
  have hnm := (name_of_methodNamed Bd.named Bd.method).1
  have X0 : Stand p l e rM15 s m #[(.ref a1), (.int (1 : Int32))] below meth c s₁ [] 0 0 := Stand.of_body Bd
  have e0 : s₁.heap = h0 := by rw [← hh, Bd.state]; rfl
  have N0 := Fr.nil Z.heap.size
  have Z0 : Z.heap.size ≤ h0.size := OL.2.1
  have lt_0 : @LT.lt Nat _ a1 h0.size := p0_.lt
  show oG p.tables e below (fun o tE => ∃ v L, o = .returned v ∧ Q_enc16 Z a1 ch ka h0 v tE.heap L ∧ FrameEnd s o tE L rM15.cells rM15.slots) (s₁.setTop (entryFrame m #[(.ref a1), (.int (1 : Int32))] 9))
  refine own_hd (fun PP hPP => ?_)
  refine oG.st (fun t k => castTop (ef_431 m a1 (1 : Int32)) k) ?_
  refine oG.st (fun _ k => XS.iconst X0.here hx rfl (hb hby dj42_47_0) (XS.istoreN X0.here hx rfl (hb hby dj42_47_1) rfl (l' := #[.val (.ref a1), .val (.int (1 : Int32)), .val (.int (0 : Int32)), .unset, .unset, .unset, .unset, .unset, .unset]) rfl (XS.iconst X0.here hx rfl (hb hby dj42_47_2) (XS.istoreN X0.here hx rfl (hb hby dj42_47_3) rfl (l' := #[.val (.ref a1), .val (.int (1 : Int32)), .val (.int (0 : Int32)), .val (.int (0 : Int32)), .unset, .unset, .unset, .unset, .unset]) rfl (XS.aloadN X0.here hx rfl (hb hby dj42_47_4) rfl rfl k))))) ?_
  show oG _ _ _ _ (s₁.setTop (mkF m 5 #[.val (.ref a1), .val (.int (1 : Int32)), .val (.int (0 : Int32)), .val (.int (0 : Int32)), .unset, .unset, .unset, .unset, .unset] [(.ref a1)]))
  obtain ⟨c431, Ar431, q431, S431, Nn431, H431, G431⟩ := id p0_
  refine oG.st (X0.arraylength hx (own_rwE e0 Ar431.1) (State.isArrayOf_alike hZ.alike Ar431.2.1) (g := (mkF m 5 #[.val (.ref a1), .val (.int (1 : Int32)), .val (.int (0 : Int32)), .val (.int (0 : Int32)), .unset, .unset, .unset, .unset, .unset] [(.ref a1)])) rfl rfl (hb hby dj42_47_5)) ?_
  rw [len_of S431 Nn431]
  refine oG.st (fun _ k => XS.iconst X0.here hx rfl (hb hby dj42_47_6) (XS.ishr X0.here hx rfl (hb hby dj42_47_7) rfl k)) ?_
  show oG _ _ _ _ (s₁.setTop (mkF m 8 #[.val (.ref a1), .val (.int (1 : Int32)), .val (.int (0 : Int32)), .val (.int (0 : Int32)), .unset, .unset, .unset, .unset, .unset] [(.int ((2 : Int32) >>> ((1 : Int32) &&& 31)))]))
  rw [show ((2 : Int32) >>> ((1 : Int32) &&& 31)) = (1 : Int32) from by decide]
  refine oG.st (fun _ k => XS.istore X0.here hx rfl (hb hby dj42_47_8) rfl (l' := #[.val (.ref a1), .val (.int (1 : Int32)), .val (.int (0 : Int32)), .val (.int (0 : Int32)), .val (.int (1 : Int32)), .unset, .unset, .unset, .unset]) rfl (XS.iload X0.here hx rfl (hb hby dj42_47_10) rfl (XS.iconst X0.here hx rfl (hb hby dj42_47_12) (XS.imul X0.here hx rfl (hb hby dj42_47_13) rfl k)))) ?_
  show oG _ _ _ _ (s₁.setTop (mkF m 14 #[.val (.ref a1), .val (.int (1 : Int32)), .val (.int (0 : Int32)), .val (.int (0 : Int32)), .val (.int (1 : Int32)), .unset, .unset, .unset, .unset] [(.int ((1 : Int32) * (3 : Int32)))]))
  rw [show ((1 : Int32) * (3 : Int32)) = (3 : Int32) from by decide]
  show oG _ _ _ _ (s₁.setTop (mkF m 14 #[.val (.ref a1), .val (.int (1 : Int32)), .val (.int (0 : Int32)), .val (.int (0 : Int32)), .val (.int (1 : Int32)), .unset, .unset, .unset, .unset] [(.int (3 : Int32))]))
  obtain ⟨T432, h432, k432, X432, e432, E432, A432, st432⟩ := newP X0 hx hZ (own_w hw 16 rfl) e0 (g := (mkF m 14 #[.val (.ref a1), .val (.int (1 : Int32)), .val (.int (0 : Int32)), .val (.int (0 : Int32)), .val (.int (1 : Int32)), .unset, .unset, .unset, .unset] [(.int (3 : Int32))])) rfl (hb hby dj42_47_14) rfl (by decide) (cap := 3) (by decide) (by decide) (by decide) (by decide)
  obtain ⟨b432, g432⟩ : ∃ z, z = h0.size := ⟨_, rfl⟩
  rw [← g432] at A432 st432
  refine oG.st st432 ?_
  have z432 : h0.size ≤ h432.size := E432.1
  have f433 : Arv Z h432 b432 k432 .byte (3 : Int32) [(.int (0 : Int32)), (.int (0 : Int32)), (.int (0 : Int32))] (.int (0 : Int32)) := (Arv.new A432 (by decide)).pad (pad_rep [] (.int (0 : Int32)) 3)
  have lt_b432 : @LT.lt Nat _ b432 h432.size := f433.lt
  refine oG.st (fun _ k => XS.astore X432.here hx rfl (hb hby dj42_47_16) rfl rfl (l' := #[.val (.ref a1), .val (.int (1 : Int32)), .val (.int (0 : Int32)), .val (.int (0 : Int32)), .val (.int (1 : Int32)), .val (.ref b432), .unset, .unset, .unset]) rfl (XS.iloadN X432.here hx rfl (hb hby dj42_47_18) rfl (XS.iload X432.here hx rfl (hb hby dj42_47_19) rfl k))) ?_
  show oG _ _ _ _ (T432.setTop (mkF m 21 #[.val (.ref a1), .val (.int (1 : Int32)), .val (.int (0 : Int32)), .val (.int (0 : Int32)), .val (.int (1 : Int32)), .val (.ref b432), .unset, .unset, .unset] [(.int (1 : Int32)), (.int (0 : Int32))]))
  refine oG.st (fun _ k => XS.icmpNo X432.here hx rfl (hb hby dj42_47_21) rfl (tlt (by decide : (0 : Int32) < (1 : Int32))).2.1 k) ?_
  refine oG.st (fun _ k => XS.aloadN X432.here hx rfl (hb hby dj42_47_24) rfl rfl (XS.iloadN X432.here hx rfl (hb hby dj42_47_25) rfl k)) ?_
  show oG _ _ _ _ (T432.setTop (mkF m 26 #[.val (.ref a1), .val (.int (1 : Int32)), .val (.int (0 : Int32)), .val (.int (0 : Int32)), .val (.int (1 : Int32)), .val (.ref b432), .unset, .unset, .unset] [(.int (0 : Int32)), (.ref a1)]))
  have f435 : Arv Z h432 a1 ka .byte (2 : Int32) [(.int (StrChars.lo8 ch)), (.int (StrChars.hi8 ch))] (.int (0 : Int32)) := p0_.ext E432
  have f436 : Old Z Z.heap.size h432 := OL.ext E432
  obtain ⟨_, _, ⟨T434, L434, k434, n434⟩, -, X434, ⟨Lc434, hQ434, l434, y434, z434⟩, st434⟩ := Jvm.LawKit.callS X432 hx (y := mN37) hown (own_v hZ hw 236 rfl) (own_v hZ hw 237 rfl) (own_v hZ hw 51 rfl) (own_v hZ hw 238 rfl) (by decide) (backOf (W := 0) (rm_getc l Z a0 hw [] a1 (0 : Int32) 0 ka (2 : Int32) [(.int (StrChars.lo8 ch)), (.int (StrChars.hi8 ch))] (.int (0 : Int32)) ch h432 f436 f435 st_A st_H st_L rfl (Nat.le_of_ble_eq_true rfl) rfl (Nat.le_of_ble_eq_true rfl) rfl rfl ⟨own_ge0 (own_gt h1), h2⟩) hZ (own_w hw 238 rfl) (own_w hw 51 rfl) (by decide) (by decide)) (g := (mkF m 26 #[.val (.ref a1), .val (.int (1 : Int32)), .val (.int (0 : Int32)), .val (.int (0 : Int32)), .val (.int (1 : Int32)), .val (.ref b432), .unset, .unset, .unset] [(.int (0 : Int32)), (.ref a1)])) rfl (by rw [hml]; rfl) (argsL := [(.ref a1), (.int (0 : Int32))]) (rest := []) (lenOf pd_451 rfl) rfl (by show 2 * 0 + _ ≤ _; exact Nat.le_of_eq rfl) (hb hby dj42_47_26) (fun _ _ => ⟨rfl, e432, (by decide : 1 + 0 ≤ _), (by decide : 3 + 0 ≤ _)⟩)
  dsimp only [Pt.U, Pt.locs, Pt.cells, Pt.slots] at X434 l434 y434 z434 st434 hQ434
  subst l434 y434 z434
  obtain ⟨rfl, N434q, K434⟩ := hQ434
  have N434 := Fr.app N0 N434q
  refine oG.st st434 ?_
  refine oG.st (fun _ k => XS.istore X434.here hx rfl (hb hby dj42_47_29) rfl (l' := #[.val (.ref a1), .val (.int (1 : Int32)), .val (.int (0 : Int32)), .val (.int (0 : Int32)), .val (.int (1 : Int32)), .val (.ref b432), .val (.int ch), .unset, .unset]) rfl (XS.iload X434.here hx rfl (hb hby dj42_47_31) rfl (XS.sipush X434.here hx rfl (hb hby dj42_47_33) k))) ?_
  show oG _ _ _ _ (T434.setTop (mkF m 36 #[.val (.ref a1), .val (.int (1 : Int32)), .val (.int (0 : Int32)), .val (.int (0 : Int32)), .val (.int (1 : Int32)), .val (.ref b432), .val (.int ch), .unset, .unset] [(.int (128 : Int32)), (.int ch)]))
  have hc437 : ¬ (ch < (128 : Int32)) := own_gt h1
  refine oG.st (fun _ k => XS.icmpNo X434.here hx rfl (hb hby dj42_47_36) rfl (flt hc437).1 k) ?_
  refine oG.st (fun _ k => XS.goto X434.here hx rfl (pc0 := 39) (pc' := 58) rfl (hb hby dj42_47_39) (by decide) (by decide) (XS.iloadN X434.here hx rfl (hb hby dj42_47_58) rfl (XS.iload X434.here hx rfl (hb hby dj42_47_59) rfl k))) ?_
  show oG _ _ _ _ (T434.setTop (mkF m 61 #[.val (.ref a1), .val (.int (1 : Int32)), .val (.int (0 : Int32)), .val (.int (0 : Int32)), .val (.int (1 : Int32)), .val (.ref b432), .val (.int ch), .unset, .unset] [(.int (1 : Int32)), (.int (0 : Int32))]))
  refine oG.st (fun _ k => XS.icmpNo X434.here hx rfl (hb hby dj42_47_61) rfl (tlt (by decide : (0 : Int32) < (1 : Int32))).2.1 k) ?_
  refine oG.st (fun _ k => XS.aloadN X434.here hx rfl (hb hby dj42_47_64) rfl rfl (XS.iloadN X434.here hx rfl (hb hby dj42_47_65) rfl (XS.iinc X434.here hx rfl (hb hby dj42_47_66) rfl (l' := #[.val (.ref a1), .val (.int (1 : Int32)), .val (.int (0 : Int32)), .val (.int (1 : Int32)), .val (.int (1 : Int32)), .val (.ref b432), .val (.int ch), .unset, .unset]) rfl k))) ?_
  show oG _ _ _ _ (T434.setTop (mkF m 69 #[.val (.ref a1), .val (.int (1 : Int32)), .val (.int (0 : Int32)), .val (.int (1 : Int32)), .val (.int (1 : Int32)), .val (.ref b432), .val (.int ch), .unset, .unset] [(.int (0 : Int32)), (.ref a1)]))
  obtain ⟨_, _, ⟨T438, L438, k438, n438⟩, -, X438, ⟨Lc438, hQ438, l438, y438, z438⟩, st438⟩ := Jvm.LawKit.callS X434 hx (y := mN37) hown (own_v hZ hw 236 rfl) (own_v hZ hw 237 rfl) (own_v hZ hw 51 rfl) (own_v hZ hw 238 rfl) (by decide) (backOf (W := 0) (rm_getc l Z a0 hw [] a1 (0 : Int32) 0 ka (2 : Int32) [(.int (StrChars.lo8 ch)), (.int (StrChars.hi8 ch))] (.int (0 : Int32)) ch h432 f436 f435 st_A st_H st_L rfl (Nat.le_of_ble_eq_true rfl) rfl (Nat.le_of_ble_eq_true rfl) rfl rfl ⟨own_ge0 (own_gt h1), h2⟩) hZ (own_w hw 238 rfl) (own_w hw 51 rfl) (by decide) (by decide)) (g := (mkF m 69 #[.val (.ref a1), .val (.int (1 : Int32)), .val (.int (0 : Int32)), .val (.int (1 : Int32)), .val (.int (1 : Int32)), .val (.ref b432), .val (.int ch), .unset, .unset] [(.int (0 : Int32)), (.ref a1)])) rfl (by rw [hml]; rfl) (argsL := [(.ref a1), (.int (0 : Int32))]) (rest := []) (lenOf pd_451 rfl) rfl (by show 2 * 0 + _ ≤ _; exact Nat.le_of_eq rfl) (hb hby dj42_47_69) (fun _ _ => ⟨rfl, K434, (by decide : 1 + 0 ≤ _), (by decide : 3 + 0 ≤ _)⟩)
  dsimp only [Pt.U, Pt.locs, Pt.cells, Pt.slots] at X438 l438 y438 z438 st438 hQ438
  subst l438 y438 z438
  obtain ⟨rfl, N438q, K438⟩ := hQ438
  have N438 := Fr.app N434 N438q
  refine oG.st st438 ?_
  refine oG.st (fun _ k => XS.istore X438.here hx rfl (hb hby dj42_47_72) rfl (l' := #[.val (.ref a1), .val (.int (1 : Int32)), .val (.int (0 : Int32)), .val (.int (1 : Int32)), .val (.int (1 : Int32)), .val (.ref b432), .val (.int ch), .unset, .unset]) rfl (XS.iload X438.here hx rfl (hb hby dj42_47_74) rfl (XS.sipush X438.here hx rfl (hb hby dj42_47_76) k))) ?_
  show oG _ _ _ _ (T438.setTop (mkF m 79 #[.val (.ref a1), .val (.int (1 : Int32)), .val (.int (0 : Int32)), .val (.int (1 : Int32)), .val (.int (1 : Int32)), .val (.ref b432), .val (.int ch), .unset, .unset] [(.int (128 : Int32)), (.int ch)]))
  have hc439 : ¬ (ch < (128 : Int32)) := own_gt h1
  refine oG.st (fun _ k => XS.icmpYes X438.here hx rfl (pc0 := 79) (pc' := 95) rfl (hb hby dj42_47_79) rfl (flt hc439).2.1 (by decide) (by decide) k) ?_
  refine oG.st (fun _ k => XS.iload X438.here hx rfl (hb hby dj42_47_95) rfl (XS.sipush X438.here hx rfl (hb hby dj42_47_97) k)) ?_
  show oG _ _ _ _ (T438.setTop (mkF m 100 #[.val (.ref a1), .val (.int (1 : Int32)), .val (.int (0 : Int32)), .val (.int (1 : Int32)), .val (.int (1 : Int32)), .val (.ref b432), .val (.int ch), .unset, .unset] [(.int (2048 : Int32)), (.int ch)]))
  by_cases h100 : ch < (2048 : Int32)
  ·
    refine oG.st (fun _ k => XS.icmpNo X438.here hx rfl (hb hby dj42_47_100) rfl (tlt h100).2.1 k) ?_
    refine oG.st (fun _ k => XS.aload X438.here hx rfl (hb hby dj42_47_103) rfl rfl (XS.iloadN X438.here hx rfl (hb hby dj42_47_105) rfl (XS.iinc X438.here hx rfl (hb hby dj42_47_106) rfl (l' := #[.val (.ref a1), .val (.int (1 : Int32)), .val (.int (1 : Int32)), .val (.int (1 : Int32)), .val (.int (1 : Int32)), .val (.ref b432), .val (.int ch), .unset, .unset]) rfl (XS.sipush X438.here hx rfl (hb hby dj42_47_109) (XS.iload X438.here hx rfl (hb hby dj42_47_112) rfl (XS.bipush X438.here hx rfl (hb hby dj42_47_114) (XS.ishr X438.here hx rfl (hb hby dj42_47_116) rfl k))))))) ?_
    show oG _ _ _ _ (T438.setTop (mkF m 117 #[.val (.ref a1), .val (.int (1 : Int32)), .val (.int (1 : Int32)), .val (.int (1 : Int32)), .val (.int (1 : Int32)), .val (.ref b432), .val (.int ch), .unset, .unset] [(.int (ch >>> ((6 : Int32) &&& 31))), (.int (192 : Int32)), (.int (0 : Int32)), (.ref b432)]))
    refine oG.st (fun _ k => XS.ior X438.here hx rfl (hb hby dj42_47_117) rfl (XS.i2b X438.here hx rfl (hb hby dj42_47_118) rfl k)) ?_
    show oG _ _ _ _ (T438.setTop (mkF m 119 #[.val (.ref a1), .val (.int (1 : Int32)), .val (.int (1 : Int32)), .val (.int (1 : Int32)), .val (.int (1 : Int32)), .val (.ref b432), .val (.int ch), .unset, .unset] [(.int (((192 : Int32) ||| (ch >>> ((6 : Int32) &&& 31))).toInt8.toInt32)), (.int (0 : Int32)), (.ref b432)]))
    obtain ⟨c440, Ar440, q440, S440, Nn440, H440, G440⟩ := id f433
    have hin440 : ¬ ((0 : Int32) < 0 ∨ c440.slots.size ≤ ((0 : Int32)).toNatClampNeg) := inb_of S440 ⟨by decide, by decide⟩
    obtain ⟨T440, h440, X440, e440, W440, st440⟩ := stB X438 hx hZ K438 Ar440 (j := (0 : Int32)) hin440 (g := (mkF m 119 #[.val (.ref a1), .val (.int (1 : Int32)), .val (.int (1 : Int32)), .val (.int (1 : Int32)), .val (.int (1 : Int32)), .val (.ref b432), .val (.int ch), .unset, .unset] [(.int (((192 : Int32) ||| (ch >>> ((6 : Int32) &&& 31))).toInt8.toInt32)), (.int (0 : Int32)), (.ref b432)])) rfl rfl (hb hby dj42_47_119)
    refine oG.st st440 ?_
    have N440 := Fr.snoc X440 N438 (by omega)
    have z440 : h432.size ≤ h440.size := Nat.le_of_eq W440.size.symm
    have f441 := Arv.set Ar440 q440 S440 Nn440 H440 G440 (fits_nar_byte _) W440 0 rfl (Nat.le_of_ble_eq_true rfl)
    have f442 : Arv Z h440 b432 k432 .byte (3 : Int32) [(.int (nar .byte (((192 : Int32) ||| (ch >>> ((6 : Int32) &&& 31))).toInt8.toInt32))), (.int (0 : Int32)), (.int (0 : Int32))] (.int (0 : Int32)) := f441
    refine oG.st (fun _ k => XS.aload X440.here hx rfl (hb hby dj42_47_120) rfl rfl (XS.iloadN X440.here hx rfl (hb hby dj42_47_122) rfl (XS.iinc X440.here hx rfl (hb hby dj42_47_123) rfl (l' := #[.val (.ref a1), .val (.int (1 : Int32)), .val (.int (2 : Int32)), .val (.int (1 : Int32)), .val (.int (1 : Int32)), .val (.ref b432), .val (.int ch), .unset, .unset]) rfl (XS.sipush X440.here hx rfl (hb hby dj42_47_126) (XS.iload X440.here hx rfl (hb hby dj42_47_129) rfl (XS.bipush X440.here hx rfl (hb hby dj42_47_131) (XS.iand X440.here hx rfl (hb hby dj42_47_133) rfl k))))))) ?_
    show oG _ _ _ _ (T440.setTop (mkF m 134 #[.val (.ref a1), .val (.int (1 : Int32)), .val (.int (2 : Int32)), .val (.int (1 : Int32)), .val (.int (1 : Int32)), .val (.ref b432), .val (.int ch), .unset, .unset] [(.int (ch &&& (63 : Int32))), (.int (128 : Int32)), (.int (1 : Int32)), (.ref b432)]))
    refine oG.st (fun _ k => XS.ior X440.here hx rfl (hb hby dj42_47_134) rfl (XS.i2b X440.here hx rfl (hb hby dj42_47_135) rfl k)) ?_
    show oG _ _ _ _ (T440.setTop (mkF m 136 #[.val (.ref a1), .val (.int (1 : Int32)), .val (.int (2 : Int32)), .val (.int (1 : Int32)), .val (.int (1 : Int32)), .val (.ref b432), .val (.int ch), .unset, .unset] [(.int (((128 : Int32) ||| (ch &&& (63 : Int32))).toInt8.toInt32)), (.int (1 : Int32)), (.ref b432)]))
    obtain ⟨c443, Ar443, q443, S443, Nn443, H443, G443⟩ := id f442
    have hin443 : ¬ ((1 : Int32) < 0 ∨ c443.slots.size ≤ ((1 : Int32)).toNatClampNeg) := inb_of S443 ⟨by decide, by decide⟩
    obtain ⟨T443, h443, X443, e443, W443, st443⟩ := stB X440 hx hZ e440 Ar443 (j := (1 : Int32)) hin443 (g := (mkF m 136 #[.val (.ref a1), .val (.int (1 : Int32)), .val (.int (2 : Int32)), .val (.int (1 : Int32)), .val (.int (1 : Int32)), .val (.ref b432), .val (.int ch), .unset, .unset] [(.int (((128 : Int32) ||| (ch &&& (63 : Int32))).toInt8.toInt32)), (.int (1 : Int32)), (.ref b432)])) rfl rfl (hb hby dj42_47_136)
    refine oG.st st443 ?_
    have N443 := Fr.snoc X443 N440 (by omega)
    have z443 : h440.size ≤ h443.size := Nat.le_of_eq W443.size.symm
    have f444 := Arv.set Ar443 q443 S443 Nn443 H443 G443 (fits_nar_byte _) W443 1 rfl (Nat.le_of_ble_eq_true rfl)
    have f445 : Arv Z h443 b432 k432 .byte (3 : Int32) [(.int (nar .byte (((192 : Int32) ||| (ch >>> ((6 : Int32) &&& 31))).toInt8.toInt32))), (.int (nar .byte (((128 : Int32) ||| (ch &&& (63 : Int32))).toInt8.toInt32))), (.int (0 : Int32))] (.int (0 : Int32)) := f444
    refine oG.st (fun _ k => XS.goto X443.here hx rfl (pc0 := 137) (pc' := 352) rfl (hb hby dj42_47_137) (by decide) (by decide) (XS.goto X443.here hx rfl (pc0 := 352) (pc' := 58) rfl (hb hby dj42_47_352) (by decide) (by decide) (XS.iloadN X443.here hx rfl (hb hby dj42_47_58) rfl (XS.iload X443.here hx rfl (hb hby dj42_47_59) rfl k)))) ?_
    show oG _ _ _ _ (T443.setTop (mkF m 61 #[.val (.ref a1), .val (.int (1 : Int32)), .val (.int (2 : Int32)), .val (.int (1 : Int32)), .val (.int (1 : Int32)), .val (.ref b432), .val (.int ch), .unset, .unset] [(.int (1 : Int32)), (.int (1 : Int32))]))
    refine oG.st (fun _ k => XS.icmpYes X443.here hx rfl (pc0 := 61) (pc' := 355) rfl (hb hby dj42_47_61) rfl (flt (by decide : ¬ ((1 : Int32) < (1 : Int32)))).2.1 (by decide) (by decide) k) ?_
    refine oG.st (fun _ k => XS.iloadN X443.here hx rfl (hb hby dj42_47_355) rfl (XS.aload X443.here hx rfl (hb hby dj42_47_356) rfl rfl k)) ?_
    show oG _ _ _ _ (T443.setTop (mkF m 358 #[.val (.ref a1), .val (.int (1 : Int32)), .val (.int (2 : Int32)), .val (.int (1 : Int32)), .val (.int (1 : Int32)), .val (.ref b432), .val (.int ch), .unset, .unset] [(.ref b432), (.int (2 : Int32))]))
    obtain ⟨c446, Ar446, q446, S446, Nn446, H446, G446⟩ := id f445
    refine oG.st (X443.arraylength hx (own_rwE e443 Ar446.1) (State.isArrayOf_alike hZ.alike Ar446.2.1) (g := (mkF m 358 #[.val (.ref a1), .val (.int (1 : Int32)), .val (.int (2 : Int32)), .val (.int (1 : Int32)), .val (.int (1 : Int32)), .val (.ref b432), .val (.int ch), .unset, .unset] [(.ref b432), (.int (2 : Int32))])) rfl rfl (hb hby dj42_47_358)) ?_
    rw [len_of S446 Nn446]
    show oG _ _ _ _ (T443.setTop (mkF m 359 #[.val (.ref a1), .val (.int (1 : Int32)), .val (.int (2 : Int32)), .val (.int (1 : Int32)), .val (.int (1 : Int32)), .val (.ref b432), .val (.int ch), .unset, .unset] [(.int (3 : Int32)), (.int (2 : Int32))]))
    refine oG.st (fun _ k => XS.icmpYes X443.here hx rfl (pc0 := 359) (pc' := 365) rfl (hb hby dj42_47_359) rfl (feq (by decide : ¬ ((2 : Int32) = (3 : Int32)))).2 (by decide) (by decide) k) ?_
    refine oG.st (fun _ k => XS.aload X443.here hx rfl (hb hby dj42_47_365) rfl rfl (XS.iloadN X443.here hx rfl (hb hby dj42_47_367) rfl k)) ?_
    show oG _ _ _ _ (T443.setTop (mkF m 368 #[.val (.ref a1), .val (.int (1 : Int32)), .val (.int (2 : Int32)), .val (.int (1 : Int32)), .val (.int (1 : Int32)), .val (.ref b432), .val (.int ch), .unset, .unset] [(.int (2 : Int32)), (.ref b432)]))
    have f448 : Old Z Z.heap.size h440 := f436.wr W440 (by omega)
    have f449 : Old Z Z.heap.size h443 := f448.wr W443 (by omega)
    obtain ⟨_, _, ⟨T447, L447, k447, n447⟩, -, X447, ⟨Lc447, hQ447, l447, y447, z447⟩, st447⟩ := Jvm.LawKit.callS X443 hx (y := mN43) hown (own_v hZ hw 253 rfl) (own_v hZ hw 161 rfl) (own_v hZ hw 162 rfl) (own_v hZ hw 163 rfl) (by decide) (backOf (W := 0) (rm_copyOf2 l Z a0 hw [] b432 (.int (nar .byte (((192 : Int32) ||| (ch >>> ((6 : Int32) &&& 31))).toInt8.toInt32))) (.int (nar .byte (((128 : Int32) ||| (ch &&& (63 : Int32))).toInt8.toInt32))) (.int (0 : Int32)) k432 h443 f449 f445) hZ (own_w hw 163 rfl) (own_w hw 162 rfl) (by decide) (by decide)) (g := (mkF m 368 #[.val (.ref a1), .val (.int (1 : Int32)), .val (.int (2 : Int32)), .val (.int (1 : Int32)), .val (.int (1 : Int32)), .val (.ref b432), .val (.int ch), .unset, .unset] [(.int (2 : Int32)), (.ref b432)])) rfl (by rw [hml]; rfl) (argsL := [(.ref b432), (.int (2 : Int32))]) (rest := []) (lenOf pd_173 rfl) rfl (by show 2 * 0 + _ ≤ _; exact Nat.le_of_eq rfl) (hb hby dj42_47_368) (fun _ _ => ⟨rfl, e443, (by decide : 1 + 1 ≤ _), (by decide : 3 + 2 ≤ _)⟩)
    dsimp only [Pt.U, Pt.locs, Pt.cells, Pt.slots] at X447 l447 y447 z447 st447 hQ447
    subst l447 y447 z447
    obtain ⟨x_447, k_447, rfl, N447q, K447, f447_0, pr447_0⟩ := hQ447
    have N447 := Fr.app N443 N447q
    have z447 : h443.size ≤ T447.heap.size := K447.1
    have lt447_0 : @LT.lt Nat _ x_447 T447.heap.size := f447_0.lt
    refine oG.st st447 ?_
    show oG _ _ _ _ (T447.setTop (mkF m 371 #[.val (.ref a1), .val (.int (1 : Int32)), .val (.int (2 : Int32)), .val (.int (1 : Int32)), .val (.int (1 : Int32)), .val (.ref b432), .val (.int ch), .unset, .unset] [(.ref x_447)]))
    obtain ⟨fs450, hr450, hrun450, hend450, hW450, hsm450⟩ := X447.leave (v := some (.ref x_447)) (fun h => by rw [Bd.returns] at h; cases h)
    have f451 : Arv Z T447.heap x_447 k_447 .byte (Int32.ofNat (own_utf [ch]).length) (own_low (own_utf [ch])) (.int (0 : Int32)) := by
      have q := f447_0
      rw [own_narB, own_narB] at q
      rw [own_utfB (own_gt h1) h100]
      exact q
    have K452 : Keep h0 h432 [] := (Keep.refl h0 []).ext E432
    have K453 : Keep h0 h440 [] := K452.wr W440 (Or.inr (by omega))
    have K454 : Keep h0 h443 [] := K453.wr W443 (Or.inr (by omega))
    have K455 : Keep h0 T447.heap [] := K454.trans K447 all0
    subst hPP
    refine ⟨_, _, own_retA X447 hx Bd.returns rfl rfl (hb hby dj42_47_371) hr450, hrun450, hend450, _, _, rfl, ?_, ⟨_, rfl⟩, hW450, hsm450.mono (by decide) (by decide)⟩
    · show Q_enc16 Z _ _ _ h0 _ T447.heap _
      exact ⟨x_447, k_447, rfl, N447, K455, f451, (by omega)⟩
  ·
    refine oG.st (fun _ k => XS.icmpYes X438.here hx rfl (pc0 := 100) (pc' := 140) rfl (hb hby dj42_47_100) rfl (flt h100).2.1 (by decide) (by decide) k) ?_
    refine oG.st (fun _ k => XS.iload X438.here hx rfl (hb hby dj42_47_140) rfl k) ?_
    show oG _ _ _ _ (T438.setTop (mkF m 142 #[.val (.ref a1), .val (.int (1 : Int32)), .val (.int (0 : Int32)), .val (.int (1 : Int32)), .val (.int (1 : Int32)), .val (.ref b432), .val (.int ch), .unset, .unset] [(.int ch)]))
    obtain ⟨_, _, ⟨T456, L456, k456, n456⟩, -, X456, ⟨Lc456, hQ456, l456, y456, z456⟩, st456⟩ := Jvm.LawKit.callS X438 hx (y := mN13) hown (own_v hZ hw 239 rfl) (own_v hZ hw 240 rfl) (own_v hZ hw 241 rfl) (own_v hZ hw 242 rfl) (by decide) (backOf (W := 0) (rm_isSur l Z a0 hw [] ch h432 f436 h3) hZ (own_w hw 242 rfl) (own_w hw 241 rfl) (by decide) (by decide)) (g := (mkF m 142 #[.val (.ref a1), .val (.int (1 : Int32)), .val (.int (0 : Int32)), .val (.int (1 : Int32)), .val (.int (1 : Int32)), .val (.ref b432), .val (.int ch), .unset, .unset] [(.int ch)])) rfl (by rw [hml]; rfl) (argsL := [(.int ch)]) (rest := []) (lenOf pd_205 rfl) rfl (by show 2 * 0 + _ ≤ _; exact Nat.le_of_eq rfl) (hb hby dj42_47_142) (fun _ _ => ⟨rfl, K438, (by decide : 1 + 0 ≤ _), (by decide : 3 + 0 ≤ _)⟩)
    dsimp only [Pt.U, Pt.locs, Pt.cells, Pt.slots] at X456 l456 y456 z456 st456 hQ456
    subst l456 y456 z456
    obtain ⟨rfl, N456q, K456⟩ := hQ456
    have N456 := Fr.app N438 N456q
    refine oG.st st456 ?_
    show oG _ _ _ _ (T456.setTop (mkF m 145 #[.val (.ref a1), .val (.int (1 : Int32)), .val (.int (0 : Int32)), .val (.int (1 : Int32)), .val (.int (1 : Int32)), .val (.ref b432), .val (.int ch), .unset, .unset] [(.int (0 : Int32))]))
    refine oG.st (fun _ k => XS.ifYes X456.here hx rfl (pc0 := 145) (pc' := 298) rfl (hb hby dj42_47_145) rfl ((if0 _ _).trans (teq (rfl : (0 : Int32) = (0 : Int32))).1) (by decide) (by decide) k) ?_
    refine oG.st (fun _ k => XS.aload X456.here hx rfl (hb hby dj42_47_298) rfl rfl (XS.iloadN X456.here hx rfl (hb hby dj42_47_300) rfl (XS.iinc X456.here hx rfl (hb hby dj42_47_301) rfl (l' := #[.val (.ref a1), .val (.int (1 : Int32)), .val (.int (1 : Int32)), .val (.int (1 : Int32)), .val (.int (1 : Int32)), .val (.ref b432), .val (.int ch), .unset, .unset]) rfl (XS.sipush X456.here hx rfl (hb hby dj42_47_304) (XS.iload X456.here hx rfl (hb hby dj42_47_307) rfl (XS.bipush X456.here hx rfl (hb hby dj42_47_309) (XS.ishr X456.here hx rfl (hb hby dj42_47_311) rfl k))))))) ?_
    show oG _ _ _ _ (T456.setTop (mkF m 312 #[.val (.ref a1), .val (.int (1 : Int32)), .val (.int (1 : Int32)), .val (.int (1 : Int32)), .val (.int (1 : Int32)), .val (.ref b432), .val (.int ch), .unset, .unset] [(.int (ch >>> ((12 : Int32) &&& 31))), (.int (224 : Int32)), (.int (0 : Int32)), (.ref b432)]))
    refine oG.st (fun _ k => XS.ior X456.here hx rfl (hb hby dj42_47_312) rfl (XS.i2b X456.here hx rfl (hb hby dj42_47_313) rfl k)) ?_
    show oG _ _ _ _ (T456.setTop (mkF m 314 #[.val (.ref a1), .val (.int (1 : Int32)), .val (.int (1 : Int32)), .val (.int (1 : Int32)), .val (.int (1 : Int32)), .val (.ref b432), .val (.int ch), .unset, .unset] [(.int (((224 : Int32) ||| (ch >>> ((12 : Int32) &&& 31))).toInt8.toInt32)), (.int (0 : Int32)), (.ref b432)]))
    obtain ⟨c457, Ar457, q457, S457, Nn457, H457, G457⟩ := id f433
    have hin457 : ¬ ((0 : Int32) < 0 ∨ c457.slots.size ≤ ((0 : Int32)).toNatClampNeg) := inb_of S457 ⟨by decide, by decide⟩
    obtain ⟨T457, h457, X457, e457, W457, st457⟩ := stB X456 hx hZ K456 Ar457 (j := (0 : Int32)) hin457 (g := (mkF m 314 #[.val (.ref a1), .val (.int (1 : Int32)), .val (.int (1 : Int32)), .val (.int (1 : Int32)), .val (.int (1 : Int32)), .val (.ref b432), .val (.int ch), .unset, .unset] [(.int (((224 : Int32) ||| (ch >>> ((12 : Int32) &&& 31))).toInt8.toInt32)), (.int (0 : Int32)), (.ref b432)])) rfl rfl (hb hby dj42_47_314)
    refine oG.st st457 ?_
    have N457 := Fr.snoc X457 N456 (by omega)
    have z457 : h432.size ≤ h457.size := Nat.le_of_eq W457.size.symm
    have f458 := Arv.set Ar457 q457 S457 Nn457 H457 G457 (fits_nar_byte _) W457 0 rfl (Nat.le_of_ble_eq_true rfl)
    have f459 : Arv Z h457 b432 k432 .byte (3 : Int32) [(.int (nar .byte (((224 : Int32) ||| (ch >>> ((12 : Int32) &&& 31))).toInt8.toInt32))), (.int (0 : Int32)), (.int (0 : Int32))] (.int (0 : Int32)) := f458
    refine oG.st (fun _ k => XS.aload X457.here hx rfl (hb hby dj42_47_315) rfl rfl (XS.iloadN X457.here hx rfl (hb hby dj42_47_317) rfl (XS.iinc X457.here hx rfl (hb hby dj42_47_318) rfl (l' := #[.val (.ref a1), .val (.int (1 : Int32)), .val (.int (2 : Int32)), .val (.int (1 : Int32)), .val (.int (1 : Int32)), .val (.ref b432), .val (.int ch), .unset, .unset]) rfl (XS.sipush X457.here hx rfl (hb hby dj42_47_321) (XS.iload X457.here hx rfl (hb hby dj42_47_324) rfl (XS.bipush X457.here hx rfl (hb hby dj42_47_326) (XS.ishr X457.here hx rfl (hb hby dj42_47_328) rfl k))))))) ?_
    show oG _ _ _ _ (T457.setTop (mkF m 329 #[.val (.ref a1), .val (.int (1 : Int32)), .val (.int (2 : Int32)), .val (.int (1 : Int32)), .val (.int (1 : Int32)), .val (.ref b432), .val (.int ch), .unset, .unset] [(.int (ch >>> ((6 : Int32) &&& 31))), (.int (128 : Int32)), (.int (1 : Int32)), (.ref b432)]))
    refine oG.st (fun _ k => XS.bipush X457.here hx rfl (hb hby dj42_47_329) (XS.iand X457.here hx rfl (hb hby dj42_47_331) rfl (XS.ior X457.here hx rfl (hb hby dj42_47_332) rfl (XS.i2b X457.here hx rfl (hb hby dj42_47_333) rfl k)))) ?_
    show oG _ _ _ _ (T457.setTop (mkF m 334 #[.val (.ref a1), .val (.int (1 : Int32)), .val (.int (2 : Int32)), .val (.int (1 : Int32)), .val (.int (1 : Int32)), .val (.ref b432), .val (.int ch), .unset, .unset] [(.int (((128 : Int32) ||| ((ch >>> ((6 : Int32) &&& 31)) &&& (63 : Int32))).toInt8.toInt32)), (.int (1 : Int32)), (.ref b432)]))
    obtain ⟨c460, Ar460, q460, S460, Nn460, H460, G460⟩ := id f459
    have hin460 : ¬ ((1 : Int32) < 0 ∨ c460.slots.size ≤ ((1 : Int32)).toNatClampNeg) := inb_of S460 ⟨by decide, by decide⟩
    obtain ⟨T460, h460, X460, e460, W460, st460⟩ := stB X457 hx hZ e457 Ar460 (j := (1 : Int32)) hin460 (g := (mkF m 334 #[.val (.ref a1), .val (.int (1 : Int32)), .val (.int (2 : Int32)), .val (.int (1 : Int32)), .val (.int (1 : Int32)), .val (.ref b432), .val (.int ch), .unset, .unset] [(.int (((128 : Int32) ||| ((ch >>> ((6 : Int32) &&& 31)) &&& (63 : Int32))).toInt8.toInt32)), (.int (1 : Int32)), (.ref b432)])) rfl rfl (hb hby dj42_47_334)
    refine oG.st st460 ?_
    have N460 := Fr.snoc X460 N457 (by omega)
    have z460 : h457.size ≤ h460.size := Nat.le_of_eq W460.size.symm
    have f461 := Arv.set Ar460 q460 S460 Nn460 H460 G460 (fits_nar_byte _) W460 1 rfl (Nat.le_of_ble_eq_true rfl)
    have f462 : Arv Z h460 b432 k432 .byte (3 : Int32) [(.int (nar .byte (((224 : Int32) ||| (ch >>> ((12 : Int32) &&& 31))).toInt8.toInt32))), (.int (nar .byte (((128 : Int32) ||| ((ch >>> ((6 : Int32) &&& 31)) &&& (63 : Int32))).toInt8.toInt32))), (.int (0 : Int32))] (.int (0 : Int32)) := f461
    refine oG.st (fun _ k => XS.aload X460.here hx rfl (hb hby dj42_47_335) rfl rfl (XS.iloadN X460.here hx rfl (hb hby dj42_47_337) rfl (XS.iinc X460.here hx rfl (hb hby dj42_47_338) rfl (l' := #[.val (.ref a1), .val (.int (1 : Int32)), .val (.int (3 : Int32)), .val (.int (1 : Int32)), .val (.int (1 : Int32)), .val (.ref b432), .val (.int ch), .unset, .unset]) rfl (XS.sipush X460.here hx rfl (hb hby dj42_47_341) (XS.iload X460.here hx rfl (hb hby dj42_47_344) rfl (XS.bipush X460.here hx rfl (hb hby dj42_47_346) (XS.iand X460.here hx rfl (hb hby dj42_47_348) rfl k))))))) ?_
    show oG _ _ _ _ (T460.setTop (mkF m 349 #[.val (.ref a1), .val (.int (1 : Int32)), .val (.int (3 : Int32)), .val (.int (1 : Int32)), .val (.int (1 : Int32)), .val (.ref b432), .val (.int ch), .unset, .unset] [(.int (ch &&& (63 : Int32))), (.int (128 : Int32)), (.int (2 : Int32)), (.ref b432)]))
    refine oG.st (fun _ k => XS.ior X460.here hx rfl (hb hby dj42_47_349) rfl (XS.i2b X460.here hx rfl (hb hby dj42_47_350) rfl k)) ?_
    show oG _ _ _ _ (T460.setTop (mkF m 351 #[.val (.ref a1), .val (.int (1 : Int32)), .val (.int (3 : Int32)), .val (.int (1 : Int32)), .val (.int (1 : Int32)), .val (.ref b432), .val (.int ch), .unset, .unset] [(.int (((128 : Int32) ||| (ch &&& (63 : Int32))).toInt8.toInt32)), (.int (2 : Int32)), (.ref b432)]))
    obtain ⟨c463, Ar463, q463, S463, Nn463, H463, G463⟩ := id f462
    have hin463 : ¬ ((2 : Int32) < 0 ∨ c463.slots.size ≤ ((2 : Int32)).toNatClampNeg) := inb_of S463 ⟨by decide, by decide⟩
    obtain ⟨T463, h463, X463, e463, W463, st463⟩ := stB X460 hx hZ e460 Ar463 (j := (2 : Int32)) hin463 (g := (mkF m 351 #[.val (.ref a1), .val (.int (1 : Int32)), .val (.int (3 : Int32)), .val (.int (1 : Int32)), .val (.int (1 : Int32)), .val (.ref b432), .val (.int ch), .unset, .unset] [(.int (((128 : Int32) ||| (ch &&& (63 : Int32))).toInt8.toInt32)), (.int (2 : Int32)), (.ref b432)])) rfl rfl (hb hby dj42_47_351)
    refine oG.st st463 ?_
    have N463 := Fr.snoc X463 N460 (by omega)
    have z463 : h460.size ≤ h463.size := Nat.le_of_eq W463.size.symm
    have f464 := Arv.set Ar463 q463 S463 Nn463 H463 G463 (fits_nar_byte _) W463 2 rfl (Nat.le_of_ble_eq_true rfl)
    have f465 : Arv Z h463 b432 k432 .byte (3 : Int32) [(.int (nar .byte (((224 : Int32) ||| (ch >>> ((12 : Int32) &&& 31))).toInt8.toInt32))), (.int (nar .byte (((128 : Int32) ||| ((ch >>> ((6 : Int32) &&& 31)) &&& (63 : Int32))).toInt8.toInt32))), (.int (nar .byte (((128 : Int32) ||| (ch &&& (63 : Int32))).toInt8.toInt32)))] (.int (0 : Int32)) := f464
    refine oG.st (fun _ k => XS.goto X463.here hx rfl (pc0 := 352) (pc' := 58) rfl (hb hby dj42_47_352) (by decide) (by decide) (XS.iloadN X463.here hx rfl (hb hby dj42_47_58) rfl (XS.iload X463.here hx rfl (hb hby dj42_47_59) rfl k))) ?_
    show oG _ _ _ _ (T463.setTop (mkF m 61 #[.val (.ref a1), .val (.int (1 : Int32)), .val (.int (3 : Int32)), .val (.int (1 : Int32)), .val (.int (1 : Int32)), .val (.ref b432), .val (.int ch), .unset, .unset] [(.int (1 : Int32)), (.int (1 : Int32))]))
    refine oG.st (fun _ k => XS.icmpYes X463.here hx rfl (pc0 := 61) (pc' := 355) rfl (hb hby dj42_47_61) rfl (flt (by decide : ¬ ((1 : Int32) < (1 : Int32)))).2.1 (by decide) (by decide) k) ?_
    refine oG.st (fun _ k => XS.iloadN X463.here hx rfl (hb hby dj42_47_355) rfl (XS.aload X463.here hx rfl (hb hby dj42_47_356) rfl rfl k)) ?_
    show oG _ _ _ _ (T463.setTop (mkF m 358 #[.val (.ref a1), .val (.int (1 : Int32)), .val (.int (3 : Int32)), .val (.int (1 : Int32)), .val (.int (1 : Int32)), .val (.ref b432), .val (.int ch), .unset, .unset] [(.ref b432), (.int (3 : Int32))]))
    obtain ⟨c466, Ar466, q466, S466, Nn466, H466, G466⟩ := id f465
    refine oG.st (X463.arraylength hx (own_rwE e463 Ar466.1) (State.isArrayOf_alike hZ.alike Ar466.2.1) (g := (mkF m 358 #[.val (.ref a1), .val (.int (1 : Int32)), .val (.int (3 : Int32)), .val (.int (1 : Int32)), .val (.int (1 : Int32)), .val (.ref b432), .val (.int ch), .unset, .unset] [(.ref b432), (.int (3 : Int32))])) rfl rfl (hb hby dj42_47_358)) ?_
    rw [len_of S466 Nn466]
    show oG _ _ _ _ (T463.setTop (mkF m 359 #[.val (.ref a1), .val (.int (1 : Int32)), .val (.int (3 : Int32)), .val (.int (1 : Int32)), .val (.int (1 : Int32)), .val (.ref b432), .val (.int ch), .unset, .unset] [(.int (3 : Int32)), (.int (3 : Int32))]))
    refine oG.st (fun _ k => XS.icmpNo X463.here hx rfl (hb hby dj42_47_359) rfl (teq (rfl : (3 : Int32) = (3 : Int32))).2 k) ?_
    refine oG.st (fun _ k => XS.aload X463.here hx rfl (hb hby dj42_47_362) rfl rfl k) ?_
    show oG _ _ _ _ (T463.setTop (mkF m 364 #[.val (.ref a1), .val (.int (1 : Int32)), .val (.int (3 : Int32)), .val (.int (1 : Int32)), .val (.int (1 : Int32)), .val (.ref b432), .val (.int ch), .unset, .unset] [(.ref b432)]))
    obtain ⟨fs467, hr467, hrun467, hend467, hW467, hsm467⟩ := X463.leave (v := some (.ref b432)) (fun h => by rw [Bd.returns] at h; cases h)
    have f468 : Arv Z h463 b432 k432 .byte (Int32.ofNat (own_utf [ch]).length) (own_low (own_utf [ch])) (.int (0 : Int32)) := by
      have q := f465
      rw [own_narB, own_narB, own_narB] at q
      rw [own_utfC (own_gt h1) h100]
      exact q
    have K469 : Keep h0 h432 [] := (Keep.refl h0 []).ext E432
    have K470 : Keep h0 h457 [] := K469.wr W457 (Or.inr (by omega))
    have K471 : Keep h0 h460 [] := K470.wr W460 (Or.inr (by omega))
    have K472 : Keep h0 h463 [] := K471.wr W463 (Or.inr (by omega))
    subst hPP
    refine ⟨_, _, own_retA X463 hx Bd.returns rfl rfl (hb hby dj42_47_364) hr467, hrun467, hend467, _, _, rfl, ?_, ⟨_, rfl⟩, hW467, hsm467.mono (by decide) (by decide)⟩
    · show Q_enc16 Z _ _ _ h0 _ T463.heap _
      rw [e463]
      exact ⟨b432, k432, rfl, N463, K472, f468, (by omega)⟩
theorem ef_539 (m : MethodId) (x0 : Int32) (x1 : Nat) (x2 : Int32) : entryFrame m #[(.int x0), (.ref x1), (.int x2)] 9 = mkF m 0 #[.val (.int x0), .val (.ref x1), .val (.int x2), .unset, .unset, .unset, .unset, .unset, .unset] [] := by first | (simp [entryFrame, mkF, argsToLocals, Value.category]; done) | rfl
theorem dj42_46_0 : decode cJ11 0 = .ok (.iload_n 0, 1) := by decide +kernel
theorem dj42_46_1 : decode cJ11 1 = .ok (.iconst 1, 1) := by decide +kernel
theorem dj42_46_2 : decode cJ11 2 = .ok (.if_icmp .ne 9, 3) := by decide +kernel
theorem dj42_46_11 : decode cJ11 11 = .ok (.aload_n 1, 1) := by decide +kernel
theorem dj42_46_12 : decode cJ11 12 = .ok (.iconst 0, 1) := by decide +kernel
theorem dj42_46_13 : decode cJ11 13 = .ok (.aload_n 1, 1) := by decide +kernel
theorem dj42_46_14 : decode cJ11 14 = .ok (.arraylength, 1) := by decide +kernel
theorem pd_547 : parseMethodDescriptor "([BII)Z" = some ⟨[(.array .byte), .int, .int], some .boolean⟩ := by decide +kernel
theorem dj42_46_15 : decode cJ11 15 = .ok (.invokestatic 128, 3) := by decide +kernel
theorem dj42_46_18 : decode cJ11 18 = .ok (.ifCond .ne 11, 3) := by decide +kernel
theorem dj42_46_21 : decode cJ11 21 = .ok (.aload_n 1, 1) := by decide +kernel
theorem dj42_46_22 : decode cJ11 22 = .ok (.invokevirtual 279, 3) := by decide +kernel
theorem dj42_46_25 : decode cJ11 25 = .ok (.checkcast 280, 3) := by decide +kernel
theorem dj42_46_28 : decode cJ11 28 = .ok (.areturn, 1) := by decide +kernel
theorem dj42_46_29 : decode cJ11 29 = .ok (.iconst 0, 1) := by decide +kernel
theorem dj42_46_30 : decode cJ11 30 = .ok (.istore_n 3, 1) := by decide +kernel
theorem dj42_46_31 : decode cJ11 31 = .ok (.aload_n 1, 1) := by decide +kernel
theorem dj42_46_32 : decode cJ11 32 = .ok (.arraylength, 1) := by decide +kernel
theorem pd_558 : parseMethodDescriptor "(I)[B" = some ⟨[.int], some (.array .byte)⟩ := by decide +kernel
theorem dj42_46_33 : decode cJ11 33 = .ok (.invokestatic 60, 3) := by decide +kernel
theorem dj42_46_36 : decode cJ11 36 = .ok (.astore 4, 2) := by decide +kernel
theorem dj42_46_38 : decode cJ11 38 = .ok (.aload_n 1, 1) := by decide +kernel
theorem dj42_46_39 : decode cJ11 39 = .ok (.astore 5, 2) := by decide +kernel
theorem dj42_46_41 : decode cJ11 41 = .ok (.aload 5, 2) := by decide +kernel
theorem dj42_46_43 : decode cJ11 43 = .ok (.arraylength, 1) := by decide +kernel
theorem dj42_46_44 : decode cJ11 44 = .ok (.istore 6, 2) := by decide +kernel
theorem dj42_46_46 : decode cJ11 46 = .ok (.iconst 0, 1) := by decide +kernel
theorem dj42_46_47 : decode cJ11 47 = .ok (.istore 7, 2) := by decide +kernel
theorem dj42_46_49 : decode cJ11 49 = .ok (.iload 7, 2) := by decide +kernel
theorem dj42_46_51 : decode cJ11 51 = .ok (.iload 6, 2) := by decide +kernel
theorem dj42_46_53 : decode cJ11 53 = .ok (.if_icmp .ge 71, 3) := by decide +kernel
theorem dj42_46_56 : decode cJ11 56 = .ok (.aload 5, 2) := by decide +kernel
theorem dj42_46_58 : decode cJ11 58 = .ok (.iload 7, 2) := by decide +kernel
theorem dj42_46_60 : decode cJ11 60 = .ok (.baload, 1) := by decide +kernel
theorem dj42_46_61 : decode cJ11 61 = .ok (.istore 8, 2) := by decide +kernel
theorem dj42_46_63 : decode cJ11 63 = .ok (.iload 8, 2) := by decide +kernel
theorem dj42_46_65 : decode cJ11 65 = .ok (.ifCond .ge 44, 3) := by decide +kernel
theorem dj42_46_68 : decode cJ11 68 = .ok (.aload 4, 2) := by decide +kernel
theorem dj42_46_70 : decode cJ11 70 = .ok (.iload_n 3, 1) := by decide +kernel
theorem dj42_46_71 : decode cJ11 71 = .ok (.iinc 3 1, 3) := by decide +kernel
theorem dj42_46_74 : decode cJ11 74 = .ok (.sipush 192, 3) := by decide +kernel
theorem dj42_46_77 : decode cJ11 77 = .ok (.iload 8, 2) := by decide +kernel
theorem dj42_46_79 : decode cJ11 79 = .ok (.sipush 255, 3) := by decide +kernel
theorem dj42_46_82 : decode cJ11 82 = .ok (.iand, 1) := by decide +kernel
theorem dj42_46_83 : decode cJ11 83 = .ok (.bipush 6, 2) := by decide +kernel
theorem dj42_46_85 : decode cJ11 85 = .ok (.ishr, 1) := by decide +kernel
theorem dj42_46_86 : decode cJ11 86 = .ok (.ior, 1) := by decide +kernel
theorem dj42_46_87 : decode cJ11 87 = .ok (.i2b, 1) := by decide +kernel
theorem dj42_46_88 : decode cJ11 88 = .ok (.bastore, 1) := by decide +kernel
theorem dj42_46_89 : decode cJ11 89 = .ok (.aload 4, 2) := by decide +kernel
theorem dj42_46_91 : decode cJ11 91 = .ok (.iload_n 3, 1) := by decide +kernel
theorem dj42_46_92 : decode cJ11 92 = .ok (.iinc 3 1, 3) := by decide +kernel
theorem dj42_46_95 : decode cJ11 95 = .ok (.sipush 128, 3) := by decide +kernel
theorem dj42_46_98 : decode cJ11 98 = .ok (.iload 8, 2) := by decide +kernel
theorem dj42_46_100 : decode cJ11 100 = .ok (.bipush 63, 2) := by decide +kernel
theorem dj42_46_102 : decode cJ11 102 = .ok (.iand, 1) := by decide +kernel
theorem dj42_46_103 : decode cJ11 103 = .ok (.ior, 1) := by decide +kernel
theorem dj42_46_104 : decode cJ11 104 = .ok (.i2b, 1) := by decide +kernel
theorem dj42_46_105 : decode cJ11 105 = .ok (.bastore, 1) := by decide +kernel
theorem dj42_46_106 : decode cJ11 106 = .ok (.goto 12, 3) := by decide +kernel
theorem dj42_46_118 : decode cJ11 118 = .ok (.iinc 7 1, 3) := by decide +kernel
theorem dj42_46_121 : decode cJ11 121 = .ok (.goto (-72), 3) := by decide +kernel
theorem dj42_46_124 : decode cJ11 124 = .ok (.iload_n 3, 1) := by decide +kernel
theorem dj42_46_125 : decode cJ11 125 = .ok (.aload 4, 2) := by decide +kernel
theorem dj42_46_127 : decode cJ11 127 = .ok (.arraylength, 1) := by decide +kernel
theorem dj42_46_128 : decode cJ11 128 = .ok (.if_icmp .ne 6, 3) := by decide +kernel
theorem dj42_46_131 : decode cJ11 131 = .ok (.aload 4, 2) := by decide +kernel
theorem dj42_46_133 : decode cJ11 133 = .ok (.areturn, 1) := by decide +kernel
theorem dj42_46_5 : decode cJ11 5 = .ok (.aload_n 1, 1) := by decide +kernel
theorem dj42_46_6 : decode cJ11 6 = .ok (.iload_n 2, 1) := by decide +kernel
theorem pd_610 : parseMethodDescriptor "([BZ)[B" = some ⟨[(.array .byte), .boolean], some (.array .byte)⟩ := by decide +kernel
theorem dj42_46_7 : decode cJ11 7 = .ok (.invokestatic 473, 3) := by decide +kernel
theorem dj42_46_10 : decode cJ11 10 = .ok (.areturn, 1) := by decide +kernel
def Q_encU8 (Z : State) (cd : Int32) (a2 : Nat) (cs : List Int32) (ka : ClassId) (N2 : Int32) (vs : List Value) (h0 : Heap) (v : Option Value) (h : Heap) (L : List Loc) : Prop := ∃ (x : Nat), ∃ (k : ClassId), v = some (.ref x) ∧ Fr Z.heap.size L ∧ Keep h0 h [] ∧ Arv Z h x k .byte (Int32.ofNat (own_utf cs).length) (own_low (own_utf cs)) (.int (0 : Int32)) ∧ (h0.size ≤ x)
set_option maxRecDepth 65536 in
set_option maxHeartbeats 40000000 in
theorem rm_encU8 (l : Launch) (Z : State) (a0 : Array Value) (hw : ∀ d ∈ tables_1, d.before a0 Z = true) (ws : List Jvm.Cond) (cd : Int32) (a2 : Nat) (cs : List Int32) (ka : ClassId) (N2 : Int32) (vs : List Value) (h0 : Heap) (OL : Old Z Z.heap.size h0) (p0_ : Arv Z h0 a2 ka .byte N2 vs (.int (0 : Int32))) (p1_ : Exa Z h0 a2 "[B") (st_A : Sta Z Z.heap "java/lang/StringUTF16" "$assertionsDisabled" "Z" (.int (1 : Int32))) (st_H : Sta Z Z.heap "java/lang/StringUTF16" "HI_BYTE_SHIFT" "I" (.int (0 : Int32))) (st_L : Sta Z Z.heap "java/lang/StringUTF16" "LO_BYTE_SHIFT" "I" (.int (8 : Int32))) (hs : own_CodU cs cd N2 vs) :
    MetFree l mN23 (head1 (Jvm.Cond.code mN23 jdk_42_method_46_code 9 (some (.array .byte)) :: ws) rM20) (fun a U => a = #[(.int cd), (.ref a2), (.int (1 : Int32))] ∧ Z.Warmed39 U.vm ∧ U.heap = h0) (fun _ _ _ _ _ => True) (fun _ U o U' => ∃ v L, o = .returned v ∧ Q_encU8 Z cd a2 cs ka N2 vs h0 v U'.heap L ∧ FrameEnd U o U' L rM20.cells rM20.slots) := by
  refine MetFree.of_bodySF (plainFor_of_name pn_240) hisR ?_
  intro p e s m args below meth c s₁ Bd hml0 hP hK
  obtain ⟨rfl, hZ, hh⟩ := hP
  have hx := Bd.exec
  have hby := Bd.bytes
  have hml : c.maxLocals = 9 := hml0
  have hown : s.vm.findClass "java/lang/String" = some m.cls := findClass_of_methodNamed Bd.named
  have hnm := (name_of_methodNamed Bd.named Bd.method).1
  have X0 : Stand p l e rM20 s m #[(.int cd), (.ref a2), (.int (1 : Int32))] below meth c s₁ [] 0 0 := Stand.of_body Bd
  have e0 : s₁.heap = h0 := by rw [← hh, Bd.state]; rfl
  have N0 := Fr.nil Z.heap.size
  have Z0 : Z.heap.size ≤ h0.size := OL.2.1
  have lt_0 : @LT.lt Nat _ a2 h0.size := p0_.lt
  have lt_1 : @LT.lt Nat _ a2 h0.size := p1_.lt
  show oG p.tables e below (fun o tE => ∃ v L, o = .returned v ∧ Q_encU8 Z cd a2 cs ka N2 vs h0 v tE.heap L ∧ FrameEnd s o tE L rM20.cells rM20.slots) (s₁.setTop (entryFrame m #[(.int cd), (.ref a2), (.int (1 : Int32))] 9))
  refine own_hd (fun PP hPP => ?_)
  refine oG.st (fun t k => castTop (ef_539 m cd a2 (1 : Int32)) k) ?_
  show oG _ _ _ _ (s₁.setTop (mkF m 0 #[.val (.int cd), .val (.ref a2), .val (.int (1 : Int32)), .unset, .unset, .unset, .unset, .unset, .unset] []))
  have hkb := own_kbE p1_ p0_
  rcases hs with ⟨rfl, rfl, rfl, rfl⟩ | ⟨ch, rfl, hc0, hc1, rfl, rfl, rfl⟩ | ⟨ch, rfl, hc0, hc1, rfl, rfl, rfl⟩ | ⟨ch, rfl, hc0, hc1, hsu, rfl, rfl, rfl⟩
  ·
    refine oG.st (fun _ k => XS.iloadN X0.here hx rfl (hb hby dj42_46_0) rfl (XS.iconst X0.here hx rfl (hb hby dj42_46_1) k)) ?_
    show oG _ _ _ _ (s₁.setTop (mkF m 2 #[.val (.int (0 : Int32)), .val (.ref a2), .val (.int (1 : Int32)), .unset, .unset, .unset, .unset, .unset, .unset] [(.int (1 : Int32)), (.int (0 : Int32))]))
    refine oG.st (fun _ k => XS.icmpYes X0.here hx rfl (pc0 := 2) (pc' := 11) rfl (hb hby dj42_46_2) rfl (feq (by decide : ¬ ((0 : Int32) = (1 : Int32)))).2 (by decide) (by decide) k) ?_
    refine oG.st (fun _ k => XS.aloadN X0.here hx rfl (hb hby dj42_46_11) rfl rfl (XS.iconst X0.here hx rfl (hb hby dj42_46_12) (XS.aloadN X0.here hx rfl (hb hby dj42_46_13) rfl rfl k))) ?_
    show oG _ _ _ _ (s₁.setTop (mkF m 14 #[.val (.int (0 : Int32)), .val (.ref a2), .val (.int (1 : Int32)), .unset, .unset, .unset, .unset, .unset, .unset] [(.ref a2), (.int (0 : Int32)), (.ref a2)]))
    obtain ⟨c473, Ar473, q473, S473, Nn473, H473, G473⟩ := id p0_
    refine oG.st (X0.arraylength hx (own_rwE e0 Ar473.1) (State.isArrayOf_alike hZ.alike Ar473.2.1) (g := (mkF m 14 #[.val (.int (0 : Int32)), .val (.ref a2), .val (.int (1 : Int32)), .unset, .unset, .unset, .unset, .unset, .unset] [(.ref a2), (.int (0 : Int32)), (.ref a2)])) rfl rfl (hb hby dj42_46_14)) ?_
    rw [len_of S473 Nn473]
    show oG _ _ _ _ (s₁.setTop (mkF m 15 #[.val (.int (0 : Int32)), .val (.ref a2), .val (.int (1 : Int32)), .unset, .unset, .unset, .unset, .unset, .unset] [(.int (0 : Int32)), (.int (0 : Int32)), (.ref a2)]))
    obtain ⟨_, _, ⟨T474, L474, k474, n474⟩, -, X474, ⟨Lc474, hQ474, l474, y474, z474⟩, st474⟩ := Jvm.LawKit.callS X0 hx (y := mN34) hown (own_v hZ hw 83 rfl) (own_v hZ hw 84 rfl) (own_v hZ hw 85 rfl) (own_v hZ hw 86 rfl) (by decide) (backOf (W := 0) (rm_hneg0 l Z a0 hw [] a2 ka h0 OL p0_) hZ (own_w hw 86 rfl) (own_w hw 85 rfl) (by decide) (by decide)) (g := (mkF m 15 #[.val (.int (0 : Int32)), .val (.ref a2), .val (.int (1 : Int32)), .unset, .unset, .unset, .unset, .unset, .unset] [(.int (0 : Int32)), (.int (0 : Int32)), (.ref a2)])) rfl (by rw [hml]; rfl) (argsL := [(.ref a2), (.int (0 : Int32)), (.int (0 : Int32))]) (rest := []) (lenOf pd_547 rfl) rfl (by show 2 * 0 + _ ≤ _; exact Nat.le_of_eq rfl) (hb hby dj42_46_15) (fun _ _ => ⟨rfl, e0, (by decide : 0 + 0 ≤ _), (by decide : 0 + 0 ≤ _)⟩)
    dsimp only [Pt.U, Pt.locs, Pt.cells, Pt.slots] at X474 l474 y474 z474 st474 hQ474
    subst l474 y474 z474
    obtain ⟨rfl, N474q, K474⟩ := hQ474
    have N474 := Fr.app N0 N474q
    refine oG.st st474 ?_
    show oG _ _ _ _ (T474.setTop (mkF m 18 #[.val (.int (0 : Int32)), .val (.ref a2), .val (.int (1 : Int32)), .unset, .unset, .unset, .unset, .unset, .unset] [(.int (0 : Int32))]))
    refine oG.st (fun _ k => XS.ifNo X474.here hx rfl (hb hby dj42_46_18) rfl ((if0 _ _).trans (teq (rfl : (0 : Int32) = (0 : Int32))).2) k) ?_
    refine oG.st (fun _ k => XS.aloadN X474.here hx rfl (hb hby dj42_46_21) rfl rfl k) ?_
    show oG _ _ _ _ (T474.setTop (mkF m 22 #[.val (.int (0 : Int32)), .val (.ref a2), .val (.int (1 : Int32)), .unset, .unset, .unset, .unset, .unset, .unset] [(.ref a2)]))
    obtain ⟨c475, Ar475, q475, S475, Nn475, H475, G475⟩ := id p0_
    obtain ⟨T475, h475, X475, e475, E475, A475, Ex475, st475⟩ := cloneA X474 hx hZ hown (own_w hw 90 rfl) (own_w hw 91 rfl) (own_w hw 95 rfl) (own_w hw 93 rfl) (own_w hw 94 rfl) (own_w hw 96 rfl) K474 Ar475 (own_exaB Ar475 q475 hkb) (own_fitC Ar475 H475 G475) (g := (mkF m 22 #[.val (.int (0 : Int32)), .val (.ref a2), .val (.int (1 : Int32)), .unset, .unset, .unset, .unset, .unset, .unset] [(.ref a2)])) rfl (by rw [hml]; rfl) rfl (hb hby dj42_46_22) (by decide) (W := 0) (by show 2 * 0 + _ ≤ _; exact Nat.le_of_eq rfl) (by decide) (cap := 1) (by rw [S475]; exact (by decide)) (by decide) (by decide)
    obtain ⟨b475, g475⟩ : ∃ z, z = h0.size := ⟨_, rfl⟩
    rw [← g475] at A475 Ex475 st475
    refine oG.st st475 ?_
    have z475 : h0.size ≤ h475.size := E475.1
    have f476 : Arv Z h475 b475 ka .byte (0 : Int32) [] (.int (0 : Int32)) := ⟨_, A475, q475, S475, Nn475, H475, G475⟩
    have lt_b475 : @LT.lt Nat _ b475 h475.size := f476.lt
    show oG _ _ _ _ (T475.setTop (mkF m 25 #[.val (.int (0 : Int32)), .val (.ref a2), .val (.int (1 : Int32)), .unset, .unset, .unset, .unset, .unset, .unset] [(.ref b475)]))
    obtain ⟨T477, X477, e477, st477⟩ := castY X475 hx hZ hown (own_w hw 97 rfl) e475 (Ins.self Ex475) (g := (mkF m 25 #[.val (.int (0 : Int32)), .val (.ref a2), .val (.int (1 : Int32)), .unset, .unset, .unset, .unset, .unset, .unset] [(.ref b475)])) rfl rfl (hb hby dj42_46_25)
    refine oG.st st477 ?_
    show oG _ _ _ _ (T477.setTop (mkF m 28 #[.val (.int (0 : Int32)), .val (.ref a2), .val (.int (1 : Int32)), .unset, .unset, .unset, .unset, .unset, .unset] [(.ref b475)]))
    obtain ⟨fs478, hr478, hrun478, hend478, hW478, hsm478⟩ := X477.leave (v := some (.ref b475)) (fun h => by rw [Bd.returns] at h; cases h)
    have f479 : Arv Z h475 b475 ka .byte (Int32.ofNat (own_utf ([] : List Int32)).length) (own_low (own_utf ([] : List Int32))) (.int (0 : Int32)) := f476
    have K480 : Keep h0 h475 [] := (Keep.refl h0 []).ext E475
    subst hPP
    refine ⟨_, _, own_retA X477 hx Bd.returns rfl rfl (hb hby dj42_46_28) hr478, hrun478, hend478, _, _, rfl, ?_, ⟨_, rfl⟩, hW478, hsm478.mono (by decide) (by decide)⟩
    · show Q_encU8 Z _ _ _ _ _ _ h0 _ T477.heap _
      rw [e477]
      exact ⟨b475, ka, rfl, N474, K480, f479, (by omega)⟩
  ·
    refine oG.st (fun _ k => XS.iloadN X0.here hx rfl (hb hby dj42_46_0) rfl (XS.iconst X0.here hx rfl (hb hby dj42_46_1) k)) ?_
    show oG _ _ _ _ (s₁.setTop (mkF m 2 #[.val (.int (0 : Int32)), .val (.ref a2), .val (.int (1 : Int32)), .unset, .unset, .unset, .unset, .unset, .unset] [(.int (1 : Int32)), (.int (0 : Int32))]))
    refine oG.st (fun _ k => XS.icmpYes X0.here hx rfl (pc0 := 2) (pc' := 11) rfl (hb hby dj42_46_2) rfl (feq (by decide : ¬ ((0 : Int32) = (1 : Int32)))).2 (by decide) (by decide) k) ?_
    refine oG.st (fun _ k => XS.aloadN X0.here hx rfl (hb hby dj42_46_11) rfl rfl (XS.iconst X0.here hx rfl (hb hby dj42_46_12) (XS.aloadN X0.here hx rfl (hb hby dj42_46_13) rfl rfl k))) ?_
    show oG _ _ _ _ (s₁.setTop (mkF m 14 #[.val (.int (0 : Int32)), .val (.ref a2), .val (.int (1 : Int32)), .unset, .unset, .unset, .unset, .unset, .unset] [(.ref a2), (.int (0 : Int32)), (.ref a2)]))
    obtain ⟨c481, Ar481, q481, S481, Nn481, H481, G481⟩ := id p0_
    refine oG.st (X0.arraylength hx (own_rwE e0 Ar481.1) (State.isArrayOf_alike hZ.alike Ar481.2.1) (g := (mkF m 14 #[.val (.int (0 : Int32)), .val (.ref a2), .val (.int (1 : Int32)), .unset, .unset, .unset, .unset, .unset, .unset] [(.ref a2), (.int (0 : Int32)), (.ref a2)])) rfl rfl (hb hby dj42_46_14)) ?_
    rw [len_of S481 Nn481]
    show oG _ _ _ _ (s₁.setTop (mkF m 15 #[.val (.int (0 : Int32)), .val (.ref a2), .val (.int (1 : Int32)), .unset, .unset, .unset, .unset, .unset, .unset] [(.int (1 : Int32)), (.int (0 : Int32)), (.ref a2)]))
    obtain ⟨_, _, ⟨T482, L482, k482, n482⟩, -, X482, ⟨Lc482, hQ482, l482, y482, z482⟩, st482⟩ := Jvm.LawKit.callS X0 hx (y := mN34) hown (own_v hZ hw 83 rfl) (own_v hZ hw 84 rfl) (own_v hZ hw 85 rfl) (own_v hZ hw 86 rfl) (by decide) (backOf (W := 0) (rm_hneg1 l Z a0 hw [] a2 ka (StrChars.lo8 ch) h0 OL p0_) hZ (own_w hw 86 rfl) (own_w hw 85 rfl) (by decide) (by decide)) (g := (mkF m 15 #[.val (.int (0 : Int32)), .val (.ref a2), .val (.int (1 : Int32)), .unset, .unset, .unset, .unset, .unset, .unset] [(.int (1 : Int32)), (.int (0 : Int32)), (.ref a2)])) rfl (by rw [hml]; rfl) (argsL := [(.ref a2), (.int (0 : Int32)), (.int (1 : Int32))]) (rest := []) (lenOf pd_547 rfl) rfl (by show 2 * 0 + _ ≤ _; exact Nat.le_of_eq rfl) (hb hby dj42_46_15) (fun _ _ => ⟨rfl, e0, (by decide : 0 + 0 ≤ _), (by decide : 0 + 0 ≤ _)⟩)
    dsimp only [Pt.U, Pt.locs, Pt.cells, Pt.slots] at X482 l482 y482 z482 st482 hQ482
    subst l482 y482 z482
    obtain ⟨rfl, N482q, K482⟩ := hQ482
    have N482 := Fr.app N0 N482q
    refine oG.st st482 ?_
    show oG _ _ _ _ (T482.setTop (mkF m 18 #[.val (.int (0 : Int32)), .val (.ref a2), .val (.int (1 : Int32)), .unset, .unset, .unset, .unset, .unset, .unset] [(.int (if (StrChars.lo8 ch) < 0 then (1 : Int32) else 0))]))
    have hc483 : (if (StrChars.lo8 ch) < 0 then (1 : Int32) else 0) = (0 : Int32) := if_neg (own_loP hc0 hc1)
    refine oG.st (fun _ k => XS.ifNo X482.here hx rfl (hb hby dj42_46_18) rfl ((if0 _ _).trans (teq hc483).2) k) ?_
    refine oG.st (fun _ k => XS.aloadN X482.here hx rfl (hb hby dj42_46_21) rfl rfl k) ?_
    show oG _ _ _ _ (T482.setTop (mkF m 22 #[.val (.int (0 : Int32)), .val (.ref a2), .val (.int (1 : Int32)), .unset, .unset, .unset, .unset, .unset, .unset] [(.ref a2)]))
    obtain ⟨c484, Ar484, q484, S484, Nn484, H484, G484⟩ := id p0_
    obtain ⟨T484, h484, X484, e484, E484, A484, Ex484, st484⟩ := cloneA X482 hx hZ hown (own_w hw 90 rfl) (own_w hw 91 rfl) (own_w hw 95 rfl) (own_w hw 93 rfl) (own_w hw 94 rfl) (own_w hw 96 rfl) K482 Ar484 (own_exaB Ar484 q484 hkb) (own_fitC Ar484 H484 G484) (g := (mkF m 22 #[.val (.int (0 : Int32)), .val (.ref a2), .val (.int (1 : Int32)), .unset, .unset, .unset, .unset, .unset, .unset] [(.ref a2)])) rfl (by rw [hml]; rfl) rfl (hb hby dj42_46_22) (by decide) (W := 0) (by show 2 * 0 + _ ≤ _; exact Nat.le_of_eq rfl) (by decide) (cap := 1) (by rw [S484]; exact (by decide)) (by decide) (by decide)
    obtain ⟨b484, g484⟩ : ∃ z, z = h0.size := ⟨_, rfl⟩
    rw [← g484] at A484 Ex484 st484
    refine oG.st st484 ?_
    have z484 : h0.size ≤ h484.size := E484.1
    have f485 : Arv Z h484 b484 ka .byte (1 : Int32) [(.int (StrChars.lo8 ch))] (.int (0 : Int32)) := ⟨_, A484, q484, S484, Nn484, H484, G484⟩
    have lt_b484 : @LT.lt Nat _ b484 h484.size := f485.lt
    show oG _ _ _ _ (T484.setTop (mkF m 25 #[.val (.int (0 : Int32)), .val (.ref a2), .val (.int (1 : Int32)), .unset, .unset, .unset, .unset, .unset, .unset] [(.ref b484)]))
    obtain ⟨T486, X486, e486, st486⟩ := castY X484 hx hZ hown (own_w hw 97 rfl) e484 (Ins.self Ex484) (g := (mkF m 25 #[.val (.int (0 : Int32)), .val (.ref a2), .val (.int (1 : Int32)), .unset, .unset, .unset, .unset, .unset, .unset] [(.ref b484)])) rfl rfl (hb hby dj42_46_25)
    refine oG.st st486 ?_
    show oG _ _ _ _ (T486.setTop (mkF m 28 #[.val (.int (0 : Int32)), .val (.ref a2), .val (.int (1 : Int32)), .unset, .unset, .unset, .unset, .unset, .unset] [(.ref b484)]))
    obtain ⟨fs487, hr487, hrun487, hend487, hW487, hsm487⟩ := X486.leave (v := some (.ref b484)) (fun h => by rw [Bd.returns] at h; cases h)
    have f488 : Arv Z h484 b484 ka .byte (Int32.ofNat (own_utf [ch]).length) (own_low (own_utf [ch])) (.int (0 : Int32)) := by
      rw [own_utfA hc1]
      exact f485
    have K489 : Keep h0 h484 [] := (Keep.refl h0 []).ext E484
    subst hPP
    refine ⟨_, _, own_retA X486 hx Bd.returns rfl rfl (hb hby dj42_46_28) hr487, hrun487, hend487, _, _, rfl, ?_, ⟨_, rfl⟩, hW487, hsm487.mono (by decide) (by decide)⟩
    · show Q_encU8 Z _ _ _ _ _ _ h0 _ T486.heap _
      rw [e486]
      exact ⟨b484, ka, rfl, N482, K489, f488, (by omega)⟩
  ·
    refine oG.st (fun _ k => XS.iloadN X0.here hx rfl (hb hby dj42_46_0) rfl (XS.iconst X0.here hx rfl (hb hby dj42_46_1) k)) ?_
    show oG _ _ _ _ (s₁.setTop (mkF m 2 #[.val (.int (0 : Int32)), .val (.ref a2), .val (.int (1 : Int32)), .unset, .unset, .unset, .unset, .unset, .unset] [(.int (1 : Int32)), (.int (0 : Int32))]))
    refine oG.st (fun _ k => XS.icmpYes X0.here hx rfl (pc0 := 2) (pc' := 11) rfl (hb hby dj42_46_2) rfl (feq (by decide : ¬ ((0 : Int32) = (1 : Int32)))).2 (by decide) (by decide) k) ?_
    refine oG.st (fun _ k => XS.aloadN X0.here hx rfl (hb hby dj42_46_11) rfl rfl (XS.iconst X0.here hx rfl (hb hby dj42_46_12) (XS.aloadN X0.here hx rfl (hb hby dj42_46_13) rfl rfl k))) ?_
    show oG _ _ _ _ (s₁.setTop (mkF m 14 #[.val (.int (0 : Int32)), .val (.ref a2), .val (.int (1 : Int32)), .unset, .unset, .unset, .unset, .unset, .unset] [(.ref a2), (.int (0 : Int32)), (.ref a2)]))
    obtain ⟨c490, Ar490, q490, S490, Nn490, H490, G490⟩ := id p0_
    refine oG.st (X0.arraylength hx (own_rwE e0 Ar490.1) (State.isArrayOf_alike hZ.alike Ar490.2.1) (g := (mkF m 14 #[.val (.int (0 : Int32)), .val (.ref a2), .val (.int (1 : Int32)), .unset, .unset, .unset, .unset, .unset, .unset] [(.ref a2), (.int (0 : Int32)), (.ref a2)])) rfl rfl (hb hby dj42_46_14)) ?_
    rw [len_of S490 Nn490]
    show oG _ _ _ _ (s₁.setTop (mkF m 15 #[.val (.int (0 : Int32)), .val (.ref a2), .val (.int (1 : Int32)), .unset, .unset, .unset, .unset, .unset, .unset] [(.int (1 : Int32)), (.int (0 : Int32)), (.ref a2)]))
    obtain ⟨_, _, ⟨T491, L491, k491, n491⟩, -, X491, ⟨Lc491, hQ491, l491, y491, z491⟩, st491⟩ := Jvm.LawKit.callS X0 hx (y := mN34) hown (own_v hZ hw 83 rfl) (own_v hZ hw 84 rfl) (own_v hZ hw 85 rfl) (own_v hZ hw 86 rfl) (by decide) (backOf (W := 0) (rm_hneg1 l Z a0 hw [] a2 ka (StrChars.lo8 ch) h0 OL p0_) hZ (own_w hw 86 rfl) (own_w hw 85 rfl) (by decide) (by decide)) (g := (mkF m 15 #[.val (.int (0 : Int32)), .val (.ref a2), .val (.int (1 : Int32)), .unset, .unset, .unset, .unset, .unset, .unset] [(.int (1 : Int32)), (.int (0 : Int32)), (.ref a2)])) rfl (by rw [hml]; rfl) (argsL := [(.ref a2), (.int (0 : Int32)), (.int (1 : Int32))]) (rest := []) (lenOf pd_547 rfl) rfl (by show 2 * 0 + _ ≤ _; exact Nat.le_of_eq rfl) (hb hby dj42_46_15) (fun _ _ => ⟨rfl, e0, (by decide : 0 + 0 ≤ _), (by decide : 0 + 0 ≤ _)⟩)
    dsimp only [Pt.U, Pt.locs, Pt.cells, Pt.slots] at X491 l491 y491 z491 st491 hQ491
    subst l491 y491 z491
    obtain ⟨rfl, N491q, K491⟩ := hQ491
    have N491 := Fr.app N0 N491q
    refine oG.st st491 ?_
    show oG _ _ _ _ (T491.setTop (mkF m 18 #[.val (.int (0 : Int32)), .val (.ref a2), .val (.int (1 : Int32)), .unset, .unset, .unset, .unset, .unset, .unset] [(.int (if (StrChars.lo8 ch) < 0 then (1 : Int32) else 0))]))
    have hc492 : ¬ ((if (StrChars.lo8 ch) < 0 then (1 : Int32) else 0) = (0 : Int32)) := fun q => by rw [if_pos (own_loN hc0 hc1)] at q; exact absurd q (by decide)
    refine oG.st (fun _ k => XS.ifYes X491.here hx rfl (pc0 := 18) (pc' := 29) rfl (hb hby dj42_46_18) rfl ((if0 _ _).trans (feq hc492).2) (by decide) (by decide) k) ?_
    refine oG.st (fun _ k => XS.iconst X491.here hx rfl (hb hby dj42_46_29) (XS.istoreN X491.here hx rfl (hb hby dj42_46_30) rfl (l' := #[.val (.int (0 : Int32)), .val (.ref a2), .val (.int (1 : Int32)), .val (.int (0 : Int32)), .unset, .unset, .unset, .unset, .unset]) rfl (XS.aloadN X491.here hx rfl (hb hby dj42_46_31) rfl rfl k))) ?_
    show oG _ _ _ _ (T491.setTop (mkF m 32 #[.val (.int (0 : Int32)), .val (.ref a2), .val (.int (1 : Int32)), .val (.int (0 : Int32)), .unset, .unset, .unset, .unset, .unset] [(.ref a2)]))
    obtain ⟨c493, Ar493, q493, S493, Nn493, H493, G493⟩ := id p0_
    refine oG.st (X491.arraylength hx (own_rwE K491 Ar493.1) (State.isArrayOf_alike hZ.alike Ar493.2.1) (g := (mkF m 32 #[.val (.int (0 : Int32)), .val (.ref a2), .val (.int (1 : Int32)), .val (.int (0 : Int32)), .unset, .unset, .unset, .unset, .unset] [(.ref a2)])) rfl rfl (hb hby dj42_46_32)) ?_
    rw [len_of S493 Nn493]
    show oG _ _ _ _ (T491.setTop (mkF m 33 #[.val (.int (0 : Int32)), .val (.ref a2), .val (.int (1 : Int32)), .val (.int (0 : Int32)), .unset, .unset, .unset, .unset, .unset] [(.int (1 : Int32))]))
    obtain ⟨_, _, ⟨T494, L494, k494, n494⟩, -, X494, ⟨Lc494, hQ494, l494, y494, z494⟩, st494⟩ := Jvm.LawKit.callS X491 hx (y := mN38) hown (own_v hZ hw 246 rfl) (own_v hZ hw 247 rfl) (own_v hZ hw 51 rfl) (own_v hZ hw 248 rfl) (by decide) (backOf (W := 0) (rm_nbf l Z a0 hw []  h0 OL ) hZ (own_w hw 248 rfl) (own_w hw 51 rfl) (by decide) (by decide)) (g := (mkF m 33 #[.val (.int (0 : Int32)), .val (.ref a2), .val (.int (1 : Int32)), .val (.int (0 : Int32)), .unset, .unset, .unset, .unset, .unset] [(.int (1 : Int32))])) rfl (by rw [hml]; rfl) (argsL := [(.int (1 : Int32))]) (rest := []) (lenOf pd_558 rfl) rfl (by show 2 * 0 + _ ≤ _; exact Nat.le_of_eq rfl) (hb hby dj42_46_33) (fun _ _ => ⟨rfl, K491, (by decide : 0 + 1 ≤ _), (by decide : 0 + 2 ≤ _)⟩)
    dsimp only [Pt.U, Pt.locs, Pt.cells, Pt.slots] at X494 l494 y494 z494 st494 hQ494
    subst l494 y494 z494
    obtain ⟨x_494, k_494, rfl, N494q, K494, f494_0, pr494_0⟩ := hQ494
    have N494 := Fr.app N491 N494q
    have z494 : h0.size ≤ T494.heap.size := K494.1
    have lt494_0 : @LT.lt Nat _ x_494 T494.heap.size := f494_0.lt
    refine oG.st st494 ?_
    refine oG.st (fun _ k => XS.astore X494.here hx rfl (hb hby dj42_46_36) rfl rfl (l' := #[.val (.int (0 : Int32)), .val (.ref a2), .val (.int (1 : Int32)), .val (.int (0 : Int32)), .val (.ref x_494), .unset, .unset, .unset, .unset]) rfl (XS.aloadN X494.here hx rfl (hb hby dj42_46_38) rfl rfl (XS.astore X494.here hx rfl (hb hby dj42_46_39) rfl rfl (l' := #[.val (.int (0 : Int32)), .val (.ref a2), .val (.int (1 : Int32)), .val (.int (0 : Int32)), .val (.ref x_494), .val (.ref a2), .unset, .unset, .unset]) rfl (XS.aload X494.here hx rfl (hb hby dj42_46_41) rfl rfl k)))) ?_
    show oG _ _ _ _ (T494.setTop (mkF m 43 #[.val (.int (0 : Int32)), .val (.ref a2), .val (.int (1 : Int32)), .val (.int (0 : Int32)), .val (.ref x_494), .val (.ref a2), .unset, .unset, .unset] [(.ref a2)]))
    have f495 : Arv Z T494.heap a2 ka .byte (1 : Int32) [(.int (StrChars.lo8 ch))] (.int (0 : Int32)) := p0_.keep K494 nin0
    obtain ⟨c496, Ar496, q496, S496, Nn496, H496, G496⟩ := id f495
    refine oG.st (X494.arraylength hx (own_rwE rfl Ar496.1) (State.isArrayOf_alike hZ.alike Ar496.2.1) (g := (mkF m 43 #[.val (.int (0 : Int32)), .val (.ref a2), .val (.int (1 : Int32)), .val (.int (0 : Int32)), .val (.ref x_494), .val (.ref a2), .unset, .unset, .unset] [(.ref a2)])) rfl rfl (hb hby dj42_46_43)) ?_
    rw [len_of S496 Nn496]
    refine oG.st (fun _ k => XS.istore X494.here hx rfl (hb hby dj42_46_44) rfl (l' := #[.val (.int (0 : Int32)), .val (.ref a2), .val (.int (1 : Int32)), .val (.int (0 : Int32)), .val (.ref x_494), .val (.ref a2), .val (.int (1 : Int32)), .unset, .unset]) rfl (XS.iconst X494.here hx rfl (hb hby dj42_46_46) (XS.istore X494.here hx rfl (hb hby dj42_46_47) rfl (l' := #[.val (.int (0 : Int32)), .val (.ref a2), .val (.int (1 : Int32)), .val (.int (0 : Int32)), .val (.ref x_494), .val (.ref a2), .val (.int (1 : Int32)), .val (.int (0 : Int32)), .unset]) rfl (XS.iload X494.here hx rfl (hb hby dj42_46_49) rfl (XS.iload X494.here hx rfl (hb hby dj42_46_51) rfl k))))) ?_
    show oG _ _ _ _ (T494.setTop (mkF m 53 #[.val (.int (0 : Int32)), .val (.ref a2), .val (.int (1 : Int32)), .val (.int (0 : Int32)), .val (.ref x_494), .val (.ref a2), .val (.int (1 : Int32)), .val (.int (0 : Int32)), .unset] [(.int (1 : Int32)), (.int (0 : Int32))]))
    refine oG.st (fun _ k => XS.icmpNo X494.here hx rfl (hb hby dj42_46_53) rfl (tlt (by decide : (0 : Int32) < (1 : Int32))).2.1 k) ?_
    refine oG.st (fun _ k => XS.aload X494.here hx rfl (hb hby dj42_46_56) rfl rfl (XS.iload X494.here hx rfl (hb hby dj42_46_58) rfl k)) ?_
    show oG _ _ _ _ (T494.setTop (mkF m 60 #[.val (.int (0 : Int32)), .val (.ref a2), .val (.int (1 : Int32)), .val (.int (0 : Int32)), .val (.ref x_494), .val (.ref a2), .val (.int (1 : Int32)), .val (.int (0 : Int32)), .unset] [(.int (0 : Int32)), (.ref a2)]))
    obtain ⟨c497, Ar497, q497, S497, Nn497, H497, G497⟩ := id f495
    have hin497 : ¬ ((0 : Int32) < 0 ∨ c497.slots.size ≤ ((0 : Int32)).toNatClampNeg) := inb_of S497 ⟨by decide, by decide⟩
    have hat497 : c497.slots[((0 : Int32)).toNatClampNeg]? = some (.int (StrChars.lo8 ch)) := H497.at hin497 rfl
    refine oG.st (X494.baloadBytes hx (j := (0 : Int32)) (v := (.int (StrChars.lo8 ch))) (own_rwE rfl Ar497.1) (State.isArrayOf_alike hZ.alike Ar497.2.1) Ar497.2.2 hin497 hat497 (g := (mkF m 60 #[.val (.int (0 : Int32)), .val (.ref a2), .val (.int (1 : Int32)), .val (.int (0 : Int32)), .val (.ref x_494), .val (.ref a2), .val (.int (1 : Int32)), .val (.int (0 : Int32)), .unset] [(.int (0 : Int32)), (.ref a2)])) rfl rfl (hb hby dj42_46_60)) ?_
    refine oG.st (fun _ k => XS.istore X494.here hx rfl (hb hby dj42_46_61) rfl (l' := #[.val (.int (0 : Int32)), .val (.ref a2), .val (.int (1 : Int32)), .val (.int (0 : Int32)), .val (.ref x_494), .val (.ref a2), .val (.int (1 : Int32)), .val (.int (0 : Int32)), .val (.int (StrChars.lo8 ch))]) rfl (XS.iload X494.here hx rfl (hb hby dj42_46_63) rfl k)) ?_
    show oG _ _ _ _ (T494.setTop (mkF m 65 #[.val (.int (0 : Int32)), .val (.ref a2), .val (.int (1 : Int32)), .val (.int (0 : Int32)), .val (.ref x_494), .val (.ref a2), .val (.int (1 : Int32)), .val (.int (0 : Int32)), .val (.int (StrChars.lo8 ch))] [(.int (StrChars.lo8 ch))]))
    have hc498 : (StrChars.lo8 ch) < (0 : Int32) := own_loN hc0 hc1
    refine oG.st (fun _ k => XS.ifNo X494.here hx rfl (hb hby dj42_46_65) rfl ((if0 _ _).trans (tlt hc498).2.1) k) ?_
    refine oG.st (fun _ k => XS.aload X494.here hx rfl (hb hby dj42_46_68) rfl rfl (XS.iloadN X494.here hx rfl (hb hby dj42_46_70) rfl (XS.iinc X494.here hx rfl (hb hby dj42_46_71) rfl (l' := #[.val (.int (0 : Int32)), .val (.ref a2), .val (.int (1 : Int32)), .val (.int (1 : Int32)), .val (.ref x_494), .val (.ref a2), .val (.int (1 : Int32)), .val (.int (0 : Int32)), .val (.int (StrChars.lo8 ch))]) rfl (XS.sipush X494.here hx rfl (hb hby dj42_46_74) (XS.iload X494.here hx rfl (hb hby dj42_46_77) rfl (XS.sipush X494.here hx rfl (hb hby dj42_46_79) (XS.iand X494.here hx rfl (hb hby dj42_46_82) rfl k))))))) ?_
    show oG _ _ _ _ (T494.setTop (mkF m 83 #[.val (.int (0 : Int32)), .val (.ref a2), .val (.int (1 : Int32)), .val (.int (1 : Int32)), .val (.ref x_494), .val (.ref a2), .val (.int (1 : Int32)), .val (.int (0 : Int32)), .val (.int (StrChars.lo8 ch))] [(.int ((StrChars.lo8 ch) &&& (255 : Int32))), (.int (192 : Int32)), (.int (0 : Int32)), (.ref x_494)]))
    refine oG.st (fun _ k => XS.bipush X494.here hx rfl (hb hby dj42_46_83) (XS.ishr X494.here hx rfl (hb hby dj42_46_85) rfl (XS.ior X494.here hx rfl (hb hby dj42_46_86) rfl (XS.i2b X494.here hx rfl (hb hby dj42_46_87) rfl k)))) ?_
    show oG _ _ _ _ (T494.setTop (mkF m 88 #[.val (.int (0 : Int32)), .val (.ref a2), .val (.int (1 : Int32)), .val (.int (1 : Int32)), .val (.ref x_494), .val (.ref a2), .val (.int (1 : Int32)), .val (.int (0 : Int32)), .val (.int (StrChars.lo8 ch))] [(.int (((192 : Int32) ||| (((StrChars.lo8 ch) &&& (255 : Int32)) >>> ((6 : Int32) &&& 31))).toInt8.toInt32)), (.int (0 : Int32)), (.ref x_494)]))
    obtain ⟨c499, Ar499, q499, S499, Nn499, H499, G499⟩ := id f494_0
    have hin499 : ¬ ((0 : Int32) < 0 ∨ c499.slots.size ≤ ((0 : Int32)).toNatClampNeg) := inb_of S499 ⟨by decide, by decide⟩
    obtain ⟨T499, h499, X499, e499, W499, st499⟩ := stB X494 hx hZ rfl Ar499 (j := (0 : Int32)) hin499 (g := (mkF m 88 #[.val (.int (0 : Int32)), .val (.ref a2), .val (.int (1 : Int32)), .val (.int (1 : Int32)), .val (.ref x_494), .val (.ref a2), .val (.int (1 : Int32)), .val (.int (0 : Int32)), .val (.int (StrChars.lo8 ch))] [(.int (((192 : Int32) ||| (((StrChars.lo8 ch) &&& (255 : Int32)) >>> ((6 : Int32) &&& 31))).toInt8.toInt32)), (.int (0 : Int32)), (.ref x_494)])) rfl rfl (hb hby dj42_46_88)
    refine oG.st st499 ?_
    have N499 := Fr.snoc X499 N494 (by omega)
    have z499 : T494.heap.size ≤ h499.size := Nat.le_of_eq W499.size.symm
    have f500 := Arv.set Ar499 q499 S499 Nn499 H499 G499 (fits_nar_byte _) W499 0 rfl (Nat.le_of_ble_eq_true rfl)
    have f501 : Arv Z h499 x_494 k_494 .byte (2 : Int32) [(.int (nar .byte (((192 : Int32) ||| (((StrChars.lo8 ch) &&& (255 : Int32)) >>> ((6 : Int32) &&& 31))).toInt8.toInt32))), (.int (0 : Int32))] (.int (0 : Int32)) := f500
    refine oG.st (fun _ k => XS.aload X499.here hx rfl (hb hby dj42_46_89) rfl rfl (XS.iloadN X499.here hx rfl (hb hby dj42_46_91) rfl (XS.iinc X499.here hx rfl (hb hby dj42_46_92) rfl (l' := #[.val (.int (0 : Int32)), .val (.ref a2), .val (.int (1 : Int32)), .val (.int (2 : Int32)), .val (.ref x_494), .val (.ref a2), .val (.int (1 : Int32)), .val (.int (0 : Int32)), .val (.int (StrChars.lo8 ch))]) rfl (XS.sipush X499.here hx rfl (hb hby dj42_46_95) (XS.iload X499.here hx rfl (hb hby dj42_46_98) rfl (XS.bipush X499.here hx rfl (hb hby dj42_46_100) (XS.iand X499.here hx rfl (hb hby dj42_46_102) rfl k))))))) ?_
    show oG _ _ _ _ (T499.setTop (mkF m 103 #[.val (.int (0 : Int32)), .val (.ref a2), .val (.int (1 : Int32)), .val (.int (2 : Int32)), .val (.ref x_494), .val (.ref a2), .val (.int (1 : Int32)), .val (.int (0 : Int32)), .val (.int (StrChars.lo8 ch))] [(.int ((StrChars.lo8 ch) &&& (63 : Int32))), (.int (128 : Int32)), (.int (1 : Int32)), (.ref x_494)]))
    refine oG.st (fun _ k => XS.ior X499.here hx rfl (hb hby dj42_46_103) rfl (XS.i2b X499.here hx rfl (hb hby dj42_46_104) rfl k)) ?_
    show oG _ _ _ _ (T499.setTop (mkF m 105 #[.val (.int (0 : Int32)), .val (.ref a2), .val (.int (1 : Int32)), .val (.int (2 : Int32)), .val (.ref x_494), .val (.ref a2), .val (.int (1 : Int32)), .val (.int (0 : Int32)), .val (.int (StrChars.lo8 ch))] [(.int (((128 : Int32) ||| ((StrChars.lo8 ch) &&& (63 : Int32))).toInt8.toInt32)), (.int (1 : Int32)), (.ref x_494)]))
    obtain ⟨c502, Ar502, q502, S502, Nn502, H502, G502⟩ := id f501
    have hin502 : ¬ ((1 : Int32) < 0 ∨ c502.slots.size ≤ ((1 : Int32)).toNatClampNeg) := inb_of S502 ⟨by decide, by decide⟩
    obtain ⟨T502, h502, X502, e502, W502, st502⟩ := stB X499 hx hZ e499 Ar502 (j := (1 : Int32)) hin502 (g := (mkF m 105 #[.val (.int (0 : Int32)), .val (.ref a2), .val (.int (1 : Int32)), .val (.int (2 : Int32)), .val (.ref x_494), .val (.ref a2), .val (.int (1 : Int32)), .val (.int (0 : Int32)), .val (.int (StrChars.lo8 ch))] [(.int (((128 : Int32) ||| ((StrChars.lo8 ch) &&& (63 : Int32))).toInt8.toInt32)), (.int (1 : Int32)), (.ref x_494)])) rfl rfl (hb hby dj42_46_105)
    refine oG.st st502 ?_
    have N502 := Fr.snoc X502 N499 (by omega)
    have z502 : h499.size ≤ h502.size := Nat.le_of_eq W502.size.symm
    have f503 := Arv.set Ar502 q502 S502 Nn502 H502 G502 (fits_nar_byte _) W502 1 rfl (Nat.le_of_ble_eq_true rfl)
    have f504 : Arv Z h502 x_494 k_494 .byte (2 : Int32) [(.int (nar .byte (((192 : Int32) ||| (((StrChars.lo8 ch) &&& (255 : Int32)) >>> ((6 : Int32) &&& 31))).toInt8.toInt32))), (.int (nar .byte (((128 : Int32) ||| ((StrChars.lo8 ch) &&& (63 : Int32))).toInt8.toInt32)))] (.int (0 : Int32)) := f503
    refine oG.st (fun _ k => XS.goto X502.here hx rfl (pc0 := 106) (pc' := 118) rfl (hb hby dj42_46_106) (by decide) (by decide) (XS.iinc X502.here hx rfl (hb hby dj42_46_118) rfl (l' := #[.val (.int (0 : Int32)), .val (.ref a2), .val (.int (1 : Int32)), .val (.int (2 : Int32)), .val (.ref x_494), .val (.ref a2), .val (.int (1 : Int32)), .val (.int (1 : Int32)), .val (.int (StrChars.lo8 ch))]) rfl (XS.goto X502.here hx rfl (pc0 := 121) (pc' := 49) rfl (hb hby dj42_46_121) (by decide) (by decide) (XS.iload X502.here hx rfl (hb hby dj42_46_49) rfl (XS.iload X502.here hx rfl (hb hby dj42_46_51) rfl k))))) ?_
    show oG _ _ _ _ (T502.setTop (mkF m 53 #[.val (.int (0 : Int32)), .val (.ref a2), .val (.int (1 : Int32)), .val (.int (2 : Int32)), .val (.ref x_494), .val (.ref a2), .val (.int (1 : Int32)), .val (.int (1 : Int32)), .val (.int (StrChars.lo8 ch))] [(.int (1 : Int32)), (.int (1 : Int32))]))
    refine oG.st (fun _ k => XS.icmpYes X502.here hx rfl (pc0 := 53) (pc' := 124) rfl (hb hby dj42_46_53) rfl (flt (by decide : ¬ ((1 : Int32) < (1 : Int32)))).2.1 (by decide) (by decide) k) ?_
    refine oG.st (fun _ k => XS.iloadN X502.here hx rfl (hb hby dj42_46_124) rfl (XS.aload X502.here hx rfl (hb hby dj42_46_125) rfl rfl k)) ?_
    show oG _ _ _ _ (T502.setTop (mkF m 127 #[.val (.int (0 : Int32)), .val (.ref a2), .val (.int (1 : Int32)), .val (.int (2 : Int32)), .val (.ref x_494), .val (.ref a2), .val (.int (1 : Int32)), .val (.int (1 : Int32)), .val (.int (StrChars.lo8 ch))] [(.ref x_494), (.int (2 : Int32))]))
    obtain ⟨c505, Ar505, q505, S505, Nn505, H505, G505⟩ := id f504
    refine oG.st (X502.arraylength hx (own_rwE e502 Ar505.1) (State.isArrayOf_alike hZ.alike Ar505.2.1) (g := (mkF m 127 #[.val (.int (0 : Int32)), .val (.ref a2), .val (.int (1 : Int32)), .val (.int (2 : Int32)), .val (.ref x_494), .val (.ref a2), .val (.int (1 : Int32)), .val (.int (1 : Int32)), .val (.int (StrChars.lo8 ch))] [(.ref x_494), (.int (2 : Int32))])) rfl rfl (hb hby dj42_46_127)) ?_
    rw [len_of S505 Nn505]
    show oG _ _ _ _ (T502.setTop (mkF m 128 #[.val (.int (0 : Int32)), .val (.ref a2), .val (.int (1 : Int32)), .val (.int (2 : Int32)), .val (.ref x_494), .val (.ref a2), .val (.int (1 : Int32)), .val (.int (1 : Int32)), .val (.int (StrChars.lo8 ch))] [(.int (2 : Int32)), (.int (2 : Int32))]))
    refine oG.st (fun _ k => XS.icmpNo X502.here hx rfl (hb hby dj42_46_128) rfl (teq (rfl : (2 : Int32) = (2 : Int32))).2 k) ?_
    refine oG.st (fun _ k => XS.aload X502.here hx rfl (hb hby dj42_46_131) rfl rfl k) ?_
    show oG _ _ _ _ (T502.setTop (mkF m 133 #[.val (.int (0 : Int32)), .val (.ref a2), .val (.int (1 : Int32)), .val (.int (2 : Int32)), .val (.ref x_494), .val (.ref a2), .val (.int (1 : Int32)), .val (.int (1 : Int32)), .val (.int (StrChars.lo8 ch))] [(.ref x_494)]))
    obtain ⟨fs506, hr506, hrun506, hend506, hW506, hsm506⟩ := X502.leave (v := some (.ref x_494)) (fun h => by rw [Bd.returns] at h; cases h)
    have f507 : Arv Z h502 x_494 k_494 .byte (Int32.ofNat (own_utf [ch]).length) (own_low (own_utf [ch])) (.int (0 : Int32)) := by
      have q := f504
      have q3 := own_lat2 hc0 hc1
      rw [q3.1, q3.2.1] at q
      rw [own_utfB hc0 q3.2.2]
      exact q
    have K508 : Keep h0 T494.heap [] := (Keep.refl h0 []).trans K494 all0
    have K509 : Keep h0 h499 [] := K508.wr W499 (Or.inr (by omega))
    have K510 : Keep h0 h502 [] := K509.wr W502 (Or.inr (by omega))
    subst hPP
    refine ⟨_, _, own_retA X502 hx Bd.returns rfl rfl (hb hby dj42_46_133) hr506, hrun506, hend506, _, _, rfl, ?_, ⟨_, rfl⟩, hW506, hsm506.mono (by decide) (by decide)⟩
    · show Q_encU8 Z _ _ _ _ _ _ h0 _ T502.heap _
      rw [e502]
      exact ⟨x_494, k_494, rfl, N502, K510, f507, (by omega)⟩
  ·
    refine oG.st (fun _ k => XS.iloadN X0.here hx rfl (hb hby dj42_46_0) rfl (XS.iconst X0.here hx rfl (hb hby dj42_46_1) k)) ?_
    show oG _ _ _ _ (s₁.setTop (mkF m 2 #[.val (.int (1 : Int32)), .val (.ref a2), .val (.int (1 : Int32)), .unset, .unset, .unset, .unset, .unset, .unset] [(.int (1 : Int32)), (.int (1 : Int32))]))
    refine oG.st (fun _ k => XS.icmpNo X0.here hx rfl (hb hby dj42_46_2) rfl (teq (rfl : (1 : Int32) = (1 : Int32))).2 k) ?_
    refine oG.st (fun _ k => XS.aloadN X0.here hx rfl (hb hby dj42_46_5) rfl rfl (XS.iloadN X0.here hx rfl (hb hby dj42_46_6) rfl k)) ?_
    show oG _ _ _ _ (s₁.setTop (mkF m 7 #[.val (.int (1 : Int32)), .val (.ref a2), .val (.int (1 : Int32)), .unset, .unset, .unset, .unset, .unset, .unset] [(.int (1 : Int32)), (.ref a2)]))
    obtain ⟨_, _, ⟨T511, L511, k511, n511⟩, -, X511, ⟨Lc511, hQ511, l511, y511, z511⟩, st511⟩ := Jvm.LawKit.callS X0 hx (y := mN24) hown (own_v hZ hw 233 rfl) (own_v hZ hw 234 rfl) (own_v hZ hw 4 rfl) (own_v hZ hw 235 rfl) (by decide) (backOf (W := 0) (rm_enc16 l Z a0 hw [] a2 ch ka h0 OL p0_ st_A st_H st_L hc0 hc1 hsu) hZ (own_w hw 235 rfl) (own_w hw 4 rfl) (by decide) (by decide)) (g := (mkF m 7 #[.val (.int (1 : Int32)), .val (.ref a2), .val (.int (1 : Int32)), .unset, .unset, .unset, .unset, .unset, .unset] [(.int (1 : Int32)), (.ref a2)])) rfl (by rw [hml]; rfl) (argsL := [(.ref a2), (.int (1 : Int32))]) (rest := []) (lenOf pd_610 rfl) rfl (by show 2 * 0 + _ ≤ _; exact Nat.le_of_eq rfl) (hb hby dj42_46_7) (fun _ _ => ⟨rfl, e0, (by decide : 0 + 2 ≤ _), (by decide : 0 + 5 ≤ _)⟩)
    dsimp only [Pt.U, Pt.locs, Pt.cells, Pt.slots] at X511 l511 y511 z511 st511 hQ511
    subst l511 y511 z511
    obtain ⟨x_511, k_511, rfl, N511q, K511, f511_0, pr511_0⟩ := hQ511
    have N511 := Fr.app N0 N511q
    have z511 : h0.size ≤ T511.heap.size := K511.1
    have lt511_0 : @LT.lt Nat _ x_511 T511.heap.size := f511_0.lt
    refine oG.st st511 ?_
    show oG _ _ _ _ (T511.setTop (mkF m 10 #[.val (.int (1 : Int32)), .val (.ref a2), .val (.int (1 : Int32)), .unset, .unset, .unset, .unset, .unset, .unset] [(.ref x_511)]))
    obtain ⟨fs512, hr512, hrun512, hend512, hW512, hsm512⟩ := X511.leave (v := some (.ref x_511)) (fun h => by rw [Bd.returns] at h; cases h)
    have f513 : Arv Z T511.heap x_511 k_511 .byte (Int32.ofNat (own_utf [ch]).length) (own_low (own_utf [ch])) (.int (0 : Int32)) := f511_0
    have K514 : Keep h0 T511.heap [] := (Keep.refl h0 []).trans K511 all0
    subst hPP
    refine ⟨_, _, own_retA X511 hx Bd.returns rfl rfl (hb hby dj42_46_10) hr512, hrun512, hend512, _, _, rfl, ?_, ⟨_, rfl⟩, hW512, hsm512.mono (by decide) (by decide)⟩
    · show Q_encU8 Z _ _ _ _ _ _ h0 _ T511.heap _
      exact ⟨x_511, k_511, rfl, N511, K514, f513, (by omega)⟩
theorem ef_613 (m : MethodId) (x0 : Nat) (x1 : Int32) (x2 : Nat) : entryFrame m #[(.ref x0), (.int x1), (.ref x2)] 3 = mkF m 0 #[.val (.ref x0), .val (.int x1), .val (.ref x2)] [] := by first | (simp [entryFrame, mkF, argsToLocals, Value.category]; done) | rfl
theorem dj42_18_0 : decode cJ9 0 = .ok (.aload_n 0, 1) := by decide +kernel
theorem dj42_18_1 : decode cJ9 1 = .ok (.getstatic 86, 3) := by decide +kernel
theorem dj42_18_4 : decode cJ9 4 = .ok (.if_acmp .ne 10, 3) := by decide +kernel
theorem dj42_18_7 : decode cJ9 7 = .ok (.iload_n 1, 1) := by decide +kernel
theorem dj42_18_8 : decode cJ9 8 = .ok (.aload_n 2, 1) := by decide +kernel
theorem dj42_18_9 : decode cJ9 9 = .ok (.iconst 1, 1) := by decide +kernel
theorem pd_620 : parseMethodDescriptor "(B[BZ)[B" = some ⟨[.byte, (.array .byte), .boolean], some (.array .byte)⟩ := by decide +kernel
theorem dj42_18_10 : decode cJ9 10 = .ok (.invokestatic 252, 3) := by decide +kernel
theorem dj42_18_13 : decode cJ9 13 = .ok (.areturn, 1) := by decide +kernel
def Q_sencode (Z : State) (ac : Nat) (cd : Int32) (a3 : Nat) (cs : List Int32) (ka : ClassId) (N2 : Int32) (vs : List Value) (h0 : Heap) (v : Option Value) (h : Heap) (L : List Loc) : Prop := ∃ (x : Nat), ∃ (k : ClassId), v = some (.ref x) ∧ Fr Z.heap.size L ∧ Keep h0 h [] ∧ Arv Z h x k .byte (Int32.ofNat (own_utf cs).length) (own_low (own_utf cs)) (.int (0 : Int32)) ∧ (h0.size ≤ x)
set_option maxRecDepth 65536 in
set_option maxHeartbeats 40000000 in
theorem rm_sencode (l : Launch) (Z : State) (a0 : Array Value) (hw : ∀ d ∈ tables_1, d.before a0 Z = true) (ws : List Jvm.Cond) (ac : Nat) (cd : Int32) (a3 : Nat) (cs : List Int32) (ka : ClassId) (N2 : Int32) (vs : List Value) (h0 : Heap) (OL : Old Z Z.heap.size h0) (p0_ : Arv Z h0 a3 ka .byte N2 vs (.int (0 : Int32))) (p1_ : Exa Z h0 a3 "[B") (st_INSTANCE : Sta Z Z.heap "sun/nio/cs/UTF_8" "INSTANCE" "Lsun/nio/cs/UTF_8;" (.ref ac)) (st_A : Sta Z Z.heap "java/lang/StringUTF16" "$assertionsDisabled" "Z" (.int (1 : Int32))) (st_H : Sta Z Z.heap "java/lang/StringUTF16" "HI_BYTE_SHIFT" "I" (.int (0 : Int32))) (st_L : Sta Z Z.heap "java/lang/StringUTF16" "LO_BYTE_SHIFT" "I" (.int (8 : Int32))) (hs : own_CodU cs cd N2 vs) :
    MetFree l mN22 (head1 (Jvm.Cond.code mN22 jdk_42_method_18_code 3 (some (.array .byte)) :: ws) rM23) (fun a U => a = #[(.ref ac), (.int cd), (.ref a3)] ∧ Z.Warmed39 U.vm ∧ U.heap = h0) (fun _ _ _ _ _ => True) (fun _ U o U' => ∃ v L, o = .returned v ∧ Q_sencode Z ac cd a3 cs ka N2 vs h0 v U'.heap L ∧ FrameEnd U o U' L rM23.cells rM23.slots) := by
  refine MetFree.of_bodySF (plainFor_of_name pn_240) hisR ?_
  intro p e s m args below meth c s₁ Bd hml0 hP hK
  obtain ⟨rfl, hZ, hh⟩ := hP
  have hx := Bd.exec
  have hby := Bd.bytes
  have hml : c.maxLocals = 3 := hml0
  have hown : s.vm.findClass "java/lang/String" = some m.cls := findClass_of_methodNamed Bd.named
  have hnm := (name_of_methodNamed Bd.named Bd.method).1
  have X0 : Stand p l e rM23 s m #[(.ref ac), (.int cd), (.ref a3)] below meth c s₁ [] 0 0 := Stand.of_body Bd
  have e0 : s₁.heap = h0 := by rw [← hh, Bd.state]; rfl
  have N0 := Fr.nil Z.heap.size
  have Z0 : Z.heap.size ≤ h0.size := OL.2.1
  have lt_0 : @LT.lt Nat _ a3 h0.size := p0_.lt
  have lt_1 : @LT.lt Nat _ a3 h0.size := p1_.lt
  show oG p.tables e below (fun o tE => ∃ v L, o = .returned v ∧ Q_sencode Z ac cd a3 cs ka N2 vs h0 v tE.heap L ∧ FrameEnd s o tE L rM23.cells rM23.slots) (s₁.setTop (entryFrame m #[(.ref ac), (.int cd), (.ref a3)] 3))
  refine own_hd (fun PP hPP => ?_)
  refine oG.st (fun t k => castTop (ef_613 m ac cd a3) k) ?_
  refine oG.st (fun _ k => XS.aloadN X0.here hx rfl (hb hby dj42_18_0) rfl rfl k) ?_
  show oG _ _ _ _ (s₁.setTop (mkF m 1 #[.val (.ref ac), .val (.int cd), .val (.ref a3)] [(.ref ac)]))
  obtain ⟨T515, X515, e515, st515⟩ := getS2 X0 hx hZ hown (host := "") (Or.inl (own_w hw 78 rfl)) Via.refl e0 (st_INSTANCE.ext OL.2) (g := (mkF m 1 #[.val (.ref ac), .val (.int cd), .val (.ref a3)] [(.ref ac)])) rfl (hb hby dj42_18_1)
  refine oG.st st515 ?_
  show oG _ _ _ _ (T515.setTop (mkF m 4 #[.val (.ref ac), .val (.int cd), .val (.ref a3)] [(.ref ac), (.ref ac)]))
  refine oG.st (fun _ k => Jvm.RoadKit.acmp (g := (mkF m 4 #[.val (.ref ac), .val (.int cd), .val (.ref a3)] [(.ref ac), (.ref ac)])) X515 hx rfl rfl rfl (pc0 := 4) (pc' := 7) (same := true) rfl (hb hby dj42_18_4) rfl (decide_eq_true rfl) (by decide) (by decide) k) ?_
  refine oG.st (fun _ k => XS.iloadN X515.here hx rfl (hb hby dj42_18_7) rfl (XS.aloadN X515.here hx rfl (hb hby dj42_18_8) rfl rfl (XS.iconst X515.here hx rfl (hb hby dj42_18_9) k))) ?_
  show oG _ _ _ _ (T515.setTop (mkF m 10 #[.val (.ref ac), .val (.int cd), .val (.ref a3)] [(.int (1 : Int32)), (.ref a3), (.int cd)]))
  obtain ⟨_, _, ⟨T516, L516, k516, n516⟩, -, X516, ⟨Lc516, hQ516, l516, y516, z516⟩, st516⟩ := Jvm.LawKit.callS X515 hx (y := mN23) hown (own_v hZ hw 80 rfl) (own_v hZ hw 81 rfl) (own_v hZ hw 4 rfl) (own_v hZ hw 82 rfl) (by decide) (backOf (W := 0) (rm_encU8 l Z a0 hw [] cd a3 cs ka N2 vs h0 OL p0_ p1_ st_A st_H st_L hs) hZ (own_w hw 82 rfl) (own_w hw 4 rfl) (by decide) (by decide)) (g := (mkF m 10 #[.val (.ref ac), .val (.int cd), .val (.ref a3)] [(.int (1 : Int32)), (.ref a3), (.int cd)])) rfl (by rw [hml]; rfl) (argsL := [(.int cd), (.ref a3), (.int (1 : Int32))]) (rest := []) (lenOf pd_620 rfl) rfl (by show 2 * 0 + _ ≤ _; exact Nat.le_of_eq rfl) (hb hby dj42_18_10) (fun _ _ => ⟨rfl, e515, (by decide : 0 + 2 ≤ _), (by decide : 0 + 5 ≤ _)⟩)
  dsimp only [Pt.U, Pt.locs, Pt.cells, Pt.slots] at X516 l516 y516 z516 st516 hQ516
  subst l516 y516 z516
  obtain ⟨x_516, k_516, rfl, N516q, K516, f516_0, pr516_0⟩ := hQ516
  have N516 := Fr.app N0 N516q
  have z516 : h0.size ≤ T516.heap.size := K516.1
  have lt516_0 : @LT.lt Nat _ x_516 T516.heap.size := f516_0.lt
  refine oG.st st516 ?_
  show oG _ _ _ _ (T516.setTop (mkF m 13 #[.val (.ref ac), .val (.int cd), .val (.ref a3)] [(.ref x_516)]))
  obtain ⟨fs517, hr517, hrun517, hend517, hW517, hsm517⟩ := X516.leave (v := some (.ref x_516)) (fun h => by rw [Bd.returns] at h; cases h)
  have K518 : Keep h0 T516.heap [] := (Keep.refl h0 []).trans K516 all0
  subst hPP
  refine ⟨_, _, own_retA X516 hx Bd.returns rfl rfl (hb hby dj42_18_13) hr517, hrun517, hend517, _, _, rfl, ?_, ⟨_, rfl⟩, hW517, hsm517.mono (by decide) (by decide)⟩
  · show Q_sencode Z _ _ _ _ _ _ _ h0 _ T516.heap _
    exact ⟨x_516, k_516, rfl, N516, K518, f516_0, (by omega)⟩
theorem dj42_152_0 : decode cJ8 0 = .ok (.getstatic 38, 3) := by decide +kernel
theorem dj42_152_3 : decode cJ8 3 = .ok (.ifCond .eq 10, 3) := by decide +kernel
theorem dj42_152_6 : decode cJ8 6 = .ok (.aload_n 0, 1) := by decide +kernel
theorem dj42_152_7 : decode cJ8 7 = .ok (.getfield 15, 3) := by decide +kernel
theorem dj42_152_10 : decode cJ8 10 = .ok (.goto 4, 3) := by decide +kernel
theorem dj42_152_14 : decode cJ8 14 = .ok (.ireturn, 1) := by decide +kernel
def Q_scoder (Z : State) (a1 : Nat) (zc : Int32) (cd : Int32) (h0 : Heap) (v : Option Value) (h : Heap) (L : List Loc) : Prop := v = some (.int cd) ∧ Fr Z.heap.size L ∧ h = h0
set_option maxRecDepth 65536 in
set_option maxHeartbeats 40000000 in
theorem rm_scoder (l : Launch) (Z : State) (a0 : Array Value) (hw : ∀ d ∈ tables_1, d.before a0 Z = true) (ws : List Jvm.Cond) (a1 : Nat) (zc : Int32) (cd : Int32) (h0 : Heap) (OL : Old Z Z.heap.size h0) (p0_ : Fld Z h0 a1 "java/lang/String" "coder" "B" (.int cd)) (st_C : Sta Z Z.heap "java/lang/String" "COMPACT_STRINGS" "Z" (.int zc)) (hzc : ¬ zc = 0) (hcd : nar .byte cd = cd) :
    MetFree l mN21 (head1 (Jvm.Cond.code mN21 jdk_42_method_152_code 1 (some .byte) :: ws) rM0) (fun a U => a = #[(.ref a1)] ∧ Z.Warmed39 U.vm ∧ U.heap = h0) (fun _ _ _ _ _ => True) (fun _ U o U' => ∃ v L, o = .returned v ∧ Q_scoder Z a1 zc cd h0 v U'.heap L ∧ FrameEnd U o U' L rM0.cells rM0.slots) := by
  refine MetFree.of_bodySF (plainFor_of_name pn_240) hisR ?_
  intro p e s m args below meth c s₁ Bd hml0 hP hK
  obtain ⟨rfl, hZ, hh⟩ := hP
  have hx := Bd.exec
  have hby := Bd.bytes
  have hml : c.maxLocals = 1 := hml0
  have hown : s.vm.findClass "java/lang/String" = some m.cls := findClass_of_methodNamed Bd.named
  have hnm := (name_of_methodNamed Bd.named Bd.method).1
  have X0 : Stand p l e rM0 s m #[(.ref a1)] below meth c s₁ [] 0 0 := Stand.of_body Bd
  have e0 : s₁.heap = h0 := by rw [← hh, Bd.state]; rfl
  have N0 := Fr.nil Z.heap.size
  have Z0 : Z.heap.size ≤ h0.size := OL.2.1
  have lt_0 : @LT.lt Nat _ a1 h0.size := p0_.lt
  show oG p.tables e below (fun o tE => ∃ v L, o = .returned v ∧ Q_scoder Z a1 zc cd h0 v tE.heap L ∧ FrameEnd s o tE L rM0.cells rM0.slots) (s₁.setTop (entryFrame m #[(.ref a1)] 1))
  refine own_hd (fun PP hPP => ?_)
  refine oG.st (fun t k => castTop (ef_185 m a1) k) ?_
  show oG _ _ _ _ (s₁.setTop (mkF m 0 #[.val (.ref a1)] []))
  obtain ⟨T519, X519, e519, st519⟩ := getS2 X0 hx hZ hown (host := "") (Or.inl (own_w hw 6 rfl)) Via.refl e0 (st_C.ext OL.2) (g := (mkF m 0 #[.val (.ref a1)] [])) rfl (hb hby dj42_152_0)
  refine oG.st st519 ?_
  show oG _ _ _ _ (T519.setTop (mkF m 3 #[.val (.ref a1)] [(.int zc)]))
  have hc520 : ¬ (zc = (0 : Int32)) := hzc
  refine oG.st (fun _ k => XS.ifNo X519.here hx rfl (hb hby dj42_152_3) rfl ((if0 _ _).trans (feq hc520).1) k) ?_
  refine oG.st (fun _ k => XS.aloadN X519.here hx rfl (hb hby dj42_152_6) rfl rfl k) ?_
  show oG _ _ _ _ (T519.setTop (mkF m 7 #[.val (.ref a1)] [(.ref a1)]))
  obtain ⟨T521, X521, e521, st521⟩ := getF X519 hx hZ hown (host := "") (Or.inl (own_w hw 26 rfl)) Via.refl e519 p0_ (g := (mkF m 7 #[.val (.ref a1)] [(.ref a1)])) rfl rfl (hb hby dj42_152_7)
  refine oG.st st521 ?_
  refine oG.st (fun _ k => XS.goto X521.here hx rfl (pc0 := 10) (pc' := 14) rfl (hb hby dj42_152_10) (by decide) (by decide) k) ?_
  show oG _ _ _ _ (T521.setTop (mkF m 14 #[.val (.ref a1)] [(.int cd)]))
  obtain ⟨fs522, hr522, hrun522, hend522, hW522, hsm522⟩ := X521.leave (v := some (.int (nar .byte cd))) (fun h => by rw [Bd.returns] at h; cases h)
  subst hPP
  refine ⟨_, _, retN X521 hx (t := .byte) Bd.returns (by simp) (hb hby dj42_152_14) hr522, hrun522, hend522, _, _, rfl, ?_, ⟨_, rfl⟩, hW522, hsm522.mono (by decide) (by decide)⟩
  · show Q_scoder Z _ _ _ h0 _ T521.heap _
    rw [e521]
    exact ⟨(by rw [hcd]), N0, rfl⟩
theorem dj42_64_0 : decode cJ13 0 = .ok (.aload_n 1, 1) := by decide +kernel
theorem dj42_64_1 : decode cJ13 1 = .ok (.ifnonnull 11, 3) := by decide +kernel
theorem dj42_64_12 : decode cJ13 12 = .ok (.aload_n 1, 1) := by decide +kernel
theorem dj42_64_13 : decode cJ13 13 = .ok (.aload_n 0, 1) := by decide +kernel
theorem pd_633 : parseMethodDescriptor "()B" = some ⟨[], some .byte⟩ := by decide +kernel
theorem dj42_64_14 : decode cJ13 14 = .ok (.invokevirtual 335, 3) := by decide +kernel
theorem dj42_64_17 : decode cJ13 17 = .ok (.aload_n 0, 1) := by decide +kernel
theorem dj42_64_18 : decode cJ13 18 = .ok (.getfield 9, 3) := by decide +kernel
theorem pd_637 : parseMethodDescriptor "(Ljava/nio/charset/Charset;B[B)[B" = some ⟨[(.object "java/nio/charset/Charset"), .byte, (.array .byte)], some (.array .byte)⟩ := by decide +kernel
theorem dj42_64_21 : decode cJ13 21 = .ok (.invokestatic 535, 3) := by decide +kernel
theorem dj42_64_24 : decode cJ13 24 = .ok (.areturn, 1) := by decide +kernel
def Q_getBytes (Z : State) (a1 : Nat) (ac : Nat) (a3 : Nat) (cd : Int32) (cs : List Int32) (ka : ClassId) (N2 : Int32) (vs : List Value) (zc : Int32) (h0 : Heap) (v : Option Value) (h : Heap) (L : List Loc) : Prop := ∃ (x : Nat), ∃ (k : ClassId), v = some (.ref x) ∧ Fr Z.heap.size L ∧ Keep h0 h [] ∧ Arv Z h x k .byte (Int32.ofNat (own_utf cs).length) (own_low (own_utf cs)) (.int (0 : Int32)) ∧ (h0.size ≤ x)
set_option maxRecDepth 65536 in
set_option maxHeartbeats 40000000 in
theorem rm_getBytes (l : Launch) (Z : State) (a0 : Array Value) (hw : ∀ d ∈ tables_1, d.before a0 Z = true) (ws : List Jvm.Cond) (a1 : Nat) (ac : Nat) (a3 : Nat) (cd : Int32) (cs : List Int32) (ka : ClassId) (N2 : Int32) (vs : List Value) (zc : Int32) (h0 : Heap) (OL : Old Z Z.heap.size h0) (p0_ : Exa Z h0 a1 "java/lang/String") (p1_ : Fld Z h0 a1 "java/lang/String" "value" "[B" (.ref a3)) (p2_ : Fld Z h0 a1 "java/lang/String" "coder" "B" (.int cd)) (p3_ : Arv Z h0 a3 ka .byte N2 vs (.int (0 : Int32))) (p4_ : Exa Z h0 a3 "[B") (st_C : Sta Z Z.heap "java/lang/String" "COMPACT_STRINGS" "Z" (.int zc)) (st_INSTANCE : Sta Z Z.heap "sun/nio/cs/UTF_8" "INSTANCE" "Lsun/nio/cs/UTF_8;" (.ref ac)) (st_A : Sta Z Z.heap "java/lang/StringUTF16" "$assertionsDisabled" "Z" (.int (1 : Int32))) (st_H : Sta Z Z.heap "java/lang/StringUTF16" "HI_BYTE_SHIFT" "I" (.int (0 : Int32))) (st_L : Sta Z Z.heap "java/lang/StringUTF16" "LO_BYTE_SHIFT" "I" (.int (8 : Int32))) (hzc : ¬ zc = 0) (hs : own_CodU cs cd N2 vs) :
    MetFree l mN26 (head1 (Jvm.Cond.code mN26 jdk_42_method_64_code 2 (some (.array .byte)) :: ws) rM26) (fun a U => a = #[(.ref a1), (.ref ac)] ∧ Z.Warmed39 U.vm ∧ U.heap = h0) (fun _ _ _ _ _ => True) (fun _ U o U' => ∃ v L, o = .returned v ∧ Q_getBytes Z a1 ac a3 cd cs ka N2 vs zc h0 v U'.heap L ∧ FrameEnd U o U' L rM26.cells rM26.slots) := by
  refine MetFree.of_bodySF (plainFor_of_name pn_240) hisR ?_
  intro p e s m args below meth c s₁ Bd hml0 hP hK
  obtain ⟨rfl, hZ, hh⟩ := hP
  have hx := Bd.exec
  have hby := Bd.bytes
  have hml : c.maxLocals = 2 := hml0
  have hown : s.vm.findClass "java/lang/String" = some m.cls := findClass_of_methodNamed Bd.named
  have hnm := (name_of_methodNamed Bd.named Bd.method).1
  have X0 : Stand p l e rM26 s m #[(.ref a1), (.ref ac)] below meth c s₁ [] 0 0 := Stand.of_body Bd
  have e0 : s₁.heap = h0 := by rw [← hh, Bd.state]; rfl
  have N0 := Fr.nil Z.heap.size
  have Z0 : Z.heap.size ≤ h0.size := OL.2.1
  have lt_0 : @LT.lt Nat _ a1 h0.size := p0_.lt
  have lt_1 : @LT.lt Nat _ a1 h0.size := p1_.lt
  have lt_2 : @LT.lt Nat _ a1 h0.size := p2_.lt
  have lt_3 : @LT.lt Nat _ a3 h0.size := p3_.lt
  have lt_4 : @LT.lt Nat _ a3 h0.size := p4_.lt
  show oG p.tables e below (fun o tE => ∃ v L, o = .returned v ∧ Q_getBytes Z a1 ac a3 cd cs ka N2 vs zc h0 v tE.heap L ∧ FrameEnd s o tE L rM26.cells rM26.slots) (s₁.setTop (entryFrame m #[(.ref a1), (.ref ac)] 2))
  refine own_hd (fun PP hPP => ?_)
  refine oG.st (fun t k => castTop (ef_265 m a1 ac) k) ?_
  refine oG.st (fun _ k => XS.aloadN X0.here hx rfl (hb hby dj42_64_0) rfl rfl k) ?_
  show oG _ _ _ _ (s₁.setTop (mkF m 1 #[.val (.ref a1), .val (.ref ac)] [(.ref ac)]))
  refine oG.st (fun _ k => XS.ifnonnullYes X0.here hx rfl (pc0 := 1) (pc' := 12) rfl (hb hby dj42_64_1) rfl (by decide) (by decide) k) ?_
  refine oG.st (fun _ k => XS.aloadN X0.here hx rfl (hb hby dj42_64_12) rfl rfl (XS.aloadN X0.here hx rfl (hb hby dj42_64_13) rfl rfl k)) ?_
  show oG _ _ _ _ (s₁.setTop (mkF m 14 #[.val (.ref a1), .val (.ref ac)] [(.ref a1), (.ref ac)]))
  obtain ⟨cq523, kq523, q523a, q523b, q523c⟩ := isOf hZ e0 p0_
  obtain ⟨_, _, ⟨T523, L523, k523, n523⟩, -, X523, ⟨Lc523, hQ523, l523, y523, z523⟩, st523⟩ := X0.virtualBack hx (y := mN21) (z := mN21) hown (own_v hZ hw 70 rfl) (own_v hZ hw 71 rfl) (notFace_of_selects (args := #[]) (own_v hZ hw 73 rfl)) (own_v hZ hw 73 rfl) (own_v hZ hw 72 rfl) (by decide) (backOf (W := 1) (rm_scoder l Z a0 hw [] a1 zc cd h0 OL p2_ st_C hzc hs.bt) hZ (own_w hw 74 rfl) (own_w hw 4 rfl) (by decide) (by decide)) q523a q523c (g := (mkF m 14 #[.val (.ref a1), .val (.ref ac)] [(.ref a1), (.ref ac)])) rfl (by rw [hml]; rfl) (Steps.refl _) (argsL := []) (rest := [(.ref ac)]) (lenOf pd_633 rfl) rfl (by show 2 * 0 + _ ≤ _; exact Nat.le_of_eq rfl) (hb hby dj42_64_14) (fun _ _ => ⟨rfl, e0, (by decide : 0 + 0 ≤ _), (by decide : 0 + 0 ≤ _)⟩)
  dsimp only [Pt.U, Pt.locs, Pt.cells, Pt.slots] at X523 l523 y523 z523 st523 hQ523
  subst l523 y523 z523
  obtain ⟨rfl, N523q, K523⟩ := hQ523
  have N523 := Fr.app N0 N523q
  refine oG.tr st523 ?_
  refine oG.st (fun _ k => XS.aloadN X523.here hx rfl (hb hby dj42_64_17) rfl rfl k) ?_
  show oG _ _ _ _ (T523.setTop (mkF m 18 #[.val (.ref a1), .val (.ref ac)] [(.ref a1), (.int cd), (.ref ac)]))
  obtain ⟨T524, X524, e524, st524⟩ := getF X523 hx hZ hown (host := "") (Or.inl (own_w hw 24 rfl)) Via.refl K523 p1_ (g := (mkF m 18 #[.val (.ref a1), .val (.ref ac)] [(.ref a1), (.int cd), (.ref ac)])) rfl rfl (hb hby dj42_64_18)
  refine oG.st st524 ?_
  show oG _ _ _ _ (T524.setTop (mkF m 21 #[.val (.ref a1), .val (.ref ac)] [(.ref a3), (.int cd), (.ref ac)]))
  obtain ⟨_, _, ⟨T525, L525, k525, n525⟩, -, X525, ⟨Lc525, hQ525, l525, y525, z525⟩, st525⟩ := Jvm.LawKit.callS X524 hx (y := mN22) hown (own_v hZ hw 75 rfl) (own_v hZ hw 76 rfl) (own_v hZ hw 4 rfl) (own_v hZ hw 77 rfl) (by decide) (backOf (W := 0) (rm_sencode l Z a0 hw [] ac cd a3 cs ka N2 vs h0 OL p3_ p4_ st_INSTANCE st_A st_H st_L hs) hZ (own_w hw 77 rfl) (own_w hw 4 rfl) (by decide) (by decide)) (g := (mkF m 21 #[.val (.ref a1), .val (.ref ac)] [(.ref a3), (.int cd), (.ref ac)])) rfl (by rw [hml]; rfl) (argsL := [(.ref ac), (.int cd), (.ref a3)]) (rest := []) (lenOf pd_637 rfl) rfl (by show 2 * 0 + _ ≤ _; exact Nat.le_of_eq rfl) (hb hby dj42_64_21) (fun _ _ => ⟨rfl, e524, (by decide : 0 + 2 ≤ _), (by decide : 0 + 5 ≤ _)⟩)
  dsimp only [Pt.U, Pt.locs, Pt.cells, Pt.slots] at X525 l525 y525 z525 st525 hQ525
  subst l525 y525 z525
  obtain ⟨x_525, k_525, rfl, N525q, K525, f525_0, pr525_0⟩ := hQ525
  have N525 := Fr.app N523 N525q
  have z525 : h0.size ≤ T525.heap.size := K525.1
  have lt525_0 : @LT.lt Nat _ x_525 T525.heap.size := f525_0.lt
  refine oG.st st525 ?_
  show oG _ _ _ _ (T525.setTop (mkF m 24 #[.val (.ref a1), .val (.ref ac)] [(.ref x_525)]))
  obtain ⟨fs526, hr526, hrun526, hend526, hW526, hsm526⟩ := X525.leave (v := some (.ref x_525)) (fun h => by rw [Bd.returns] at h; cases h)
  have K527 : Keep h0 T525.heap [] := (Keep.refl h0 []).trans K525 all0
  subst hPP
  refine ⟨_, _, own_retA X525 hx Bd.returns rfl rfl (hb hby dj42_64_24) hr526, hrun526, hend526, _, _, rfl, ?_, ⟨_, rfl⟩, hW526, hsm526.mono (by decide) (by decide)⟩
  · show Q_getBytes Z _ _ _ _ _ _ _ _ _ h0 _ T525.heap _
    exact ⟨x_525, k_525, rfl, N525, K527, f525_0, (by omega)⟩
theorem pn_640 : plainName "com/example/vigilant_gate/vigilantgate/PercentEncoding" = true := by first | (simp [plainName, overriddenIn]; done) | decide +kernel
theorem dp12_3_36 : decode cJ36 36 = .ok (.iload_n 0, 1) := by decide +kernel
theorem dp12_3_37 : decode cJ36 37 = .ok (.bipush 45, 2) := by decide +kernel
theorem dp12_3_39 : decode cJ36 39 = .ok (.if_icmp .eq 21, 3) := by decide +kernel
theorem dp12_3_60 : decode cJ36 60 = .ok (.iconst 1, 1) := by decide +kernel
theorem dp12_3_61 : decode cJ36 61 = .ok (.goto 4, 3) := by decide +kernel
theorem dp12_3_65 : decode cJ36 65 = .ok (.ireturn, 1) := by decide +kernel
theorem dp12_3_42 : decode cJ36 42 = .ok (.iload_n 0, 1) := by decide +kernel
theorem dp12_3_43 : decode cJ36 43 = .ok (.bipush 95, 2) := by decide +kernel
theorem dp12_3_45 : decode cJ36 45 = .ok (.if_icmp .eq 15, 3) := by decide +kernel
theorem dp12_3_48 : decode cJ36 48 = .ok (.iload_n 0, 1) := by decide +kernel
theorem dp12_3_49 : decode cJ36 49 = .ok (.bipush 46, 2) := by decide +kernel
theorem dp12_3_51 : decode cJ36 51 = .ok (.if_icmp .eq 9, 3) := by decide +kernel
theorem dp12_3_54 : decode cJ36 54 = .ok (.iload_n 0, 1) := by decide +kernel
theorem dp12_3_55 : decode cJ36 55 = .ok (.bipush 126, 2) := by decide +kernel
theorem dp12_3_57 : decode cJ36 57 = .ok (.if_icmp .ne 7, 3) := by decide +kernel
theorem dp12_3_64 : decode cJ36 64 = .ok (.iconst 0, 1) := by decide +kernel
theorem dp12_3_24 : decode cJ36 24 = .ok (.iload_n 0, 1) := by decide +kernel
theorem dp12_3_25 : decode cJ36 25 = .ok (.bipush 48, 2) := by decide +kernel
theorem dp12_3_27 : decode cJ36 27 = .ok (.if_icmp .lt 9, 3) := by decide +kernel
theorem dp12_3_30 : decode cJ36 30 = .ok (.iload_n 0, 1) := by decide +kernel
theorem dp12_3_31 : decode cJ36 31 = .ok (.bipush 57, 2) := by decide +kernel
theorem dp12_3_33 : decode cJ36 33 = .ok (.if_icmp .le 27, 3) := by decide +kernel
theorem dp12_3_12 : decode cJ36 12 = .ok (.iload_n 0, 1) := by decide +kernel
theorem dp12_3_13 : decode cJ36 13 = .ok (.bipush 97, 2) := by decide +kernel
theorem dp12_3_15 : decode cJ36 15 = .ok (.if_icmp .lt 9, 3) := by decide +kernel
theorem dp12_3_18 : decode cJ36 18 = .ok (.iload_n 0, 1) := by decide +kernel
theorem dp12_3_19 : decode cJ36 19 = .ok (.bipush 122, 2) := by decide +kernel
theorem dp12_3_21 : decode cJ36 21 = .ok (.if_icmp .le 39, 3) := by decide +kernel
theorem dp12_3_0 : decode cJ36 0 = .ok (.iload_n 0, 1) := by decide +kernel
theorem dp12_3_1 : decode cJ36 1 = .ok (.bipush 65, 2) := by decide +kernel
theorem dp12_3_3 : decode cJ36 3 = .ok (.if_icmp .lt 9, 3) := by decide +kernel
theorem dp12_3_6 : decode cJ36 6 = .ok (.iload_n 0, 1) := by decide +kernel
theorem dp12_3_7 : decode cJ36 7 = .ok (.bipush 90, 2) := by decide +kernel
theorem dp12_3_9 : decode cJ36 9 = .ok (.if_icmp .le 51, 3) := by decide +kernel
def Q_isUnr (Z : State) (p1 : Int32) (h0 : Heap) (v : Option Value) (h : Heap) (L : List Loc) : Prop := v = some (.int (own_unr p1)) ∧ Fr Z.heap.size L ∧ h = h0
set_option maxRecDepth 65536 in
set_option maxHeartbeats 40000000 in
theorem rm_isUnr (l : Launch) (Z : State) (a0 : Array Value) (hw : ∀ d ∈ tables_1, d.before a0 Z = true) (ws : List Jvm.Cond) (p1 : Int32) (h0 : Heap) (OL : Old Z Z.heap.size h0) :
    MetFree l mN1 (head1 (Jvm.Cond.code mN1 prog_12_method_3_code 1 (some .boolean) :: ws) rM0) (fun a U => a = #[(.int p1)] ∧ Z.Warmed39 U.vm ∧ U.heap = h0) (fun _ _ _ _ _ => True) (fun _ U o U' => ∃ v L, o = .returned v ∧ Q_isUnr Z p1 h0 v U'.heap L ∧ FrameEnd U o U' L rM0.cells rM0.slots) := by
  refine MetFree.of_bodySF (plainFor_of_name pn_640) hisR ?_
  intro p e s m args below meth c s₁ Bd hml0 hP hK
  obtain ⟨rfl, hZ, hh⟩ := hP
  have hx := Bd.exec
  have hby := Bd.bytes
  have hml : c.maxLocals = 1 := hml0
  have hown : s.vm.findClass "com/example/vigilant_gate/vigilantgate/PercentEncoding" = some m.cls := findClass_of_methodNamed Bd.named
  have hnm := (name_of_methodNamed Bd.named Bd.method).1
  have X0 : Stand p l e rM0 s m #[(.int p1)] below meth c s₁ [] 0 0 := Stand.of_body Bd
  have e0 : s₁.heap = h0 := by rw [← hh, Bd.state]; rfl
  have N0 := Fr.nil Z.heap.size
  have Z0 : Z.heap.size ≤ h0.size := OL.2.1
  show oG p.tables e below (fun o tE => ∃ v L, o = .returned v ∧ Q_isUnr Z p1 h0 v tE.heap L ∧ FrameEnd s o tE L rM0.cells rM0.slots) (s₁.setTop (entryFrame m #[(.int p1)] 1))
  refine own_hd (fun PP hPP => ?_)
  refine oG.st (fun t k => castTop (ef_178 m p1) k) ?_
  show oG _ _ _ _ (s₁.setTop (mkF m 0 #[.val (.int p1)] []))
  have J528 : ∀ (jj1 : Nat), (own_unr p1 = own_u1 p1) → oG p.tables e below PP (s₁.setTop (mkF m 12 #[.val (.int p1)] [])) := by
    intro jj1 hJ528
    have hu1 := hJ528
    have J529 : ∀ (jj2 : Nat), (own_unr p1 = own_u2 p1) → oG p.tables e below PP (s₁.setTop (mkF m 24 #[.val (.int p1)] [])) := by
      intro jj2 hJ529
      have hu2 := hJ529
      have J530 : ∀ (jj3 : Nat), (own_unr p1 = own_u3 p1) → oG p.tables e below PP (s₁.setTop (mkF m 36 #[.val (.int p1)] [])) := by
        intro jj3 hJ530
        have hu3 := hJ530
        refine oG.st (fun _ k => XS.iloadN X0.here hx rfl (hb hby dp12_3_36) rfl (XS.bipush X0.here hx rfl (hb hby dp12_3_37) k)) ?_
        show oG _ _ _ _ (s₁.setTop (mkF m 39 #[.val (.int p1)] [(.int (45 : Int32)), (.int p1)]))
        by_cases hc531 : p1 = (45 : Int32)
        ·
          refine oG.st (fun _ k => XS.icmpYes X0.here hx rfl (pc0 := 39) (pc' := 60) rfl (hb hby dp12_3_39) rfl (teq hc531).1 (by decide) (by decide) k) ?_
          refine oG.st (fun _ k => XS.iconst X0.here hx rfl (hb hby dp12_3_60) (XS.goto X0.here hx rfl (pc0 := 61) (pc' := 65) rfl (hb hby dp12_3_61) (by decide) (by decide) k)) ?_
          show oG _ _ _ _ (s₁.setTop (mkF m 65 #[.val (.int p1)] [(.int (1 : Int32))]))
          obtain ⟨fs532, hr532, hrun532, hend532, hW532, hsm532⟩ := X0.leave (v := some (.int (nar .boolean (1 : Int32)))) (fun h => by rw [Bd.returns] at h; cases h)
          subst hPP
          refine ⟨_, _, retN X0 hx (t := .boolean) Bd.returns (by simp) (hb hby dp12_3_65) hr532, hrun532, hend532, _, _, rfl, ?_, ⟨_, rfl⟩, hW532, hsm532.mono (by decide) (by decide)⟩
          · show Q_isUnr Z _ h0 _ s₁.heap _
            rw [e0]
            exact ⟨(by rw [hu3, own_u3]; simp only [hc531, if_true, if_false, ↓reduceIte]; first | done | rfl), N0, rfl⟩
        ·
          refine oG.st (fun _ k => XS.icmpNo X0.here hx rfl (hb hby dp12_3_39) rfl (feq hc531).1 k) ?_
          refine oG.st (fun _ k => XS.iloadN X0.here hx rfl (hb hby dp12_3_42) rfl (XS.bipush X0.here hx rfl (hb hby dp12_3_43) k)) ?_
          show oG _ _ _ _ (s₁.setTop (mkF m 45 #[.val (.int p1)] [(.int (95 : Int32)), (.int p1)]))
          by_cases hc533 : p1 = (95 : Int32)
          ·
            refine oG.st (fun _ k => XS.icmpYes X0.here hx rfl (pc0 := 45) (pc' := 60) rfl (hb hby dp12_3_45) rfl (teq hc533).1 (by decide) (by decide) k) ?_
            refine oG.st (fun _ k => XS.iconst X0.here hx rfl (hb hby dp12_3_60) (XS.goto X0.here hx rfl (pc0 := 61) (pc' := 65) rfl (hb hby dp12_3_61) (by decide) (by decide) k)) ?_
            show oG _ _ _ _ (s₁.setTop (mkF m 65 #[.val (.int p1)] [(.int (1 : Int32))]))
            obtain ⟨fs534, hr534, hrun534, hend534, hW534, hsm534⟩ := X0.leave (v := some (.int (nar .boolean (1 : Int32)))) (fun h => by rw [Bd.returns] at h; cases h)
            subst hPP
            refine ⟨_, _, retN X0 hx (t := .boolean) Bd.returns (by simp) (hb hby dp12_3_65) hr534, hrun534, hend534, _, _, rfl, ?_, ⟨_, rfl⟩, hW534, hsm534.mono (by decide) (by decide)⟩
            · show Q_isUnr Z _ h0 _ s₁.heap _
              rw [e0]
              exact ⟨(by rw [hu3, own_u3]; simp only [hc531, hc533, if_true, if_false, ↓reduceIte]; first | done | rfl), N0, rfl⟩
          ·
            refine oG.st (fun _ k => XS.icmpNo X0.here hx rfl (hb hby dp12_3_45) rfl (feq hc533).1 k) ?_
            refine oG.st (fun _ k => XS.iloadN X0.here hx rfl (hb hby dp12_3_48) rfl (XS.bipush X0.here hx rfl (hb hby dp12_3_49) k)) ?_
            show oG _ _ _ _ (s₁.setTop (mkF m 51 #[.val (.int p1)] [(.int (46 : Int32)), (.int p1)]))
            by_cases hc535 : p1 = (46 : Int32)
            ·
              refine oG.st (fun _ k => XS.icmpYes X0.here hx rfl (pc0 := 51) (pc' := 60) rfl (hb hby dp12_3_51) rfl (teq hc535).1 (by decide) (by decide) k) ?_
              refine oG.st (fun _ k => XS.iconst X0.here hx rfl (hb hby dp12_3_60) (XS.goto X0.here hx rfl (pc0 := 61) (pc' := 65) rfl (hb hby dp12_3_61) (by decide) (by decide) k)) ?_
              show oG _ _ _ _ (s₁.setTop (mkF m 65 #[.val (.int p1)] [(.int (1 : Int32))]))
              obtain ⟨fs536, hr536, hrun536, hend536, hW536, hsm536⟩ := X0.leave (v := some (.int (nar .boolean (1 : Int32)))) (fun h => by rw [Bd.returns] at h; cases h)
              subst hPP
              refine ⟨_, _, retN X0 hx (t := .boolean) Bd.returns (by simp) (hb hby dp12_3_65) hr536, hrun536, hend536, _, _, rfl, ?_, ⟨_, rfl⟩, hW536, hsm536.mono (by decide) (by decide)⟩
              · show Q_isUnr Z _ h0 _ s₁.heap _
                rw [e0]
                exact ⟨(by rw [hu3, own_u3]; simp only [hc531, hc533, hc535, if_true, if_false, ↓reduceIte]; first | done | rfl), N0, rfl⟩
            ·
              refine oG.st (fun _ k => XS.icmpNo X0.here hx rfl (hb hby dp12_3_51) rfl (feq hc535).1 k) ?_
              refine oG.st (fun _ k => XS.iloadN X0.here hx rfl (hb hby dp12_3_54) rfl (XS.bipush X0.here hx rfl (hb hby dp12_3_55) k)) ?_
              show oG _ _ _ _ (s₁.setTop (mkF m 57 #[.val (.int p1)] [(.int (126 : Int32)), (.int p1)]))
              by_cases hc537 : p1 = (126 : Int32)
              ·
                refine oG.st (fun _ k => XS.icmpNo X0.here hx rfl (hb hby dp12_3_57) rfl (teq hc537).2 k) ?_
                refine oG.st (fun _ k => XS.iconst X0.here hx rfl (hb hby dp12_3_60) (XS.goto X0.here hx rfl (pc0 := 61) (pc' := 65) rfl (hb hby dp12_3_61) (by decide) (by decide) k)) ?_
                show oG _ _ _ _ (s₁.setTop (mkF m 65 #[.val (.int p1)] [(.int (1 : Int32))]))
                obtain ⟨fs538, hr538, hrun538, hend538, hW538, hsm538⟩ := X0.leave (v := some (.int (nar .boolean (1 : Int32)))) (fun h => by rw [Bd.returns] at h; cases h)
                subst hPP
                refine ⟨_, _, retN X0 hx (t := .boolean) Bd.returns (by simp) (hb hby dp12_3_65) hr538, hrun538, hend538, _, _, rfl, ?_, ⟨_, rfl⟩, hW538, hsm538.mono (by decide) (by decide)⟩
                · show Q_isUnr Z _ h0 _ s₁.heap _
                  rw [e0]
                  exact ⟨(by rw [hu3, own_u3]; simp only [hc531, hc533, hc535, hc537, if_true, if_false, ↓reduceIte]; first | done | rfl), N0, rfl⟩
              ·
                refine oG.st (fun _ k => XS.icmpYes X0.here hx rfl (pc0 := 57) (pc' := 64) rfl (hb hby dp12_3_57) rfl (feq hc537).2 (by decide) (by decide) k) ?_
                refine oG.st (fun _ k => XS.iconst X0.here hx rfl (hb hby dp12_3_64) k) ?_
                show oG _ _ _ _ (s₁.setTop (mkF m 65 #[.val (.int p1)] [(.int (0 : Int32))]))
                obtain ⟨fs539, hr539, hrun539, hend539, hW539, hsm539⟩ := X0.leave (v := some (.int (nar .boolean (0 : Int32)))) (fun h => by rw [Bd.returns] at h; cases h)
                subst hPP
                refine ⟨_, _, retN X0 hx (t := .boolean) Bd.returns (by simp) (hb hby dp12_3_65) hr539, hrun539, hend539, _, _, rfl, ?_, ⟨_, rfl⟩, hW539, hsm539.mono (by decide) (by decide)⟩
                · show Q_isUnr Z _ h0 _ s₁.heap _
                  rw [e0]
                  exact ⟨(by rw [hu3, own_u3]; simp only [hc531, hc533, hc535, hc537, if_true, if_false, ↓reduceIte]; first | done | rfl), N0, rfl⟩
      refine oG.st (fun _ k => XS.iloadN X0.here hx rfl (hb hby dp12_3_24) rfl (XS.bipush X0.here hx rfl (hb hby dp12_3_25) k)) ?_
      show oG _ _ _ _ (s₁.setTop (mkF m 27 #[.val (.int p1)] [(.int (48 : Int32)), (.int p1)]))
      by_cases hc540 : p1 < (48 : Int32)
      ·
        refine oG.st (fun _ k => XS.icmpYes X0.here hx rfl (pc0 := 27) (pc' := 36) rfl (hb hby dp12_3_27) rfl (tlt hc540).1 (by decide) (by decide) k) ?_
        show oG _ _ _ _ (s₁.setTop (mkF m 36 #[.val (.int p1)] []))
        exact J530 0 (by rw [hu2, own_u2, if_pos hc540])
      ·
        refine oG.st (fun _ k => XS.icmpNo X0.here hx rfl (hb hby dp12_3_27) rfl (flt hc540).1 k) ?_
        refine oG.st (fun _ k => XS.iloadN X0.here hx rfl (hb hby dp12_3_30) rfl (XS.bipush X0.here hx rfl (hb hby dp12_3_31) k)) ?_
        show oG _ _ _ _ (s₁.setTop (mkF m 33 #[.val (.int p1)] [(.int (57 : Int32)), (.int p1)]))
        by_cases hc541 : (57 : Int32) < p1
        ·
          refine oG.st (fun _ k => XS.icmpNo X0.here hx rfl (hb hby dp12_3_33) rfl (tlt hc541).2.2.2 k) ?_
          show oG _ _ _ _ (s₁.setTop (mkF m 36 #[.val (.int p1)] []))
          exact J530 0 (by rw [hu2, own_u2, if_neg hc540, if_pos hc541])
        ·
          refine oG.st (fun _ k => XS.icmpYes X0.here hx rfl (pc0 := 33) (pc' := 60) rfl (hb hby dp12_3_33) rfl (flt hc541).2.2.2 (by decide) (by decide) k) ?_
          refine oG.st (fun _ k => XS.iconst X0.here hx rfl (hb hby dp12_3_60) (XS.goto X0.here hx rfl (pc0 := 61) (pc' := 65) rfl (hb hby dp12_3_61) (by decide) (by decide) k)) ?_
          show oG _ _ _ _ (s₁.setTop (mkF m 65 #[.val (.int p1)] [(.int (1 : Int32))]))
          obtain ⟨fs542, hr542, hrun542, hend542, hW542, hsm542⟩ := X0.leave (v := some (.int (nar .boolean (1 : Int32)))) (fun h => by rw [Bd.returns] at h; cases h)
          subst hPP
          refine ⟨_, _, retN X0 hx (t := .boolean) Bd.returns (by simp) (hb hby dp12_3_65) hr542, hrun542, hend542, _, _, rfl, ?_, ⟨_, rfl⟩, hW542, hsm542.mono (by decide) (by decide)⟩
          · show Q_isUnr Z _ h0 _ s₁.heap _
            rw [e0]
            exact ⟨(by rw [hu2, own_u2]; simp only [hc540, hc541, if_true, if_false, ↓reduceIte]; first | done | rfl), N0, rfl⟩
    refine oG.st (fun _ k => XS.iloadN X0.here hx rfl (hb hby dp12_3_12) rfl (XS.bipush X0.here hx rfl (hb hby dp12_3_13) k)) ?_
    show oG _ _ _ _ (s₁.setTop (mkF m 15 #[.val (.int p1)] [(.int (97 : Int32)), (.int p1)]))
    by_cases hc543 : p1 < (97 : Int32)
    ·
      refine oG.st (fun _ k => XS.icmpYes X0.here hx rfl (pc0 := 15) (pc' := 24) rfl (hb hby dp12_3_15) rfl (tlt hc543).1 (by decide) (by decide) k) ?_
      show oG _ _ _ _ (s₁.setTop (mkF m 24 #[.val (.int p1)] []))
      exact J529 0 (by rw [hu1, own_u1, if_pos hc543])
    ·
      refine oG.st (fun _ k => XS.icmpNo X0.here hx rfl (hb hby dp12_3_15) rfl (flt hc543).1 k) ?_
      refine oG.st (fun _ k => XS.iloadN X0.here hx rfl (hb hby dp12_3_18) rfl (XS.bipush X0.here hx rfl (hb hby dp12_3_19) k)) ?_
      show oG _ _ _ _ (s₁.setTop (mkF m 21 #[.val (.int p1)] [(.int (122 : Int32)), (.int p1)]))
      by_cases hc544 : (122 : Int32) < p1
      ·
        refine oG.st (fun _ k => XS.icmpNo X0.here hx rfl (hb hby dp12_3_21) rfl (tlt hc544).2.2.2 k) ?_
        show oG _ _ _ _ (s₁.setTop (mkF m 24 #[.val (.int p1)] []))
        exact J529 0 (by rw [hu1, own_u1, if_neg hc543, if_pos hc544])
      ·
        refine oG.st (fun _ k => XS.icmpYes X0.here hx rfl (pc0 := 21) (pc' := 60) rfl (hb hby dp12_3_21) rfl (flt hc544).2.2.2 (by decide) (by decide) k) ?_
        refine oG.st (fun _ k => XS.iconst X0.here hx rfl (hb hby dp12_3_60) (XS.goto X0.here hx rfl (pc0 := 61) (pc' := 65) rfl (hb hby dp12_3_61) (by decide) (by decide) k)) ?_
        show oG _ _ _ _ (s₁.setTop (mkF m 65 #[.val (.int p1)] [(.int (1 : Int32))]))
        obtain ⟨fs545, hr545, hrun545, hend545, hW545, hsm545⟩ := X0.leave (v := some (.int (nar .boolean (1 : Int32)))) (fun h => by rw [Bd.returns] at h; cases h)
        subst hPP
        refine ⟨_, _, retN X0 hx (t := .boolean) Bd.returns (by simp) (hb hby dp12_3_65) hr545, hrun545, hend545, _, _, rfl, ?_, ⟨_, rfl⟩, hW545, hsm545.mono (by decide) (by decide)⟩
        · show Q_isUnr Z _ h0 _ s₁.heap _
          rw [e0]
          exact ⟨(by rw [hu1, own_u1]; simp only [hc543, hc544, if_true, if_false, ↓reduceIte]; first | done | rfl), N0, rfl⟩
  refine oG.st (fun _ k => XS.iloadN X0.here hx rfl (hb hby dp12_3_0) rfl (XS.bipush X0.here hx rfl (hb hby dp12_3_1) k)) ?_
  show oG _ _ _ _ (s₁.setTop (mkF m 3 #[.val (.int p1)] [(.int (65 : Int32)), (.int p1)]))
  by_cases hc546 : p1 < (65 : Int32)
  ·
    refine oG.st (fun _ k => XS.icmpYes X0.here hx rfl (pc0 := 3) (pc' := 12) rfl (hb hby dp12_3_3) rfl (tlt hc546).1 (by decide) (by decide) k) ?_
    show oG _ _ _ _ (s₁.setTop (mkF m 12 #[.val (.int p1)] []))
    exact J528 0 (by rw [own_unr, if_pos hc546])
  ·
    refine oG.st (fun _ k => XS.icmpNo X0.here hx rfl (hb hby dp12_3_3) rfl (flt hc546).1 k) ?_
    refine oG.st (fun _ k => XS.iloadN X0.here hx rfl (hb hby dp12_3_6) rfl (XS.bipush X0.here hx rfl (hb hby dp12_3_7) k)) ?_
    show oG _ _ _ _ (s₁.setTop (mkF m 9 #[.val (.int p1)] [(.int (90 : Int32)), (.int p1)]))
    by_cases hc547 : (90 : Int32) < p1
    ·
      refine oG.st (fun _ k => XS.icmpNo X0.here hx rfl (hb hby dp12_3_9) rfl (tlt hc547).2.2.2 k) ?_
      show oG _ _ _ _ (s₁.setTop (mkF m 12 #[.val (.int p1)] []))
      exact J528 0 (by rw [own_unr, if_neg hc546, if_pos hc547])
    ·
      refine oG.st (fun _ k => XS.icmpYes X0.here hx rfl (pc0 := 9) (pc' := 60) rfl (hb hby dp12_3_9) rfl (flt hc547).2.2.2 (by decide) (by decide) k) ?_
      refine oG.st (fun _ k => XS.iconst X0.here hx rfl (hb hby dp12_3_60) (XS.goto X0.here hx rfl (pc0 := 61) (pc' := 65) rfl (hb hby dp12_3_61) (by decide) (by decide) k)) ?_
      show oG _ _ _ _ (s₁.setTop (mkF m 65 #[.val (.int p1)] [(.int (1 : Int32))]))
      obtain ⟨fs548, hr548, hrun548, hend548, hW548, hsm548⟩ := X0.leave (v := some (.int (nar .boolean (1 : Int32)))) (fun h => by rw [Bd.returns] at h; cases h)
      subst hPP
      refine ⟨_, _, retN X0 hx (t := .boolean) Bd.returns (by simp) (hb hby dp12_3_65) hr548, hrun548, hend548, _, _, rfl, ?_, ⟨_, rfl⟩, hW548, hsm548.mono (by decide) (by decide)⟩
      · show Q_isUnr Z _ h0 _ s₁.heap _
        rw [e0]
        exact ⟨(by rw [own_unr]; simp only [hc546, hc547, if_true, if_false, ↓reduceIte]; first | done | rfl), N0, rfl⟩
theorem pn_675 : plainName "com/example/vigilant_gate/vigilantgate/PercentEncodingEncodePinLaw" = true := by first | (simp [plainName, overriddenIn]; done) | decide +kernel
theorem d_method_3_42 : decode cJ31 42 = .ok (.iload_n 0, 1) := by decide +kernel
theorem d_method_3_43 : decode cJ31 43 = .ok (.bipush 45, 2) := by decide +kernel
theorem d_method_3_45 : decode cJ31 45 = .ok (.if_icmp .eq 21, 3) := by decide +kernel
theorem d_method_3_66 : decode cJ31 66 = .ok (.iconst 1, 1) := by decide +kernel
theorem d_method_3_67 : decode cJ31 67 = .ok (.goto 4, 3) := by decide +kernel
theorem d_method_3_71 : decode cJ31 71 = .ok (.ireturn, 1) := by decide +kernel
theorem d_method_3_48 : decode cJ31 48 = .ok (.iload_n 0, 1) := by decide +kernel
theorem d_method_3_49 : decode cJ31 49 = .ok (.bipush 95, 2) := by decide +kernel
theorem d_method_3_51 : decode cJ31 51 = .ok (.if_icmp .eq 15, 3) := by decide +kernel
theorem d_method_3_54 : decode cJ31 54 = .ok (.iload_n 0, 1) := by decide +kernel
theorem d_method_3_55 : decode cJ31 55 = .ok (.bipush 46, 2) := by decide +kernel
theorem d_method_3_57 : decode cJ31 57 = .ok (.if_icmp .eq 9, 3) := by decide +kernel
theorem d_method_3_60 : decode cJ31 60 = .ok (.iload_n 0, 1) := by decide +kernel
theorem d_method_3_61 : decode cJ31 61 = .ok (.bipush 126, 2) := by decide +kernel
theorem d_method_3_63 : decode cJ31 63 = .ok (.if_icmp .ne 7, 3) := by decide +kernel
theorem d_method_3_70 : decode cJ31 70 = .ok (.iconst 0, 1) := by decide +kernel
theorem d_method_3_28 : decode cJ31 28 = .ok (.iload_n 0, 1) := by decide +kernel
theorem d_method_3_29 : decode cJ31 29 = .ok (.bipush 48, 2) := by decide +kernel
theorem d_method_3_31 : decode cJ31 31 = .ok (.if_icmp .lt 11, 3) := by decide +kernel
theorem d_method_3_34 : decode cJ31 34 = .ok (.iload_n 0, 1) := by decide +kernel
theorem d_method_3_35 : decode cJ31 35 = .ok (.bipush 57, 2) := by decide +kernel
theorem d_method_3_37 : decode cJ31 37 = .ok (.if_icmp .gt 5, 3) := by decide +kernel
theorem d_method_3_40 : decode cJ31 40 = .ok (.iconst 1, 1) := by decide +kernel
theorem d_method_3_41 : decode cJ31 41 = .ok (.ireturn, 1) := by decide +kernel
theorem d_method_3_14 : decode cJ31 14 = .ok (.iload_n 0, 1) := by decide +kernel
theorem d_method_3_15 : decode cJ31 15 = .ok (.bipush 97, 2) := by decide +kernel
theorem d_method_3_17 : decode cJ31 17 = .ok (.if_icmp .lt 11, 3) := by decide +kernel
theorem d_method_3_20 : decode cJ31 20 = .ok (.iload_n 0, 1) := by decide +kernel
theorem d_method_3_21 : decode cJ31 21 = .ok (.bipush 122, 2) := by decide +kernel
theorem d_method_3_23 : decode cJ31 23 = .ok (.if_icmp .gt 5, 3) := by decide +kernel
theorem d_method_3_26 : decode cJ31 26 = .ok (.iconst 1, 1) := by decide +kernel
theorem d_method_3_27 : decode cJ31 27 = .ok (.ireturn, 1) := by decide +kernel
theorem d_method_3_0 : decode cJ31 0 = .ok (.iload_n 0, 1) := by decide +kernel
theorem d_method_3_1 : decode cJ31 1 = .ok (.bipush 65, 2) := by decide +kernel
theorem d_method_3_3 : decode cJ31 3 = .ok (.if_icmp .lt 11, 3) := by decide +kernel
theorem d_method_3_6 : decode cJ31 6 = .ok (.iload_n 0, 1) := by decide +kernel
theorem d_method_3_7 : decode cJ31 7 = .ok (.bipush 90, 2) := by decide +kernel
theorem d_method_3_9 : decode cJ31 9 = .ok (.if_icmp .gt 5, 3) := by decide +kernel
theorem d_method_3_12 : decode cJ31 12 = .ok (.iconst 1, 1) := by decide +kernel
theorem d_method_3_13 : decode cJ31 13 = .ok (.ireturn, 1) := by decide +kernel
def Q_lawUnr (Z : State) (p1 : Int32) (h0 : Heap) (v : Option Value) (h : Heap) (L : List Loc) : Prop := v = some (.int (own_unr p1)) ∧ Fr Z.heap.size L ∧ h = h0
set_option maxRecDepth 65536 in
set_option maxHeartbeats 40000000 in
theorem rm_lawUnr (l : Launch) (Z : State) (a0 : Array Value) (hw : ∀ d ∈ tables_1, d.before a0 Z = true) (ws : List Jvm.Cond) (p1 : Int32) (h0 : Heap) (OL : Old Z Z.heap.size h0) :
    MetFree l mN5 (head1 (Jvm.Cond.code mN5 method_3_code 1 (some .boolean) :: ws) rM0) (fun a U => a = #[(.int p1)] ∧ Z.Warmed39 U.vm ∧ U.heap = h0) (fun _ _ _ _ _ => True) (fun _ U o U' => ∃ v L, o = .returned v ∧ Q_lawUnr Z p1 h0 v U'.heap L ∧ FrameEnd U o U' L rM0.cells rM0.slots) := by
  refine MetFree.of_bodySF (plainFor_of_name pn_675) hisR ?_
  intro p e s m args below meth c s₁ Bd hml0 hP hK
  obtain ⟨rfl, hZ, hh⟩ := hP
  have hx := Bd.exec
  have hby := Bd.bytes
  have hml : c.maxLocals = 1 := hml0
  have hown : s.vm.findClass "com/example/vigilant_gate/vigilantgate/PercentEncodingEncodePinLaw" = some m.cls := findClass_of_methodNamed Bd.named
  have hnm := (name_of_methodNamed Bd.named Bd.method).1
  have X0 : Stand p l e rM0 s m #[(.int p1)] below meth c s₁ [] 0 0 := Stand.of_body Bd
  have e0 : s₁.heap = h0 := by rw [← hh, Bd.state]; rfl
  have N0 := Fr.nil Z.heap.size
  have Z0 : Z.heap.size ≤ h0.size := OL.2.1
  show oG p.tables e below (fun o tE => ∃ v L, o = .returned v ∧ Q_lawUnr Z p1 h0 v tE.heap L ∧ FrameEnd s o tE L rM0.cells rM0.slots) (s₁.setTop (entryFrame m #[(.int p1)] 1))
  refine own_hd (fun PP hPP => ?_)
  refine oG.st (fun t k => castTop (ef_178 m p1) k) ?_
  show oG _ _ _ _ (s₁.setTop (mkF m 0 #[.val (.int p1)] []))
  have J549 : ∀ (jj1 : Nat), (own_unr p1 = own_u1 p1) → oG p.tables e below PP (s₁.setTop (mkF m 14 #[.val (.int p1)] [])) := by
    intro jj1 hJ549
    have hu1 := hJ549
    have J550 : ∀ (jj2 : Nat), (own_unr p1 = own_u2 p1) → oG p.tables e below PP (s₁.setTop (mkF m 28 #[.val (.int p1)] [])) := by
      intro jj2 hJ550
      have hu2 := hJ550
      have J551 : ∀ (jj3 : Nat), (own_unr p1 = own_u3 p1) → oG p.tables e below PP (s₁.setTop (mkF m 42 #[.val (.int p1)] [])) := by
        intro jj3 hJ551
        have hu3 := hJ551
        refine oG.st (fun _ k => XS.iloadN X0.here hx rfl (hb hby d_method_3_42) rfl (XS.bipush X0.here hx rfl (hb hby d_method_3_43) k)) ?_
        show oG _ _ _ _ (s₁.setTop (mkF m 45 #[.val (.int p1)] [(.int (45 : Int32)), (.int p1)]))
        by_cases hc552 : p1 = (45 : Int32)
        ·
          refine oG.st (fun _ k => XS.icmpYes X0.here hx rfl (pc0 := 45) (pc' := 66) rfl (hb hby d_method_3_45) rfl (teq hc552).1 (by decide) (by decide) k) ?_
          refine oG.st (fun _ k => XS.iconst X0.here hx rfl (hb hby d_method_3_66) (XS.goto X0.here hx rfl (pc0 := 67) (pc' := 71) rfl (hb hby d_method_3_67) (by decide) (by decide) k)) ?_
          show oG _ _ _ _ (s₁.setTop (mkF m 71 #[.val (.int p1)] [(.int (1 : Int32))]))
          obtain ⟨fs553, hr553, hrun553, hend553, hW553, hsm553⟩ := X0.leave (v := some (.int (nar .boolean (1 : Int32)))) (fun h => by rw [Bd.returns] at h; cases h)
          subst hPP
          refine ⟨_, _, retN X0 hx (t := .boolean) Bd.returns (by simp) (hb hby d_method_3_71) hr553, hrun553, hend553, _, _, rfl, ?_, ⟨_, rfl⟩, hW553, hsm553.mono (by decide) (by decide)⟩
          · show Q_lawUnr Z _ h0 _ s₁.heap _
            rw [e0]
            exact ⟨(by rw [hu3, own_u3]; simp only [hc552, if_true, if_false, ↓reduceIte]; first | done | rfl), N0, rfl⟩
        ·
          refine oG.st (fun _ k => XS.icmpNo X0.here hx rfl (hb hby d_method_3_45) rfl (feq hc552).1 k) ?_
          refine oG.st (fun _ k => XS.iloadN X0.here hx rfl (hb hby d_method_3_48) rfl (XS.bipush X0.here hx rfl (hb hby d_method_3_49) k)) ?_
          show oG _ _ _ _ (s₁.setTop (mkF m 51 #[.val (.int p1)] [(.int (95 : Int32)), (.int p1)]))
          by_cases hc554 : p1 = (95 : Int32)
          ·
            refine oG.st (fun _ k => XS.icmpYes X0.here hx rfl (pc0 := 51) (pc' := 66) rfl (hb hby d_method_3_51) rfl (teq hc554).1 (by decide) (by decide) k) ?_
            refine oG.st (fun _ k => XS.iconst X0.here hx rfl (hb hby d_method_3_66) (XS.goto X0.here hx rfl (pc0 := 67) (pc' := 71) rfl (hb hby d_method_3_67) (by decide) (by decide) k)) ?_
            show oG _ _ _ _ (s₁.setTop (mkF m 71 #[.val (.int p1)] [(.int (1 : Int32))]))
            obtain ⟨fs555, hr555, hrun555, hend555, hW555, hsm555⟩ := X0.leave (v := some (.int (nar .boolean (1 : Int32)))) (fun h => by rw [Bd.returns] at h; cases h)
            subst hPP
            refine ⟨_, _, retN X0 hx (t := .boolean) Bd.returns (by simp) (hb hby d_method_3_71) hr555, hrun555, hend555, _, _, rfl, ?_, ⟨_, rfl⟩, hW555, hsm555.mono (by decide) (by decide)⟩
            · show Q_lawUnr Z _ h0 _ s₁.heap _
              rw [e0]
              exact ⟨(by rw [hu3, own_u3]; simp only [hc552, hc554, if_true, if_false, ↓reduceIte]; first | done | rfl), N0, rfl⟩
          ·
            refine oG.st (fun _ k => XS.icmpNo X0.here hx rfl (hb hby d_method_3_51) rfl (feq hc554).1 k) ?_
            refine oG.st (fun _ k => XS.iloadN X0.here hx rfl (hb hby d_method_3_54) rfl (XS.bipush X0.here hx rfl (hb hby d_method_3_55) k)) ?_
            show oG _ _ _ _ (s₁.setTop (mkF m 57 #[.val (.int p1)] [(.int (46 : Int32)), (.int p1)]))
            by_cases hc556 : p1 = (46 : Int32)
            ·
              refine oG.st (fun _ k => XS.icmpYes X0.here hx rfl (pc0 := 57) (pc' := 66) rfl (hb hby d_method_3_57) rfl (teq hc556).1 (by decide) (by decide) k) ?_
              refine oG.st (fun _ k => XS.iconst X0.here hx rfl (hb hby d_method_3_66) (XS.goto X0.here hx rfl (pc0 := 67) (pc' := 71) rfl (hb hby d_method_3_67) (by decide) (by decide) k)) ?_
              show oG _ _ _ _ (s₁.setTop (mkF m 71 #[.val (.int p1)] [(.int (1 : Int32))]))
              obtain ⟨fs557, hr557, hrun557, hend557, hW557, hsm557⟩ := X0.leave (v := some (.int (nar .boolean (1 : Int32)))) (fun h => by rw [Bd.returns] at h; cases h)
              subst hPP
              refine ⟨_, _, retN X0 hx (t := .boolean) Bd.returns (by simp) (hb hby d_method_3_71) hr557, hrun557, hend557, _, _, rfl, ?_, ⟨_, rfl⟩, hW557, hsm557.mono (by decide) (by decide)⟩
              · show Q_lawUnr Z _ h0 _ s₁.heap _
                rw [e0]
                exact ⟨(by rw [hu3, own_u3]; simp only [hc552, hc554, hc556, if_true, if_false, ↓reduceIte]; first | done | rfl), N0, rfl⟩
            ·
              refine oG.st (fun _ k => XS.icmpNo X0.here hx rfl (hb hby d_method_3_57) rfl (feq hc556).1 k) ?_
              refine oG.st (fun _ k => XS.iloadN X0.here hx rfl (hb hby d_method_3_60) rfl (XS.bipush X0.here hx rfl (hb hby d_method_3_61) k)) ?_
              show oG _ _ _ _ (s₁.setTop (mkF m 63 #[.val (.int p1)] [(.int (126 : Int32)), (.int p1)]))
              by_cases hc558 : p1 = (126 : Int32)
              ·
                refine oG.st (fun _ k => XS.icmpNo X0.here hx rfl (hb hby d_method_3_63) rfl (teq hc558).2 k) ?_
                refine oG.st (fun _ k => XS.iconst X0.here hx rfl (hb hby d_method_3_66) (XS.goto X0.here hx rfl (pc0 := 67) (pc' := 71) rfl (hb hby d_method_3_67) (by decide) (by decide) k)) ?_
                show oG _ _ _ _ (s₁.setTop (mkF m 71 #[.val (.int p1)] [(.int (1 : Int32))]))
                obtain ⟨fs559, hr559, hrun559, hend559, hW559, hsm559⟩ := X0.leave (v := some (.int (nar .boolean (1 : Int32)))) (fun h => by rw [Bd.returns] at h; cases h)
                subst hPP
                refine ⟨_, _, retN X0 hx (t := .boolean) Bd.returns (by simp) (hb hby d_method_3_71) hr559, hrun559, hend559, _, _, rfl, ?_, ⟨_, rfl⟩, hW559, hsm559.mono (by decide) (by decide)⟩
                · show Q_lawUnr Z _ h0 _ s₁.heap _
                  rw [e0]
                  exact ⟨(by rw [hu3, own_u3]; simp only [hc552, hc554, hc556, hc558, if_true, if_false, ↓reduceIte]; first | done | rfl), N0, rfl⟩
              ·
                refine oG.st (fun _ k => XS.icmpYes X0.here hx rfl (pc0 := 63) (pc' := 70) rfl (hb hby d_method_3_63) rfl (feq hc558).2 (by decide) (by decide) k) ?_
                refine oG.st (fun _ k => XS.iconst X0.here hx rfl (hb hby d_method_3_70) k) ?_
                show oG _ _ _ _ (s₁.setTop (mkF m 71 #[.val (.int p1)] [(.int (0 : Int32))]))
                obtain ⟨fs560, hr560, hrun560, hend560, hW560, hsm560⟩ := X0.leave (v := some (.int (nar .boolean (0 : Int32)))) (fun h => by rw [Bd.returns] at h; cases h)
                subst hPP
                refine ⟨_, _, retN X0 hx (t := .boolean) Bd.returns (by simp) (hb hby d_method_3_71) hr560, hrun560, hend560, _, _, rfl, ?_, ⟨_, rfl⟩, hW560, hsm560.mono (by decide) (by decide)⟩
                · show Q_lawUnr Z _ h0 _ s₁.heap _
                  rw [e0]
                  exact ⟨(by rw [hu3, own_u3]; simp only [hc552, hc554, hc556, hc558, if_true, if_false, ↓reduceIte]; first | done | rfl), N0, rfl⟩
      refine oG.st (fun _ k => XS.iloadN X0.here hx rfl (hb hby d_method_3_28) rfl (XS.bipush X0.here hx rfl (hb hby d_method_3_29) k)) ?_
      show oG _ _ _ _ (s₁.setTop (mkF m 31 #[.val (.int p1)] [(.int (48 : Int32)), (.int p1)]))
      by_cases hc561 : p1 < (48 : Int32)
      ·
        refine oG.st (fun _ k => XS.icmpYes X0.here hx rfl (pc0 := 31) (pc' := 42) rfl (hb hby d_method_3_31) rfl (tlt hc561).1 (by decide) (by decide) k) ?_
        show oG _ _ _ _ (s₁.setTop (mkF m 42 #[.val (.int p1)] []))
        exact J551 0 (by rw [hu2, own_u2, if_pos hc561])
      ·
        refine oG.st (fun _ k => XS.icmpNo X0.here hx rfl (hb hby d_method_3_31) rfl (flt hc561).1 k) ?_
        refine oG.st (fun _ k => XS.iloadN X0.here hx rfl (hb hby d_method_3_34) rfl (XS.bipush X0.here hx rfl (hb hby d_method_3_35) k)) ?_
        show oG _ _ _ _ (s₁.setTop (mkF m 37 #[.val (.int p1)] [(.int (57 : Int32)), (.int p1)]))
        by_cases hc562 : (57 : Int32) < p1
        ·
          refine oG.st (fun _ k => XS.icmpYes X0.here hx rfl (pc0 := 37) (pc' := 42) rfl (hb hby d_method_3_37) rfl (tlt hc562).2.2.1 (by decide) (by decide) k) ?_
          show oG _ _ _ _ (s₁.setTop (mkF m 42 #[.val (.int p1)] []))
          exact J551 0 (by rw [hu2, own_u2, if_neg hc561, if_pos hc562])
        ·
          refine oG.st (fun _ k => XS.icmpNo X0.here hx rfl (hb hby d_method_3_37) rfl (flt hc562).2.2.1 k) ?_
          refine oG.st (fun _ k => XS.iconst X0.here hx rfl (hb hby d_method_3_40) k) ?_
          show oG _ _ _ _ (s₁.setTop (mkF m 41 #[.val (.int p1)] [(.int (1 : Int32))]))
          obtain ⟨fs563, hr563, hrun563, hend563, hW563, hsm563⟩ := X0.leave (v := some (.int (nar .boolean (1 : Int32)))) (fun h => by rw [Bd.returns] at h; cases h)
          subst hPP
          refine ⟨_, _, retN X0 hx (t := .boolean) Bd.returns (by simp) (hb hby d_method_3_41) hr563, hrun563, hend563, _, _, rfl, ?_, ⟨_, rfl⟩, hW563, hsm563.mono (by decide) (by decide)⟩
          · show Q_lawUnr Z _ h0 _ s₁.heap _
            rw [e0]
            exact ⟨(by rw [hu2, own_u2]; simp only [hc561, hc562, if_true, if_false, ↓reduceIte]; first | done | rfl), N0, rfl⟩
    refine oG.st (fun _ k => XS.iloadN X0.here hx rfl (hb hby d_method_3_14) rfl (XS.bipush X0.here hx rfl (hb hby d_method_3_15) k)) ?_
    show oG _ _ _ _ (s₁.setTop (mkF m 17 #[.val (.int p1)] [(.int (97 : Int32)), (.int p1)]))
    by_cases hc564 : p1 < (97 : Int32)
    ·
      refine oG.st (fun _ k => XS.icmpYes X0.here hx rfl (pc0 := 17) (pc' := 28) rfl (hb hby d_method_3_17) rfl (tlt hc564).1 (by decide) (by decide) k) ?_
      show oG _ _ _ _ (s₁.setTop (mkF m 28 #[.val (.int p1)] []))
      exact J550 0 (by rw [hu1, own_u1, if_pos hc564])
    ·
      refine oG.st (fun _ k => XS.icmpNo X0.here hx rfl (hb hby d_method_3_17) rfl (flt hc564).1 k) ?_
      refine oG.st (fun _ k => XS.iloadN X0.here hx rfl (hb hby d_method_3_20) rfl (XS.bipush X0.here hx rfl (hb hby d_method_3_21) k)) ?_
      show oG _ _ _ _ (s₁.setTop (mkF m 23 #[.val (.int p1)] [(.int (122 : Int32)), (.int p1)]))
      by_cases hc565 : (122 : Int32) < p1
      ·
        refine oG.st (fun _ k => XS.icmpYes X0.here hx rfl (pc0 := 23) (pc' := 28) rfl (hb hby d_method_3_23) rfl (tlt hc565).2.2.1 (by decide) (by decide) k) ?_
        show oG _ _ _ _ (s₁.setTop (mkF m 28 #[.val (.int p1)] []))
        exact J550 0 (by rw [hu1, own_u1, if_neg hc564, if_pos hc565])
      ·
        refine oG.st (fun _ k => XS.icmpNo X0.here hx rfl (hb hby d_method_3_23) rfl (flt hc565).2.2.1 k) ?_
        refine oG.st (fun _ k => XS.iconst X0.here hx rfl (hb hby d_method_3_26) k) ?_
        show oG _ _ _ _ (s₁.setTop (mkF m 27 #[.val (.int p1)] [(.int (1 : Int32))]))
        obtain ⟨fs566, hr566, hrun566, hend566, hW566, hsm566⟩ := X0.leave (v := some (.int (nar .boolean (1 : Int32)))) (fun h => by rw [Bd.returns] at h; cases h)
        subst hPP
        refine ⟨_, _, retN X0 hx (t := .boolean) Bd.returns (by simp) (hb hby d_method_3_27) hr566, hrun566, hend566, _, _, rfl, ?_, ⟨_, rfl⟩, hW566, hsm566.mono (by decide) (by decide)⟩
        · show Q_lawUnr Z _ h0 _ s₁.heap _
          rw [e0]
          exact ⟨(by rw [hu1, own_u1]; simp only [hc564, hc565, if_true, if_false, ↓reduceIte]; first | done | rfl), N0, rfl⟩
  refine oG.st (fun _ k => XS.iloadN X0.here hx rfl (hb hby d_method_3_0) rfl (XS.bipush X0.here hx rfl (hb hby d_method_3_1) k)) ?_
  show oG _ _ _ _ (s₁.setTop (mkF m 3 #[.val (.int p1)] [(.int (65 : Int32)), (.int p1)]))
  by_cases hc567 : p1 < (65 : Int32)
  ·
    refine oG.st (fun _ k => XS.icmpYes X0.here hx rfl (pc0 := 3) (pc' := 14) rfl (hb hby d_method_3_3) rfl (tlt hc567).1 (by decide) (by decide) k) ?_
    show oG _ _ _ _ (s₁.setTop (mkF m 14 #[.val (.int p1)] []))
    exact J549 0 (by rw [own_unr, if_pos hc567])
  ·
    refine oG.st (fun _ k => XS.icmpNo X0.here hx rfl (hb hby d_method_3_3) rfl (flt hc567).1 k) ?_
    refine oG.st (fun _ k => XS.iloadN X0.here hx rfl (hb hby d_method_3_6) rfl (XS.bipush X0.here hx rfl (hb hby d_method_3_7) k)) ?_
    show oG _ _ _ _ (s₁.setTop (mkF m 9 #[.val (.int p1)] [(.int (90 : Int32)), (.int p1)]))
    by_cases hc568 : (90 : Int32) < p1
    ·
      refine oG.st (fun _ k => XS.icmpYes X0.here hx rfl (pc0 := 9) (pc' := 14) rfl (hb hby d_method_3_9) rfl (tlt hc568).2.2.1 (by decide) (by decide) k) ?_
      show oG _ _ _ _ (s₁.setTop (mkF m 14 #[.val (.int p1)] []))
      exact J549 0 (by rw [own_unr, if_neg hc567, if_pos hc568])
    ·
      refine oG.st (fun _ k => XS.icmpNo X0.here hx rfl (hb hby d_method_3_9) rfl (flt hc568).2.2.1 k) ?_
      refine oG.st (fun _ k => XS.iconst X0.here hx rfl (hb hby d_method_3_12) k) ?_
      show oG _ _ _ _ (s₁.setTop (mkF m 13 #[.val (.int p1)] [(.int (1 : Int32))]))
      obtain ⟨fs569, hr569, hrun569, hend569, hW569, hsm569⟩ := X0.leave (v := some (.int (nar .boolean (1 : Int32)))) (fun h => by rw [Bd.returns] at h; cases h)
      subst hPP
      refine ⟨_, _, retN X0 hx (t := .boolean) Bd.returns (by simp) (hb hby d_method_3_13) hr569, hrun569, hend569, _, _, rfl, ?_, ⟨_, rfl⟩, hW569, hsm569.mono (by decide) (by decide)⟩
      · show Q_lawUnr Z _ h0 _ s₁.heap _
        rw [e0]
        exact ⟨(by rw [own_unr]; simp only [hc567, hc568, if_true, if_false, ↓reduceIte]; first | done | rfl), N0, rfl⟩
theorem ef_716 (m : MethodId) (x0 : Nat) : entryFrame m #[(.ref x0)] 8 = mkF m 0 #[.val (.ref x0), .unset, .unset, .unset, .unset, .unset, .unset, .unset] [] := by first | (simp [entryFrame, mkF, argsToLocals, Value.category]; done) | rfl
theorem dp12_2_0 : decode cJ35 0 = .ok (.aload_n 0, 1) := by decide +kernel
theorem dp12_2_1 : decode cJ35 1 = .ok (.getstatic 7, 3) := by decide +kernel
theorem pd_719 : parseMethodDescriptor "(Ljava/nio/charset/Charset;)[B" = some ⟨[(.object "java/nio/charset/Charset")], some (.array .byte)⟩ := by decide +kernel
theorem dp12_2_4 : decode cJ35 4 = .ok (.invokevirtual 13, 3) := by decide +kernel
theorem dp12_2_7 : decode cJ35 7 = .ok (.astore_n 1, 1) := by decide +kernel
theorem dp12_2_8 : decode cJ35 8 = .ok (.new 19, 3) := by decide +kernel
theorem dp12_2_11 : decode cJ35 11 = .ok (.dup, 1) := by decide +kernel
theorem dp12_2_12 : decode cJ35 12 = .ok (.aload_n 1, 1) := by decide +kernel
theorem dp12_2_13 : decode cJ35 13 = .ok (.arraylength, 1) := by decide +kernel
theorem dp12_2_14 : decode cJ35 14 = .ok (.invokespecial 21, 3) := by decide +kernel
theorem dp12_2_17 : decode cJ35 17 = .ok (.astore_n 2, 1) := by decide +kernel
theorem dp12_2_18 : decode cJ35 18 = .ok (.aload_n 1, 1) := by decide +kernel
theorem dp12_2_19 : decode cJ35 19 = .ok (.astore_n 3, 1) := by decide +kernel
theorem dp12_2_20 : decode cJ35 20 = .ok (.aload_n 3, 1) := by decide +kernel
theorem dp12_2_21 : decode cJ35 21 = .ok (.arraylength, 1) := by decide +kernel
theorem dp12_2_22 : decode cJ35 22 = .ok (.istore 4, 2) := by decide +kernel
theorem dp12_2_24 : decode cJ35 24 = .ok (.iconst 0, 1) := by decide +kernel
theorem dp12_2_25 : decode cJ35 25 = .ok (.istore 5, 2) := by decide +kernel
theorem dp12_2_103 : decode cJ35 103 = .ok (.aload_n 2, 1) := by decide +kernel
theorem pd_736 : parseMethodDescriptor "()Ljava/lang/String;" = some ⟨[], some (.object "java/lang/String")⟩ := by decide +kernel
theorem dp12_2_104 : decode cJ35 104 = .ok (.invokevirtual 38, 3) := by decide +kernel
theorem dp12_2_107 : decode cJ35 107 = .ok (.areturn, 1) := by decide +kernel
theorem dp12_2_97 : decode cJ35 97 = .ok (.iinc 5 1, 3) := by decide +kernel
theorem dp12_2_100 : decode cJ35 100 = .ok (.goto (-73), 3) := by decide +kernel
theorem dp12_2_27 : decode cJ35 27 = .ok (.iload 5, 2) := by decide +kernel
theorem dp12_2_29 : decode cJ35 29 = .ok (.iload 4, 2) := by decide +kernel
theorem dp12_2_31 : decode cJ35 31 = .ok (.if_icmp .ge 72, 3) := by decide +kernel
theorem dp12_2_34 : decode cJ35 34 = .ok (.aload_n 3, 1) := by decide +kernel
theorem dp12_2_35 : decode cJ35 35 = .ok (.iload 5, 2) := by decide +kernel
theorem dp12_2_37 : decode cJ35 37 = .ok (.baload, 1) := by decide +kernel
theorem dp12_2_38 : decode cJ35 38 = .ok (.istore 6, 2) := by decide +kernel
theorem dp12_2_40 : decode cJ35 40 = .ok (.iload 6, 2) := by decide +kernel
theorem dp12_2_42 : decode cJ35 42 = .ok (.sipush 255, 3) := by decide +kernel
theorem dp12_2_45 : decode cJ35 45 = .ok (.iand, 1) := by decide +kernel
theorem dp12_2_46 : decode cJ35 46 = .ok (.istore 7, 2) := by decide +kernel
theorem dp12_2_48 : decode cJ35 48 = .ok (.iload 7, 2) := by decide +kernel
theorem pd_753 : parseMethodDescriptor "(I)Z" = some ⟨[.int], some .boolean⟩ := by decide +kernel
theorem dp12_2_50 : decode cJ35 50 = .ok (.invokestatic 24, 3) := by decide +kernel
theorem dp12_2_53 : decode cJ35 53 = .ok (.ifCond .eq 14, 3) := by decide +kernel
theorem dp12_2_67 : decode cJ35 67 = .ok (.aload_n 2, 1) := by decide +kernel
theorem dp12_2_68 : decode cJ35 68 = .ok (.bipush 37, 2) := by decide +kernel
theorem pd_758 : parseMethodDescriptor "(C)Ljava/lang/StringBuilder;" = some ⟨[.char], some (.object "java/lang/StringBuilder")⟩ := by decide +kernel
theorem dp12_2_70 : decode cJ35 70 = .ok (.invokevirtual 30, 3) := by decide +kernel
theorem dp12_2_73 : decode cJ35 73 = .ok (.getstatic 34, 3) := by decide +kernel
theorem dp12_2_76 : decode cJ35 76 = .ok (.iload 7, 2) := by decide +kernel
theorem dp12_2_78 : decode cJ35 78 = .ok (.iconst 4, 1) := by decide +kernel
theorem dp12_2_79 : decode cJ35 79 = .ok (.ishr, 1) := by decide +kernel
theorem dp12_2_80 : decode cJ35 80 = .ok (.caload, 1) := by decide +kernel
theorem dp12_2_81 : decode cJ35 81 = .ok (.invokevirtual 30, 3) := by decide +kernel
theorem dp12_2_84 : decode cJ35 84 = .ok (.getstatic 34, 3) := by decide +kernel
theorem dp12_2_87 : decode cJ35 87 = .ok (.iload 7, 2) := by decide +kernel
theorem dp12_2_89 : decode cJ35 89 = .ok (.bipush 15, 2) := by decide +kernel
theorem dp12_2_91 : decode cJ35 91 = .ok (.iand, 1) := by decide +kernel
theorem dp12_2_92 : decode cJ35 92 = .ok (.caload, 1) := by decide +kernel
theorem dp12_2_93 : decode cJ35 93 = .ok (.invokevirtual 30, 3) := by decide +kernel
theorem dp12_2_96 : decode cJ35 96 = .ok (.pop, 1) := by decide +kernel
theorem dp12_2_56 : decode cJ35 56 = .ok (.aload_n 2, 1) := by decide +kernel
theorem dp12_2_57 : decode cJ35 57 = .ok (.iload 7, 2) := by decide +kernel
theorem dp12_2_59 : decode cJ35 59 = .ok (.i2c, 1) := by decide +kernel
theorem dp12_2_60 : decode cJ35 60 = .ok (.invokevirtual 30, 3) := by decide +kernel
theorem dp12_2_63 : decode cJ35 63 = .ok (.pop, 1) := by decide +kernel
theorem dp12_2_64 : decode cJ35 64 = .ok (.goto 33, 3) := by decide +kernel
def Q_encode (Z : State) (a1 : Nat) (t : Nat) (cs : List Int32) (ac : Nat) (ah : Nat) (kh : ClassId) (zc : Int32) (h0 : Heap) (v : Option Value) (h : Heap) (L : List Loc) : Prop := ∃ (x : Nat), ∃ (t2 : Nat), v = some (.ref x) ∧ Fr Z.heap.size L ∧ Keep h0 h [] ∧ own_Str Z h x t2 (own_encL (own_utf cs))
set_option maxRecDepth 65536 in
set_option maxHeartbeats 40000000 in
theorem rm_encode (l : Launch) (Z : State) (a0 : Array Value) (hw : ∀ d ∈ tables_1, d.before a0 Z = true) (ws : List Jvm.Cond) (a1 : Nat) (t : Nat) (cs : List Int32) (ac : Nat) (ah : Nat) (kh : ClassId) (zc : Int32) (h0 : Heap) (OL : Old Z Z.heap.size h0) (p0_ : own_Str Z h0 a1 t cs) (p1_ : Exa Z h0 t "[B") (p2_ : Arv Z h0 ah kh .char (16 : Int32) (own_hexL.map Value.int) (.int (0 : Int32))) (st_C : Sta Z Z.heap "java/lang/String" "COMPACT_STRINGS" "Z" (.int zc)) (st_UTF_8 : Sta Z Z.heap "java/nio/charset/StandardCharsets" "UTF_8" "Ljava/nio/charset/Charset;" (.ref ac)) (st_INSTANCE : Sta Z Z.heap "sun/nio/cs/UTF_8" "INSTANCE" "Lsun/nio/cs/UTF_8;" (.ref ac)) (st_HEX_DIGITS : Sta Z Z.heap "com/example/vigilant_gate/vigilantgate/PercentEncoding" "HEX_DIGITS" "[C" (.ref ah)) (st_A : Sta Z Z.heap "java/lang/StringUTF16" "$assertionsDisabled" "Z" (.int (1 : Int32))) (st_H : Sta Z Z.heap "java/lang/StringUTF16" "HI_BYTE_SHIFT" "I" (.int (0 : Int32))) (st_L : Sta Z Z.heap "java/lang/StringUTF16" "LO_BYTE_SHIFT" "I" (.int (8 : Int32))) (hzc : ¬ zc = 0) (hone : own_one cs) (hah : @LT.lt Nat _ ah Z.heap.size) :
    MetFree l mN0 (head1 (Jvm.Cond.code mN0 prog_12_method_2_code 8 (some (.object "java/lang/String")) :: ws) rM28) (fun a U => a = #[(.ref a1)] ∧ Z.Warmed39 U.vm ∧ U.heap = h0) (fun _ _ _ _ _ => True) (fun _ U o U' => ∃ v L, o = .returned v ∧ Q_encode Z a1 t cs ac ah kh zc h0 v U'.heap L ∧ FrameEnd U o U' L rM28.cells rM28.slots) := by
  refine MetFree.of_bodySF (plainFor_of_name pn_640) hisR ?_
  intro p e s m args below meth c s₁ Bd hml0 hP hK
  obtain ⟨rfl, hZ, hh⟩ := hP
  have hx := Bd.exec
  have hby := Bd.bytes
  have hml : c.maxLocals = 8 := hml0
  have hown : s.vm.findClass "com/example/vigilant_gate/vigilantgate/PercentEncoding" = some m.cls := findClass_of_methodNamed Bd.named
  have hnm := (name_of_methodNamed Bd.named Bd.method).1
  have X0 : Stand p l e rM28 s m #[(.ref a1)] below meth c s₁ [] 0 0 := Stand.of_body Bd
  have e0 : s₁.heap = h0 := by rw [← hh, Bd.state]; rfl
  have N0 := Fr.nil Z.heap.size
  have Z0 : Z.heap.size ≤ h0.size := OL.2.1
  have lt_0 : @LT.lt Nat _ a1 h0.size := p0_.lt
  have ltv_0 : @LT.lt Nat _ t h0.size := p0_.ltv
  have lt_1 : @LT.lt Nat _ t h0.size := p1_.lt
  have lt_2 : @LT.lt Nat _ ah h0.size := p2_.lt
  show oG p.tables e below (fun o tE => ∃ v L, o = .returned v ∧ Q_encode Z a1 t cs ac ah kh zc h0 v tE.heap L ∧ FrameEnd s o tE L rM28.cells rM28.slots) (s₁.setTop (entryFrame m #[(.ref a1)] 8))
  refine own_hd (fun PP hPP => ?_)
  refine oG.st (fun t k => castTop (ef_716 m a1) k) ?_
  have hR := own_utfR hone
  have hlen3 := hR.2
  obtain ⟨kS, cdS, NS, vS, s1S, s2S, s3S, s4S, s5S, -⟩ := id p0_
  have hcu := own_codU s5S hone
  refine oG.st (fun _ k => XS.aloadN X0.here hx rfl (hb hby dp12_2_0) rfl rfl k) ?_
  show oG _ _ _ _ (s₁.setTop (mkF m 1 #[.val (.ref a1), .unset, .unset, .unset, .unset, .unset, .unset, .unset] [(.ref a1)]))
  obtain ⟨T570, X570, e570, st570⟩ := getS2 X0 hx hZ hown (host := "") (Or.inl (own_w hw 63 rfl)) Via.refl e0 (st_UTF_8.ext OL.2) (g := (mkF m 1 #[.val (.ref a1), .unset, .unset, .unset, .unset, .unset, .unset, .unset] [(.ref a1)])) rfl (hb hby dp12_2_1)
  refine oG.st st570 ?_
  show oG _ _ _ _ (T570.setTop (mkF m 4 #[.val (.ref a1), .unset, .unset, .unset, .unset, .unset, .unset, .unset] [(.ref ac), (.ref a1)]))
  obtain ⟨cq571, kq571, q571a, q571b, q571c⟩ := isOf hZ e570 s1S
  obtain ⟨_, _, ⟨T571, L571, k571, n571⟩, -, X571, ⟨Lc571, hQ571, l571, y571, z571⟩, st571⟩ := X570.virtualBack hx (y := mN26) (z := mN26) hown (own_v hZ hw 65 rfl) (own_v hZ hw 66 rfl) (notFace_of_selects (args := #[]) (own_v hZ hw 68 rfl)) (own_v hZ hw 68 rfl) (own_v hZ hw 67 rfl) (by decide) (backOf (W := 0) (rm_getBytes l Z a0 hw [] a1 ac t cdS cs kS NS vS zc h0 OL s1S s2S s3S s4S p1_ st_C st_INSTANCE st_A st_H st_L hzc hcu) hZ (own_w hw 69 rfl) (own_w hw 4 rfl) (by decide) (by decide)) q571a q571c (g := (mkF m 4 #[.val (.ref a1), .unset, .unset, .unset, .unset, .unset, .unset, .unset] [(.ref ac), (.ref a1)])) rfl (by rw [hml]; rfl) (Steps.refl _) (argsL := [(.ref ac)]) (rest := []) (lenOf pd_719 rfl) rfl (by show 2 * 0 + _ ≤ _; exact Nat.le_of_eq rfl) (hb hby dp12_2_4) (fun _ _ => ⟨rfl, e570, (by decide : 0 + 2 ≤ _), (by decide : 0 + 5 ≤ _)⟩)
  dsimp only [Pt.U, Pt.locs, Pt.cells, Pt.slots] at X571 l571 y571 z571 st571 hQ571
  subst l571 y571 z571
  obtain ⟨x_571, k_571, rfl, N571q, K571, f571_0, pr571_0⟩ := hQ571
  have N571 := Fr.app N0 N571q
  have z571 : h0.size ≤ T571.heap.size := K571.1
  have lt571_0 : @LT.lt Nat _ x_571 T571.heap.size := f571_0.lt
  have hxb : h0.size ≤ x_571 := pr571_0
  refine oG.tr st571 ?_
  refine oG.st (fun _ k => XS.astoreN X571.here hx rfl (hb hby dp12_2_7) rfl rfl (l' := #[.val (.ref a1), .val (.ref x_571), .unset, .unset, .unset, .unset, .unset, .unset]) rfl k) ?_
  show oG _ _ _ _ (T571.setTop (mkF m 8 #[.val (.ref a1), .val (.ref x_571), .unset, .unset, .unset, .unset, .unset, .unset] []))
  obtain ⟨T572, h572, X572, e572, E572, A572, D572, U572, st572⟩ := newO X571 hx hZ hown (own_w hw 99 rfl) (own_w hw 100 rfl) (own_w hw 101 rfl) rfl (g := (mkF m 8 #[.val (.ref a1), .val (.ref x_571), .unset, .unset, .unset, .unset, .unset, .unset] [])) rfl (hb hby dp12_2_8) (by decide) (by decide)
  obtain ⟨b572, g572⟩ : ∃ z, z = T571.heap.size := ⟨_, rfl⟩
  rw [← g572] at A572 D572 U572 st572
  refine oG.st st572 ?_
  have z572 : T571.heap.size ≤ h572.size := E572.1
  have lt_b572 : @LT.lt Nat _ b572 h572.size := A572.lt
  have f573 : Fld Z h572 b572 "java/lang/AbstractStringBuilder" "value" "[B" .null := D572 (Or.inl (own_w hw 114 rfl)) (ty := (.array .byte)) (by decide)
  have f574 : Fld Z h572 b572 "java/lang/AbstractStringBuilder" "coder" "B" (.int (0 : Int32)) := D572 (Or.inl (own_w hw 116 rfl)) (ty := .byte) (by decide)
  have f575 : Fld Z h572 b572 "java/lang/AbstractStringBuilder" "count" "I" (.int (0 : Int32)) := D572 (Or.inl (own_w hw 131 rfl)) (ty := .int) (by decide)
  refine oG.st (fun _ k => XS.dup X572.here hx rfl (hb hby dp12_2_11) rfl rfl (XS.aloadN X572.here hx rfl (hb hby dp12_2_12) rfl rfl k)) ?_
  show oG _ _ _ _ (T572.setTop (mkF m 13 #[.val (.ref a1), .val (.ref x_571), .unset, .unset, .unset, .unset, .unset, .unset] [(.ref x_571), (.ref b572), (.ref b572)]))
  have f576 : Arv Z h572 x_571 k_571 .byte (Int32.ofNat (own_utf cs).length) (own_low (own_utf cs)) (.int (0 : Int32)) := f571_0.ext E572
  obtain ⟨c577, Ar577, q577, S577, Nn577, H577, G577⟩ := id f576
  refine oG.st (X572.arraylength hx (own_rwE e572 Ar577.1) (State.isArrayOf_alike hZ.alike Ar577.2.1) (g := (mkF m 13 #[.val (.ref a1), .val (.ref x_571), .unset, .unset, .unset, .unset, .unset, .unset] [(.ref x_571), (.ref b572), (.ref b572)])) rfl rfl (hb hby dp12_2_13)) ?_
  rw [len_of S577 Nn577]
  show oG _ _ _ _ (T572.setTop (mkF m 14 #[.val (.ref a1), .val (.ref x_571), .unset, .unset, .unset, .unset, .unset, .unset] [(.int (Int32.ofNat (own_utf cs).length)), (.ref b572), (.ref b572)]))
  have f579 : Old Z Z.heap.size T571.heap := OL.keep K571 all0
  have f580 : Old Z Z.heap.size h572 := f579.ext E572
  obtain ⟨_, _, ⟨T578, L578, k578, n578⟩, -, X578, ⟨Lc578, hQ578, l578, y578, z578⟩, st578⟩ := X572.specialBack hx (y := mN29) rfl hown (own_v hZ hw 102 rfl) (own_v hZ hw 103 rfl) (own_v hZ hw 104 rfl) (by decide) (backOf (W := 1) (rm_sbinitI l Z a0 hw [] b572 (Int32.ofNat (own_utf cs).length) (own_utf cs).length zc h572 f580 A572 f573 f574 f575 st_C hzc rfl hlen3 (by omega)) hZ (own_w hw 104 rfl) (own_w hw 101 rfl) (by decide) (by decide)) (g := (mkF m 14 #[.val (.ref a1), .val (.ref x_571), .unset, .unset, .unset, .unset, .unset, .unset] [(.int (Int32.ofNat (own_utf cs).length)), (.ref b572), (.ref b572)])) rfl (by rw [hml]; rfl) (Steps.refl _) (a := b572) (argsL := [(.int (Int32.ofNat (own_utf cs).length))]) (rest := [(.ref b572)]) (lenOf pd_74 rfl) rfl (by show 2 * 0 + _ ≤ _; exact Nat.le_of_eq rfl) (hb hby dp12_2_14) (fun _ _ => ⟨rfl, e572, (by decide : 3 + 1 ≤ _), (by decide : 9 + 3 ≤ _)⟩)
  dsimp only [Pt.U, Pt.locs, Pt.cells, Pt.slots] at X578 l578 y578 z578 st578 hQ578
  subst l578 y578 z578
  obtain ⟨a3_578, k_578, rfl, N578q, K578, f578_0, f578_1, f578_2, f578_3, f578_4, pr578_0, pr578_1⟩ := hQ578
  have N578 := Fr.app N571 N578q
  have z578 : h572.size ≤ T578.heap.size := K578.1
  have lt578_0 : @LT.lt Nat _ b572 T578.heap.size := f578_0.lt
  have lt578_1 : @LT.lt Nat _ b572 T578.heap.size := f578_1.lt
  have lt578_2 : @LT.lt Nat _ b572 T578.heap.size := f578_2.lt
  have lt578_3 : @LT.lt Nat _ b572 T578.heap.size := f578_3.lt
  have lt578_4 : @LT.lt Nat _ a3_578 T578.heap.size := f578_4.lt
  have hz0 : h0.size ≤ a3_578 := by have := pr578_0; omega
  have hx0 : @LT.lt Nat _ x_571 a3_578 := by have := pr578_0; omega
  have hca0 : (own_utf cs).length ≤ 18 := by omega
  refine oG.tr st578 ?_
  refine oG.st (fun _ k => XS.astoreN X578.here hx rfl (hb hby dp12_2_17) rfl rfl (l' := #[.val (.ref a1), .val (.ref x_571), .val (.ref b572), .unset, .unset, .unset, .unset, .unset]) rfl (XS.aloadN X578.here hx rfl (hb hby dp12_2_18) rfl rfl (XS.astoreN X578.here hx rfl (hb hby dp12_2_19) rfl rfl (l' := #[.val (.ref a1), .val (.ref x_571), .val (.ref b572), .val (.ref x_571), .unset, .unset, .unset, .unset]) rfl (XS.aloadN X578.here hx rfl (hb hby dp12_2_20) rfl rfl k)))) ?_
  show oG _ _ _ _ (T578.setTop (mkF m 21 #[.val (.ref a1), .val (.ref x_571), .val (.ref b572), .val (.ref x_571), .unset, .unset, .unset, .unset] [(.ref x_571)]))
  have ne581 : @Ne Nat b572 x_571 := Exa.neArv A572 f576 (own_w hw 100 rfl)
  have f582 : Arv Z T578.heap x_571 k_571 .byte (Int32.ofNat (own_utf cs).length) (own_low (own_utf cs)) (.int (0 : Int32)) := f576.keep K578 (ninS (Ne.symm ne581) nin0)
  obtain ⟨c583, Ar583, q583, S583, Nn583, H583, G583⟩ := id f582
  refine oG.st (X578.arraylength hx (own_rwE rfl Ar583.1) (State.isArrayOf_alike hZ.alike Ar583.2.1) (g := (mkF m 21 #[.val (.ref a1), .val (.ref x_571), .val (.ref b572), .val (.ref x_571), .unset, .unset, .unset, .unset] [(.ref x_571)])) rfl rfl (hb hby dp12_2_21)) ?_
  rw [len_of S583 Nn583]
  refine oG.st (fun _ k => XS.istore X578.here hx rfl (hb hby dp12_2_22) rfl (l' := #[.val (.ref a1), .val (.ref x_571), .val (.ref b572), .val (.ref x_571), .val (.int (Int32.ofNat (own_utf cs).length)), .unset, .unset, .unset]) rfl (XS.iconst X578.here hx rfl (hb hby dp12_2_24) (XS.istore X578.here hx rfl (hb hby dp12_2_25) rfl (l' := #[.val (.ref a1), .val (.ref x_571), .val (.ref b572), .val (.ref x_571), .val (.int (Int32.ofNat (own_utf cs).length)), .val (.int (0 : Int32)), .unset, .unset]) rfl k))) ?_
  show oG _ _ _ _ (T578.setTop (mkF m 27 #[.val (.ref a1), .val (.ref x_571), .val (.ref b572), .val (.ref x_571), .val (.int (Int32.ofNat (own_utf cs).length)), .val (.int (0 : Int32)), .unset, .unset] []))
  have HJ584 : ∀ (esE : List Int32) (capE : Nat) (aaE : Nat) (kkE : ClassId) (iE : Int32) (s6E : Slot) (s7E : Slot) (TJ584 : State) (hJ584 : Heap) (lJ584 : List Loc), (esE = own_encL (own_utf cs)) → (esE.length ≤ 9) → (esE.length ≤ capE) → (capE ≤ 18) → (Z.vm.findClass "[B" = some kkE) → (h0.size ≤ aaE) → (@LT.lt Nat _ x_571 aaE) → (Stand p l e rM28 s m #[(.ref a1)] below meth c TJ584 lJ584 13 174) → (TJ584.heap = hJ584) → (Fr Z.heap.size lJ584) → (Keep h0 hJ584 []) → (Old Z Z.heap.size hJ584) → (T578.heap.size ≤ hJ584.size) → (Exa Z hJ584 b572 "java/lang/StringBuilder") → (Fld Z hJ584 b572 "java/lang/AbstractStringBuilder" "value" "[B" (.ref aaE)) → (Fld Z hJ584 b572 "java/lang/AbstractStringBuilder" "coder" "B" (.int (0 : Int32))) → (Fld Z hJ584 b572 "java/lang/AbstractStringBuilder" "count" "I" (.int (Int32.ofNat esE.length))) → (Arv Z hJ584 aaE kkE .byte (Int32.ofNat capE) (own_low esE) (.int (0 : Int32))) → (Arv Z hJ584 x_571 k_571 .byte (Int32.ofNat (own_utf cs).length) (own_low (own_utf cs)) (.int (0 : Int32))) → (Arv Z hJ584 ah kh .char (16 : Int32) (own_hexL.map Value.int) (.int (0 : Int32))) → oG p.tables e below PP (TJ584.setTop (mkF m 103 #[.val (.ref a1), .val (.ref x_571), .val (.ref b572), .val (.ref x_571), .val (.int (Int32.ofNat (own_utf cs).length)), .val (.int iE), s6E, s7E] [])) := by
    intro esE capE aaE kkE iE s6E s7E TJ584 hJ584 lJ584 heE hbE hleE hcapE hkbE hzE hxE XJ584 eJ584 NJ584 KJ584 OJ584 zJ584 fJ584_0 fJ584_1 fJ584_2 fJ584_3 fJ584_4 fJ584_5 fJ584_6
    have zK584 : h0.size ≤ hJ584.size := KJ584.1
    have ltJ584_0 : @LT.lt Nat _ b572 hJ584.size := fJ584_0.lt
    have ltJ584_1 : @LT.lt Nat _ b572 hJ584.size := fJ584_1.lt
    have ltJ584_2 : @LT.lt Nat _ b572 hJ584.size := fJ584_2.lt
    have ltJ584_3 : @LT.lt Nat _ b572 hJ584.size := fJ584_3.lt
    have ltJ584_4 : @LT.lt Nat _ aaE hJ584.size := fJ584_4.lt
    have ltJ584_5 : @LT.lt Nat _ x_571 hJ584.size := fJ584_5.lt
    have ltJ584_6 : @LT.lt Nat _ ah hJ584.size := fJ584_6.lt
    refine oG.st (fun _ k => XS.aloadN XJ584.here hx rfl (hb hby dp12_2_103) rfl rfl k) ?_
    show oG _ _ _ _ (TJ584.setTop (mkF m 104 #[.val (.ref a1), .val (.ref x_571), .val (.ref b572), .val (.ref x_571), .val (.int (Int32.ofNat (own_utf cs).length)), .val (.int iE), s6E, s7E] [(.ref b572)]))
    obtain ⟨cq585, kq585, q585a, q585b, q585c⟩ := isOf hZ eJ584 fJ584_0
    obtain ⟨_, _, ⟨T585, L585, k585, n585⟩, -, X585, ⟨Lc585, hQ585, l585, y585, z585⟩, st585⟩ := XJ584.virtualBack hx (y := mN32) (z := mN32) hown (own_v hZ hw 171 rfl) (own_v hZ hw 172 rfl) (notFace_of_selects (args := #[]) (own_v hZ hw 174 rfl)) (own_v hZ hw 174 rfl) (own_v hZ hw 173 rfl) (by decide) (backOf (W := 0) (rm_tostr l Z a0 hw [] b572 esE capE aaE kkE zc hJ584 OJ584 fJ584_0 fJ584_1 fJ584_2 fJ584_3 fJ584_4 st_C hzc hleE hkbE (by omega) (by omega) (heE ▸ own_encR hR.1)) hZ (own_w hw 175 rfl) (own_w hw 101 rfl) (by decide) (by decide)) q585a q585c (g := (mkF m 104 #[.val (.ref a1), .val (.ref x_571), .val (.ref b572), .val (.ref x_571), .val (.int (Int32.ofNat (own_utf cs).length)), .val (.int iE), s6E, s7E] [(.ref b572)])) rfl (by rw [hml]; rfl) (Steps.refl _) (argsL := []) (rest := []) (lenOf pd_736 rfl) rfl (by show 2 * 0 + _ ≤ _; exact Nat.le_of_eq rfl) (hb hby dp12_2_104) (fun _ _ => ⟨rfl, eJ584, (by decide : 13 + 2 ≤ _), (by decide : 174 + 22 ≤ _)⟩)
    dsimp only [Pt.U, Pt.locs, Pt.cells, Pt.slots] at X585 l585 y585 z585 st585 hQ585
    subst l585 y585 z585
    obtain ⟨x_585, t_585, rfl, N585q, K585, f585_0, pr585_0, pr585_1⟩ := hQ585
    have N585 := Fr.app NJ584 N585q
    have z585 : hJ584.size ≤ T585.heap.size := K585.1
    have lt585_0 : @LT.lt Nat _ x_585 T585.heap.size := f585_0.lt
    have ltv585_0 : @LT.lt Nat _ t_585 T585.heap.size := f585_0.ltv
    refine oG.tr st585 ?_
    show oG _ _ _ _ (T585.setTop (mkF m 107 #[.val (.ref a1), .val (.ref x_571), .val (.ref b572), .val (.ref x_571), .val (.int (Int32.ofNat (own_utf cs).length)), .val (.int iE), s6E, s7E] [(.ref x_585)]))
    obtain ⟨fs586, hr586, hrun586, hend586, hW586, hsm586⟩ := X585.leave (v := some (.ref x_585)) (fun h => by rw [Bd.returns] at h; cases h)
    have f587 : own_Str Z T585.heap x_585 t_585 (own_encL (own_utf cs)) := heE ▸ f585_0
    have K588 : Keep h0 T585.heap [] := KJ584.trans K585 all0
    subst hPP
    refine ⟨_, _, own_retA X585 hx Bd.returns rfl rfl (hb hby dp12_2_107) hr586, hrun586, hend586, _, _, rfl, ?_, ⟨_, rfl⟩, hW586, hsm586.mono (by decide) (by decide)⟩
    · show Q_encode Z _ _ _ _ _ _ _ h0 _ T585.heap _
      exact ⟨x_585, t_585, rfl, N585, K588, f587⟩
  have HJ589 : ∀ (es1 : List Int32) (cap1 : Nat) (aa1 : Nat) (kk1 : ClassId) (TJ589 : State) (hJ589 : Heap) (lJ589 : List Loc), (es1 = own_encL ((own_utf cs).take 1)) → (es1.length ≤ 3) → (es1.length ≤ cap1) → (cap1 ≤ 18) → (Z.vm.findClass "[B" = some kk1) → (h0.size ≤ aa1) → (@LT.lt Nat _ x_571 aa1) → (Stand p l e rM28 s m #[(.ref a1)] below meth c TJ589 lJ589 7 66) → (TJ589.heap = hJ589) → (Fr Z.heap.size lJ589) → (Keep h0 hJ589 []) → (Old Z Z.heap.size hJ589) → (T578.heap.size ≤ hJ589.size) → (Exa Z hJ589 b572 "java/lang/StringBuilder") → (Fld Z hJ589 b572 "java/lang/AbstractStringBuilder" "value" "[B" (.ref aa1)) → (Fld Z hJ589 b572 "java/lang/AbstractStringBuilder" "coder" "B" (.int (0 : Int32))) → (Fld Z hJ589 b572 "java/lang/AbstractStringBuilder" "count" "I" (.int (Int32.ofNat es1.length))) → (Arv Z hJ589 aa1 kk1 .byte (Int32.ofNat cap1) (own_low es1) (.int (0 : Int32))) → (Arv Z hJ589 x_571 k_571 .byte (Int32.ofNat (own_utf cs).length) (own_low (own_utf cs)) (.int (0 : Int32))) → (Arv Z hJ589 ah kh .char (16 : Int32) (own_hexL.map Value.int) (.int (0 : Int32))) → oG p.tables e below PP (TJ589.setTop (mkF m 97 #[.val (.ref a1), .val (.ref x_571), .val (.ref b572), .val (.ref x_571), .val (.int (Int32.ofNat (own_utf cs).length)), .val (.int (0 : Int32)), .val (.int (StrChars.lo8 ((own_utf cs).getD 0 0))), .val (.int ((own_utf cs).getD 0 0))] [])) := by
    intro es1 cap1 aa1 kk1 TJ589 hJ589 lJ589 he1 hb1 hle1 hcap1 hkb1 hz1J hx1J XJ589 eJ589 NJ589 KJ589 OJ589 zJ589 fJ589_0 fJ589_1 fJ589_2 fJ589_3 fJ589_4 fJ589_5 fJ589_6
    have zK589 : h0.size ≤ hJ589.size := KJ589.1
    have ltJ589_0 : @LT.lt Nat _ b572 hJ589.size := fJ589_0.lt
    have ltJ589_1 : @LT.lt Nat _ b572 hJ589.size := fJ589_1.lt
    have ltJ589_2 : @LT.lt Nat _ b572 hJ589.size := fJ589_2.lt
    have ltJ589_3 : @LT.lt Nat _ b572 hJ589.size := fJ589_3.lt
    have ltJ589_4 : @LT.lt Nat _ aa1 hJ589.size := fJ589_4.lt
    have ltJ589_5 : @LT.lt Nat _ x_571 hJ589.size := fJ589_5.lt
    have ltJ589_6 : @LT.lt Nat _ ah hJ589.size := fJ589_6.lt
    refine oG.st (fun _ k => XS.iinc XJ589.here hx rfl (hb hby dp12_2_97) rfl (l' := #[.val (.ref a1), .val (.ref x_571), .val (.ref b572), .val (.ref x_571), .val (.int (Int32.ofNat (own_utf cs).length)), .val (.int (1 : Int32)), .val (.int (StrChars.lo8 ((own_utf cs).getD 0 0))), .val (.int ((own_utf cs).getD 0 0))]) rfl (XS.goto XJ589.here hx rfl (pc0 := 100) (pc' := 27) rfl (hb hby dp12_2_100) (by decide) (by decide) k)) ?_
    show oG _ _ _ _ (TJ589.setTop (mkF m 27 #[.val (.ref a1), .val (.ref x_571), .val (.ref b572), .val (.ref x_571), .val (.int (Int32.ofNat (own_utf cs).length)), .val (.int (1 : Int32)), .val (.int (StrChars.lo8 ((own_utf cs).getD 0 0))), .val (.int ((own_utf cs).getD 0 0))] []))
    have HJ590 : ∀ (es2 : List Int32) (cap2 : Nat) (aa2 : Nat) (kk2 : ClassId) (TJ590 : State) (hJ590 : Heap) (lJ590 : List Loc), (es2 = own_encL ((own_utf cs).take 2)) → (es2.length ≤ 6) → (es2.length ≤ cap2) → (cap2 ≤ 18) → (Z.vm.findClass "[B" = some kk2) → (h0.size ≤ aa2) → (@LT.lt Nat _ x_571 aa2) → (Stand p l e rM28 s m #[(.ref a1)] below meth c TJ590 lJ590 10 120) → (TJ590.heap = hJ590) → (Fr Z.heap.size lJ590) → (Keep h0 hJ590 []) → (Old Z Z.heap.size hJ590) → (hJ589.size ≤ hJ590.size) → (Exa Z hJ590 b572 "java/lang/StringBuilder") → (Fld Z hJ590 b572 "java/lang/AbstractStringBuilder" "value" "[B" (.ref aa2)) → (Fld Z hJ590 b572 "java/lang/AbstractStringBuilder" "coder" "B" (.int (0 : Int32))) → (Fld Z hJ590 b572 "java/lang/AbstractStringBuilder" "count" "I" (.int (Int32.ofNat es2.length))) → (Arv Z hJ590 aa2 kk2 .byte (Int32.ofNat cap2) (own_low es2) (.int (0 : Int32))) → (Arv Z hJ590 x_571 k_571 .byte (Int32.ofNat (own_utf cs).length) (own_low (own_utf cs)) (.int (0 : Int32))) → (Arv Z hJ590 ah kh .char (16 : Int32) (own_hexL.map Value.int) (.int (0 : Int32))) → oG p.tables e below PP (TJ590.setTop (mkF m 97 #[.val (.ref a1), .val (.ref x_571), .val (.ref b572), .val (.ref x_571), .val (.int (Int32.ofNat (own_utf cs).length)), .val (.int (1 : Int32)), .val (.int (StrChars.lo8 ((own_utf cs).getD 1 0))), .val (.int ((own_utf cs).getD 1 0))] [])) := by
      intro es2 cap2 aa2 kk2 TJ590 hJ590 lJ590 he2 hb2 hle2 hcap2 hkb2 hz2J hx2J XJ590 eJ590 NJ590 KJ590 OJ590 zJ590 fJ590_0 fJ590_1 fJ590_2 fJ590_3 fJ590_4 fJ590_5 fJ590_6
      have zK590 : h0.size ≤ hJ590.size := KJ590.1
      have ltJ590_0 : @LT.lt Nat _ b572 hJ590.size := fJ590_0.lt
      have ltJ590_1 : @LT.lt Nat _ b572 hJ590.size := fJ590_1.lt
      have ltJ590_2 : @LT.lt Nat _ b572 hJ590.size := fJ590_2.lt
      have ltJ590_3 : @LT.lt Nat _ b572 hJ590.size := fJ590_3.lt
      have ltJ590_4 : @LT.lt Nat _ aa2 hJ590.size := fJ590_4.lt
      have ltJ590_5 : @LT.lt Nat _ x_571 hJ590.size := fJ590_5.lt
      have ltJ590_6 : @LT.lt Nat _ ah hJ590.size := fJ590_6.lt
      refine oG.st (fun _ k => XS.iinc XJ590.here hx rfl (hb hby dp12_2_97) rfl (l' := #[.val (.ref a1), .val (.ref x_571), .val (.ref b572), .val (.ref x_571), .val (.int (Int32.ofNat (own_utf cs).length)), .val (.int (2 : Int32)), .val (.int (StrChars.lo8 ((own_utf cs).getD 1 0))), .val (.int ((own_utf cs).getD 1 0))]) rfl (XS.goto XJ590.here hx rfl (pc0 := 100) (pc' := 27) rfl (hb hby dp12_2_100) (by decide) (by decide) k)) ?_
      show oG _ _ _ _ (TJ590.setTop (mkF m 27 #[.val (.ref a1), .val (.ref x_571), .val (.ref b572), .val (.ref x_571), .val (.int (Int32.ofNat (own_utf cs).length)), .val (.int (2 : Int32)), .val (.int (StrChars.lo8 ((own_utf cs).getD 1 0))), .val (.int ((own_utf cs).getD 1 0))] []))
      have HJ591 : ∀ (es3 : List Int32) (cap3 : Nat) (aa3 : Nat) (kk3 : ClassId) (TJ591 : State) (hJ591 : Heap) (lJ591 : List Loc), (es3 = own_encL ((own_utf cs).take 3)) → (es3.length ≤ 9) → (es3.length ≤ cap3) → (cap3 ≤ 18) → (Z.vm.findClass "[B" = some kk3) → (h0.size ≤ aa3) → (@LT.lt Nat _ x_571 aa3) → (Stand p l e rM28 s m #[(.ref a1)] below meth c TJ591 lJ591 13 174) → (TJ591.heap = hJ591) → (Fr Z.heap.size lJ591) → (Keep h0 hJ591 []) → (Old Z Z.heap.size hJ591) → (hJ590.size ≤ hJ591.size) → (Exa Z hJ591 b572 "java/lang/StringBuilder") → (Fld Z hJ591 b572 "java/lang/AbstractStringBuilder" "value" "[B" (.ref aa3)) → (Fld Z hJ591 b572 "java/lang/AbstractStringBuilder" "coder" "B" (.int (0 : Int32))) → (Fld Z hJ591 b572 "java/lang/AbstractStringBuilder" "count" "I" (.int (Int32.ofNat es3.length))) → (Arv Z hJ591 aa3 kk3 .byte (Int32.ofNat cap3) (own_low es3) (.int (0 : Int32))) → (Arv Z hJ591 x_571 k_571 .byte (Int32.ofNat (own_utf cs).length) (own_low (own_utf cs)) (.int (0 : Int32))) → (Arv Z hJ591 ah kh .char (16 : Int32) (own_hexL.map Value.int) (.int (0 : Int32))) → oG p.tables e below PP (TJ591.setTop (mkF m 97 #[.val (.ref a1), .val (.ref x_571), .val (.ref b572), .val (.ref x_571), .val (.int (Int32.ofNat (own_utf cs).length)), .val (.int (2 : Int32)), .val (.int (StrChars.lo8 ((own_utf cs).getD 2 0))), .val (.int ((own_utf cs).getD 2 0))] [])) := by
        intro es3 cap3 aa3 kk3 TJ591 hJ591 lJ591 he3 hb3 hle3 hcap3 hkb3 hz3J hx3J XJ591 eJ591 NJ591 KJ591 OJ591 zJ591 fJ591_0 fJ591_1 fJ591_2 fJ591_3 fJ591_4 fJ591_5 fJ591_6
        have zK591 : h0.size ≤ hJ591.size := KJ591.1
        have ltJ591_0 : @LT.lt Nat _ b572 hJ591.size := fJ591_0.lt
        have ltJ591_1 : @LT.lt Nat _ b572 hJ591.size := fJ591_1.lt
        have ltJ591_2 : @LT.lt Nat _ b572 hJ591.size := fJ591_2.lt
        have ltJ591_3 : @LT.lt Nat _ b572 hJ591.size := fJ591_3.lt
        have ltJ591_4 : @LT.lt Nat _ aa3 hJ591.size := fJ591_4.lt
        have ltJ591_5 : @LT.lt Nat _ x_571 hJ591.size := fJ591_5.lt
        have ltJ591_6 : @LT.lt Nat _ ah hJ591.size := fJ591_6.lt
        refine oG.st (fun _ k => XS.iinc XJ591.here hx rfl (hb hby dp12_2_97) rfl (l' := #[.val (.ref a1), .val (.ref x_571), .val (.ref b572), .val (.ref x_571), .val (.int (Int32.ofNat (own_utf cs).length)), .val (.int (3 : Int32)), .val (.int (StrChars.lo8 ((own_utf cs).getD 2 0))), .val (.int ((own_utf cs).getD 2 0))]) rfl (XS.goto XJ591.here hx rfl (pc0 := 100) (pc' := 27) rfl (hb hby dp12_2_100) (by decide) (by decide) k)) ?_
        show oG _ _ _ _ (TJ591.setTop (mkF m 27 #[.val (.ref a1), .val (.ref x_571), .val (.ref b572), .val (.ref x_571), .val (.int (Int32.ofNat (own_utf cs).length)), .val (.int (3 : Int32)), .val (.int (StrChars.lo8 ((own_utf cs).getD 2 0))), .val (.int ((own_utf cs).getD 2 0))] []))
        refine oG.st (fun _ k => XS.iload XJ591.here hx rfl (hb hby dp12_2_27) rfl (XS.iload XJ591.here hx rfl (hb hby dp12_2_29) rfl k)) ?_
        show oG _ _ _ _ (TJ591.setTop (mkF m 31 #[.val (.ref a1), .val (.ref x_571), .val (.ref b572), .val (.ref x_571), .val (.int (Int32.ofNat (own_utf cs).length)), .val (.int (3 : Int32)), .val (.int (StrChars.lo8 ((own_utf cs).getD 2 0))), .val (.int ((own_utf cs).getD 2 0))] [(.int (Int32.ofNat (own_utf cs).length)), (.int (3 : Int32))]))
        have hc592 : ¬ ((3 : Int32) < (Int32.ofNat (own_utf cs).length)) := fun q => absurd ((own_oflt (i := 3) (by omega) (by omega)).mp q) (by omega)
        refine oG.st (fun _ k => XS.icmpYes XJ591.here hx rfl (pc0 := 31) (pc' := 103) rfl (hb hby dp12_2_31) rfl (flt hc592).2.1 (by decide) (by decide) k) ?_
        show oG _ _ _ _ (TJ591.setTop (mkF m 103 #[.val (.ref a1), .val (.ref x_571), .val (.ref b572), .val (.ref x_571), .val (.int (Int32.ofNat (own_utf cs).length)), .val (.int (3 : Int32)), .val (.int (StrChars.lo8 ((own_utf cs).getD 2 0))), .val (.int ((own_utf cs).getD 2 0))] []))
        have hend3 := hlen3
        exact HJ584 es3 cap3 aa3 kk3 (3 : Int32) (.val (.int (StrChars.lo8 ((own_utf cs).getD 2 0)))) (.val (.int ((own_utf cs).getD 2 0))) TJ591 hJ591 _ (he3.trans (congrArg own_encL (List.take_of_length_le hend3))) (by (try simp only [List.length_append, List.length_cons, List.length_nil]); omega) hle3 hcap3 hkb3 (by omega) (by omega) (own_standW XJ591 (by decide) (by decide)) eJ591 NJ591 KJ591 OJ591 (by omega) fJ591_0 fJ591_1 fJ591_2 fJ591_3 fJ591_4 fJ591_5 fJ591_6
      refine oG.st (fun _ k => XS.iload XJ590.here hx rfl (hb hby dp12_2_27) rfl (XS.iload XJ590.here hx rfl (hb hby dp12_2_29) rfl k)) ?_
      show oG _ _ _ _ (TJ590.setTop (mkF m 31 #[.val (.ref a1), .val (.ref x_571), .val (.ref b572), .val (.ref x_571), .val (.int (Int32.ofNat (own_utf cs).length)), .val (.int (2 : Int32)), .val (.int (StrChars.lo8 ((own_utf cs).getD 1 0))), .val (.int ((own_utf cs).getD 1 0))] [(.int (Int32.ofNat (own_utf cs).length)), (.int (2 : Int32))]))
      by_cases h31_2 : (2 : Int32) < (Int32.ofNat (own_utf cs).length)
      ·
        refine oG.st (fun _ k => XS.icmpNo XJ590.here hx rfl (hb hby dp12_2_31) rfl (tlt h31_2).2.1 k) ?_
        have hi2 : 2 < (own_utf cs).length := (own_oflt (i := 2) (by omega) (by omega)).mp h31_2
        have ho2 := own_octG hR.1 hi2
        show oG _ _ _ _ (TJ590.setTop (mkF m 34 #[.val (.ref a1), .val (.ref x_571), .val (.ref b572), .val (.ref x_571), .val (.int (Int32.ofNat (own_utf cs).length)), .val (.int (2 : Int32)), .val (.int (StrChars.lo8 ((own_utf cs).getD 1 0))), .val (.int ((own_utf cs).getD 1 0))] []))
        refine oG.st (fun _ k => XS.aloadN XJ590.here hx rfl (hb hby dp12_2_34) rfl rfl (XS.iload XJ590.here hx rfl (hb hby dp12_2_35) rfl k)) ?_
        show oG _ _ _ _ (TJ590.setTop (mkF m 37 #[.val (.ref a1), .val (.ref x_571), .val (.ref b572), .val (.ref x_571), .val (.int (Int32.ofNat (own_utf cs).length)), .val (.int (2 : Int32)), .val (.int (StrChars.lo8 ((own_utf cs).getD 1 0))), .val (.int ((own_utf cs).getD 1 0))] [(.int (2 : Int32)), (.ref x_571)]))
        obtain ⟨c593, Ar593, q593, S593, Nn593, H593, G593⟩ := id fJ590_5
        have hin593 : ¬ ((2 : Int32) < 0 ∨ c593.slots.size ≤ ((2 : Int32)).toNatClampNeg) := inb_of S593 ⟨by decide, (own_oflt (i := 2) (by omega) (by omega)).mpr hi2⟩
        have hat593 : c593.slots[((2 : Int32)).toNatClampNeg]? = some (.int (StrChars.lo8 ((own_utf cs).getD 2 0))) := H593.at hin593 ((own_lowG _ _ _).trans (if_pos hi2))
        refine oG.st (XJ590.baloadBytes hx (j := (2 : Int32)) (v := (.int (StrChars.lo8 ((own_utf cs).getD 2 0)))) (own_rwE eJ590 Ar593.1) (State.isArrayOf_alike hZ.alike Ar593.2.1) Ar593.2.2 hin593 hat593 (g := (mkF m 37 #[.val (.ref a1), .val (.ref x_571), .val (.ref b572), .val (.ref x_571), .val (.int (Int32.ofNat (own_utf cs).length)), .val (.int (2 : Int32)), .val (.int (StrChars.lo8 ((own_utf cs).getD 1 0))), .val (.int ((own_utf cs).getD 1 0))] [(.int (2 : Int32)), (.ref x_571)])) rfl rfl (hb hby dp12_2_37)) ?_
        refine oG.st (fun _ k => XS.istore XJ590.here hx rfl (hb hby dp12_2_38) rfl (l' := #[.val (.ref a1), .val (.ref x_571), .val (.ref b572), .val (.ref x_571), .val (.int (Int32.ofNat (own_utf cs).length)), .val (.int (2 : Int32)), .val (.int (StrChars.lo8 ((own_utf cs).getD 2 0))), .val (.int ((own_utf cs).getD 1 0))]) rfl (XS.iload XJ590.here hx rfl (hb hby dp12_2_40) rfl (XS.sipush XJ590.here hx rfl (hb hby dp12_2_42) (XS.iand XJ590.here hx rfl (hb hby dp12_2_45) rfl k)))) ?_
        show oG _ _ _ _ (TJ590.setTop (mkF m 46 #[.val (.ref a1), .val (.ref x_571), .val (.ref b572), .val (.ref x_571), .val (.int (Int32.ofNat (own_utf cs).length)), .val (.int (2 : Int32)), .val (.int (StrChars.lo8 ((own_utf cs).getD 2 0))), .val (.int ((own_utf cs).getD 1 0))] [(.int ((StrChars.lo8 ((own_utf cs).getD 2 0)) &&& (255 : Int32)))]))
        rw [own_lo255 ho2]
        refine oG.st (fun _ k => XS.istore XJ590.here hx rfl (hb hby dp12_2_46) rfl (l' := #[.val (.ref a1), .val (.ref x_571), .val (.ref b572), .val (.ref x_571), .val (.int (Int32.ofNat (own_utf cs).length)), .val (.int (2 : Int32)), .val (.int (StrChars.lo8 ((own_utf cs).getD 2 0))), .val (.int ((own_utf cs).getD 2 0))]) rfl (XS.iload XJ590.here hx rfl (hb hby dp12_2_48) rfl k)) ?_
        show oG _ _ _ _ (TJ590.setTop (mkF m 50 #[.val (.ref a1), .val (.ref x_571), .val (.ref b572), .val (.ref x_571), .val (.int (Int32.ofNat (own_utf cs).length)), .val (.int (2 : Int32)), .val (.int (StrChars.lo8 ((own_utf cs).getD 2 0))), .val (.int ((own_utf cs).getD 2 0))] [(.int ((own_utf cs).getD 2 0))]))
        obtain ⟨_, _, ⟨T594, L594, k594, n594⟩, -, X594, ⟨Lc594, hQ594, l594, y594, z594⟩, st594⟩ := Jvm.LawKit.callS XJ590 hx (y := mN1) hown (own_v hZ hw 117 rfl) (own_v hZ hw 118 rfl) (own_v hZ hw 61 rfl) (own_v hZ hw 119 rfl) (by decide) (backOf (W := 0) (rm_isUnr l Z a0 hw [] ((own_utf cs).getD 2 0) hJ590 OJ590 ) hZ (own_w hw 119 rfl) (own_w hw 61 rfl) (by decide) (by decide)) (g := (mkF m 50 #[.val (.ref a1), .val (.ref x_571), .val (.ref b572), .val (.ref x_571), .val (.int (Int32.ofNat (own_utf cs).length)), .val (.int (2 : Int32)), .val (.int (StrChars.lo8 ((own_utf cs).getD 2 0))), .val (.int ((own_utf cs).getD 2 0))] [(.int ((own_utf cs).getD 2 0))])) rfl (by rw [hml]; rfl) (argsL := [(.int ((own_utf cs).getD 2 0))]) (rest := []) (lenOf pd_753 rfl) rfl (by show 2 * 0 + _ ≤ _; exact Nat.le_of_eq rfl) (hb hby dp12_2_50) (fun _ _ => ⟨rfl, eJ590, (by decide : 10 + 0 ≤ _), (by decide : 120 + 0 ≤ _)⟩)
        dsimp only [Pt.U, Pt.locs, Pt.cells, Pt.slots] at X594 l594 y594 z594 st594 hQ594
        subst l594 y594 z594
        obtain ⟨rfl, N594q, K594⟩ := hQ594
        have N594 := Fr.app NJ590 N594q
        refine oG.st st594 ?_
        show oG _ _ _ _ (T594.setTop (mkF m 53 #[.val (.ref a1), .val (.ref x_571), .val (.ref b572), .val (.ref x_571), .val (.int (Int32.ofNat (own_utf cs).length)), .val (.int (2 : Int32)), .val (.int (StrChars.lo8 ((own_utf cs).getD 2 0))), .val (.int ((own_utf cs).getD 2 0))] [(.int (own_unr ((own_utf cs).getD 2 0)))]))
        by_cases h53 : (own_unr ((own_utf cs).getD 2 0)) = (0 : Int32)
        ·
          refine oG.st (fun _ k => XS.ifYes X594.here hx rfl (pc0 := 53) (pc' := 67) rfl (hb hby dp12_2_53) rfl ((if0 _ _).trans (teq h53).1) (by decide) (by decide) k) ?_
          refine oG.st (fun _ k => XS.aloadN X594.here hx rfl (hb hby dp12_2_67) rfl rfl (XS.bipush X594.here hx rfl (hb hby dp12_2_68) k)) ?_
          show oG _ _ _ _ (T594.setTop (mkF m 70 #[.val (.ref a1), .val (.ref x_571), .val (.ref b572), .val (.ref x_571), .val (.int (Int32.ofNat (own_utf cs).length)), .val (.int (2 : Int32)), .val (.int (StrChars.lo8 ((own_utf cs).getD 2 0))), .val (.int ((own_utf cs).getD 2 0))] [(.int (37 : Int32)), (.ref b572)]))
          obtain ⟨cq595, kq595, q595a, q595b, q595c⟩ := isOf hZ K594 fJ590_0
          obtain ⟨_, _, ⟨T595, L595, k595, n595⟩, -, X595, ⟨Lc595, hQ595, l595, y595, z595⟩, st595⟩ := X594.virtualBack hx (y := mN30) (z := mN30) hown (own_v hZ hw 120 rfl) (own_v hZ hw 121 rfl) (notFace_of_selects (args := #[]) (own_v hZ hw 123 rfl)) (own_v hZ hw 123 rfl) (own_v hZ hw 122 rfl) (by decide) (backOf (W := 0) (rm_sbappC l Z a0 hw [] b572 (37 : Int32) es2 cap2 kk2 zc aa2 hJ590 OJ590 fJ590_0 fJ590_1 fJ590_2 fJ590_3 fJ590_4 st_C hzc (by decide) (by (try simp only [List.length_append, List.length_cons, List.length_nil]); omega) hle2 hcap2 hkb2 (by omega) (by omega)) hZ (own_w hw 124 rfl) (own_w hw 101 rfl) (by decide) (by decide)) q595a q595c (g := (mkF m 70 #[.val (.ref a1), .val (.ref x_571), .val (.ref b572), .val (.ref x_571), .val (.int (Int32.ofNat (own_utf cs).length)), .val (.int (2 : Int32)), .val (.int (StrChars.lo8 ((own_utf cs).getD 2 0))), .val (.int ((own_utf cs).getD 2 0))] [(.int (37 : Int32)), (.ref b572)])) rfl (by rw [hml]; rfl) (Steps.refl _) (argsL := [(.int (37 : Int32))]) (rest := []) (lenOf pd_758 rfl) rfl (by show 2 * 0 + _ ≤ _; exact Nat.le_of_eq rfl) (hb hby dp12_2_70) (fun _ _ => ⟨rfl, K594, (by decide : 10 + 1 ≤ _), (by decide : 120 + 18 ≤ _)⟩)
          dsimp only [Pt.U, Pt.locs, Pt.cells, Pt.slots] at X595 l595 y595 z595 st595 hQ595
          subst l595 y595 z595
          obtain ⟨a5_595, cap2_595, k2_595, rfl, N595q, K595, f595_0, f595_1, f595_2, f595_3, f595_4, pr595_0, pr595_1, pr595_2, pr595_3⟩ := hQ595
          have N595 := Fr.app N594 N595q
          have z595 : hJ590.size ≤ T595.heap.size := K595.1
          have lt595_0 : @LT.lt Nat _ b572 T595.heap.size := f595_0.lt
          have lt595_1 : @LT.lt Nat _ b572 T595.heap.size := f595_1.lt
          have lt595_2 : @LT.lt Nat _ b572 T595.heap.size := f595_2.lt
          have lt595_3 : @LT.lt Nat _ b572 T595.heap.size := f595_3.lt
          have lt595_4 : @LT.lt Nat _ a5_595 T595.heap.size := f595_4.lt
          have hz595 : h0.size ≤ a5_595 := own_New.le pr595_3 (by omega) (by omega)
          have hx595 : @LT.lt Nat _ x_571 a5_595 := own_New.lt pr595_3 (by omega) (by omega)
          refine oG.tr st595 ?_
          show oG _ _ _ _ (T595.setTop (mkF m 73 #[.val (.ref a1), .val (.ref x_571), .val (.ref b572), .val (.ref x_571), .val (.int (Int32.ofNat (own_utf cs).length)), .val (.int (2 : Int32)), .val (.int (StrChars.lo8 ((own_utf cs).getD 2 0))), .val (.int ((own_utf cs).getD 2 0))] [(.ref b572)]))
          have f596 : Old Z Z.heap.size T595.heap := OJ590.keep K595 (allS (by omega) (allS (by omega) all0))
          obtain ⟨T597, X597, e597, st597⟩ := getS2 X595 hx hZ hown (host := "") (Or.inl (own_w hw 143 rfl)) Via.refl rfl (st_HEX_DIGITS.ext f596.2) (g := (mkF m 73 #[.val (.ref a1), .val (.ref x_571), .val (.ref b572), .val (.ref x_571), .val (.int (Int32.ofNat (own_utf cs).length)), .val (.int (2 : Int32)), .val (.int (StrChars.lo8 ((own_utf cs).getD 2 0))), .val (.int ((own_utf cs).getD 2 0))] [(.ref b572)])) rfl (hb hby dp12_2_73)
          refine oG.st st597 ?_
          refine oG.st (fun _ k => XS.iload X597.here hx rfl (hb hby dp12_2_76) rfl (XS.iconst X597.here hx rfl (hb hby dp12_2_78) (XS.ishr X597.here hx rfl (hb hby dp12_2_79) rfl k))) ?_
          show oG _ _ _ _ (T597.setTop (mkF m 80 #[.val (.ref a1), .val (.ref x_571), .val (.ref b572), .val (.ref x_571), .val (.int (Int32.ofNat (own_utf cs).length)), .val (.int (2 : Int32)), .val (.int (StrChars.lo8 ((own_utf cs).getD 2 0))), .val (.int ((own_utf cs).getD 2 0))] [(.int (((own_utf cs).getD 2 0) >>> ((4 : Int32) &&& 31))), (.ref ah), (.ref b572)]))
          have ne598 : @Ne Nat ah aa2 := own_arvTy fJ590_6 fJ590_4 (by decide)
          have ne599 : @Ne Nat b572 ah := Exa.neArv fJ590_0 fJ590_6 (own_w hw 100 rfl)
          have f600 : Arv Z T595.heap ah kh .char (16 : Int32) (own_hexL.map Value.int) (.int (0 : Int32)) := fJ590_6.keep K595 (ninS (Ne.symm ne599) (ninS ne598 nin0))
          obtain ⟨c601, Ar601, q601, S601, Nn601, H601, G601⟩ := id f600
          have hin601 : ¬ ((((own_utf cs).getD 2 0) >>> ((4 : Int32) &&& 31)) < 0 ∨ c601.slots.size ≤ ((((own_utf cs).getD 2 0) >>> ((4 : Int32) &&& 31))).toNatClampNeg) := inb_of S601 (own_hex1 ho2).2
          have hat601 : c601.slots[((((own_utf cs).getD 2 0) >>> ((4 : Int32) &&& 31))).toNatClampNeg]? = some (.int (own_dg ((((own_utf cs).getD 2 0) >>> ((4 : Int32) &&& 31)) &&& (15 : Int32)))) := H601.at hin601 (own_hex1 ho2).1
          refine oG.st (X597.caload hx (j := (((own_utf cs).getD 2 0) >>> ((4 : Int32) &&& 31))) (v := (.int (own_dg ((((own_utf cs).getD 2 0) >>> ((4 : Int32) &&& 31)) &&& (15 : Int32))))) (own_rwE e597 Ar601.1) (State.isArrayOf_alike hZ.alike Ar601.2.1) Ar601.2.2 hin601 hat601 (g := (mkF m 80 #[.val (.ref a1), .val (.ref x_571), .val (.ref b572), .val (.ref x_571), .val (.int (Int32.ofNat (own_utf cs).length)), .val (.int (2 : Int32)), .val (.int (StrChars.lo8 ((own_utf cs).getD 2 0))), .val (.int ((own_utf cs).getD 2 0))] [(.int (((own_utf cs).getD 2 0) >>> ((4 : Int32) &&& 31))), (.ref ah), (.ref b572)])) rfl rfl (hb hby dp12_2_80)) ?_
          show oG _ _ _ _ (T597.setTop (mkF m 81 #[.val (.ref a1), .val (.ref x_571), .val (.ref b572), .val (.ref x_571), .val (.int (Int32.ofNat (own_utf cs).length)), .val (.int (2 : Int32)), .val (.int (StrChars.lo8 ((own_utf cs).getD 2 0))), .val (.int ((own_utf cs).getD 2 0))] [(.int (own_dg ((((own_utf cs).getD 2 0) >>> ((4 : Int32) &&& 31)) &&& (15 : Int32)))), (.ref b572)]))
          obtain ⟨cq602, kq602, q602a, q602b, q602c⟩ := isOf hZ e597 f595_0
          obtain ⟨_, _, ⟨T602, L602, k602, n602⟩, -, X602, ⟨Lc602, hQ602, l602, y602, z602⟩, st602⟩ := X597.virtualBack hx (y := mN30) (z := mN30) hown (own_v hZ hw 120 rfl) (own_v hZ hw 121 rfl) (notFace_of_selects (args := #[]) (own_v hZ hw 123 rfl)) (own_v hZ hw 123 rfl) (own_v hZ hw 122 rfl) (by decide) (backOf (W := 0) (rm_sbappC l Z a0 hw [] b572 (own_dg ((((own_utf cs).getD 2 0) >>> ((4 : Int32) &&& 31)) &&& (15 : Int32))) (es2 ++ [(37 : Int32)]) cap2_595 k2_595 zc a5_595 T595.heap f596 f595_0 f595_1 f595_2 f595_3 f595_4 st_C hzc (own_dgR _).2 (by (try simp only [List.length_append, List.length_cons, List.length_nil]); omega) pr595_0 pr595_1 pr595_2 (by omega) (by omega)) hZ (own_w hw 124 rfl) (own_w hw 101 rfl) (by decide) (by decide)) q602a q602c (g := (mkF m 81 #[.val (.ref a1), .val (.ref x_571), .val (.ref b572), .val (.ref x_571), .val (.int (Int32.ofNat (own_utf cs).length)), .val (.int (2 : Int32)), .val (.int (StrChars.lo8 ((own_utf cs).getD 2 0))), .val (.int ((own_utf cs).getD 2 0))] [(.int (own_dg ((((own_utf cs).getD 2 0) >>> ((4 : Int32) &&& 31)) &&& (15 : Int32)))), (.ref b572)])) rfl (by rw [hml]; rfl) (Steps.refl _) (argsL := [(.int (own_dg ((((own_utf cs).getD 2 0) >>> ((4 : Int32) &&& 31)) &&& (15 : Int32))))]) (rest := []) (lenOf pd_758 rfl) rfl (by show 2 * 0 + _ ≤ _; exact Nat.le_of_eq rfl) (hb hby dp12_2_81) (fun _ _ => ⟨rfl, e597, (by decide : 11 + 1 ≤ _), (by decide : 138 + 18 ≤ _)⟩)
          dsimp only [Pt.U, Pt.locs, Pt.cells, Pt.slots] at X602 l602 y602 z602 st602 hQ602
          subst l602 y602 z602
          obtain ⟨a5_602, cap2_602, k2_602, rfl, N602q, K602, f602_0, f602_1, f602_2, f602_3, f602_4, pr602_0, pr602_1, pr602_2, pr602_3⟩ := hQ602
          have N602 := Fr.app N595 N602q
          have z602 : T595.heap.size ≤ T602.heap.size := K602.1
          have lt602_0 : @LT.lt Nat _ b572 T602.heap.size := f602_0.lt
          have lt602_1 : @LT.lt Nat _ b572 T602.heap.size := f602_1.lt
          have lt602_2 : @LT.lt Nat _ b572 T602.heap.size := f602_2.lt
          have lt602_3 : @LT.lt Nat _ b572 T602.heap.size := f602_3.lt
          have lt602_4 : @LT.lt Nat _ a5_602 T602.heap.size := f602_4.lt
          have hz602 : h0.size ≤ a5_602 := own_New.le pr602_3 (by omega) (by omega)
          have hx602 : @LT.lt Nat _ x_571 a5_602 := own_New.lt pr602_3 (by omega) (by omega)
          refine oG.tr st602 ?_
          show oG _ _ _ _ (T602.setTop (mkF m 84 #[.val (.ref a1), .val (.ref x_571), .val (.ref b572), .val (.ref x_571), .val (.int (Int32.ofNat (own_utf cs).length)), .val (.int (2 : Int32)), .val (.int (StrChars.lo8 ((own_utf cs).getD 2 0))), .val (.int ((own_utf cs).getD 2 0))] [(.ref b572)]))
          have f603 : Old Z Z.heap.size T602.heap := f596.keep K602 (allS (by omega) (allS (by omega) all0))
          obtain ⟨T604, X604, e604, st604⟩ := getS2 X602 hx hZ hown (host := "") (Or.inl (own_w hw 143 rfl)) Via.refl rfl (st_HEX_DIGITS.ext f603.2) (g := (mkF m 84 #[.val (.ref a1), .val (.ref x_571), .val (.ref b572), .val (.ref x_571), .val (.int (Int32.ofNat (own_utf cs).length)), .val (.int (2 : Int32)), .val (.int (StrChars.lo8 ((own_utf cs).getD 2 0))), .val (.int ((own_utf cs).getD 2 0))] [(.ref b572)])) rfl (hb hby dp12_2_84)
          refine oG.st st604 ?_
          refine oG.st (fun _ k => XS.iload X604.here hx rfl (hb hby dp12_2_87) rfl (XS.bipush X604.here hx rfl (hb hby dp12_2_89) (XS.iand X604.here hx rfl (hb hby dp12_2_91) rfl k))) ?_
          show oG _ _ _ _ (T604.setTop (mkF m 92 #[.val (.ref a1), .val (.ref x_571), .val (.ref b572), .val (.ref x_571), .val (.int (Int32.ofNat (own_utf cs).length)), .val (.int (2 : Int32)), .val (.int (StrChars.lo8 ((own_utf cs).getD 2 0))), .val (.int ((own_utf cs).getD 2 0))] [(.int (((own_utf cs).getD 2 0) &&& (15 : Int32))), (.ref ah), (.ref b572)]))
          have ne605 : @Ne Nat ah a5_595 := own_arvTy f600 f595_4 (by decide)
          have f606 : Arv Z T602.heap ah kh .char (16 : Int32) (own_hexL.map Value.int) (.int (0 : Int32)) := f600.keep K602 (ninS (Ne.symm ne599) (ninS ne605 nin0))
          obtain ⟨c607, Ar607, q607, S607, Nn607, H607, G607⟩ := id f606
          have hin607 : ¬ ((((own_utf cs).getD 2 0) &&& (15 : Int32)) < 0 ∨ c607.slots.size ≤ ((((own_utf cs).getD 2 0) &&& (15 : Int32))).toNatClampNeg) := inb_of S607 (own_hex2 ho2).2
          have hat607 : c607.slots[((((own_utf cs).getD 2 0) &&& (15 : Int32))).toNatClampNeg]? = some (.int (own_dg (((own_utf cs).getD 2 0) &&& (15 : Int32)))) := H607.at hin607 (own_hex2 ho2).1
          refine oG.st (X604.caload hx (j := (((own_utf cs).getD 2 0) &&& (15 : Int32))) (v := (.int (own_dg (((own_utf cs).getD 2 0) &&& (15 : Int32))))) (own_rwE e604 Ar607.1) (State.isArrayOf_alike hZ.alike Ar607.2.1) Ar607.2.2 hin607 hat607 (g := (mkF m 92 #[.val (.ref a1), .val (.ref x_571), .val (.ref b572), .val (.ref x_571), .val (.int (Int32.ofNat (own_utf cs).length)), .val (.int (2 : Int32)), .val (.int (StrChars.lo8 ((own_utf cs).getD 2 0))), .val (.int ((own_utf cs).getD 2 0))] [(.int (((own_utf cs).getD 2 0) &&& (15 : Int32))), (.ref ah), (.ref b572)])) rfl rfl (hb hby dp12_2_92)) ?_
          show oG _ _ _ _ (T604.setTop (mkF m 93 #[.val (.ref a1), .val (.ref x_571), .val (.ref b572), .val (.ref x_571), .val (.int (Int32.ofNat (own_utf cs).length)), .val (.int (2 : Int32)), .val (.int (StrChars.lo8 ((own_utf cs).getD 2 0))), .val (.int ((own_utf cs).getD 2 0))] [(.int (own_dg (((own_utf cs).getD 2 0) &&& (15 : Int32)))), (.ref b572)]))
          obtain ⟨cq608, kq608, q608a, q608b, q608c⟩ := isOf hZ e604 f602_0
          obtain ⟨_, _, ⟨T608, L608, k608, n608⟩, -, X608, ⟨Lc608, hQ608, l608, y608, z608⟩, st608⟩ := X604.virtualBack hx (y := mN30) (z := mN30) hown (own_v hZ hw 120 rfl) (own_v hZ hw 121 rfl) (notFace_of_selects (args := #[]) (own_v hZ hw 123 rfl)) (own_v hZ hw 123 rfl) (own_v hZ hw 122 rfl) (by decide) (backOf (W := 0) (rm_sbappC l Z a0 hw [] b572 (own_dg (((own_utf cs).getD 2 0) &&& (15 : Int32))) ((es2 ++ [(37 : Int32)]) ++ [(own_dg ((((own_utf cs).getD 2 0) >>> ((4 : Int32) &&& 31)) &&& (15 : Int32)))]) cap2_602 k2_602 zc a5_602 T602.heap f603 f602_0 f602_1 f602_2 f602_3 f602_4 st_C hzc (own_dgR _).2 (by (try simp only [List.length_append, List.length_cons, List.length_nil]); omega) pr602_0 pr602_1 pr602_2 (by omega) (by omega)) hZ (own_w hw 124 rfl) (own_w hw 101 rfl) (by decide) (by decide)) q608a q608c (g := (mkF m 93 #[.val (.ref a1), .val (.ref x_571), .val (.ref b572), .val (.ref x_571), .val (.int (Int32.ofNat (own_utf cs).length)), .val (.int (2 : Int32)), .val (.int (StrChars.lo8 ((own_utf cs).getD 2 0))), .val (.int ((own_utf cs).getD 2 0))] [(.int (own_dg (((own_utf cs).getD 2 0) &&& (15 : Int32)))), (.ref b572)])) rfl (by rw [hml]; rfl) (Steps.refl _) (argsL := [(.int (own_dg (((own_utf cs).getD 2 0) &&& (15 : Int32))))]) (rest := []) (lenOf pd_758 rfl) rfl (by show 2 * 0 + _ ≤ _; exact Nat.le_of_eq rfl) (hb hby dp12_2_93) (fun _ _ => ⟨rfl, e604, (by decide : 12 + 1 ≤ _), (by decide : 156 + 18 ≤ _)⟩)
          dsimp only [Pt.U, Pt.locs, Pt.cells, Pt.slots] at X608 l608 y608 z608 st608 hQ608
          subst l608 y608 z608
          obtain ⟨a5_608, cap2_608, k2_608, rfl, N608q, K608, f608_0, f608_1, f608_2, f608_3, f608_4, pr608_0, pr608_1, pr608_2, pr608_3⟩ := hQ608
          have N608 := Fr.app N602 N608q
          have z608 : T602.heap.size ≤ T608.heap.size := K608.1
          have lt608_0 : @LT.lt Nat _ b572 T608.heap.size := f608_0.lt
          have lt608_1 : @LT.lt Nat _ b572 T608.heap.size := f608_1.lt
          have lt608_2 : @LT.lt Nat _ b572 T608.heap.size := f608_2.lt
          have lt608_3 : @LT.lt Nat _ b572 T608.heap.size := f608_3.lt
          have lt608_4 : @LT.lt Nat _ a5_608 T608.heap.size := f608_4.lt
          have hz608 : h0.size ≤ a5_608 := own_New.le pr608_3 (by omega) (by omega)
          have hx608 : @LT.lt Nat _ x_571 a5_608 := own_New.lt pr608_3 (by omega) (by omega)
          refine oG.tr st608 ?_
          refine oG.st (fun _ k => XS.pop X608.here hx rfl (hb hby dp12_2_96) rfl rfl k) ?_
          show oG _ _ _ _ (T608.setTop (mkF m 97 #[.val (.ref a1), .val (.ref x_571), .val (.ref b572), .val (.ref x_571), .val (.int (Int32.ofNat (own_utf cs).length)), .val (.int (2 : Int32)), .val (.int (StrChars.lo8 ((own_utf cs).getD 2 0))), .val (.int ((own_utf cs).getD 2 0))] []))
          have f609 : Arv Z T595.heap x_571 k_571 .byte (Int32.ofNat (own_utf cs).length) (own_low (own_utf cs)) (.int (0 : Int32)) := fJ590_5.keep K595 (ninS (Ne.symm ne581) (ninS (by show @Ne Nat x_571 aa2; omega) nin0))
          have f610 : Arv Z T602.heap x_571 k_571 .byte (Int32.ofNat (own_utf cs).length) (own_low (own_utf cs)) (.int (0 : Int32)) := f609.keep K602 (ninS (Ne.symm ne581) (ninS (by show @Ne Nat x_571 a5_595; omega) nin0))
          have f611 : Arv Z T608.heap x_571 k_571 .byte (Int32.ofNat (own_utf cs).length) (own_low (own_utf cs)) (.int (0 : Int32)) := f610.keep K608 (ninS (Ne.symm ne581) (ninS (by show @Ne Nat x_571 a5_602; omega) nin0))
          have ne612 : @Ne Nat ah a5_602 := own_arvTy f606 f602_4 (by decide)
          have f613 : Arv Z T608.heap ah kh .char (16 : Int32) (own_hexL.map Value.int) (.int (0 : Int32)) := f606.keep K608 (ninS (Ne.symm ne599) (ninS ne612 nin0))
          have K614 : Keep h0 T595.heap [] := KJ590.trans K595 (allS (Or.inr (by omega)) (allS (Or.inr (by omega)) all0))
          have K615 : Keep h0 T602.heap [] := K614.trans K602 (allS (Or.inr (by omega)) (allS (Or.inr (by omega)) all0))
          have K616 : Keep h0 T608.heap [] := K615.trans K608 (allS (Or.inr (by omega)) (allS (Or.inr (by omega)) all0))
          have f617 : Old Z Z.heap.size T608.heap := f603.keep K608 (allS (by omega) (allS (by omega) all0))
          exact HJ591 (((es2 ++ [(37 : Int32)]) ++ [(own_dg ((((own_utf cs).getD 2 0) >>> ((4 : Int32) &&& 31)) &&& (15 : Int32)))]) ++ [(own_dg (((own_utf cs).getD 2 0) &&& (15 : Int32)))]) cap2_608 a5_608 k2_608 T608 T608.heap _ (by rw [own_encS hi2, ← he2, own_pct, if_pos h53]; simp [own_put]) (by (try simp only [List.length_append, List.length_cons, List.length_nil]); omega) pr608_0 pr608_1 pr608_2 (by omega) (by omega) (own_standW X608 (by decide) (by decide)) rfl N608 K616 f617 (by omega) f608_0 f608_1 f608_2 f608_3 f608_4 f611 f613
        ·
          refine oG.st (fun _ k => XS.ifNo X594.here hx rfl (hb hby dp12_2_53) rfl ((if0 _ _).trans (feq h53).1) k) ?_
          refine oG.st (fun _ k => XS.aloadN X594.here hx rfl (hb hby dp12_2_56) rfl rfl (XS.iload X594.here hx rfl (hb hby dp12_2_57) rfl (XS.i2c X594.here hx rfl (hb hby dp12_2_59) rfl k))) ?_
          show oG _ _ _ _ (T594.setTop (mkF m 60 #[.val (.ref a1), .val (.ref x_571), .val (.ref b572), .val (.ref x_571), .val (.int (Int32.ofNat (own_utf cs).length)), .val (.int (2 : Int32)), .val (.int (StrChars.lo8 ((own_utf cs).getD 2 0))), .val (.int ((own_utf cs).getD 2 0))] [(.int (((own_utf cs).getD 2 0).toUInt32.toUInt16.toUInt32.toInt32)), (.ref b572)]))
          rw [show ((own_utf cs).getD 2 0).toUInt32.toUInt16.toUInt32.toInt32 = ((own_utf cs).getD 2 0) from own_nar (own_up ho2)]
          show oG _ _ _ _ (T594.setTop (mkF m 60 #[.val (.ref a1), .val (.ref x_571), .val (.ref b572), .val (.ref x_571), .val (.int (Int32.ofNat (own_utf cs).length)), .val (.int (2 : Int32)), .val (.int (StrChars.lo8 ((own_utf cs).getD 2 0))), .val (.int ((own_utf cs).getD 2 0))] [(.int ((own_utf cs).getD 2 0)), (.ref b572)]))
          obtain ⟨cq618, kq618, q618a, q618b, q618c⟩ := isOf hZ K594 fJ590_0
          obtain ⟨_, _, ⟨T618, L618, k618, n618⟩, -, X618, ⟨Lc618, hQ618, l618, y618, z618⟩, st618⟩ := X594.virtualBack hx (y := mN30) (z := mN30) hown (own_v hZ hw 120 rfl) (own_v hZ hw 121 rfl) (notFace_of_selects (args := #[]) (own_v hZ hw 123 rfl)) (own_v hZ hw 123 rfl) (own_v hZ hw 122 rfl) (by decide) (backOf (W := 0) (rm_sbappC l Z a0 hw [] b572 ((own_utf cs).getD 2 0) es2 cap2 kk2 zc aa2 hJ590 OJ590 fJ590_0 fJ590_1 fJ590_2 fJ590_3 fJ590_4 st_C hzc ho2.2 (by (try simp only [List.length_append, List.length_cons, List.length_nil]); omega) hle2 hcap2 hkb2 (by omega) (by omega)) hZ (own_w hw 124 rfl) (own_w hw 101 rfl) (by decide) (by decide)) q618a q618c (g := (mkF m 60 #[.val (.ref a1), .val (.ref x_571), .val (.ref b572), .val (.ref x_571), .val (.int (Int32.ofNat (own_utf cs).length)), .val (.int (2 : Int32)), .val (.int (StrChars.lo8 ((own_utf cs).getD 2 0))), .val (.int ((own_utf cs).getD 2 0))] [(.int ((own_utf cs).getD 2 0)), (.ref b572)])) rfl (by rw [hml]; rfl) (Steps.refl _) (argsL := [(.int ((own_utf cs).getD 2 0))]) (rest := []) (lenOf pd_758 rfl) rfl (by show 2 * 0 + _ ≤ _; exact Nat.le_of_eq rfl) (hb hby dp12_2_60) (fun _ _ => ⟨rfl, K594, (by decide : 10 + 1 ≤ _), (by decide : 120 + 18 ≤ _)⟩)
          dsimp only [Pt.U, Pt.locs, Pt.cells, Pt.slots] at X618 l618 y618 z618 st618 hQ618
          subst l618 y618 z618
          obtain ⟨a5_618, cap2_618, k2_618, rfl, N618q, K618, f618_0, f618_1, f618_2, f618_3, f618_4, pr618_0, pr618_1, pr618_2, pr618_3⟩ := hQ618
          have N618 := Fr.app N594 N618q
          have z618 : hJ590.size ≤ T618.heap.size := K618.1
          have lt618_0 : @LT.lt Nat _ b572 T618.heap.size := f618_0.lt
          have lt618_1 : @LT.lt Nat _ b572 T618.heap.size := f618_1.lt
          have lt618_2 : @LT.lt Nat _ b572 T618.heap.size := f618_2.lt
          have lt618_3 : @LT.lt Nat _ b572 T618.heap.size := f618_3.lt
          have lt618_4 : @LT.lt Nat _ a5_618 T618.heap.size := f618_4.lt
          have hz618 : h0.size ≤ a5_618 := own_New.le pr618_3 (by omega) (by omega)
          have hx618 : @LT.lt Nat _ x_571 a5_618 := own_New.lt pr618_3 (by omega) (by omega)
          refine oG.tr st618 ?_
          refine oG.st (fun _ k => XS.pop X618.here hx rfl (hb hby dp12_2_63) rfl rfl (XS.goto X618.here hx rfl (pc0 := 64) (pc' := 97) rfl (hb hby dp12_2_64) (by decide) (by decide) k)) ?_
          show oG _ _ _ _ (T618.setTop (mkF m 97 #[.val (.ref a1), .val (.ref x_571), .val (.ref b572), .val (.ref x_571), .val (.int (Int32.ofNat (own_utf cs).length)), .val (.int (2 : Int32)), .val (.int (StrChars.lo8 ((own_utf cs).getD 2 0))), .val (.int ((own_utf cs).getD 2 0))] []))
          have f619 : Arv Z T618.heap x_571 k_571 .byte (Int32.ofNat (own_utf cs).length) (own_low (own_utf cs)) (.int (0 : Int32)) := fJ590_5.keep K618 (ninS (Ne.symm ne581) (ninS (by show @Ne Nat x_571 aa2; omega) nin0))
          have ne620 : @Ne Nat ah aa2 := own_arvTy fJ590_6 fJ590_4 (by decide)
          have ne621 : @Ne Nat b572 ah := Exa.neArv fJ590_0 fJ590_6 (own_w hw 100 rfl)
          have f622 : Arv Z T618.heap ah kh .char (16 : Int32) (own_hexL.map Value.int) (.int (0 : Int32)) := fJ590_6.keep K618 (ninS (Ne.symm ne621) (ninS ne620 nin0))
          have K623 : Keep h0 T618.heap [] := KJ590.trans K618 (allS (Or.inr (by omega)) (allS (Or.inr (by omega)) all0))
          have f624 : Old Z Z.heap.size T618.heap := OJ590.keep K618 (allS (by omega) (allS (by omega) all0))
          exact HJ591 (es2 ++ [((own_utf cs).getD 2 0)]) cap2_618 a5_618 k2_618 T618 T618.heap _ (by rw [own_encS hi2, ← he2, own_pct, if_neg h53]) (by (try simp only [List.length_append, List.length_cons, List.length_nil]); omega) pr618_0 pr618_1 pr618_2 (by omega) (by omega) (own_standW X618 (by decide) (by decide)) rfl N618 K623 f624 (by omega) f618_0 f618_1 f618_2 f618_3 f618_4 f619 f622
      ·
        refine oG.st (fun _ k => XS.icmpYes XJ590.here hx rfl (pc0 := 31) (pc' := 103) rfl (hb hby dp12_2_31) rfl (flt h31_2).2.1 (by decide) (by decide) k) ?_
        show oG _ _ _ _ (TJ590.setTop (mkF m 103 #[.val (.ref a1), .val (.ref x_571), .val (.ref b572), .val (.ref x_571), .val (.int (Int32.ofNat (own_utf cs).length)), .val (.int (2 : Int32)), .val (.int (StrChars.lo8 ((own_utf cs).getD 1 0))), .val (.int ((own_utf cs).getD 1 0))] []))
        have hend2 : (own_utf cs).length ≤ 2 := by
          have q : ¬ 2 < (own_utf cs).length := fun q => h31_2 ((own_oflt (i := 2) (by omega) (by omega)).mpr q)
          omega
        exact HJ584 es2 cap2 aa2 kk2 (2 : Int32) (.val (.int (StrChars.lo8 ((own_utf cs).getD 1 0)))) (.val (.int ((own_utf cs).getD 1 0))) TJ590 hJ590 _ (he2.trans (congrArg own_encL (List.take_of_length_le hend2))) (by (try simp only [List.length_append, List.length_cons, List.length_nil]); omega) hle2 hcap2 hkb2 (by omega) (by omega) (own_standW XJ590 (by decide) (by decide)) eJ590 NJ590 KJ590 OJ590 (by omega) fJ590_0 fJ590_1 fJ590_2 fJ590_3 fJ590_4 fJ590_5 fJ590_6
    refine oG.st (fun _ k => XS.iload XJ589.here hx rfl (hb hby dp12_2_27) rfl (XS.iload XJ589.here hx rfl (hb hby dp12_2_29) rfl k)) ?_
    show oG _ _ _ _ (TJ589.setTop (mkF m 31 #[.val (.ref a1), .val (.ref x_571), .val (.ref b572), .val (.ref x_571), .val (.int (Int32.ofNat (own_utf cs).length)), .val (.int (1 : Int32)), .val (.int (StrChars.lo8 ((own_utf cs).getD 0 0))), .val (.int ((own_utf cs).getD 0 0))] [(.int (Int32.ofNat (own_utf cs).length)), (.int (1 : Int32))]))
    by_cases h31_1 : (1 : Int32) < (Int32.ofNat (own_utf cs).length)
    ·
      refine oG.st (fun _ k => XS.icmpNo XJ589.here hx rfl (hb hby dp12_2_31) rfl (tlt h31_1).2.1 k) ?_
      have hi1 : 1 < (own_utf cs).length := (own_oflt (i := 1) (by omega) (by omega)).mp h31_1
      have ho1 := own_octG hR.1 hi1
      show oG _ _ _ _ (TJ589.setTop (mkF m 34 #[.val (.ref a1), .val (.ref x_571), .val (.ref b572), .val (.ref x_571), .val (.int (Int32.ofNat (own_utf cs).length)), .val (.int (1 : Int32)), .val (.int (StrChars.lo8 ((own_utf cs).getD 0 0))), .val (.int ((own_utf cs).getD 0 0))] []))
      refine oG.st (fun _ k => XS.aloadN XJ589.here hx rfl (hb hby dp12_2_34) rfl rfl (XS.iload XJ589.here hx rfl (hb hby dp12_2_35) rfl k)) ?_
      show oG _ _ _ _ (TJ589.setTop (mkF m 37 #[.val (.ref a1), .val (.ref x_571), .val (.ref b572), .val (.ref x_571), .val (.int (Int32.ofNat (own_utf cs).length)), .val (.int (1 : Int32)), .val (.int (StrChars.lo8 ((own_utf cs).getD 0 0))), .val (.int ((own_utf cs).getD 0 0))] [(.int (1 : Int32)), (.ref x_571)]))
      obtain ⟨c625, Ar625, q625, S625, Nn625, H625, G625⟩ := id fJ589_5
      have hin625 : ¬ ((1 : Int32) < 0 ∨ c625.slots.size ≤ ((1 : Int32)).toNatClampNeg) := inb_of S625 ⟨by decide, (own_oflt (i := 1) (by omega) (by omega)).mpr hi1⟩
      have hat625 : c625.slots[((1 : Int32)).toNatClampNeg]? = some (.int (StrChars.lo8 ((own_utf cs).getD 1 0))) := H625.at hin625 ((own_lowG _ _ _).trans (if_pos hi1))
      refine oG.st (XJ589.baloadBytes hx (j := (1 : Int32)) (v := (.int (StrChars.lo8 ((own_utf cs).getD 1 0)))) (own_rwE eJ589 Ar625.1) (State.isArrayOf_alike hZ.alike Ar625.2.1) Ar625.2.2 hin625 hat625 (g := (mkF m 37 #[.val (.ref a1), .val (.ref x_571), .val (.ref b572), .val (.ref x_571), .val (.int (Int32.ofNat (own_utf cs).length)), .val (.int (1 : Int32)), .val (.int (StrChars.lo8 ((own_utf cs).getD 0 0))), .val (.int ((own_utf cs).getD 0 0))] [(.int (1 : Int32)), (.ref x_571)])) rfl rfl (hb hby dp12_2_37)) ?_
      refine oG.st (fun _ k => XS.istore XJ589.here hx rfl (hb hby dp12_2_38) rfl (l' := #[.val (.ref a1), .val (.ref x_571), .val (.ref b572), .val (.ref x_571), .val (.int (Int32.ofNat (own_utf cs).length)), .val (.int (1 : Int32)), .val (.int (StrChars.lo8 ((own_utf cs).getD 1 0))), .val (.int ((own_utf cs).getD 0 0))]) rfl (XS.iload XJ589.here hx rfl (hb hby dp12_2_40) rfl (XS.sipush XJ589.here hx rfl (hb hby dp12_2_42) (XS.iand XJ589.here hx rfl (hb hby dp12_2_45) rfl k)))) ?_
      show oG _ _ _ _ (TJ589.setTop (mkF m 46 #[.val (.ref a1), .val (.ref x_571), .val (.ref b572), .val (.ref x_571), .val (.int (Int32.ofNat (own_utf cs).length)), .val (.int (1 : Int32)), .val (.int (StrChars.lo8 ((own_utf cs).getD 1 0))), .val (.int ((own_utf cs).getD 0 0))] [(.int ((StrChars.lo8 ((own_utf cs).getD 1 0)) &&& (255 : Int32)))]))
      rw [own_lo255 ho1]
      refine oG.st (fun _ k => XS.istore XJ589.here hx rfl (hb hby dp12_2_46) rfl (l' := #[.val (.ref a1), .val (.ref x_571), .val (.ref b572), .val (.ref x_571), .val (.int (Int32.ofNat (own_utf cs).length)), .val (.int (1 : Int32)), .val (.int (StrChars.lo8 ((own_utf cs).getD 1 0))), .val (.int ((own_utf cs).getD 1 0))]) rfl (XS.iload XJ589.here hx rfl (hb hby dp12_2_48) rfl k)) ?_
      show oG _ _ _ _ (TJ589.setTop (mkF m 50 #[.val (.ref a1), .val (.ref x_571), .val (.ref b572), .val (.ref x_571), .val (.int (Int32.ofNat (own_utf cs).length)), .val (.int (1 : Int32)), .val (.int (StrChars.lo8 ((own_utf cs).getD 1 0))), .val (.int ((own_utf cs).getD 1 0))] [(.int ((own_utf cs).getD 1 0))]))
      obtain ⟨_, _, ⟨T626, L626, k626, n626⟩, -, X626, ⟨Lc626, hQ626, l626, y626, z626⟩, st626⟩ := Jvm.LawKit.callS XJ589 hx (y := mN1) hown (own_v hZ hw 117 rfl) (own_v hZ hw 118 rfl) (own_v hZ hw 61 rfl) (own_v hZ hw 119 rfl) (by decide) (backOf (W := 0) (rm_isUnr l Z a0 hw [] ((own_utf cs).getD 1 0) hJ589 OJ589 ) hZ (own_w hw 119 rfl) (own_w hw 61 rfl) (by decide) (by decide)) (g := (mkF m 50 #[.val (.ref a1), .val (.ref x_571), .val (.ref b572), .val (.ref x_571), .val (.int (Int32.ofNat (own_utf cs).length)), .val (.int (1 : Int32)), .val (.int (StrChars.lo8 ((own_utf cs).getD 1 0))), .val (.int ((own_utf cs).getD 1 0))] [(.int ((own_utf cs).getD 1 0))])) rfl (by rw [hml]; rfl) (argsL := [(.int ((own_utf cs).getD 1 0))]) (rest := []) (lenOf pd_753 rfl) rfl (by show 2 * 0 + _ ≤ _; exact Nat.le_of_eq rfl) (hb hby dp12_2_50) (fun _ _ => ⟨rfl, eJ589, (by decide : 7 + 0 ≤ _), (by decide : 66 + 0 ≤ _)⟩)
      dsimp only [Pt.U, Pt.locs, Pt.cells, Pt.slots] at X626 l626 y626 z626 st626 hQ626
      subst l626 y626 z626
      obtain ⟨rfl, N626q, K626⟩ := hQ626
      have N626 := Fr.app NJ589 N626q
      refine oG.st st626 ?_
      show oG _ _ _ _ (T626.setTop (mkF m 53 #[.val (.ref a1), .val (.ref x_571), .val (.ref b572), .val (.ref x_571), .val (.int (Int32.ofNat (own_utf cs).length)), .val (.int (1 : Int32)), .val (.int (StrChars.lo8 ((own_utf cs).getD 1 0))), .val (.int ((own_utf cs).getD 1 0))] [(.int (own_unr ((own_utf cs).getD 1 0)))]))
      by_cases h53 : (own_unr ((own_utf cs).getD 1 0)) = (0 : Int32)
      ·
        refine oG.st (fun _ k => XS.ifYes X626.here hx rfl (pc0 := 53) (pc' := 67) rfl (hb hby dp12_2_53) rfl ((if0 _ _).trans (teq h53).1) (by decide) (by decide) k) ?_
        refine oG.st (fun _ k => XS.aloadN X626.here hx rfl (hb hby dp12_2_67) rfl rfl (XS.bipush X626.here hx rfl (hb hby dp12_2_68) k)) ?_
        show oG _ _ _ _ (T626.setTop (mkF m 70 #[.val (.ref a1), .val (.ref x_571), .val (.ref b572), .val (.ref x_571), .val (.int (Int32.ofNat (own_utf cs).length)), .val (.int (1 : Int32)), .val (.int (StrChars.lo8 ((own_utf cs).getD 1 0))), .val (.int ((own_utf cs).getD 1 0))] [(.int (37 : Int32)), (.ref b572)]))
        obtain ⟨cq627, kq627, q627a, q627b, q627c⟩ := isOf hZ K626 fJ589_0
        obtain ⟨_, _, ⟨T627, L627, k627, n627⟩, -, X627, ⟨Lc627, hQ627, l627, y627, z627⟩, st627⟩ := X626.virtualBack hx (y := mN30) (z := mN30) hown (own_v hZ hw 120 rfl) (own_v hZ hw 121 rfl) (notFace_of_selects (args := #[]) (own_v hZ hw 123 rfl)) (own_v hZ hw 123 rfl) (own_v hZ hw 122 rfl) (by decide) (backOf (W := 0) (rm_sbappC l Z a0 hw [] b572 (37 : Int32) es1 cap1 kk1 zc aa1 hJ589 OJ589 fJ589_0 fJ589_1 fJ589_2 fJ589_3 fJ589_4 st_C hzc (by decide) (by (try simp only [List.length_append, List.length_cons, List.length_nil]); omega) hle1 hcap1 hkb1 (by omega) (by omega)) hZ (own_w hw 124 rfl) (own_w hw 101 rfl) (by decide) (by decide)) q627a q627c (g := (mkF m 70 #[.val (.ref a1), .val (.ref x_571), .val (.ref b572), .val (.ref x_571), .val (.int (Int32.ofNat (own_utf cs).length)), .val (.int (1 : Int32)), .val (.int (StrChars.lo8 ((own_utf cs).getD 1 0))), .val (.int ((own_utf cs).getD 1 0))] [(.int (37 : Int32)), (.ref b572)])) rfl (by rw [hml]; rfl) (Steps.refl _) (argsL := [(.int (37 : Int32))]) (rest := []) (lenOf pd_758 rfl) rfl (by show 2 * 0 + _ ≤ _; exact Nat.le_of_eq rfl) (hb hby dp12_2_70) (fun _ _ => ⟨rfl, K626, (by decide : 7 + 1 ≤ _), (by decide : 66 + 18 ≤ _)⟩)
        dsimp only [Pt.U, Pt.locs, Pt.cells, Pt.slots] at X627 l627 y627 z627 st627 hQ627
        subst l627 y627 z627
        obtain ⟨a5_627, cap2_627, k2_627, rfl, N627q, K627, f627_0, f627_1, f627_2, f627_3, f627_4, pr627_0, pr627_1, pr627_2, pr627_3⟩ := hQ627
        have N627 := Fr.app N626 N627q
        have z627 : hJ589.size ≤ T627.heap.size := K627.1
        have lt627_0 : @LT.lt Nat _ b572 T627.heap.size := f627_0.lt
        have lt627_1 : @LT.lt Nat _ b572 T627.heap.size := f627_1.lt
        have lt627_2 : @LT.lt Nat _ b572 T627.heap.size := f627_2.lt
        have lt627_3 : @LT.lt Nat _ b572 T627.heap.size := f627_3.lt
        have lt627_4 : @LT.lt Nat _ a5_627 T627.heap.size := f627_4.lt
        have hz627 : h0.size ≤ a5_627 := own_New.le pr627_3 (by omega) (by omega)
        have hx627 : @LT.lt Nat _ x_571 a5_627 := own_New.lt pr627_3 (by omega) (by omega)
        refine oG.tr st627 ?_
        show oG _ _ _ _ (T627.setTop (mkF m 73 #[.val (.ref a1), .val (.ref x_571), .val (.ref b572), .val (.ref x_571), .val (.int (Int32.ofNat (own_utf cs).length)), .val (.int (1 : Int32)), .val (.int (StrChars.lo8 ((own_utf cs).getD 1 0))), .val (.int ((own_utf cs).getD 1 0))] [(.ref b572)]))
        have f628 : Old Z Z.heap.size T627.heap := OJ589.keep K627 (allS (by omega) (allS (by omega) all0))
        obtain ⟨T629, X629, e629, st629⟩ := getS2 X627 hx hZ hown (host := "") (Or.inl (own_w hw 143 rfl)) Via.refl rfl (st_HEX_DIGITS.ext f628.2) (g := (mkF m 73 #[.val (.ref a1), .val (.ref x_571), .val (.ref b572), .val (.ref x_571), .val (.int (Int32.ofNat (own_utf cs).length)), .val (.int (1 : Int32)), .val (.int (StrChars.lo8 ((own_utf cs).getD 1 0))), .val (.int ((own_utf cs).getD 1 0))] [(.ref b572)])) rfl (hb hby dp12_2_73)
        refine oG.st st629 ?_
        refine oG.st (fun _ k => XS.iload X629.here hx rfl (hb hby dp12_2_76) rfl (XS.iconst X629.here hx rfl (hb hby dp12_2_78) (XS.ishr X629.here hx rfl (hb hby dp12_2_79) rfl k))) ?_
        show oG _ _ _ _ (T629.setTop (mkF m 80 #[.val (.ref a1), .val (.ref x_571), .val (.ref b572), .val (.ref x_571), .val (.int (Int32.ofNat (own_utf cs).length)), .val (.int (1 : Int32)), .val (.int (StrChars.lo8 ((own_utf cs).getD 1 0))), .val (.int ((own_utf cs).getD 1 0))] [(.int (((own_utf cs).getD 1 0) >>> ((4 : Int32) &&& 31))), (.ref ah), (.ref b572)]))
        have ne630 : @Ne Nat ah aa1 := own_arvTy fJ589_6 fJ589_4 (by decide)
        have ne631 : @Ne Nat b572 ah := Exa.neArv fJ589_0 fJ589_6 (own_w hw 100 rfl)
        have f632 : Arv Z T627.heap ah kh .char (16 : Int32) (own_hexL.map Value.int) (.int (0 : Int32)) := fJ589_6.keep K627 (ninS (Ne.symm ne631) (ninS ne630 nin0))
        obtain ⟨c633, Ar633, q633, S633, Nn633, H633, G633⟩ := id f632
        have hin633 : ¬ ((((own_utf cs).getD 1 0) >>> ((4 : Int32) &&& 31)) < 0 ∨ c633.slots.size ≤ ((((own_utf cs).getD 1 0) >>> ((4 : Int32) &&& 31))).toNatClampNeg) := inb_of S633 (own_hex1 ho1).2
        have hat633 : c633.slots[((((own_utf cs).getD 1 0) >>> ((4 : Int32) &&& 31))).toNatClampNeg]? = some (.int (own_dg ((((own_utf cs).getD 1 0) >>> ((4 : Int32) &&& 31)) &&& (15 : Int32)))) := H633.at hin633 (own_hex1 ho1).1
        refine oG.st (X629.caload hx (j := (((own_utf cs).getD 1 0) >>> ((4 : Int32) &&& 31))) (v := (.int (own_dg ((((own_utf cs).getD 1 0) >>> ((4 : Int32) &&& 31)) &&& (15 : Int32))))) (own_rwE e629 Ar633.1) (State.isArrayOf_alike hZ.alike Ar633.2.1) Ar633.2.2 hin633 hat633 (g := (mkF m 80 #[.val (.ref a1), .val (.ref x_571), .val (.ref b572), .val (.ref x_571), .val (.int (Int32.ofNat (own_utf cs).length)), .val (.int (1 : Int32)), .val (.int (StrChars.lo8 ((own_utf cs).getD 1 0))), .val (.int ((own_utf cs).getD 1 0))] [(.int (((own_utf cs).getD 1 0) >>> ((4 : Int32) &&& 31))), (.ref ah), (.ref b572)])) rfl rfl (hb hby dp12_2_80)) ?_
        show oG _ _ _ _ (T629.setTop (mkF m 81 #[.val (.ref a1), .val (.ref x_571), .val (.ref b572), .val (.ref x_571), .val (.int (Int32.ofNat (own_utf cs).length)), .val (.int (1 : Int32)), .val (.int (StrChars.lo8 ((own_utf cs).getD 1 0))), .val (.int ((own_utf cs).getD 1 0))] [(.int (own_dg ((((own_utf cs).getD 1 0) >>> ((4 : Int32) &&& 31)) &&& (15 : Int32)))), (.ref b572)]))
        obtain ⟨cq634, kq634, q634a, q634b, q634c⟩ := isOf hZ e629 f627_0
        obtain ⟨_, _, ⟨T634, L634, k634, n634⟩, -, X634, ⟨Lc634, hQ634, l634, y634, z634⟩, st634⟩ := X629.virtualBack hx (y := mN30) (z := mN30) hown (own_v hZ hw 120 rfl) (own_v hZ hw 121 rfl) (notFace_of_selects (args := #[]) (own_v hZ hw 123 rfl)) (own_v hZ hw 123 rfl) (own_v hZ hw 122 rfl) (by decide) (backOf (W := 0) (rm_sbappC l Z a0 hw [] b572 (own_dg ((((own_utf cs).getD 1 0) >>> ((4 : Int32) &&& 31)) &&& (15 : Int32))) (es1 ++ [(37 : Int32)]) cap2_627 k2_627 zc a5_627 T627.heap f628 f627_0 f627_1 f627_2 f627_3 f627_4 st_C hzc (own_dgR _).2 (by (try simp only [List.length_append, List.length_cons, List.length_nil]); omega) pr627_0 pr627_1 pr627_2 (by omega) (by omega)) hZ (own_w hw 124 rfl) (own_w hw 101 rfl) (by decide) (by decide)) q634a q634c (g := (mkF m 81 #[.val (.ref a1), .val (.ref x_571), .val (.ref b572), .val (.ref x_571), .val (.int (Int32.ofNat (own_utf cs).length)), .val (.int (1 : Int32)), .val (.int (StrChars.lo8 ((own_utf cs).getD 1 0))), .val (.int ((own_utf cs).getD 1 0))] [(.int (own_dg ((((own_utf cs).getD 1 0) >>> ((4 : Int32) &&& 31)) &&& (15 : Int32)))), (.ref b572)])) rfl (by rw [hml]; rfl) (Steps.refl _) (argsL := [(.int (own_dg ((((own_utf cs).getD 1 0) >>> ((4 : Int32) &&& 31)) &&& (15 : Int32))))]) (rest := []) (lenOf pd_758 rfl) rfl (by show 2 * 0 + _ ≤ _; exact Nat.le_of_eq rfl) (hb hby dp12_2_81) (fun _ _ => ⟨rfl, e629, (by decide : 8 + 1 ≤ _), (by decide : 84 + 18 ≤ _)⟩)
        dsimp only [Pt.U, Pt.locs, Pt.cells, Pt.slots] at X634 l634 y634 z634 st634 hQ634
        subst l634 y634 z634
        obtain ⟨a5_634, cap2_634, k2_634, rfl, N634q, K634, f634_0, f634_1, f634_2, f634_3, f634_4, pr634_0, pr634_1, pr634_2, pr634_3⟩ := hQ634
        have N634 := Fr.app N627 N634q
        have z634 : T627.heap.size ≤ T634.heap.size := K634.1
        have lt634_0 : @LT.lt Nat _ b572 T634.heap.size := f634_0.lt
        have lt634_1 : @LT.lt Nat _ b572 T634.heap.size := f634_1.lt
        have lt634_2 : @LT.lt Nat _ b572 T634.heap.size := f634_2.lt
        have lt634_3 : @LT.lt Nat _ b572 T634.heap.size := f634_3.lt
        have lt634_4 : @LT.lt Nat _ a5_634 T634.heap.size := f634_4.lt
        have hz634 : h0.size ≤ a5_634 := own_New.le pr634_3 (by omega) (by omega)
        have hx634 : @LT.lt Nat _ x_571 a5_634 := own_New.lt pr634_3 (by omega) (by omega)
        refine oG.tr st634 ?_
        show oG _ _ _ _ (T634.setTop (mkF m 84 #[.val (.ref a1), .val (.ref x_571), .val (.ref b572), .val (.ref x_571), .val (.int (Int32.ofNat (own_utf cs).length)), .val (.int (1 : Int32)), .val (.int (StrChars.lo8 ((own_utf cs).getD 1 0))), .val (.int ((own_utf cs).getD 1 0))] [(.ref b572)]))
        have f635 : Old Z Z.heap.size T634.heap := f628.keep K634 (allS (by omega) (allS (by omega) all0))
        obtain ⟨T636, X636, e636, st636⟩ := getS2 X634 hx hZ hown (host := "") (Or.inl (own_w hw 143 rfl)) Via.refl rfl (st_HEX_DIGITS.ext f635.2) (g := (mkF m 84 #[.val (.ref a1), .val (.ref x_571), .val (.ref b572), .val (.ref x_571), .val (.int (Int32.ofNat (own_utf cs).length)), .val (.int (1 : Int32)), .val (.int (StrChars.lo8 ((own_utf cs).getD 1 0))), .val (.int ((own_utf cs).getD 1 0))] [(.ref b572)])) rfl (hb hby dp12_2_84)
        refine oG.st st636 ?_
        refine oG.st (fun _ k => XS.iload X636.here hx rfl (hb hby dp12_2_87) rfl (XS.bipush X636.here hx rfl (hb hby dp12_2_89) (XS.iand X636.here hx rfl (hb hby dp12_2_91) rfl k))) ?_
        show oG _ _ _ _ (T636.setTop (mkF m 92 #[.val (.ref a1), .val (.ref x_571), .val (.ref b572), .val (.ref x_571), .val (.int (Int32.ofNat (own_utf cs).length)), .val (.int (1 : Int32)), .val (.int (StrChars.lo8 ((own_utf cs).getD 1 0))), .val (.int ((own_utf cs).getD 1 0))] [(.int (((own_utf cs).getD 1 0) &&& (15 : Int32))), (.ref ah), (.ref b572)]))
        have ne637 : @Ne Nat ah a5_627 := own_arvTy f632 f627_4 (by decide)
        have f638 : Arv Z T634.heap ah kh .char (16 : Int32) (own_hexL.map Value.int) (.int (0 : Int32)) := f632.keep K634 (ninS (Ne.symm ne631) (ninS ne637 nin0))
        obtain ⟨c639, Ar639, q639, S639, Nn639, H639, G639⟩ := id f638
        have hin639 : ¬ ((((own_utf cs).getD 1 0) &&& (15 : Int32)) < 0 ∨ c639.slots.size ≤ ((((own_utf cs).getD 1 0) &&& (15 : Int32))).toNatClampNeg) := inb_of S639 (own_hex2 ho1).2
        have hat639 : c639.slots[((((own_utf cs).getD 1 0) &&& (15 : Int32))).toNatClampNeg]? = some (.int (own_dg (((own_utf cs).getD 1 0) &&& (15 : Int32)))) := H639.at hin639 (own_hex2 ho1).1
        refine oG.st (X636.caload hx (j := (((own_utf cs).getD 1 0) &&& (15 : Int32))) (v := (.int (own_dg (((own_utf cs).getD 1 0) &&& (15 : Int32))))) (own_rwE e636 Ar639.1) (State.isArrayOf_alike hZ.alike Ar639.2.1) Ar639.2.2 hin639 hat639 (g := (mkF m 92 #[.val (.ref a1), .val (.ref x_571), .val (.ref b572), .val (.ref x_571), .val (.int (Int32.ofNat (own_utf cs).length)), .val (.int (1 : Int32)), .val (.int (StrChars.lo8 ((own_utf cs).getD 1 0))), .val (.int ((own_utf cs).getD 1 0))] [(.int (((own_utf cs).getD 1 0) &&& (15 : Int32))), (.ref ah), (.ref b572)])) rfl rfl (hb hby dp12_2_92)) ?_
        show oG _ _ _ _ (T636.setTop (mkF m 93 #[.val (.ref a1), .val (.ref x_571), .val (.ref b572), .val (.ref x_571), .val (.int (Int32.ofNat (own_utf cs).length)), .val (.int (1 : Int32)), .val (.int (StrChars.lo8 ((own_utf cs).getD 1 0))), .val (.int ((own_utf cs).getD 1 0))] [(.int (own_dg (((own_utf cs).getD 1 0) &&& (15 : Int32)))), (.ref b572)]))
        obtain ⟨cq640, kq640, q640a, q640b, q640c⟩ := isOf hZ e636 f634_0
        obtain ⟨_, _, ⟨T640, L640, k640, n640⟩, -, X640, ⟨Lc640, hQ640, l640, y640, z640⟩, st640⟩ := X636.virtualBack hx (y := mN30) (z := mN30) hown (own_v hZ hw 120 rfl) (own_v hZ hw 121 rfl) (notFace_of_selects (args := #[]) (own_v hZ hw 123 rfl)) (own_v hZ hw 123 rfl) (own_v hZ hw 122 rfl) (by decide) (backOf (W := 0) (rm_sbappC l Z a0 hw [] b572 (own_dg (((own_utf cs).getD 1 0) &&& (15 : Int32))) ((es1 ++ [(37 : Int32)]) ++ [(own_dg ((((own_utf cs).getD 1 0) >>> ((4 : Int32) &&& 31)) &&& (15 : Int32)))]) cap2_634 k2_634 zc a5_634 T634.heap f635 f634_0 f634_1 f634_2 f634_3 f634_4 st_C hzc (own_dgR _).2 (by (try simp only [List.length_append, List.length_cons, List.length_nil]); omega) pr634_0 pr634_1 pr634_2 (by omega) (by omega)) hZ (own_w hw 124 rfl) (own_w hw 101 rfl) (by decide) (by decide)) q640a q640c (g := (mkF m 93 #[.val (.ref a1), .val (.ref x_571), .val (.ref b572), .val (.ref x_571), .val (.int (Int32.ofNat (own_utf cs).length)), .val (.int (1 : Int32)), .val (.int (StrChars.lo8 ((own_utf cs).getD 1 0))), .val (.int ((own_utf cs).getD 1 0))] [(.int (own_dg (((own_utf cs).getD 1 0) &&& (15 : Int32)))), (.ref b572)])) rfl (by rw [hml]; rfl) (Steps.refl _) (argsL := [(.int (own_dg (((own_utf cs).getD 1 0) &&& (15 : Int32))))]) (rest := []) (lenOf pd_758 rfl) rfl (by show 2 * 0 + _ ≤ _; exact Nat.le_of_eq rfl) (hb hby dp12_2_93) (fun _ _ => ⟨rfl, e636, (by decide : 9 + 1 ≤ _), (by decide : 102 + 18 ≤ _)⟩)
        dsimp only [Pt.U, Pt.locs, Pt.cells, Pt.slots] at X640 l640 y640 z640 st640 hQ640
        subst l640 y640 z640
        obtain ⟨a5_640, cap2_640, k2_640, rfl, N640q, K640, f640_0, f640_1, f640_2, f640_3, f640_4, pr640_0, pr640_1, pr640_2, pr640_3⟩ := hQ640
        have N640 := Fr.app N634 N640q
        have z640 : T634.heap.size ≤ T640.heap.size := K640.1
        have lt640_0 : @LT.lt Nat _ b572 T640.heap.size := f640_0.lt
        have lt640_1 : @LT.lt Nat _ b572 T640.heap.size := f640_1.lt
        have lt640_2 : @LT.lt Nat _ b572 T640.heap.size := f640_2.lt
        have lt640_3 : @LT.lt Nat _ b572 T640.heap.size := f640_3.lt
        have lt640_4 : @LT.lt Nat _ a5_640 T640.heap.size := f640_4.lt
        have hz640 : h0.size ≤ a5_640 := own_New.le pr640_3 (by omega) (by omega)
        have hx640 : @LT.lt Nat _ x_571 a5_640 := own_New.lt pr640_3 (by omega) (by omega)
        refine oG.tr st640 ?_
        refine oG.st (fun _ k => XS.pop X640.here hx rfl (hb hby dp12_2_96) rfl rfl k) ?_
        show oG _ _ _ _ (T640.setTop (mkF m 97 #[.val (.ref a1), .val (.ref x_571), .val (.ref b572), .val (.ref x_571), .val (.int (Int32.ofNat (own_utf cs).length)), .val (.int (1 : Int32)), .val (.int (StrChars.lo8 ((own_utf cs).getD 1 0))), .val (.int ((own_utf cs).getD 1 0))] []))
        have f641 : Arv Z T627.heap x_571 k_571 .byte (Int32.ofNat (own_utf cs).length) (own_low (own_utf cs)) (.int (0 : Int32)) := fJ589_5.keep K627 (ninS (Ne.symm ne581) (ninS (by show @Ne Nat x_571 aa1; omega) nin0))
        have f642 : Arv Z T634.heap x_571 k_571 .byte (Int32.ofNat (own_utf cs).length) (own_low (own_utf cs)) (.int (0 : Int32)) := f641.keep K634 (ninS (Ne.symm ne581) (ninS (by show @Ne Nat x_571 a5_627; omega) nin0))
        have f643 : Arv Z T640.heap x_571 k_571 .byte (Int32.ofNat (own_utf cs).length) (own_low (own_utf cs)) (.int (0 : Int32)) := f642.keep K640 (ninS (Ne.symm ne581) (ninS (by show @Ne Nat x_571 a5_634; omega) nin0))
        have ne644 : @Ne Nat ah a5_634 := own_arvTy f638 f634_4 (by decide)
        have f645 : Arv Z T640.heap ah kh .char (16 : Int32) (own_hexL.map Value.int) (.int (0 : Int32)) := f638.keep K640 (ninS (Ne.symm ne631) (ninS ne644 nin0))
        have K646 : Keep h0 T627.heap [] := KJ589.trans K627 (allS (Or.inr (by omega)) (allS (Or.inr (by omega)) all0))
        have K647 : Keep h0 T634.heap [] := K646.trans K634 (allS (Or.inr (by omega)) (allS (Or.inr (by omega)) all0))
        have K648 : Keep h0 T640.heap [] := K647.trans K640 (allS (Or.inr (by omega)) (allS (Or.inr (by omega)) all0))
        have f649 : Old Z Z.heap.size T640.heap := f635.keep K640 (allS (by omega) (allS (by omega) all0))
        exact HJ590 (((es1 ++ [(37 : Int32)]) ++ [(own_dg ((((own_utf cs).getD 1 0) >>> ((4 : Int32) &&& 31)) &&& (15 : Int32)))]) ++ [(own_dg (((own_utf cs).getD 1 0) &&& (15 : Int32)))]) cap2_640 a5_640 k2_640 T640 T640.heap _ (by rw [own_encS hi1, ← he1, own_pct, if_pos h53]; simp [own_put]) (by (try simp only [List.length_append, List.length_cons, List.length_nil]); omega) pr640_0 pr640_1 pr640_2 (by omega) (by omega) (own_standW X640 (by decide) (by decide)) rfl N640 K648 f649 (by omega) f640_0 f640_1 f640_2 f640_3 f640_4 f643 f645
      ·
        refine oG.st (fun _ k => XS.ifNo X626.here hx rfl (hb hby dp12_2_53) rfl ((if0 _ _).trans (feq h53).1) k) ?_
        refine oG.st (fun _ k => XS.aloadN X626.here hx rfl (hb hby dp12_2_56) rfl rfl (XS.iload X626.here hx rfl (hb hby dp12_2_57) rfl (XS.i2c X626.here hx rfl (hb hby dp12_2_59) rfl k))) ?_
        show oG _ _ _ _ (T626.setTop (mkF m 60 #[.val (.ref a1), .val (.ref x_571), .val (.ref b572), .val (.ref x_571), .val (.int (Int32.ofNat (own_utf cs).length)), .val (.int (1 : Int32)), .val (.int (StrChars.lo8 ((own_utf cs).getD 1 0))), .val (.int ((own_utf cs).getD 1 0))] [(.int (((own_utf cs).getD 1 0).toUInt32.toUInt16.toUInt32.toInt32)), (.ref b572)]))
        rw [show ((own_utf cs).getD 1 0).toUInt32.toUInt16.toUInt32.toInt32 = ((own_utf cs).getD 1 0) from own_nar (own_up ho1)]
        show oG _ _ _ _ (T626.setTop (mkF m 60 #[.val (.ref a1), .val (.ref x_571), .val (.ref b572), .val (.ref x_571), .val (.int (Int32.ofNat (own_utf cs).length)), .val (.int (1 : Int32)), .val (.int (StrChars.lo8 ((own_utf cs).getD 1 0))), .val (.int ((own_utf cs).getD 1 0))] [(.int ((own_utf cs).getD 1 0)), (.ref b572)]))
        obtain ⟨cq650, kq650, q650a, q650b, q650c⟩ := isOf hZ K626 fJ589_0
        obtain ⟨_, _, ⟨T650, L650, k650, n650⟩, -, X650, ⟨Lc650, hQ650, l650, y650, z650⟩, st650⟩ := X626.virtualBack hx (y := mN30) (z := mN30) hown (own_v hZ hw 120 rfl) (own_v hZ hw 121 rfl) (notFace_of_selects (args := #[]) (own_v hZ hw 123 rfl)) (own_v hZ hw 123 rfl) (own_v hZ hw 122 rfl) (by decide) (backOf (W := 0) (rm_sbappC l Z a0 hw [] b572 ((own_utf cs).getD 1 0) es1 cap1 kk1 zc aa1 hJ589 OJ589 fJ589_0 fJ589_1 fJ589_2 fJ589_3 fJ589_4 st_C hzc ho1.2 (by (try simp only [List.length_append, List.length_cons, List.length_nil]); omega) hle1 hcap1 hkb1 (by omega) (by omega)) hZ (own_w hw 124 rfl) (own_w hw 101 rfl) (by decide) (by decide)) q650a q650c (g := (mkF m 60 #[.val (.ref a1), .val (.ref x_571), .val (.ref b572), .val (.ref x_571), .val (.int (Int32.ofNat (own_utf cs).length)), .val (.int (1 : Int32)), .val (.int (StrChars.lo8 ((own_utf cs).getD 1 0))), .val (.int ((own_utf cs).getD 1 0))] [(.int ((own_utf cs).getD 1 0)), (.ref b572)])) rfl (by rw [hml]; rfl) (Steps.refl _) (argsL := [(.int ((own_utf cs).getD 1 0))]) (rest := []) (lenOf pd_758 rfl) rfl (by show 2 * 0 + _ ≤ _; exact Nat.le_of_eq rfl) (hb hby dp12_2_60) (fun _ _ => ⟨rfl, K626, (by decide : 7 + 1 ≤ _), (by decide : 66 + 18 ≤ _)⟩)
        dsimp only [Pt.U, Pt.locs, Pt.cells, Pt.slots] at X650 l650 y650 z650 st650 hQ650
        subst l650 y650 z650
        obtain ⟨a5_650, cap2_650, k2_650, rfl, N650q, K650, f650_0, f650_1, f650_2, f650_3, f650_4, pr650_0, pr650_1, pr650_2, pr650_3⟩ := hQ650
        have N650 := Fr.app N626 N650q
        have z650 : hJ589.size ≤ T650.heap.size := K650.1
        have lt650_0 : @LT.lt Nat _ b572 T650.heap.size := f650_0.lt
        have lt650_1 : @LT.lt Nat _ b572 T650.heap.size := f650_1.lt
        have lt650_2 : @LT.lt Nat _ b572 T650.heap.size := f650_2.lt
        have lt650_3 : @LT.lt Nat _ b572 T650.heap.size := f650_3.lt
        have lt650_4 : @LT.lt Nat _ a5_650 T650.heap.size := f650_4.lt
        have hz650 : h0.size ≤ a5_650 := own_New.le pr650_3 (by omega) (by omega)
        have hx650 : @LT.lt Nat _ x_571 a5_650 := own_New.lt pr650_3 (by omega) (by omega)
        refine oG.tr st650 ?_
        refine oG.st (fun _ k => XS.pop X650.here hx rfl (hb hby dp12_2_63) rfl rfl (XS.goto X650.here hx rfl (pc0 := 64) (pc' := 97) rfl (hb hby dp12_2_64) (by decide) (by decide) k)) ?_
        show oG _ _ _ _ (T650.setTop (mkF m 97 #[.val (.ref a1), .val (.ref x_571), .val (.ref b572), .val (.ref x_571), .val (.int (Int32.ofNat (own_utf cs).length)), .val (.int (1 : Int32)), .val (.int (StrChars.lo8 ((own_utf cs).getD 1 0))), .val (.int ((own_utf cs).getD 1 0))] []))
        have f651 : Arv Z T650.heap x_571 k_571 .byte (Int32.ofNat (own_utf cs).length) (own_low (own_utf cs)) (.int (0 : Int32)) := fJ589_5.keep K650 (ninS (Ne.symm ne581) (ninS (by show @Ne Nat x_571 aa1; omega) nin0))
        have ne652 : @Ne Nat ah aa1 := own_arvTy fJ589_6 fJ589_4 (by decide)
        have ne653 : @Ne Nat b572 ah := Exa.neArv fJ589_0 fJ589_6 (own_w hw 100 rfl)
        have f654 : Arv Z T650.heap ah kh .char (16 : Int32) (own_hexL.map Value.int) (.int (0 : Int32)) := fJ589_6.keep K650 (ninS (Ne.symm ne653) (ninS ne652 nin0))
        have K655 : Keep h0 T650.heap [] := KJ589.trans K650 (allS (Or.inr (by omega)) (allS (Or.inr (by omega)) all0))
        have f656 : Old Z Z.heap.size T650.heap := OJ589.keep K650 (allS (by omega) (allS (by omega) all0))
        exact HJ590 (es1 ++ [((own_utf cs).getD 1 0)]) cap2_650 a5_650 k2_650 T650 T650.heap _ (by rw [own_encS hi1, ← he1, own_pct, if_neg h53]) (by (try simp only [List.length_append, List.length_cons, List.length_nil]); omega) pr650_0 pr650_1 pr650_2 (by omega) (by omega) (own_standW X650 (by decide) (by decide)) rfl N650 K655 f656 (by omega) f650_0 f650_1 f650_2 f650_3 f650_4 f651 f654
    ·
      refine oG.st (fun _ k => XS.icmpYes XJ589.here hx rfl (pc0 := 31) (pc' := 103) rfl (hb hby dp12_2_31) rfl (flt h31_1).2.1 (by decide) (by decide) k) ?_
      show oG _ _ _ _ (TJ589.setTop (mkF m 103 #[.val (.ref a1), .val (.ref x_571), .val (.ref b572), .val (.ref x_571), .val (.int (Int32.ofNat (own_utf cs).length)), .val (.int (1 : Int32)), .val (.int (StrChars.lo8 ((own_utf cs).getD 0 0))), .val (.int ((own_utf cs).getD 0 0))] []))
      have hend1 : (own_utf cs).length ≤ 1 := by
        have q : ¬ 1 < (own_utf cs).length := fun q => h31_1 ((own_oflt (i := 1) (by omega) (by omega)).mpr q)
        omega
      exact HJ584 es1 cap1 aa1 kk1 (1 : Int32) (.val (.int (StrChars.lo8 ((own_utf cs).getD 0 0)))) (.val (.int ((own_utf cs).getD 0 0))) TJ589 hJ589 _ (he1.trans (congrArg own_encL (List.take_of_length_le hend1))) (by (try simp only [List.length_append, List.length_cons, List.length_nil]); omega) hle1 hcap1 hkb1 (by omega) (by omega) (own_standW XJ589 (by decide) (by decide)) eJ589 NJ589 KJ589 OJ589 (by omega) fJ589_0 fJ589_1 fJ589_2 fJ589_3 fJ589_4 fJ589_5 fJ589_6
  refine oG.st (fun _ k => XS.iload X578.here hx rfl (hb hby dp12_2_27) rfl (XS.iload X578.here hx rfl (hb hby dp12_2_29) rfl k)) ?_
  show oG _ _ _ _ (T578.setTop (mkF m 31 #[.val (.ref a1), .val (.ref x_571), .val (.ref b572), .val (.ref x_571), .val (.int (Int32.ofNat (own_utf cs).length)), .val (.int (0 : Int32)), .unset, .unset] [(.int (Int32.ofNat (own_utf cs).length)), (.int (0 : Int32))]))
  by_cases h31_0 : (0 : Int32) < (Int32.ofNat (own_utf cs).length)
  ·
    refine oG.st (fun _ k => XS.icmpNo X578.here hx rfl (hb hby dp12_2_31) rfl (tlt h31_0).2.1 k) ?_
    have hi0 : 0 < (own_utf cs).length := (own_oflt (i := 0) (by omega) (by omega)).mp h31_0
    have ho0 := own_octG hR.1 hi0
    show oG _ _ _ _ (T578.setTop (mkF m 34 #[.val (.ref a1), .val (.ref x_571), .val (.ref b572), .val (.ref x_571), .val (.int (Int32.ofNat (own_utf cs).length)), .val (.int (0 : Int32)), .unset, .unset] []))
    refine oG.st (fun _ k => XS.aloadN X578.here hx rfl (hb hby dp12_2_34) rfl rfl (XS.iload X578.here hx rfl (hb hby dp12_2_35) rfl k)) ?_
    show oG _ _ _ _ (T578.setTop (mkF m 37 #[.val (.ref a1), .val (.ref x_571), .val (.ref b572), .val (.ref x_571), .val (.int (Int32.ofNat (own_utf cs).length)), .val (.int (0 : Int32)), .unset, .unset] [(.int (0 : Int32)), (.ref x_571)]))
    obtain ⟨c657, Ar657, q657, S657, Nn657, H657, G657⟩ := id f582
    have hin657 : ¬ ((0 : Int32) < 0 ∨ c657.slots.size ≤ ((0 : Int32)).toNatClampNeg) := inb_of S657 ⟨by decide, (own_oflt (i := 0) (by omega) (by omega)).mpr hi0⟩
    have hat657 : c657.slots[((0 : Int32)).toNatClampNeg]? = some (.int (StrChars.lo8 ((own_utf cs).getD 0 0))) := H657.at hin657 ((own_lowG _ _ _).trans (if_pos hi0))
    refine oG.st (X578.baloadBytes hx (j := (0 : Int32)) (v := (.int (StrChars.lo8 ((own_utf cs).getD 0 0)))) (own_rwE rfl Ar657.1) (State.isArrayOf_alike hZ.alike Ar657.2.1) Ar657.2.2 hin657 hat657 (g := (mkF m 37 #[.val (.ref a1), .val (.ref x_571), .val (.ref b572), .val (.ref x_571), .val (.int (Int32.ofNat (own_utf cs).length)), .val (.int (0 : Int32)), .unset, .unset] [(.int (0 : Int32)), (.ref x_571)])) rfl rfl (hb hby dp12_2_37)) ?_
    refine oG.st (fun _ k => XS.istore X578.here hx rfl (hb hby dp12_2_38) rfl (l' := #[.val (.ref a1), .val (.ref x_571), .val (.ref b572), .val (.ref x_571), .val (.int (Int32.ofNat (own_utf cs).length)), .val (.int (0 : Int32)), .val (.int (StrChars.lo8 ((own_utf cs).getD 0 0))), .unset]) rfl (XS.iload X578.here hx rfl (hb hby dp12_2_40) rfl (XS.sipush X578.here hx rfl (hb hby dp12_2_42) (XS.iand X578.here hx rfl (hb hby dp12_2_45) rfl k)))) ?_
    show oG _ _ _ _ (T578.setTop (mkF m 46 #[.val (.ref a1), .val (.ref x_571), .val (.ref b572), .val (.ref x_571), .val (.int (Int32.ofNat (own_utf cs).length)), .val (.int (0 : Int32)), .val (.int (StrChars.lo8 ((own_utf cs).getD 0 0))), .unset] [(.int ((StrChars.lo8 ((own_utf cs).getD 0 0)) &&& (255 : Int32)))]))
    rw [own_lo255 ho0]
    refine oG.st (fun _ k => XS.istore X578.here hx rfl (hb hby dp12_2_46) rfl (l' := #[.val (.ref a1), .val (.ref x_571), .val (.ref b572), .val (.ref x_571), .val (.int (Int32.ofNat (own_utf cs).length)), .val (.int (0 : Int32)), .val (.int (StrChars.lo8 ((own_utf cs).getD 0 0))), .val (.int ((own_utf cs).getD 0 0))]) rfl (XS.iload X578.here hx rfl (hb hby dp12_2_48) rfl k)) ?_
    show oG _ _ _ _ (T578.setTop (mkF m 50 #[.val (.ref a1), .val (.ref x_571), .val (.ref b572), .val (.ref x_571), .val (.int (Int32.ofNat (own_utf cs).length)), .val (.int (0 : Int32)), .val (.int (StrChars.lo8 ((own_utf cs).getD 0 0))), .val (.int ((own_utf cs).getD 0 0))] [(.int ((own_utf cs).getD 0 0))]))
    have f659 : Old Z Z.heap.size T578.heap := f580.keep K578 (allS (by omega) all0)
    obtain ⟨_, _, ⟨T658, L658, k658, n658⟩, -, X658, ⟨Lc658, hQ658, l658, y658, z658⟩, st658⟩ := Jvm.LawKit.callS X578 hx (y := mN1) hown (own_v hZ hw 117 rfl) (own_v hZ hw 118 rfl) (own_v hZ hw 61 rfl) (own_v hZ hw 119 rfl) (by decide) (backOf (W := 0) (rm_isUnr l Z a0 hw [] ((own_utf cs).getD 0 0) T578.heap f659 ) hZ (own_w hw 119 rfl) (own_w hw 61 rfl) (by decide) (by decide)) (g := (mkF m 50 #[.val (.ref a1), .val (.ref x_571), .val (.ref b572), .val (.ref x_571), .val (.int (Int32.ofNat (own_utf cs).length)), .val (.int (0 : Int32)), .val (.int (StrChars.lo8 ((own_utf cs).getD 0 0))), .val (.int ((own_utf cs).getD 0 0))] [(.int ((own_utf cs).getD 0 0))])) rfl (by rw [hml]; rfl) (argsL := [(.int ((own_utf cs).getD 0 0))]) (rest := []) (lenOf pd_753 rfl) rfl (by show 2 * 0 + _ ≤ _; exact Nat.le_of_eq rfl) (hb hby dp12_2_50) (fun _ _ => ⟨rfl, rfl, (by decide : 4 + 0 ≤ _), (by decide : 12 + 0 ≤ _)⟩)
    dsimp only [Pt.U, Pt.locs, Pt.cells, Pt.slots] at X658 l658 y658 z658 st658 hQ658
    subst l658 y658 z658
    obtain ⟨rfl, N658q, K658⟩ := hQ658
    have N658 := Fr.app N578 N658q
    refine oG.st st658 ?_
    show oG _ _ _ _ (T658.setTop (mkF m 53 #[.val (.ref a1), .val (.ref x_571), .val (.ref b572), .val (.ref x_571), .val (.int (Int32.ofNat (own_utf cs).length)), .val (.int (0 : Int32)), .val (.int (StrChars.lo8 ((own_utf cs).getD 0 0))), .val (.int ((own_utf cs).getD 0 0))] [(.int (own_unr ((own_utf cs).getD 0 0)))]))
    by_cases h53 : (own_unr ((own_utf cs).getD 0 0)) = (0 : Int32)
    ·
      refine oG.st (fun _ k => XS.ifYes X658.here hx rfl (pc0 := 53) (pc' := 67) rfl (hb hby dp12_2_53) rfl ((if0 _ _).trans (teq h53).1) (by decide) (by decide) k) ?_
      refine oG.st (fun _ k => XS.aloadN X658.here hx rfl (hb hby dp12_2_67) rfl rfl (XS.bipush X658.here hx rfl (hb hby dp12_2_68) k)) ?_
      show oG _ _ _ _ (T658.setTop (mkF m 70 #[.val (.ref a1), .val (.ref x_571), .val (.ref b572), .val (.ref x_571), .val (.int (Int32.ofNat (own_utf cs).length)), .val (.int (0 : Int32)), .val (.int (StrChars.lo8 ((own_utf cs).getD 0 0))), .val (.int ((own_utf cs).getD 0 0))] [(.int (37 : Int32)), (.ref b572)]))
      obtain ⟨cq660, kq660, q660a, q660b, q660c⟩ := isOf hZ K658 f578_0
      obtain ⟨_, _, ⟨T660, L660, k660, n660⟩, -, X660, ⟨Lc660, hQ660, l660, y660, z660⟩, st660⟩ := X658.virtualBack hx (y := mN30) (z := mN30) hown (own_v hZ hw 120 rfl) (own_v hZ hw 121 rfl) (notFace_of_selects (args := #[]) (own_v hZ hw 123 rfl)) (own_v hZ hw 123 rfl) (own_v hZ hw 122 rfl) (by decide) (backOf (W := 0) (rm_sbappC l Z a0 hw [] b572 (37 : Int32) ([] : List Int32) (own_utf cs).length k_578 zc a3_578 T578.heap f659 f578_0 f578_1 f578_2 f578_3 f578_4 st_C hzc (by decide) (by (try simp only [List.length_append, List.length_cons, List.length_nil]); omega) (Nat.zero_le _) hca0 pr578_1 (by omega) (by omega)) hZ (own_w hw 124 rfl) (own_w hw 101 rfl) (by decide) (by decide)) q660a q660c (g := (mkF m 70 #[.val (.ref a1), .val (.ref x_571), .val (.ref b572), .val (.ref x_571), .val (.int (Int32.ofNat (own_utf cs).length)), .val (.int (0 : Int32)), .val (.int (StrChars.lo8 ((own_utf cs).getD 0 0))), .val (.int ((own_utf cs).getD 0 0))] [(.int (37 : Int32)), (.ref b572)])) rfl (by rw [hml]; rfl) (Steps.refl _) (argsL := [(.int (37 : Int32))]) (rest := []) (lenOf pd_758 rfl) rfl (by show 2 * 0 + _ ≤ _; exact Nat.le_of_eq rfl) (hb hby dp12_2_70) (fun _ _ => ⟨rfl, K658, (by decide : 4 + 1 ≤ _), (by decide : 12 + 18 ≤ _)⟩)
      dsimp only [Pt.U, Pt.locs, Pt.cells, Pt.slots] at X660 l660 y660 z660 st660 hQ660
      subst l660 y660 z660
      obtain ⟨a5_660, cap2_660, k2_660, rfl, N660q, K660, f660_0, f660_1, f660_2, f660_3, f660_4, pr660_0, pr660_1, pr660_2, pr660_3⟩ := hQ660
      have N660 := Fr.app N658 N660q
      have z660 : T578.heap.size ≤ T660.heap.size := K660.1
      have lt660_0 : @LT.lt Nat _ b572 T660.heap.size := f660_0.lt
      have lt660_1 : @LT.lt Nat _ b572 T660.heap.size := f660_1.lt
      have lt660_2 : @LT.lt Nat _ b572 T660.heap.size := f660_2.lt
      have lt660_3 : @LT.lt Nat _ b572 T660.heap.size := f660_3.lt
      have lt660_4 : @LT.lt Nat _ a5_660 T660.heap.size := f660_4.lt
      have hz660 : h0.size ≤ a5_660 := own_New.le pr660_3 (by omega) (by omega)
      have hx660 : @LT.lt Nat _ x_571 a5_660 := own_New.lt pr660_3 (by omega) (by omega)
      refine oG.tr st660 ?_
      show oG _ _ _ _ (T660.setTop (mkF m 73 #[.val (.ref a1), .val (.ref x_571), .val (.ref b572), .val (.ref x_571), .val (.int (Int32.ofNat (own_utf cs).length)), .val (.int (0 : Int32)), .val (.int (StrChars.lo8 ((own_utf cs).getD 0 0))), .val (.int ((own_utf cs).getD 0 0))] [(.ref b572)]))
      have f661 : Old Z Z.heap.size T660.heap := f659.keep K660 (allS (by omega) (allS (by omega) all0))
      obtain ⟨T662, X662, e662, st662⟩ := getS2 X660 hx hZ hown (host := "") (Or.inl (own_w hw 143 rfl)) Via.refl rfl (st_HEX_DIGITS.ext f661.2) (g := (mkF m 73 #[.val (.ref a1), .val (.ref x_571), .val (.ref b572), .val (.ref x_571), .val (.int (Int32.ofNat (own_utf cs).length)), .val (.int (0 : Int32)), .val (.int (StrChars.lo8 ((own_utf cs).getD 0 0))), .val (.int ((own_utf cs).getD 0 0))] [(.ref b572)])) rfl (hb hby dp12_2_73)
      refine oG.st st662 ?_
      refine oG.st (fun _ k => XS.iload X662.here hx rfl (hb hby dp12_2_76) rfl (XS.iconst X662.here hx rfl (hb hby dp12_2_78) (XS.ishr X662.here hx rfl (hb hby dp12_2_79) rfl k))) ?_
      show oG _ _ _ _ (T662.setTop (mkF m 80 #[.val (.ref a1), .val (.ref x_571), .val (.ref b572), .val (.ref x_571), .val (.int (Int32.ofNat (own_utf cs).length)), .val (.int (0 : Int32)), .val (.int (StrChars.lo8 ((own_utf cs).getD 0 0))), .val (.int ((own_utf cs).getD 0 0))] [(.int (((own_utf cs).getD 0 0) >>> ((4 : Int32) &&& 31))), (.ref ah), (.ref b572)]))
      have f663 : Arv Z T571.heap ah kh .char (16 : Int32) (own_hexL.map Value.int) (.int (0 : Int32)) := p2_.keep K571 nin0
      have f664 : Arv Z h572 ah kh .char (16 : Int32) (own_hexL.map Value.int) (.int (0 : Int32)) := f663.ext E572
      have ne665 : @Ne Nat b572 ah := Exa.neArv A572 f664 (own_w hw 100 rfl)
      have f666 : Arv Z T578.heap ah kh .char (16 : Int32) (own_hexL.map Value.int) (.int (0 : Int32)) := f664.keep K578 (ninS (Ne.symm ne665) nin0)
      have ne667 : @Ne Nat ah a3_578 := own_arvTy f666 f578_4 (by decide)
      have f668 : Arv Z T660.heap ah kh .char (16 : Int32) (own_hexL.map Value.int) (.int (0 : Int32)) := f666.keep K660 (ninS (Ne.symm ne665) (ninS ne667 nin0))
      obtain ⟨c669, Ar669, q669, S669, Nn669, H669, G669⟩ := id f668
      have hin669 : ¬ ((((own_utf cs).getD 0 0) >>> ((4 : Int32) &&& 31)) < 0 ∨ c669.slots.size ≤ ((((own_utf cs).getD 0 0) >>> ((4 : Int32) &&& 31))).toNatClampNeg) := inb_of S669 (own_hex1 ho0).2
      have hat669 : c669.slots[((((own_utf cs).getD 0 0) >>> ((4 : Int32) &&& 31))).toNatClampNeg]? = some (.int (own_dg ((((own_utf cs).getD 0 0) >>> ((4 : Int32) &&& 31)) &&& (15 : Int32)))) := H669.at hin669 (own_hex1 ho0).1
      refine oG.st (X662.caload hx (j := (((own_utf cs).getD 0 0) >>> ((4 : Int32) &&& 31))) (v := (.int (own_dg ((((own_utf cs).getD 0 0) >>> ((4 : Int32) &&& 31)) &&& (15 : Int32))))) (own_rwE e662 Ar669.1) (State.isArrayOf_alike hZ.alike Ar669.2.1) Ar669.2.2 hin669 hat669 (g := (mkF m 80 #[.val (.ref a1), .val (.ref x_571), .val (.ref b572), .val (.ref x_571), .val (.int (Int32.ofNat (own_utf cs).length)), .val (.int (0 : Int32)), .val (.int (StrChars.lo8 ((own_utf cs).getD 0 0))), .val (.int ((own_utf cs).getD 0 0))] [(.int (((own_utf cs).getD 0 0) >>> ((4 : Int32) &&& 31))), (.ref ah), (.ref b572)])) rfl rfl (hb hby dp12_2_80)) ?_
      show oG _ _ _ _ (T662.setTop (mkF m 81 #[.val (.ref a1), .val (.ref x_571), .val (.ref b572), .val (.ref x_571), .val (.int (Int32.ofNat (own_utf cs).length)), .val (.int (0 : Int32)), .val (.int (StrChars.lo8 ((own_utf cs).getD 0 0))), .val (.int ((own_utf cs).getD 0 0))] [(.int (own_dg ((((own_utf cs).getD 0 0) >>> ((4 : Int32) &&& 31)) &&& (15 : Int32)))), (.ref b572)]))
      obtain ⟨cq670, kq670, q670a, q670b, q670c⟩ := isOf hZ e662 f660_0
      obtain ⟨_, _, ⟨T670, L670, k670, n670⟩, -, X670, ⟨Lc670, hQ670, l670, y670, z670⟩, st670⟩ := X662.virtualBack hx (y := mN30) (z := mN30) hown (own_v hZ hw 120 rfl) (own_v hZ hw 121 rfl) (notFace_of_selects (args := #[]) (own_v hZ hw 123 rfl)) (own_v hZ hw 123 rfl) (own_v hZ hw 122 rfl) (by decide) (backOf (W := 0) (rm_sbappC l Z a0 hw [] b572 (own_dg ((((own_utf cs).getD 0 0) >>> ((4 : Int32) &&& 31)) &&& (15 : Int32))) (([] : List Int32) ++ [(37 : Int32)]) cap2_660 k2_660 zc a5_660 T660.heap f661 f660_0 f660_1 f660_2 f660_3 f660_4 st_C hzc (own_dgR _).2 (by (try simp only [List.length_append, List.length_cons, List.length_nil]); omega) pr660_0 pr660_1 pr660_2 (by omega) (by omega)) hZ (own_w hw 124 rfl) (own_w hw 101 rfl) (by decide) (by decide)) q670a q670c (g := (mkF m 81 #[.val (.ref a1), .val (.ref x_571), .val (.ref b572), .val (.ref x_571), .val (.int (Int32.ofNat (own_utf cs).length)), .val (.int (0 : Int32)), .val (.int (StrChars.lo8 ((own_utf cs).getD 0 0))), .val (.int ((own_utf cs).getD 0 0))] [(.int (own_dg ((((own_utf cs).getD 0 0) >>> ((4 : Int32) &&& 31)) &&& (15 : Int32)))), (.ref b572)])) rfl (by rw [hml]; rfl) (Steps.refl _) (argsL := [(.int (own_dg ((((own_utf cs).getD 0 0) >>> ((4 : Int32) &&& 31)) &&& (15 : Int32))))]) (rest := []) (lenOf pd_758 rfl) rfl (by show 2 * 0 + _ ≤ _; exact Nat.le_of_eq rfl) (hb hby dp12_2_81) (fun _ _ => ⟨rfl, e662, (by decide : 5 + 1 ≤ _), (by decide : 30 + 18 ≤ _)⟩)
      dsimp only [Pt.U, Pt.locs, Pt.cells, Pt.slots] at X670 l670 y670 z670 st670 hQ670
      subst l670 y670 z670
      obtain ⟨a5_670, cap2_670, k2_670, rfl, N670q, K670, f670_0, f670_1, f670_2, f670_3, f670_4, pr670_0, pr670_1, pr670_2, pr670_3⟩ := hQ670
      have N670 := Fr.app N660 N670q
      have z670 : T660.heap.size ≤ T670.heap.size := K670.1
      have lt670_0 : @LT.lt Nat _ b572 T670.heap.size := f670_0.lt
      have lt670_1 : @LT.lt Nat _ b572 T670.heap.size := f670_1.lt
      have lt670_2 : @LT.lt Nat _ b572 T670.heap.size := f670_2.lt
      have lt670_3 : @LT.lt Nat _ b572 T670.heap.size := f670_3.lt
      have lt670_4 : @LT.lt Nat _ a5_670 T670.heap.size := f670_4.lt
      have hz670 : h0.size ≤ a5_670 := own_New.le pr670_3 (by omega) (by omega)
      have hx670 : @LT.lt Nat _ x_571 a5_670 := own_New.lt pr670_3 (by omega) (by omega)
      refine oG.tr st670 ?_
      show oG _ _ _ _ (T670.setTop (mkF m 84 #[.val (.ref a1), .val (.ref x_571), .val (.ref b572), .val (.ref x_571), .val (.int (Int32.ofNat (own_utf cs).length)), .val (.int (0 : Int32)), .val (.int (StrChars.lo8 ((own_utf cs).getD 0 0))), .val (.int ((own_utf cs).getD 0 0))] [(.ref b572)]))
      have f671 : Old Z Z.heap.size T670.heap := f661.keep K670 (allS (by omega) (allS (by omega) all0))
      obtain ⟨T672, X672, e672, st672⟩ := getS2 X670 hx hZ hown (host := "") (Or.inl (own_w hw 143 rfl)) Via.refl rfl (st_HEX_DIGITS.ext f671.2) (g := (mkF m 84 #[.val (.ref a1), .val (.ref x_571), .val (.ref b572), .val (.ref x_571), .val (.int (Int32.ofNat (own_utf cs).length)), .val (.int (0 : Int32)), .val (.int (StrChars.lo8 ((own_utf cs).getD 0 0))), .val (.int ((own_utf cs).getD 0 0))] [(.ref b572)])) rfl (hb hby dp12_2_84)
      refine oG.st st672 ?_
      refine oG.st (fun _ k => XS.iload X672.here hx rfl (hb hby dp12_2_87) rfl (XS.bipush X672.here hx rfl (hb hby dp12_2_89) (XS.iand X672.here hx rfl (hb hby dp12_2_91) rfl k))) ?_
      show oG _ _ _ _ (T672.setTop (mkF m 92 #[.val (.ref a1), .val (.ref x_571), .val (.ref b572), .val (.ref x_571), .val (.int (Int32.ofNat (own_utf cs).length)), .val (.int (0 : Int32)), .val (.int (StrChars.lo8 ((own_utf cs).getD 0 0))), .val (.int ((own_utf cs).getD 0 0))] [(.int (((own_utf cs).getD 0 0) &&& (15 : Int32))), (.ref ah), (.ref b572)]))
      have ne673 : @Ne Nat ah a5_660 := own_arvTy f668 f660_4 (by decide)
      have f674 : Arv Z T670.heap ah kh .char (16 : Int32) (own_hexL.map Value.int) (.int (0 : Int32)) := f668.keep K670 (ninS (Ne.symm ne665) (ninS ne673 nin0))
      obtain ⟨c675, Ar675, q675, S675, Nn675, H675, G675⟩ := id f674
      have hin675 : ¬ ((((own_utf cs).getD 0 0) &&& (15 : Int32)) < 0 ∨ c675.slots.size ≤ ((((own_utf cs).getD 0 0) &&& (15 : Int32))).toNatClampNeg) := inb_of S675 (own_hex2 ho0).2
      have hat675 : c675.slots[((((own_utf cs).getD 0 0) &&& (15 : Int32))).toNatClampNeg]? = some (.int (own_dg (((own_utf cs).getD 0 0) &&& (15 : Int32)))) := H675.at hin675 (own_hex2 ho0).1
      refine oG.st (X672.caload hx (j := (((own_utf cs).getD 0 0) &&& (15 : Int32))) (v := (.int (own_dg (((own_utf cs).getD 0 0) &&& (15 : Int32))))) (own_rwE e672 Ar675.1) (State.isArrayOf_alike hZ.alike Ar675.2.1) Ar675.2.2 hin675 hat675 (g := (mkF m 92 #[.val (.ref a1), .val (.ref x_571), .val (.ref b572), .val (.ref x_571), .val (.int (Int32.ofNat (own_utf cs).length)), .val (.int (0 : Int32)), .val (.int (StrChars.lo8 ((own_utf cs).getD 0 0))), .val (.int ((own_utf cs).getD 0 0))] [(.int (((own_utf cs).getD 0 0) &&& (15 : Int32))), (.ref ah), (.ref b572)])) rfl rfl (hb hby dp12_2_92)) ?_
      show oG _ _ _ _ (T672.setTop (mkF m 93 #[.val (.ref a1), .val (.ref x_571), .val (.ref b572), .val (.ref x_571), .val (.int (Int32.ofNat (own_utf cs).length)), .val (.int (0 : Int32)), .val (.int (StrChars.lo8 ((own_utf cs).getD 0 0))), .val (.int ((own_utf cs).getD 0 0))] [(.int (own_dg (((own_utf cs).getD 0 0) &&& (15 : Int32)))), (.ref b572)]))
      obtain ⟨cq676, kq676, q676a, q676b, q676c⟩ := isOf hZ e672 f670_0
      obtain ⟨_, _, ⟨T676, L676, k676, n676⟩, -, X676, ⟨Lc676, hQ676, l676, y676, z676⟩, st676⟩ := X672.virtualBack hx (y := mN30) (z := mN30) hown (own_v hZ hw 120 rfl) (own_v hZ hw 121 rfl) (notFace_of_selects (args := #[]) (own_v hZ hw 123 rfl)) (own_v hZ hw 123 rfl) (own_v hZ hw 122 rfl) (by decide) (backOf (W := 0) (rm_sbappC l Z a0 hw [] b572 (own_dg (((own_utf cs).getD 0 0) &&& (15 : Int32))) ((([] : List Int32) ++ [(37 : Int32)]) ++ [(own_dg ((((own_utf cs).getD 0 0) >>> ((4 : Int32) &&& 31)) &&& (15 : Int32)))]) cap2_670 k2_670 zc a5_670 T670.heap f671 f670_0 f670_1 f670_2 f670_3 f670_4 st_C hzc (own_dgR _).2 (by (try simp only [List.length_append, List.length_cons, List.length_nil]); omega) pr670_0 pr670_1 pr670_2 (by omega) (by omega)) hZ (own_w hw 124 rfl) (own_w hw 101 rfl) (by decide) (by decide)) q676a q676c (g := (mkF m 93 #[.val (.ref a1), .val (.ref x_571), .val (.ref b572), .val (.ref x_571), .val (.int (Int32.ofNat (own_utf cs).length)), .val (.int (0 : Int32)), .val (.int (StrChars.lo8 ((own_utf cs).getD 0 0))), .val (.int ((own_utf cs).getD 0 0))] [(.int (own_dg (((own_utf cs).getD 0 0) &&& (15 : Int32)))), (.ref b572)])) rfl (by rw [hml]; rfl) (Steps.refl _) (argsL := [(.int (own_dg (((own_utf cs).getD 0 0) &&& (15 : Int32))))]) (rest := []) (lenOf pd_758 rfl) rfl (by show 2 * 0 + _ ≤ _; exact Nat.le_of_eq rfl) (hb hby dp12_2_93) (fun _ _ => ⟨rfl, e672, (by decide : 6 + 1 ≤ _), (by decide : 48 + 18 ≤ _)⟩)
      dsimp only [Pt.U, Pt.locs, Pt.cells, Pt.slots] at X676 l676 y676 z676 st676 hQ676
      subst l676 y676 z676
      obtain ⟨a5_676, cap2_676, k2_676, rfl, N676q, K676, f676_0, f676_1, f676_2, f676_3, f676_4, pr676_0, pr676_1, pr676_2, pr676_3⟩ := hQ676
      have N676 := Fr.app N670 N676q
      have z676 : T670.heap.size ≤ T676.heap.size := K676.1
      have lt676_0 : @LT.lt Nat _ b572 T676.heap.size := f676_0.lt
      have lt676_1 : @LT.lt Nat _ b572 T676.heap.size := f676_1.lt
      have lt676_2 : @LT.lt Nat _ b572 T676.heap.size := f676_2.lt
      have lt676_3 : @LT.lt Nat _ b572 T676.heap.size := f676_3.lt
      have lt676_4 : @LT.lt Nat _ a5_676 T676.heap.size := f676_4.lt
      have hz676 : h0.size ≤ a5_676 := own_New.le pr676_3 (by omega) (by omega)
      have hx676 : @LT.lt Nat _ x_571 a5_676 := own_New.lt pr676_3 (by omega) (by omega)
      refine oG.tr st676 ?_
      refine oG.st (fun _ k => XS.pop X676.here hx rfl (hb hby dp12_2_96) rfl rfl k) ?_
      show oG _ _ _ _ (T676.setTop (mkF m 97 #[.val (.ref a1), .val (.ref x_571), .val (.ref b572), .val (.ref x_571), .val (.int (Int32.ofNat (own_utf cs).length)), .val (.int (0 : Int32)), .val (.int (StrChars.lo8 ((own_utf cs).getD 0 0))), .val (.int ((own_utf cs).getD 0 0))] []))
      have f677 : Arv Z T660.heap x_571 k_571 .byte (Int32.ofNat (own_utf cs).length) (own_low (own_utf cs)) (.int (0 : Int32)) := f582.keep K660 (ninS (Ne.symm ne581) (ninS (by show @Ne Nat x_571 a3_578; omega) nin0))
      have f678 : Arv Z T670.heap x_571 k_571 .byte (Int32.ofNat (own_utf cs).length) (own_low (own_utf cs)) (.int (0 : Int32)) := f677.keep K670 (ninS (Ne.symm ne581) (ninS (by show @Ne Nat x_571 a5_660; omega) nin0))
      have f679 : Arv Z T676.heap x_571 k_571 .byte (Int32.ofNat (own_utf cs).length) (own_low (own_utf cs)) (.int (0 : Int32)) := f678.keep K676 (ninS (Ne.symm ne581) (ninS (by show @Ne Nat x_571 a5_670; omega) nin0))
      have ne680 : @Ne Nat ah a5_670 := own_arvTy f674 f670_4 (by decide)
      have f681 : Arv Z T676.heap ah kh .char (16 : Int32) (own_hexL.map Value.int) (.int (0 : Int32)) := f674.keep K676 (ninS (Ne.symm ne665) (ninS ne680 nin0))
      have K682 : Keep h0 T571.heap [] := (Keep.refl h0 []).trans K571 all0
      have K683 : Keep h0 h572 [] := K682.ext E572
      have K684 : Keep h0 T578.heap [] := K683.trans K578 (allS (Or.inr (by omega)) all0)
      have K685 : Keep h0 T660.heap [] := K684.trans K660 (allS (Or.inr (by omega)) (allS (Or.inr (by omega)) all0))
      have K686 : Keep h0 T670.heap [] := K685.trans K670 (allS (Or.inr (by omega)) (allS (Or.inr (by omega)) all0))
      have K687 : Keep h0 T676.heap [] := K686.trans K676 (allS (Or.inr (by omega)) (allS (Or.inr (by omega)) all0))
      have f688 : Old Z Z.heap.size T676.heap := f671.keep K676 (allS (by omega) (allS (by omega) all0))
      exact HJ589 (((([] : List Int32) ++ [(37 : Int32)]) ++ [(own_dg ((((own_utf cs).getD 0 0) >>> ((4 : Int32) &&& 31)) &&& (15 : Int32)))]) ++ [(own_dg (((own_utf cs).getD 0 0) &&& (15 : Int32)))]) cap2_676 a5_676 k2_676 T676 T676.heap _ (by rw [own_encS hi0, show own_encL ((own_utf cs).take 0) = [] from rfl, own_pct, if_pos h53]; simp [own_put]) (by (try simp only [List.length_append, List.length_cons, List.length_nil]); omega) pr676_0 pr676_1 pr676_2 (by omega) (by omega) (own_standW X676 (by decide) (by decide)) rfl N676 K687 f688 (by omega) f676_0 f676_1 f676_2 f676_3 f676_4 f679 f681
    ·
      refine oG.st (fun _ k => XS.ifNo X658.here hx rfl (hb hby dp12_2_53) rfl ((if0 _ _).trans (feq h53).1) k) ?_
      refine oG.st (fun _ k => XS.aloadN X658.here hx rfl (hb hby dp12_2_56) rfl rfl (XS.iload X658.here hx rfl (hb hby dp12_2_57) rfl (XS.i2c X658.here hx rfl (hb hby dp12_2_59) rfl k))) ?_
      show oG _ _ _ _ (T658.setTop (mkF m 60 #[.val (.ref a1), .val (.ref x_571), .val (.ref b572), .val (.ref x_571), .val (.int (Int32.ofNat (own_utf cs).length)), .val (.int (0 : Int32)), .val (.int (StrChars.lo8 ((own_utf cs).getD 0 0))), .val (.int ((own_utf cs).getD 0 0))] [(.int (((own_utf cs).getD 0 0).toUInt32.toUInt16.toUInt32.toInt32)), (.ref b572)]))
      rw [show ((own_utf cs).getD 0 0).toUInt32.toUInt16.toUInt32.toInt32 = ((own_utf cs).getD 0 0) from own_nar (own_up ho0)]
      show oG _ _ _ _ (T658.setTop (mkF m 60 #[.val (.ref a1), .val (.ref x_571), .val (.ref b572), .val (.ref x_571), .val (.int (Int32.ofNat (own_utf cs).length)), .val (.int (0 : Int32)), .val (.int (StrChars.lo8 ((own_utf cs).getD 0 0))), .val (.int ((own_utf cs).getD 0 0))] [(.int ((own_utf cs).getD 0 0)), (.ref b572)]))
      obtain ⟨cq689, kq689, q689a, q689b, q689c⟩ := isOf hZ K658 f578_0
      obtain ⟨_, _, ⟨T689, L689, k689, n689⟩, -, X689, ⟨Lc689, hQ689, l689, y689, z689⟩, st689⟩ := X658.virtualBack hx (y := mN30) (z := mN30) hown (own_v hZ hw 120 rfl) (own_v hZ hw 121 rfl) (notFace_of_selects (args := #[]) (own_v hZ hw 123 rfl)) (own_v hZ hw 123 rfl) (own_v hZ hw 122 rfl) (by decide) (backOf (W := 0) (rm_sbappC l Z a0 hw [] b572 ((own_utf cs).getD 0 0) ([] : List Int32) (own_utf cs).length k_578 zc a3_578 T578.heap f659 f578_0 f578_1 f578_2 f578_3 f578_4 st_C hzc ho0.2 (by (try simp only [List.length_append, List.length_cons, List.length_nil]); omega) (Nat.zero_le _) hca0 pr578_1 (by omega) (by omega)) hZ (own_w hw 124 rfl) (own_w hw 101 rfl) (by decide) (by decide)) q689a q689c (g := (mkF m 60 #[.val (.ref a1), .val (.ref x_571), .val (.ref b572), .val (.ref x_571), .val (.int (Int32.ofNat (own_utf cs).length)), .val (.int (0 : Int32)), .val (.int (StrChars.lo8 ((own_utf cs).getD 0 0))), .val (.int ((own_utf cs).getD 0 0))] [(.int ((own_utf cs).getD 0 0)), (.ref b572)])) rfl (by rw [hml]; rfl) (Steps.refl _) (argsL := [(.int ((own_utf cs).getD 0 0))]) (rest := []) (lenOf pd_758 rfl) rfl (by show 2 * 0 + _ ≤ _; exact Nat.le_of_eq rfl) (hb hby dp12_2_60) (fun _ _ => ⟨rfl, K658, (by decide : 4 + 1 ≤ _), (by decide : 12 + 18 ≤ _)⟩)
      dsimp only [Pt.U, Pt.locs, Pt.cells, Pt.slots] at X689 l689 y689 z689 st689 hQ689
      subst l689 y689 z689
      obtain ⟨a5_689, cap2_689, k2_689, rfl, N689q, K689, f689_0, f689_1, f689_2, f689_3, f689_4, pr689_0, pr689_1, pr689_2, pr689_3⟩ := hQ689
      have N689 := Fr.app N658 N689q
      have z689 : T578.heap.size ≤ T689.heap.size := K689.1
      have lt689_0 : @LT.lt Nat _ b572 T689.heap.size := f689_0.lt
      have lt689_1 : @LT.lt Nat _ b572 T689.heap.size := f689_1.lt
      have lt689_2 : @LT.lt Nat _ b572 T689.heap.size := f689_2.lt
      have lt689_3 : @LT.lt Nat _ b572 T689.heap.size := f689_3.lt
      have lt689_4 : @LT.lt Nat _ a5_689 T689.heap.size := f689_4.lt
      have hz689 : h0.size ≤ a5_689 := own_New.le pr689_3 (by omega) (by omega)
      have hx689 : @LT.lt Nat _ x_571 a5_689 := own_New.lt pr689_3 (by omega) (by omega)
      refine oG.tr st689 ?_
      refine oG.st (fun _ k => XS.pop X689.here hx rfl (hb hby dp12_2_63) rfl rfl (XS.goto X689.here hx rfl (pc0 := 64) (pc' := 97) rfl (hb hby dp12_2_64) (by decide) (by decide) k)) ?_
      show oG _ _ _ _ (T689.setTop (mkF m 97 #[.val (.ref a1), .val (.ref x_571), .val (.ref b572), .val (.ref x_571), .val (.int (Int32.ofNat (own_utf cs).length)), .val (.int (0 : Int32)), .val (.int (StrChars.lo8 ((own_utf cs).getD 0 0))), .val (.int ((own_utf cs).getD 0 0))] []))
      have f690 : Arv Z T689.heap x_571 k_571 .byte (Int32.ofNat (own_utf cs).length) (own_low (own_utf cs)) (.int (0 : Int32)) := f582.keep K689 (ninS (Ne.symm ne581) (ninS (by show @Ne Nat x_571 a3_578; omega) nin0))
      have f691 : Arv Z T571.heap ah kh .char (16 : Int32) (own_hexL.map Value.int) (.int (0 : Int32)) := p2_.keep K571 nin0
      have f692 : Arv Z h572 ah kh .char (16 : Int32) (own_hexL.map Value.int) (.int (0 : Int32)) := f691.ext E572
      have ne693 : @Ne Nat b572 ah := Exa.neArv A572 f692 (own_w hw 100 rfl)
      have f694 : Arv Z T578.heap ah kh .char (16 : Int32) (own_hexL.map Value.int) (.int (0 : Int32)) := f692.keep K578 (ninS (Ne.symm ne693) nin0)
      have ne695 : @Ne Nat ah a3_578 := own_arvTy f694 f578_4 (by decide)
      have f696 : Arv Z T689.heap ah kh .char (16 : Int32) (own_hexL.map Value.int) (.int (0 : Int32)) := f694.keep K689 (ninS (Ne.symm ne693) (ninS ne695 nin0))
      have K697 : Keep h0 T571.heap [] := (Keep.refl h0 []).trans K571 all0
      have K698 : Keep h0 h572 [] := K697.ext E572
      have K699 : Keep h0 T578.heap [] := K698.trans K578 (allS (Or.inr (by omega)) all0)
      have K700 : Keep h0 T689.heap [] := K699.trans K689 (allS (Or.inr (by omega)) (allS (Or.inr (by omega)) all0))
      have f701 : Old Z Z.heap.size T689.heap := f659.keep K689 (allS (by omega) (allS (by omega) all0))
      exact HJ589 (([] : List Int32) ++ [((own_utf cs).getD 0 0)]) cap2_689 a5_689 k2_689 T689 T689.heap _ (by rw [own_encS hi0, show own_encL ((own_utf cs).take 0) = [] from rfl, own_pct, if_neg h53]) (by (try simp only [List.length_append, List.length_cons, List.length_nil]); omega) pr689_0 pr689_1 pr689_2 (by omega) (by omega) (own_standW X689 (by decide) (by decide)) rfl N689 K700 f701 (by omega) f689_0 f689_1 f689_2 f689_3 f689_4 f690 f696
  ·
    refine oG.st (fun _ k => XS.icmpYes X578.here hx rfl (pc0 := 31) (pc' := 103) rfl (hb hby dp12_2_31) rfl (flt h31_0).2.1 (by decide) (by decide) k) ?_
    show oG _ _ _ _ (T578.setTop (mkF m 103 #[.val (.ref a1), .val (.ref x_571), .val (.ref b572), .val (.ref x_571), .val (.int (Int32.ofNat (own_utf cs).length)), .val (.int (0 : Int32)), .unset, .unset] []))
    have hend0 : (own_utf cs).length ≤ 0 := by
      have q : ¬ 0 < (own_utf cs).length := fun q => h31_0 ((own_oflt (i := 0) (by omega) (by omega)).mpr q)
      omega
    have f702 : Arv Z T571.heap ah kh .char (16 : Int32) (own_hexL.map Value.int) (.int (0 : Int32)) := p2_.keep K571 nin0
    have f703 : Arv Z h572 ah kh .char (16 : Int32) (own_hexL.map Value.int) (.int (0 : Int32)) := f702.ext E572
    have ne704 : @Ne Nat b572 ah := Exa.neArv A572 f703 (own_w hw 100 rfl)
    have f705 : Arv Z T578.heap ah kh .char (16 : Int32) (own_hexL.map Value.int) (.int (0 : Int32)) := f703.keep K578 (ninS (Ne.symm ne704) nin0)
    have K706 : Keep h0 T571.heap [] := (Keep.refl h0 []).trans K571 all0
    have K707 : Keep h0 h572 [] := K706.ext E572
    have K708 : Keep h0 T578.heap [] := K707.trans K578 (allS (Or.inr (by omega)) all0)
    have f709 : Old Z Z.heap.size T578.heap := f580.keep K578 (allS (by omega) all0)
    exact HJ584 ([] : List Int32) (own_utf cs).length a3_578 k_578 (0 : Int32) .unset .unset T578 T578.heap _ ((rfl : ([] : List Int32) = own_encL ((own_utf cs).take 0)).trans (congrArg own_encL (List.take_of_length_le hend0))) (by (try simp only [List.length_append, List.length_cons, List.length_nil]); omega) (Nat.zero_le _) hca0 pr578_1 (by omega) (by omega) (own_standW X578 (by decide) (by decide)) rfl N578 K708 f709 (by omega) f578_0 f578_1 f578_2 f578_3 f578_4 f582 f705
theorem d_method_4_0 : decode cJ32 0 = .ok (.iload_n 0, 1) := by decide +kernel
theorem d_method_4_1 : decode cJ32 1 = .ok (.bipush 10, 2) := by decide +kernel
theorem d_method_4_3 : decode cJ32 3 = .ok (.if_icmp .ge 9, 3) := by decide +kernel
theorem d_method_4_6 : decode cJ32 6 = .ok (.bipush 48, 2) := by decide +kernel
theorem d_method_4_8 : decode cJ32 8 = .ok (.iload_n 0, 1) := by decide +kernel
theorem d_method_4_9 : decode cJ32 9 = .ok (.iadd, 1) := by decide +kernel
theorem d_method_4_10 : decode cJ32 10 = .ok (.i2c, 1) := by decide +kernel
theorem d_method_4_11 : decode cJ32 11 = .ok (.ireturn, 1) := by decide +kernel
theorem d_method_4_12 : decode cJ32 12 = .ok (.bipush 65, 2) := by decide +kernel
theorem d_method_4_14 : decode cJ32 14 = .ok (.iload_n 0, 1) := by decide +kernel
theorem d_method_4_15 : decode cJ32 15 = .ok (.bipush 10, 2) := by decide +kernel
theorem d_method_4_17 : decode cJ32 17 = .ok (.isub, 1) := by decide +kernel
theorem d_method_4_18 : decode cJ32 18 = .ok (.iadd, 1) := by decide +kernel
theorem d_method_4_19 : decode cJ32 19 = .ok (.i2c, 1) := by decide +kernel
theorem d_method_4_20 : decode cJ32 20 = .ok (.ireturn, 1) := by decide +kernel
def Q_digit (Z : State) (p1 : Int32) (u : Int32) (h0 : Heap) (v : Option Value) (h : Heap) (L : List Loc) : Prop := v = some (.int (own_dg (u &&& (15 : Int32)))) ∧ Fr Z.heap.size L ∧ h = h0
set_option maxRecDepth 65536 in
set_option maxHeartbeats 40000000 in
theorem rm_digit (l : Launch) (Z : State) (a0 : Array Value) (hw : ∀ d ∈ tables_1, d.before a0 Z = true) (ws : List Jvm.Cond) (p1 : Int32) (u : Int32) (h0 : Heap) (OL : Old Z Z.heap.size h0) (hu : p1 = u &&& (15 : Int32)) :
    MetFree l mN2 (head1 (Jvm.Cond.code mN2 method_4_code 1 (some .char) :: ws) rM0) (fun a U => a = #[(.int p1)] ∧ Z.Warmed39 U.vm ∧ U.heap = h0) (fun _ _ _ _ _ => True) (fun _ U o U' => ∃ v L, o = .returned v ∧ Q_digit Z p1 u h0 v U'.heap L ∧ FrameEnd U o U' L rM0.cells rM0.slots) := by
  refine MetFree.of_bodySF (plainFor_of_name pn_675) hisR ?_
  intro p e s m args below meth c s₁ Bd hml0 hP hK
  obtain ⟨rfl, hZ, hh⟩ := hP
  have hx := Bd.exec
  have hby := Bd.bytes
  have hml : c.maxLocals = 1 := hml0
  have hown : s.vm.findClass "com/example/vigilant_gate/vigilantgate/PercentEncodingEncodePinLaw" = some m.cls := findClass_of_methodNamed Bd.named
  have hnm := (name_of_methodNamed Bd.named Bd.method).1
  have X0 : Stand p l e rM0 s m #[(.int p1)] below meth c s₁ [] 0 0 := Stand.of_body Bd
  have e0 : s₁.heap = h0 := by rw [← hh, Bd.state]; rfl
  have N0 := Fr.nil Z.heap.size
  have Z0 : Z.heap.size ≤ h0.size := OL.2.1
  show oG p.tables e below (fun o tE => ∃ v L, o = .returned v ∧ Q_digit Z p1 u h0 v tE.heap L ∧ FrameEnd s o tE L rM0.cells rM0.slots) (s₁.setTop (entryFrame m #[(.int p1)] 1))
  refine own_hd (fun PP hPP => ?_)
  refine oG.st (fun t k => castTop (ef_178 m p1) k) ?_
  subst hu
  refine oG.st (fun _ k => XS.iloadN X0.here hx rfl (hb hby d_method_4_0) rfl (XS.bipush X0.here hx rfl (hb hby d_method_4_1) k)) ?_
  show oG _ _ _ _ (s₁.setTop (mkF m 3 #[.val (.int (u &&& (15 : Int32)))] [(.int (10 : Int32)), (.int (u &&& (15 : Int32)))]))
  by_cases hc710 : (u &&& (15 : Int32)) < (10 : Int32)
  ·
    refine oG.st (fun _ k => XS.icmpNo X0.here hx rfl (hb hby d_method_4_3) rfl (tlt hc710).2.1 k) ?_
    refine oG.st (fun _ k => XS.bipush X0.here hx rfl (hb hby d_method_4_6) (XS.iloadN X0.here hx rfl (hb hby d_method_4_8) rfl (XS.iadd X0.here hx rfl (hb hby d_method_4_9) rfl (XS.i2c X0.here hx rfl (hb hby d_method_4_10) rfl k)))) ?_
    show oG _ _ _ _ (s₁.setTop (mkF m 11 #[.val (.int (u &&& (15 : Int32)))] [(.int (((48 : Int32) + (u &&& (15 : Int32))).toUInt32.toUInt16.toUInt32.toInt32))]))
    obtain ⟨fs711, hr711, hrun711, hend711, hW711, hsm711⟩ := X0.leave (v := some (.int (nar .char (((48 : Int32) + (u &&& (15 : Int32))).toUInt32.toUInt16.toUInt32.toInt32)))) (fun h => by rw [Bd.returns] at h; cases h)
    have hdg : own_dg (u &&& (15 : Int32)) = (48 : Int32) + (u &&& (15 : Int32)) := if_pos hc710
    have hdr := own_up (own_dgR u)
    rw [hdg] at hdr
    subst hPP
    refine ⟨_, _, retN X0 hx (t := .char) Bd.returns (by simp) (hb hby d_method_4_11) hr711, hrun711, hend711, _, _, rfl, ?_, ⟨_, rfl⟩, hW711, hsm711.mono (by decide) (by decide)⟩
    · show Q_digit Z _ _ h0 _ s₁.heap _
      rw [e0]
      exact ⟨(by rw [(own_dgC u).1, own_nar hdr, hdg]), N0, rfl⟩
  ·
    refine oG.st (fun _ k => XS.icmpYes X0.here hx rfl (pc0 := 3) (pc' := 12) rfl (hb hby d_method_4_3) rfl (flt hc710).2.1 (by decide) (by decide) k) ?_
    refine oG.st (fun _ k => XS.bipush X0.here hx rfl (hb hby d_method_4_12) (XS.iloadN X0.here hx rfl (hb hby d_method_4_14) rfl (XS.bipush X0.here hx rfl (hb hby d_method_4_15) (XS.isub X0.here hx rfl (hb hby d_method_4_17) rfl (XS.iadd X0.here hx rfl (hb hby d_method_4_18) rfl (XS.i2c X0.here hx rfl (hb hby d_method_4_19) rfl k)))))) ?_
    show oG _ _ _ _ (s₁.setTop (mkF m 20 #[.val (.int (u &&& (15 : Int32)))] [(.int (((65 : Int32) + ((u &&& (15 : Int32)) - (10 : Int32))).toUInt32.toUInt16.toUInt32.toInt32))]))
    obtain ⟨fs712, hr712, hrun712, hend712, hW712, hsm712⟩ := X0.leave (v := some (.int (nar .char (((65 : Int32) + ((u &&& (15 : Int32)) - (10 : Int32))).toUInt32.toUInt16.toUInt32.toInt32)))) (fun h => by rw [Bd.returns] at h; cases h)
    have hdg : own_dg (u &&& (15 : Int32)) = (65 : Int32) + ((u &&& (15 : Int32)) - (10 : Int32)) := if_neg hc710
    have hdr := own_up (own_dgR u)
    rw [hdg] at hdr
    subst hPP
    refine ⟨_, _, retN X0 hx (t := .char) Bd.returns (by simp) (hb hby d_method_4_20) hr712, hrun712, hend712, _, _, rfl, ?_, ⟨_, rfl⟩, hW712, hsm712.mono (by decide) (by decide)⟩
    · show Q_digit Z _ _ h0 _ s₁.heap _
      rw [e0]
      exact ⟨(by rw [(own_dgC u).2, own_nar hdr, hdg]), N0, rfl⟩
theorem d_method_5_0 : decode cJ33 0 = .ok (.aload_n 0, 1) := by decide +kernel
theorem d_method_5_1 : decode cJ33 1 = .ok (.iload_n 1, 1) := by decide +kernel
theorem d_method_5_2 : decode cJ33 2 = .ok (.bipush 37, 2) := by decide +kernel
theorem d_method_5_4 : decode cJ33 4 = .ok (.castore, 1) := by decide +kernel
theorem d_method_5_5 : decode cJ33 5 = .ok (.aload_n 0, 1) := by decide +kernel
theorem d_method_5_6 : decode cJ33 6 = .ok (.iload_n 1, 1) := by decide +kernel
theorem d_method_5_7 : decode cJ33 7 = .ok (.iconst 1, 1) := by decide +kernel
theorem d_method_5_8 : decode cJ33 8 = .ok (.iadd, 1) := by decide +kernel
theorem d_method_5_9 : decode cJ33 9 = .ok (.iload_n 2, 1) := by decide +kernel
theorem d_method_5_10 : decode cJ33 10 = .ok (.iconst 4, 1) := by decide +kernel
theorem d_method_5_11 : decode cJ33 11 = .ok (.ishr, 1) := by decide +kernel
theorem d_method_5_12 : decode cJ33 12 = .ok (.bipush 15, 2) := by decide +kernel
theorem d_method_5_14 : decode cJ33 14 = .ok (.iand, 1) := by decide +kernel
theorem pd_807 : parseMethodDescriptor "(I)C" = some ⟨[.int], some .char⟩ := by decide +kernel
theorem d_method_5_15 : decode cJ33 15 = .ok (.invokestatic 39, 3) := by decide +kernel
theorem d_method_5_18 : decode cJ33 18 = .ok (.castore, 1) := by decide +kernel
theorem d_method_5_19 : decode cJ33 19 = .ok (.aload_n 0, 1) := by decide +kernel
theorem d_method_5_20 : decode cJ33 20 = .ok (.iload_n 1, 1) := by decide +kernel
theorem d_method_5_21 : decode cJ33 21 = .ok (.iconst 2, 1) := by decide +kernel
theorem d_method_5_22 : decode cJ33 22 = .ok (.iadd, 1) := by decide +kernel
theorem d_method_5_23 : decode cJ33 23 = .ok (.iload_n 2, 1) := by decide +kernel
theorem d_method_5_24 : decode cJ33 24 = .ok (.bipush 15, 2) := by decide +kernel
theorem d_method_5_26 : decode cJ33 26 = .ok (.iand, 1) := by decide +kernel
theorem d_method_5_27 : decode cJ33 27 = .ok (.invokestatic 39, 3) := by decide +kernel
theorem d_method_5_30 : decode cJ33 30 = .ok (.castore, 1) := by decide +kernel
theorem d_method_5_31 : decode cJ33 31 = .ok (.return_, 1) := by decide +kernel
def Q_put (Z : State) (a1 : Nat) (p2 : Int32) (p3 : Int32) (es : List Int32) (nl : Nat) (ka : ClassId) (h0 : Heap) (v : Option Value) (h : Heap) (L : List Loc) : Prop := v = none ∧ Fr Z.heap.size L ∧ Keep h0 h [a1] ∧ Arv Z h a1 ka .char (Int32.ofNat nl) ((es ++ own_put p3).map Value.int) (.int (0 : Int32))
set_option maxRecDepth 65536 in
set_option maxHeartbeats 40000000 in
theorem rm_put (l : Launch) (Z : State) (a0 : Array Value) (hw : ∀ d ∈ tables_1, d.before a0 Z = true) (ws : List Jvm.Cond) (a1 : Nat) (p2 : Int32) (p3 : Int32) (es : List Int32) (nl : Nat) (ka : ClassId) (h0 : Heap) (OL : Old Z Z.heap.size h0) (p0_ : Arv Z h0 a1 ka .char (Int32.ofNat nl) (es.map Value.int) (.int (0 : Int32))) (hp2 : p2 = Int32.ofNat es.length) (hfit : es.length + 3 ≤ nl) (hnl : nl ≤ 9) (hn0 : Z.heap.size ≤ a1) :
    MetFree l mN4 (head1 (Jvm.Cond.code mN4 method_5_code 3 none :: ws) rM5) (fun a U => a = #[(.ref a1), (.int p2), (.int p3)] ∧ Z.Warmed39 U.vm ∧ U.heap = h0) (fun _ _ _ _ _ => True) (fun _ U o U' => ∃ v L, o = .returned v ∧ Q_put Z a1 p2 p3 es nl ka h0 v U'.heap L ∧ FrameEnd U o U' L rM5.cells rM5.slots) := by
  refine MetFree.of_bodySF (plainFor_of_name pn_675) hisR ?_
  intro p e s m args below meth c s₁ Bd hml0 hP hK
  obtain ⟨rfl, hZ, hh⟩ := hP
  have hx := Bd.exec
  have hby := Bd.bytes
  have hml : c.maxLocals = 3 := hml0
  have hown : s.vm.findClass "com/example/vigilant_gate/vigilantgate/PercentEncodingEncodePinLaw" = some m.cls := findClass_of_methodNamed Bd.named
  have hnm := (name_of_methodNamed Bd.named Bd.method).1
  have X0 : Stand p l e rM5 s m #[(.ref a1), (.int p2), (.int p3)] below meth c s₁ [] 0 0 := Stand.of_body Bd
  have e0 : s₁.heap = h0 := by rw [← hh, Bd.state]; rfl
  have N0 := Fr.nil Z.heap.size
  have Z0 : Z.heap.size ≤ h0.size := OL.2.1
  have lt_0 : @LT.lt Nat _ a1 h0.size := p0_.lt
  show oG p.tables e below (fun o tE => ∃ v L, o = .returned v ∧ Q_put Z a1 p2 p3 es nl ka h0 v tE.heap L ∧ FrameEnd s o tE L rM5.cells rM5.slots) (s₁.setTop (entryFrame m #[(.ref a1), (.int p2), (.int p3)] 3))
  refine own_hd (fun PP hPP => ?_)
  refine oG.st (fun t k => castTop (ef_39 m a1 p2 p3) k) ?_
  subst hp2
  refine oG.st (fun _ k => XS.aloadN X0.here hx rfl (hb hby d_method_5_0) rfl rfl (XS.iloadN X0.here hx rfl (hb hby d_method_5_1) rfl (XS.bipush X0.here hx rfl (hb hby d_method_5_2) k))) ?_
  show oG _ _ _ _ (s₁.setTop (mkF m 4 #[.val (.ref a1), .val (.int (Int32.ofNat es.length)), .val (.int p3)] [(.int (37 : Int32)), (.int (Int32.ofNat es.length)), (.ref a1)]))
  obtain ⟨c713, Ar713, q713, S713, Nn713, H713, G713⟩ := id p0_
  have hin713 : ¬ ((Int32.ofNat es.length) < 0 ∨ c713.slots.size ≤ ((Int32.ofNat es.length)).toNatClampNeg) := inb_of S713 ⟨own_of0 (by omega), (own_oflt (by omega) (by omega)).mpr (by omega)⟩
  obtain ⟨T713, h713, X713, e713, W713, st713⟩ := stC X0 hx hZ e0 Ar713 (j := (Int32.ofNat es.length)) hin713 (g := (mkF m 4 #[.val (.ref a1), .val (.int (Int32.ofNat es.length)), .val (.int p3)] [(.int (37 : Int32)), (.int (Int32.ofNat es.length)), (.ref a1)])) rfl rfl (hb hby d_method_5_4)
  refine oG.st st713 ?_
  have N713 := Fr.snoc X713 N0 (by omega)
  have z713 : h0.size ≤ h713.size := Nat.le_of_eq W713.size.symm
  have f715 : Arv Z h713 a1 ka .char (Int32.ofNat nl) ((es ++ [(37 : Int32)]).map Value.int) (.int (0 : Int32)) := own_push p0_ W713 rfl (by (try simp only [List.length_append, List.length_cons, List.length_nil]); omega) (by decide)
  refine oG.st (fun _ k => XS.aloadN X713.here hx rfl (hb hby d_method_5_5) rfl rfl (XS.iloadN X713.here hx rfl (hb hby d_method_5_6) rfl (XS.iconst X713.here hx rfl (hb hby d_method_5_7) (XS.iadd X713.here hx rfl (hb hby d_method_5_8) rfl (XS.iloadN X713.here hx rfl (hb hby d_method_5_9) rfl (XS.iconst X713.here hx rfl (hb hby d_method_5_10) (XS.ishr X713.here hx rfl (hb hby d_method_5_11) rfl k))))))) ?_
  show oG _ _ _ _ (T713.setTop (mkF m 12 #[.val (.ref a1), .val (.int (Int32.ofNat es.length)), .val (.int p3)] [(.int (p3 >>> ((4 : Int32) &&& 31))), (.int ((Int32.ofNat es.length) + (1 : Int32))), (.ref a1)]))
  refine oG.st (fun _ k => XS.bipush X713.here hx rfl (hb hby d_method_5_12) (XS.iand X713.here hx rfl (hb hby d_method_5_14) rfl k)) ?_
  show oG _ _ _ _ (T713.setTop (mkF m 15 #[.val (.ref a1), .val (.int (Int32.ofNat es.length)), .val (.int p3)] [(.int ((p3 >>> ((4 : Int32) &&& 31)) &&& (15 : Int32))), (.int ((Int32.ofNat es.length) + (1 : Int32))), (.ref a1)]))
  have f717 : Old Z Z.heap.size h713 := OL.wr W713 (by omega)
  obtain ⟨_, _, ⟨T716, L716, k716, n716⟩, -, X716, ⟨Lc716, hQ716, l716, y716, z716⟩, st716⟩ := Jvm.LawKit.callS X713 hx (y := mN2) hown (own_v hZ hw 39 rfl) (own_v hZ hw 40 rfl) (own_v hZ hw 30 rfl) (own_v hZ hw 41 rfl) (by decide) (backOf (W := 2) (rm_digit l Z a0 hw [] ((p3 >>> ((4 : Int32) &&& 31)) &&& (15 : Int32)) (p3 >>> ((4 : Int32) &&& 31)) h713 f717 rfl) hZ (own_w hw 41 rfl) (own_w hw 30 rfl) (by decide) (by decide)) (g := (mkF m 15 #[.val (.ref a1), .val (.int (Int32.ofNat es.length)), .val (.int p3)] [(.int ((p3 >>> ((4 : Int32) &&& 31)) &&& (15 : Int32))), (.int ((Int32.ofNat es.length) + (1 : Int32))), (.ref a1)])) rfl (by rw [hml]; rfl) (argsL := [(.int ((p3 >>> ((4 : Int32) &&& 31)) &&& (15 : Int32)))]) (rest := [(.int ((Int32.ofNat es.length) + (1 : Int32))), (.ref a1)]) (lenOf pd_807 rfl) rfl (by show 2 * 0 + _ ≤ _; exact Nat.le_of_eq rfl) (hb hby d_method_5_15) (fun _ _ => ⟨rfl, e713, (by decide : 0 + 0 ≤ _), (by decide : 0 + 0 ≤ _)⟩)
  dsimp only [Pt.U, Pt.locs, Pt.cells, Pt.slots] at X716 l716 y716 z716 st716 hQ716
  subst l716 y716 z716
  obtain ⟨rfl, N716q, K716⟩ := hQ716
  have N716 := Fr.app N713 N716q
  refine oG.st st716 ?_
  show oG _ _ _ _ (T716.setTop (mkF m 18 #[.val (.ref a1), .val (.int (Int32.ofNat es.length)), .val (.int p3)] [(.int (own_dg ((p3 >>> ((4 : Int32) &&& 31)) &&& (15 : Int32)))), (.int ((Int32.ofNat es.length) + (1 : Int32))), (.ref a1)]))
  obtain ⟨c718, Ar718, q718, S718, Nn718, H718, G718⟩ := id f715
  have hin718 : ¬ (((Int32.ofNat es.length) + (1 : Int32)) < 0 ∨ c718.slots.size ≤ (((Int32.ofNat es.length) + (1 : Int32))).toNatClampNeg) := inb_of S718 (by rw [(show Int32.ofNat es.length + (1 : Int32) = Int32.ofNat (es.length + 1) from own_ofA (j := 1) (by omega))]; exact ⟨own_of0 (by omega), (own_oflt (by omega) (by omega)).mpr (by omega)⟩)
  obtain ⟨T718, h718, X718, e718, W718, st718⟩ := stC X716 hx hZ K716 Ar718 (j := ((Int32.ofNat es.length) + (1 : Int32))) hin718 (g := (mkF m 18 #[.val (.ref a1), .val (.int (Int32.ofNat es.length)), .val (.int p3)] [(.int (own_dg ((p3 >>> ((4 : Int32) &&& 31)) &&& (15 : Int32)))), (.int ((Int32.ofNat es.length) + (1 : Int32))), (.ref a1)])) rfl rfl (hb hby d_method_5_18)
  refine oG.st st718 ?_
  have N718 := Fr.snoc X718 N716 (by omega)
  have z718 : h713.size ≤ h718.size := Nat.le_of_eq W718.size.symm
  have f720 : Arv Z h718 a1 ka .char (Int32.ofNat nl) (((es ++ [(37 : Int32)]) ++ [(own_dg ((p3 >>> ((4 : Int32) &&& 31)) &&& (15 : Int32)))]).map Value.int) (.int (0 : Int32)) := own_push f715 W718 (by rw [show Int32.ofNat es.length + (1 : Int32) = Int32.ofNat (es.length + 1) from own_ofA (j := 1) (by omega)]; simp) (by (try simp only [List.length_append, List.length_cons, List.length_nil]); omega) (own_up (own_dgR _))
  refine oG.st (fun _ k => XS.aloadN X718.here hx rfl (hb hby d_method_5_19) rfl rfl (XS.iloadN X718.here hx rfl (hb hby d_method_5_20) rfl (XS.iconst X718.here hx rfl (hb hby d_method_5_21) (XS.iadd X718.here hx rfl (hb hby d_method_5_22) rfl (XS.iloadN X718.here hx rfl (hb hby d_method_5_23) rfl (XS.bipush X718.here hx rfl (hb hby d_method_5_24) (XS.iand X718.here hx rfl (hb hby d_method_5_26) rfl k))))))) ?_
  show oG _ _ _ _ (T718.setTop (mkF m 27 #[.val (.ref a1), .val (.int (Int32.ofNat es.length)), .val (.int p3)] [(.int (p3 &&& (15 : Int32))), (.int ((Int32.ofNat es.length) + (2 : Int32))), (.ref a1)]))
  have f722 : Old Z Z.heap.size h718 := f717.wr W718 (by omega)
  obtain ⟨_, _, ⟨T721, L721, k721, n721⟩, -, X721, ⟨Lc721, hQ721, l721, y721, z721⟩, st721⟩ := Jvm.LawKit.callS X718 hx (y := mN2) hown (own_v hZ hw 39 rfl) (own_v hZ hw 40 rfl) (own_v hZ hw 30 rfl) (own_v hZ hw 41 rfl) (by decide) (backOf (W := 2) (rm_digit l Z a0 hw [] (p3 &&& (15 : Int32)) p3 h718 f722 rfl) hZ (own_w hw 41 rfl) (own_w hw 30 rfl) (by decide) (by decide)) (g := (mkF m 27 #[.val (.ref a1), .val (.int (Int32.ofNat es.length)), .val (.int p3)] [(.int (p3 &&& (15 : Int32))), (.int ((Int32.ofNat es.length) + (2 : Int32))), (.ref a1)])) rfl (by rw [hml]; rfl) (argsL := [(.int (p3 &&& (15 : Int32)))]) (rest := [(.int ((Int32.ofNat es.length) + (2 : Int32))), (.ref a1)]) (lenOf pd_807 rfl) rfl (by show 2 * 0 + _ ≤ _; exact Nat.le_of_eq rfl) (hb hby d_method_5_27) (fun _ _ => ⟨rfl, e718, (by decide : 0 + 0 ≤ _), (by decide : 0 + 0 ≤ _)⟩)
  dsimp only [Pt.U, Pt.locs, Pt.cells, Pt.slots] at X721 l721 y721 z721 st721 hQ721
  subst l721 y721 z721
  obtain ⟨rfl, N721q, K721⟩ := hQ721
  have N721 := Fr.app N718 N721q
  refine oG.st st721 ?_
  show oG _ _ _ _ (T721.setTop (mkF m 30 #[.val (.ref a1), .val (.int (Int32.ofNat es.length)), .val (.int p3)] [(.int (own_dg (p3 &&& (15 : Int32)))), (.int ((Int32.ofNat es.length) + (2 : Int32))), (.ref a1)]))
  obtain ⟨c723, Ar723, q723, S723, Nn723, H723, G723⟩ := id f720
  have hin723 : ¬ (((Int32.ofNat es.length) + (2 : Int32)) < 0 ∨ c723.slots.size ≤ (((Int32.ofNat es.length) + (2 : Int32))).toNatClampNeg) := inb_of S723 (by rw [(show Int32.ofNat es.length + (2 : Int32) = Int32.ofNat (es.length + 2) from own_ofA (j := 2) (by omega))]; exact ⟨own_of0 (by omega), (own_oflt (by omega) (by omega)).mpr (by omega)⟩)
  obtain ⟨T723, h723, X723, e723, W723, st723⟩ := stC X721 hx hZ K721 Ar723 (j := ((Int32.ofNat es.length) + (2 : Int32))) hin723 (g := (mkF m 30 #[.val (.ref a1), .val (.int (Int32.ofNat es.length)), .val (.int p3)] [(.int (own_dg (p3 &&& (15 : Int32)))), (.int ((Int32.ofNat es.length) + (2 : Int32))), (.ref a1)])) rfl rfl (hb hby d_method_5_30)
  refine oG.st st723 ?_
  have N723 := Fr.snoc X723 N721 (by omega)
  have z723 : h718.size ≤ h723.size := Nat.le_of_eq W723.size.symm
  have f725 : Arv Z h723 a1 ka .char (Int32.ofNat nl) ((((es ++ [(37 : Int32)]) ++ [(own_dg ((p3 >>> ((4 : Int32) &&& 31)) &&& (15 : Int32)))]) ++ [(own_dg (p3 &&& (15 : Int32)))]).map Value.int) (.int (0 : Int32)) := own_push f720 W723 (by rw [show Int32.ofNat es.length + (2 : Int32) = Int32.ofNat (es.length + 2) from own_ofA (j := 2) (by omega)]; simp) (by (try simp only [List.length_append, List.length_cons, List.length_nil]); omega) (own_up (own_dgR _))
  show oG _ _ _ _ (T723.setTop (mkF m 31 #[.val (.ref a1), .val (.int (Int32.ofNat es.length)), .val (.int p3)] []))
  obtain ⟨fs726, hr726, hrun726, hend726, hW726, hsm726⟩ := X723.leave (v := none) (fun _ => rfl)
  have f727 : Arv Z h723 a1 ka .char (Int32.ofNat nl) ((es ++ own_put p3).map Value.int) (.int (0 : Int32)) := by
    have q := f725
    simpa [own_put] using q
  have K728 : Keep h0 h713 [a1] := (Keep.refl h0 [a1]).wr W713 (Or.inl (List.mem_of_getElem? (i := 0) rfl))
  have K729 : Keep h0 h718 [a1] := K728.wr W718 (Or.inl (List.mem_of_getElem? (i := 0) rfl))
  have K730 : Keep h0 h723 [a1] := K729.wr W723 (Or.inl (List.mem_of_getElem? (i := 0) rfl))
  subst hPP
  refine ⟨_, _, X723.returnOut hx Bd.returns (hb hby d_method_5_31) hr726, hrun726, hend726, _, _, rfl, ?_, ⟨_, rfl⟩, hW726, hsm726.mono (by decide) (by decide)⟩
  · show Q_put Z _ _ _ _ _ _ h0 _ T723.heap _
    rw [e723]
    exact ⟨rfl, N723, K730, f727⟩
theorem d_method_6_0 : decode cJ34 0 = .ok (.iload_n 0, 1) := by decide +kernel
theorem d_method_6_1 : decode cJ34 1 = .ok (.sipush 128, 3) := by decide +kernel
theorem d_method_6_4 : decode cJ34 4 = .ok (.if_icmp .ge 35, 3) := by decide +kernel
theorem d_method_6_7 : decode cJ34 7 = .ok (.iload_n 0, 1) := by decide +kernel
theorem d_method_6_8 : decode cJ34 8 = .ok (.invokestatic 43, 3) := by decide +kernel
theorem d_method_6_11 : decode cJ34 11 = .ok (.ifCond .eq 9, 3) := by decide +kernel
theorem d_method_6_20 : decode cJ34 20 = .ok (.iconst 3, 1) := by decide +kernel
theorem d_method_6_21 : decode cJ34 21 = .ok (.newarray .char, 2) := by decide +kernel
theorem d_method_6_23 : decode cJ34 23 = .ok (.astore_n 1, 1) := by decide +kernel
theorem d_method_6_24 : decode cJ34 24 = .ok (.aload_n 1, 1) := by decide +kernel
theorem d_method_6_25 : decode cJ34 25 = .ok (.iconst 0, 1) := by decide +kernel
theorem d_method_6_26 : decode cJ34 26 = .ok (.iload_n 0, 1) := by decide +kernel
theorem pd_832 : parseMethodDescriptor "([CII)V" = some ⟨[(.array .char), .int, .int], none⟩ := by decide +kernel
theorem d_method_6_27 : decode cJ34 27 = .ok (.invokestatic 47, 3) := by decide +kernel
theorem d_method_6_30 : decode cJ34 30 = .ok (.new 11, 3) := by decide +kernel
theorem d_method_6_33 : decode cJ34 33 = .ok (.dup, 1) := by decide +kernel
theorem d_method_6_34 : decode cJ34 34 = .ok (.aload_n 1, 1) := by decide +kernel
theorem pd_837 : parseMethodDescriptor "([C)V" = some ⟨[(.array .char)], none⟩ := by decide +kernel
theorem d_method_6_35 : decode cJ34 35 = .ok (.invokespecial 32, 3) := by decide +kernel
theorem d_method_6_38 : decode cJ34 38 = .ok (.areturn, 1) := by decide +kernel
theorem d_method_6_14 : decode cJ34 14 = .ok (.iload_n 0, 1) := by decide +kernel
theorem d_method_6_15 : decode cJ34 15 = .ok (.i2c, 1) := by decide +kernel
theorem pd_842 : parseMethodDescriptor "(C)Ljava/lang/String;" = some ⟨[.char], some (.object "java/lang/String")⟩ := by decide +kernel
theorem d_method_6_16 : decode cJ34 16 = .ok (.invokestatic 10, 3) := by decide +kernel
theorem d_method_6_19 : decode cJ34 19 = .ok (.areturn, 1) := by decide +kernel
theorem d_method_6_39 : decode cJ34 39 = .ok (.iload_n 0, 1) := by decide +kernel
theorem d_method_6_40 : decode cJ34 40 = .ok (.sipush 2048, 3) := by decide +kernel
theorem d_method_6_43 : decode cJ34 43 = .ok (.if_icmp .ge 43, 3) := by decide +kernel
theorem d_method_6_46 : decode cJ34 46 = .ok (.bipush 6, 2) := by decide +kernel
theorem d_method_6_48 : decode cJ34 48 = .ok (.newarray .char, 2) := by decide +kernel
theorem d_method_6_50 : decode cJ34 50 = .ok (.astore_n 1, 1) := by decide +kernel
theorem d_method_6_51 : decode cJ34 51 = .ok (.aload_n 1, 1) := by decide +kernel
theorem d_method_6_52 : decode cJ34 52 = .ok (.iconst 0, 1) := by decide +kernel
theorem d_method_6_53 : decode cJ34 53 = .ok (.sipush 192, 3) := by decide +kernel
theorem d_method_6_56 : decode cJ34 56 = .ok (.iload_n 0, 1) := by decide +kernel
theorem d_method_6_57 : decode cJ34 57 = .ok (.bipush 6, 2) := by decide +kernel
theorem d_method_6_59 : decode cJ34 59 = .ok (.ishr, 1) := by decide +kernel
theorem d_method_6_60 : decode cJ34 60 = .ok (.ior, 1) := by decide +kernel
theorem d_method_6_61 : decode cJ34 61 = .ok (.invokestatic 47, 3) := by decide +kernel
theorem d_method_6_64 : decode cJ34 64 = .ok (.aload_n 1, 1) := by decide +kernel
theorem d_method_6_65 : decode cJ34 65 = .ok (.iconst 3, 1) := by decide +kernel
theorem d_method_6_66 : decode cJ34 66 = .ok (.sipush 128, 3) := by decide +kernel
theorem d_method_6_69 : decode cJ34 69 = .ok (.iload_n 0, 1) := by decide +kernel
theorem d_method_6_70 : decode cJ34 70 = .ok (.bipush 63, 2) := by decide +kernel
theorem d_method_6_72 : decode cJ34 72 = .ok (.iand, 1) := by decide +kernel
theorem d_method_6_73 : decode cJ34 73 = .ok (.ior, 1) := by decide +kernel
theorem d_method_6_74 : decode cJ34 74 = .ok (.invokestatic 47, 3) := by decide +kernel
theorem d_method_6_77 : decode cJ34 77 = .ok (.new 11, 3) := by decide +kernel
theorem d_method_6_80 : decode cJ34 80 = .ok (.dup, 1) := by decide +kernel
theorem d_method_6_81 : decode cJ34 81 = .ok (.aload_n 1, 1) := by decide +kernel
theorem d_method_6_82 : decode cJ34 82 = .ok (.invokespecial 32, 3) := by decide +kernel
theorem d_method_6_85 : decode cJ34 85 = .ok (.areturn, 1) := by decide +kernel
theorem d_method_6_86 : decode cJ34 86 = .ok (.bipush 9, 2) := by decide +kernel
theorem d_method_6_88 : decode cJ34 88 = .ok (.newarray .char, 2) := by decide +kernel
theorem d_method_6_90 : decode cJ34 90 = .ok (.astore_n 1, 1) := by decide +kernel
theorem d_method_6_91 : decode cJ34 91 = .ok (.aload_n 1, 1) := by decide +kernel
theorem d_method_6_92 : decode cJ34 92 = .ok (.iconst 0, 1) := by decide +kernel
theorem d_method_6_93 : decode cJ34 93 = .ok (.sipush 224, 3) := by decide +kernel
theorem d_method_6_96 : decode cJ34 96 = .ok (.iload_n 0, 1) := by decide +kernel
theorem d_method_6_97 : decode cJ34 97 = .ok (.bipush 12, 2) := by decide +kernel
theorem d_method_6_99 : decode cJ34 99 = .ok (.ishr, 1) := by decide +kernel
theorem d_method_6_100 : decode cJ34 100 = .ok (.ior, 1) := by decide +kernel
theorem d_method_6_101 : decode cJ34 101 = .ok (.invokestatic 47, 3) := by decide +kernel
theorem d_method_6_104 : decode cJ34 104 = .ok (.aload_n 1, 1) := by decide +kernel
theorem d_method_6_105 : decode cJ34 105 = .ok (.iconst 3, 1) := by decide +kernel
theorem d_method_6_106 : decode cJ34 106 = .ok (.sipush 128, 3) := by decide +kernel
theorem d_method_6_109 : decode cJ34 109 = .ok (.iload_n 0, 1) := by decide +kernel
theorem d_method_6_110 : decode cJ34 110 = .ok (.bipush 6, 2) := by decide +kernel
theorem d_method_6_112 : decode cJ34 112 = .ok (.ishr, 1) := by decide +kernel
theorem d_method_6_113 : decode cJ34 113 = .ok (.bipush 63, 2) := by decide +kernel
theorem d_method_6_115 : decode cJ34 115 = .ok (.iand, 1) := by decide +kernel
theorem d_method_6_116 : decode cJ34 116 = .ok (.ior, 1) := by decide +kernel
theorem d_method_6_117 : decode cJ34 117 = .ok (.invokestatic 47, 3) := by decide +kernel
theorem d_method_6_120 : decode cJ34 120 = .ok (.aload_n 1, 1) := by decide +kernel
theorem d_method_6_121 : decode cJ34 121 = .ok (.bipush 6, 2) := by decide +kernel
theorem d_method_6_123 : decode cJ34 123 = .ok (.sipush 128, 3) := by decide +kernel
theorem d_method_6_126 : decode cJ34 126 = .ok (.iload_n 0, 1) := by decide +kernel
theorem d_method_6_127 : decode cJ34 127 = .ok (.bipush 63, 2) := by decide +kernel
theorem d_method_6_129 : decode cJ34 129 = .ok (.iand, 1) := by decide +kernel
theorem d_method_6_130 : decode cJ34 130 = .ok (.ior, 1) := by decide +kernel
theorem d_method_6_131 : decode cJ34 131 = .ok (.invokestatic 47, 3) := by decide +kernel
theorem d_method_6_134 : decode cJ34 134 = .ok (.new 11, 3) := by decide +kernel
theorem d_method_6_137 : decode cJ34 137 = .ok (.dup, 1) := by decide +kernel
theorem d_method_6_138 : decode cJ34 138 = .ok (.aload_n 1, 1) := by decide +kernel
theorem d_method_6_139 : decode cJ34 139 = .ok (.invokespecial 32, 3) := by decide +kernel
theorem d_method_6_142 : decode cJ34 142 = .ok (.areturn, 1) := by decide +kernel
def Q_enc1 (Z : State) (p1 : Int32) (zc : Int32) (h0 : Heap) (v : Option Value) (h : Heap) (L : List Loc) : Prop := ∃ (x : Nat), ∃ (t : Nat), v = some (.ref x) ∧ Fr Z.heap.size L ∧ Keep h0 h [] ∧ own_Str Z h x t (own_encL (own_utf [p1]))
set_option maxRecDepth 65536 in
set_option maxHeartbeats 40000000 in
theorem rm_enc1 (l : Launch) (Z : State) (a0 : Array Value) (hw : ∀ d ∈ tables_1, d.before a0 Z = true) (ws : List Jvm.Cond) (p1 : Int32) (zc : Int32) (h0 : Heap) (OL : Old Z Z.heap.size h0) (st_C : Sta Z Z.heap "java/lang/String" "COMPACT_STRINGS" "Z" (.int zc)) (st_A : Sta Z Z.heap "java/lang/StringUTF16" "$assertionsDisabled" "Z" (.int (1 : Int32))) (st_H : Sta Z Z.heap "java/lang/StringUTF16" "HI_BYTE_SHIFT" "I" (.int (0 : Int32))) (st_L : Sta Z Z.heap "java/lang/StringUTF16" "LO_BYTE_SHIFT" "I" (.int (8 : Int32))) (hzc : ¬ zc = 0) (h : ¬ p1 < 0 ∧ ¬ (65535 : Int32) < p1) :
    MetFree l mN3 (head1 (Jvm.Cond.code mN3 method_6_code 2 (some (.object "java/lang/String")) :: ws) rM27) (fun a U => a = #[(.int p1)] ∧ Z.Warmed39 U.vm ∧ U.heap = h0) (fun _ _ _ _ _ => True) (fun _ U o U' => ∃ v L, o = .returned v ∧ Q_enc1 Z p1 zc h0 v U'.heap L ∧ FrameEnd U o U' L rM27.cells rM27.slots) := by
  refine MetFree.of_bodySF (plainFor_of_name pn_675) hisR ?_
  intro p e s m args below meth c s₁ Bd hml0 hP hK
  obtain ⟨rfl, hZ, hh⟩ := hP
  have hx := Bd.exec
  have hby := Bd.bytes
  have hml : c.maxLocals = 2 := hml0
  have hown : s.vm.findClass "com/example/vigilant_gate/vigilantgate/PercentEncodingEncodePinLaw" = some m.cls := findClass_of_methodNamed Bd.named
  have hnm := (name_of_methodNamed Bd.named Bd.method).1
  have X0 : Stand p l e rM27 s m #[(.int p1)] below meth c s₁ [] 0 0 := Stand.of_body Bd
  have e0 : s₁.heap = h0 := by rw [← hh, Bd.state]; rfl
  have N0 := Fr.nil Z.heap.size
  have Z0 : Z.heap.size ≤ h0.size := OL.2.1
  show oG p.tables e below (fun o tE => ∃ v L, o = .returned v ∧ Q_enc1 Z p1 zc h0 v tE.heap L ∧ FrameEnd s o tE L rM27.cells rM27.slots) (s₁.setTop (entryFrame m #[(.int p1)] 2))
  refine own_hd (fun PP hPP => ?_)
  refine oG.st (fun t k => castTop (ef_334 m p1) k) ?_
  refine oG.st (fun _ k => XS.iloadN X0.here hx rfl (hb hby d_method_6_0) rfl (XS.sipush X0.here hx rfl (hb hby d_method_6_1) k)) ?_
  show oG _ _ _ _ (s₁.setTop (mkF m 4 #[.val (.int p1), .unset] [(.int (128 : Int32)), (.int p1)]))
  by_cases h4 : p1 < (128 : Int32)
  ·
    refine oG.st (fun _ k => XS.icmpNo X0.here hx rfl (hb hby d_method_6_4) rfl (tlt h4).2.1 k) ?_
    refine oG.st (fun _ k => XS.iloadN X0.here hx rfl (hb hby d_method_6_7) rfl k) ?_
    show oG _ _ _ _ (s₁.setTop (mkF m 8 #[.val (.int p1), .unset] [(.int p1)]))
    obtain ⟨_, _, ⟨T731, L731, k731, n731⟩, -, X731, ⟨Lc731, hQ731, l731, y731, z731⟩, st731⟩ := Jvm.LawKit.callS X0 hx (y := mN5) hown (own_v hZ hw 32 rfl) (own_v hZ hw 33 rfl) (own_v hZ hw 30 rfl) (own_v hZ hw 34 rfl) (by decide) (backOf (W := 0) (rm_lawUnr l Z a0 hw [] p1 h0 OL ) hZ (own_w hw 34 rfl) (own_w hw 30 rfl) (by decide) (by decide)) (g := (mkF m 8 #[.val (.int p1), .unset] [(.int p1)])) rfl (by rw [hml]; rfl) (argsL := [(.int p1)]) (rest := []) (lenOf pd_753 rfl) rfl (by show 2 * 0 + _ ≤ _; exact Nat.le_of_eq rfl) (hb hby d_method_6_8) (fun _ _ => ⟨rfl, e0, (by decide : 0 + 0 ≤ _), (by decide : 0 + 0 ≤ _)⟩)
    dsimp only [Pt.U, Pt.locs, Pt.cells, Pt.slots] at X731 l731 y731 z731 st731 hQ731
    subst l731 y731 z731
    obtain ⟨rfl, N731q, K731⟩ := hQ731
    have N731 := Fr.app N0 N731q
    refine oG.st st731 ?_
    show oG _ _ _ _ (T731.setTop (mkF m 11 #[.val (.int p1), .unset] [(.int (own_unr p1))]))
    by_cases h11 : (own_unr p1) = (0 : Int32)
    ·
      refine oG.st (fun _ k => XS.ifYes X731.here hx rfl (pc0 := 11) (pc' := 20) rfl (hb hby d_method_6_11) rfl ((if0 _ _).trans (teq h11).1) (by decide) (by decide) k) ?_
      refine oG.st (fun _ k => XS.iconst X731.here hx rfl (hb hby d_method_6_20) k) ?_
      show oG _ _ _ _ (T731.setTop (mkF m 21 #[.val (.int p1), .unset] [(.int (3 : Int32))]))
      obtain ⟨T732, h732, k732, X732, e732, E732, A732, st732⟩ := newP X731 hx hZ (own_w hw 35 rfl) K731 (g := (mkF m 21 #[.val (.int p1), .unset] [(.int (3 : Int32))])) rfl (hb hby d_method_6_21) rfl (by decide) (cap := 3) (by decide) (by decide) (by decide) (by decide)
      obtain ⟨b732, g732⟩ : ∃ z, z = h0.size := ⟨_, rfl⟩
      rw [← g732] at A732 st732
      refine oG.st st732 ?_
      have z732 : h0.size ≤ h732.size := E732.1
      have f733 : Arv Z h732 b732 k732 .char (3 : Int32) [(.int (0 : Int32)), (.int (0 : Int32)), (.int (0 : Int32))] (.int (0 : Int32)) := (Arv.new A732 (by decide)).pad (pad_rep [] (.int (0 : Int32)) 3)
      have lt_b732 : @LT.lt Nat _ b732 h732.size := f733.lt
      refine oG.st (fun _ k => XS.astoreN X732.here hx rfl (hb hby d_method_6_23) rfl rfl (l' := #[.val (.int p1), .val (.ref b732)]) rfl k) ?_
      show oG _ _ _ _ (T732.setTop (mkF m 24 #[.val (.int p1), .val (.ref b732)] []))
      have f734 : Arv Z h732 b732 k732 .char (Int32.ofNat 3) (([] : List Int32).map Value.int) (.int (0 : Int32)) := Arv.pad f733 (fun i => (pad_rep [] (.int (0 : Int32)) 3 i).symm)
      refine oG.st (fun _ k => XS.aloadN X732.here hx rfl (hb hby d_method_6_24) rfl rfl (XS.iconst X732.here hx rfl (hb hby d_method_6_25) (XS.iloadN X732.here hx rfl (hb hby d_method_6_26) rfl k))) ?_
      show oG _ _ _ _ (T732.setTop (mkF m 27 #[.val (.int p1), .val (.ref b732)] [(.int p1), (.int (0 : Int32)), (.ref b732)]))
      have f736 : Old Z Z.heap.size h732 := OL.ext E732
      obtain ⟨_, _, ⟨T735, L735, k735, n735⟩, -, X735, ⟨Lc735, hQ735, l735, y735, z735⟩, st735⟩ := Jvm.LawKit.callS X732 hx (y := mN4) hown (own_v hZ hw 36 rfl) (own_v hZ hw 37 rfl) (own_v hZ hw 30 rfl) (own_v hZ hw 38 rfl) (by decide) (backOf (W := 0) (rm_put l Z a0 hw [] b732 (0 : Int32) p1 ([] : List Int32) 3 k732 h732 f736 f734 rfl (Nat.le_of_ble_eq_true rfl) (Nat.le_of_ble_eq_true rfl) (by omega)) hZ (own_w hw 38 rfl) (own_w hw 30 rfl) (by decide) (by decide)) (g := (mkF m 27 #[.val (.int p1), .val (.ref b732)] [(.int p1), (.int (0 : Int32)), (.ref b732)])) rfl (by rw [hml]; rfl) (argsL := [(.ref b732), (.int (0 : Int32)), (.int p1)]) (rest := []) (lenOf pd_832 rfl) rfl (by show 2 * 0 + _ ≤ _; exact Nat.le_of_eq rfl) (hb hby d_method_6_27) (fun _ _ => ⟨rfl, e732, (by decide : 1 + 0 ≤ _), (by decide : 3 + 0 ≤ _)⟩)
      dsimp only [Pt.U, Pt.locs, Pt.cells, Pt.slots] at X735 l735 y735 z735 st735 hQ735
      subst l735 y735 z735
      obtain ⟨rfl, N735q, K735, f735_0⟩ := hQ735
      have N735 := Fr.app N731 N735q
      have z735 : h732.size ≤ T735.heap.size := K735.1
      have lt735_0 : @LT.lt Nat _ b732 T735.heap.size := f735_0.lt
      refine oG.st st735 ?_
      show oG _ _ _ _ (T735.setTop (mkF m 30 #[.val (.int p1), .val (.ref b732)] []))
      have f737 : Arv Z T735.heap b732 k732 .char (3 : Int32) [(.int (37 : Int32)), (.int (own_dg ((p1 >>> ((4 : Int32) &&& 31)) &&& (15 : Int32)))), (.int (own_dg (p1 &&& (15 : Int32))))] (.int (0 : Int32)) := f735_0
      obtain ⟨T738, h738, X738, e738, E738, A738, D738, U738, st738⟩ := newO X735 hx hZ hown (own_w hw 42 rfl) (own_w hw 12 rfl) (own_w hw 4 rfl) rfl (g := (mkF m 30 #[.val (.int p1), .val (.ref b732)] [])) rfl (hb hby d_method_6_30) (by decide) (by decide)
      obtain ⟨b738, g738⟩ : ∃ z, z = T735.heap.size := ⟨_, rfl⟩
      rw [← g738] at A738 D738 U738 st738
      refine oG.st st738 ?_
      have z738 : T735.heap.size ≤ h738.size := E738.1
      have lt_b738 : @LT.lt Nat _ b738 h738.size := A738.lt
      have f739 : Fld Z h738 b738 "java/lang/String" "value" "[B" .null := D738 (Or.inr (own_w hw 25 rfl)) (ty := (.array .byte)) (by decide)
      have f740 : Fld Z h738 b738 "java/lang/String" "coder" "B" (.int (0 : Int32)) := D738 (Or.inr (own_w hw 27 rfl)) (ty := .byte) (by decide)
      refine oG.st (fun _ k => XS.dup X738.here hx rfl (hb hby d_method_6_33) rfl rfl (XS.aloadN X738.here hx rfl (hb hby d_method_6_34) rfl rfl k)) ?_
      show oG _ _ _ _ (T738.setTop (mkF m 35 #[.val (.int p1), .val (.ref b732)] [(.ref b732), (.ref b738), (.ref b738)]))
      have f742 : Arv Z h738 b732 k732 .char (3 : Int32) [(.int (37 : Int32)), (.int (own_dg ((p1 >>> ((4 : Int32) &&& 31)) &&& (15 : Int32)))), (.int (own_dg (p1 &&& (15 : Int32))))] (.int (0 : Int32)) := f737.ext E738
      have f743 : Old Z Z.heap.size T735.heap := f736.keep K735 (allS (by omega) all0)
      have f744 : Old Z Z.heap.size h738 := f743.ext E738
      have hp741 : ∀ c ∈ ([(37 : Int32), (own_dg ((p1 >>> ((4 : Int32) &&& 31)) &&& (15 : Int32))), (own_dg (p1 &&& (15 : Int32)))] : List Int32), ¬ c < 0 ∧ ¬ (255 : Int32) < c := (own_aS (by decide) (own_aS (own_dgR _) (own_aS (own_dgR _) own_a0)))
      obtain ⟨_, _, ⟨T741, L741, k741, n741⟩, -, X741, ⟨Lc741, hQ741, l741, y741, z741⟩, st741⟩ := X738.specialBack hx (y := mN19) rfl hown (own_v hZ hw 43 rfl) (own_v hZ hw 44 rfl) (own_v hZ hw 45 rfl) (by decide) (StrChars.Road.backV (W := 1) hZ (own_hws hw) (kI := 4) (own_w hw 12 rfl) (cs := ([(37 : Int32), (own_dg ((p1 >>> ((4 : Int32) &&& 31)) &&& (15 : Int32))), (own_dg (p1 &&& (15 : Int32)))] : List Int32)) (bs := (([(37 : Int32), (own_dg ((p1 >>> ((4 : Int32) &&& 31)) &&& (15 : Int32))), (own_dg (p1 &&& (15 : Int32)))] : List Int32)).map (fun c => c.toInt8.toInt32)) (n := 3) (n0 := Z.heap.size) (by omega) (by omega) A738 f739 f740 f742 (st_C.ext f744.2) hzc rfl rfl (by decide) (by decide) hp741 rfl (by decide) (by decide)) (g := (mkF m 35 #[.val (.int p1), .val (.ref b732)] [(.ref b732), (.ref b738), (.ref b738)])) rfl (by rw [hml]; rfl) (Steps.refl _) (a := b738) (argsL := [(.ref b732)]) (rest := [(.ref b738)]) (lenOf pd_837 rfl) rfl (by show 2 * 0 + _ ≤ _; exact Nat.le_of_eq rfl) (hb hby d_method_6_35) (fun _ _ => ⟨rfl, e738, (by decide : 2 + 1 ≤ _), (by decide : 7 + 3 ≤ _)⟩)
      dsimp only [Pt.U, Pt.locs, Pt.cells, Pt.slots] at X741 l741 y741 z741 st741 hQ741
      subst l741 y741 z741
      obtain ⟨rfl, N741q, K741, Ex741, Cd741, t741, kb741, u741, v741, w741, Vl741, Ar741⟩ := hQ741
      have N741 := Fr.app N735 N741q
      have z741 : h738.size ≤ T741.heap.size := K741.1
      have fT741 : own_Str Z T741.heap b738 t741 ([(37 : Int32), (own_dg ((p1 >>> ((4 : Int32) &&& 31)) &&& (15 : Int32))), (own_dg (p1 &&& (15 : Int32)))] : List Int32) := ⟨kb741, 0, (3 : Int32), _, Ex741, Vl741, Cd741, Ar741, StrChars.Road.codOf rfl (fun c q => (hp741 c q).2), own_upL hp741, (Nat.le_of_ble_eq_true rfl)⟩
      have lt741 : @LT.lt Nat _ t741 T741.heap.size := fT741.ltv
      refine oG.tr st741 ?_
      show oG _ _ _ _ (T741.setTop (mkF m 38 #[.val (.int p1), .val (.ref b732)] [(.ref b738)]))
      obtain ⟨fs745, hr745, hrun745, hend745, hW745, hsm745⟩ := X741.leave (v := some (.ref b738)) (fun h => by rw [Bd.returns] at h; cases h)
      have hqf746 : (own_encL (own_utf [p1])) = ([(37 : Int32), (own_dg ((p1 >>> ((4 : Int32) &&& 31)) &&& (15 : Int32))), (own_dg (p1 &&& (15 : Int32)))] : List Int32) := by rw [own_utfA h4]; show own_pct p1 ++ [] = _; rw [own_pct, if_pos h11]; rfl
      have f746 : own_Str Z T741.heap b738 t741 (own_encL (own_utf [p1])) := by
        rw [hqf746]
        exact fT741
      have K747 : Keep h0 h732 [] := (Keep.refl h0 []).ext E732
      have K748 : Keep h0 T735.heap [] := K747.trans K735 (allS (Or.inr (by omega)) all0)
      have K749 : Keep h0 h738 [] := K748.ext E738
      have K750 : Keep h0 T741.heap [] := K749.trans K741 (allS (Or.inr (by omega)) all0)
      subst hPP
      refine ⟨_, _, own_retA X741 hx Bd.returns rfl rfl (hb hby d_method_6_38) hr745, hrun745, hend745, _, _, rfl, ?_, ⟨_, rfl⟩, hW745, hsm745.mono (by decide) (by decide)⟩
      · show Q_enc1 Z _ _ h0 _ T741.heap _
        exact ⟨b738, t741, rfl, N741, K750, f746⟩
    ·
      refine oG.st (fun _ k => XS.ifNo X731.here hx rfl (hb hby d_method_6_11) rfl ((if0 _ _).trans (feq h11).1) k) ?_
      refine oG.st (fun _ k => XS.iloadN X731.here hx rfl (hb hby d_method_6_14) rfl (XS.i2c X731.here hx rfl (hb hby d_method_6_15) rfl k)) ?_
      show oG _ _ _ _ (T731.setTop (mkF m 16 #[.val (.int p1), .unset] [(.int (p1.toUInt32.toUInt16.toUInt32.toInt32))]))
      rw [show p1.toUInt32.toUInt16.toUInt32.toInt32 = p1 from own_nar h]
      show oG _ _ _ _ (T731.setTop (mkF m 16 #[.val (.int p1), .unset] [(.int p1)]))
      obtain ⟨_, _, ⟨T751, L751, k751, n751⟩, -, X751, ⟨Lc751, hQ751, l751, y751, z751⟩, st751⟩ := Jvm.LawKit.callS X731 hx (y := mN28) hown (own_v hZ hw 2 rfl) (own_v hZ hw 3 rfl) (own_v hZ hw 4 rfl) (own_v hZ hw 5 rfl) (by decide) (backOf (W := 0) (rm_valueOfC l Z a0 hw [] p1 zc h0 OL st_C st_A st_H st_L hzc h) hZ (own_w hw 5 rfl) (own_w hw 4 rfl) (by decide) (by decide)) (g := (mkF m 16 #[.val (.int p1), .unset] [(.int p1)])) rfl (by rw [hml]; rfl) (argsL := [(.int p1)]) (rest := []) (lenOf pd_842 rfl) rfl (by show 2 * 0 + _ ≤ _; exact Nat.le_of_eq rfl) (hb hby d_method_6_16) (fun _ _ => ⟨rfl, K731, (by decide : 0 + 2 ≤ _), (by decide : 0 + 6 ≤ _)⟩)
      dsimp only [Pt.U, Pt.locs, Pt.cells, Pt.slots] at X751 l751 y751 z751 st751 hQ751
      subst l751 y751 z751
      obtain ⟨x_751, t_751, rfl, N751q, K751, f751_0, f751_1, pr751_0, pr751_1⟩ := hQ751
      have N751 := Fr.app N731 N751q
      have z751 : h0.size ≤ T751.heap.size := K751.1
      have lt751_0 : @LT.lt Nat _ x_751 T751.heap.size := f751_0.lt
      have ltv751_0 : @LT.lt Nat _ t_751 T751.heap.size := f751_0.ltv
      have lt751_1 : @LT.lt Nat _ t_751 T751.heap.size := f751_1.lt
      refine oG.st st751 ?_
      show oG _ _ _ _ (T751.setTop (mkF m 19 #[.val (.int p1), .unset] [(.ref x_751)]))
      obtain ⟨fs752, hr752, hrun752, hend752, hW752, hsm752⟩ := X751.leave (v := some (.ref x_751)) (fun h => by rw [Bd.returns] at h; cases h)
      have hqf753 : (own_encL (own_utf [p1])) = [p1] := by rw [own_utfA h4]; show own_pct p1 ++ [] = _; rw [own_pct, if_neg h11]; rfl
      have f753 : own_Str Z T751.heap x_751 t_751 (own_encL (own_utf [p1])) := by
        rw [hqf753]
        exact f751_0
      have K754 : Keep h0 T751.heap [] := (Keep.refl h0 []).trans K751 all0
      subst hPP
      refine ⟨_, _, own_retA X751 hx Bd.returns rfl rfl (hb hby d_method_6_19) hr752, hrun752, hend752, _, _, rfl, ?_, ⟨_, rfl⟩, hW752, hsm752.mono (by decide) (by decide)⟩
      · show Q_enc1 Z _ _ h0 _ T751.heap _
        exact ⟨x_751, t_751, rfl, N751, K754, f753⟩
  ·
    refine oG.st (fun _ k => XS.icmpYes X0.here hx rfl (pc0 := 4) (pc' := 39) rfl (hb hby d_method_6_4) rfl (flt h4).2.1 (by decide) (by decide) k) ?_
    refine oG.st (fun _ k => XS.iloadN X0.here hx rfl (hb hby d_method_6_39) rfl (XS.sipush X0.here hx rfl (hb hby d_method_6_40) k)) ?_
    show oG _ _ _ _ (s₁.setTop (mkF m 43 #[.val (.int p1), .unset] [(.int (2048 : Int32)), (.int p1)]))
    by_cases h43 : p1 < (2048 : Int32)
    ·
      refine oG.st (fun _ k => XS.icmpNo X0.here hx rfl (hb hby d_method_6_43) rfl (tlt h43).2.1 k) ?_
      refine oG.st (fun _ k => XS.bipush X0.here hx rfl (hb hby d_method_6_46) k) ?_
      show oG _ _ _ _ (s₁.setTop (mkF m 48 #[.val (.int p1), .unset] [(.int (6 : Int32))]))
      obtain ⟨T755, h755, k755, X755, e755, E755, A755, st755⟩ := newP X0 hx hZ (own_w hw 35 rfl) e0 (g := (mkF m 48 #[.val (.int p1), .unset] [(.int (6 : Int32))])) rfl (hb hby d_method_6_48) rfl (by decide) (cap := 6) (by decide) (by decide) (by decide) (by decide)
      obtain ⟨b755, g755⟩ : ∃ z, z = h0.size := ⟨_, rfl⟩
      rw [← g755] at A755 st755
      refine oG.st st755 ?_
      have z755 : h0.size ≤ h755.size := E755.1
      have f756 : Arv Z h755 b755 k755 .char (6 : Int32) [(.int (0 : Int32)), (.int (0 : Int32)), (.int (0 : Int32)), (.int (0 : Int32)), (.int (0 : Int32)), (.int (0 : Int32))] (.int (0 : Int32)) := (Arv.new A755 (by decide)).pad (pad_rep [] (.int (0 : Int32)) 6)
      have lt_b755 : @LT.lt Nat _ b755 h755.size := f756.lt
      refine oG.st (fun _ k => XS.astoreN X755.here hx rfl (hb hby d_method_6_50) rfl rfl (l' := #[.val (.int p1), .val (.ref b755)]) rfl k) ?_
      show oG _ _ _ _ (T755.setTop (mkF m 51 #[.val (.int p1), .val (.ref b755)] []))
      have f757 : Arv Z h755 b755 k755 .char (Int32.ofNat 6) (([] : List Int32).map Value.int) (.int (0 : Int32)) := Arv.pad f756 (fun i => (pad_rep [] (.int (0 : Int32)) 6 i).symm)
      refine oG.st (fun _ k => XS.aloadN X755.here hx rfl (hb hby d_method_6_51) rfl rfl (XS.iconst X755.here hx rfl (hb hby d_method_6_52) (XS.sipush X755.here hx rfl (hb hby d_method_6_53) (XS.iloadN X755.here hx rfl (hb hby d_method_6_56) rfl (XS.bipush X755.here hx rfl (hb hby d_method_6_57) (XS.ishr X755.here hx rfl (hb hby d_method_6_59) rfl (XS.ior X755.here hx rfl (hb hby d_method_6_60) rfl k))))))) ?_
      show oG _ _ _ _ (T755.setTop (mkF m 61 #[.val (.int p1), .val (.ref b755)] [(.int ((192 : Int32) ||| (p1 >>> ((6 : Int32) &&& 31)))), (.int (0 : Int32)), (.ref b755)]))
      have f759 : Old Z Z.heap.size h755 := OL.ext E755
      obtain ⟨_, _, ⟨T758, L758, k758, n758⟩, -, X758, ⟨Lc758, hQ758, l758, y758, z758⟩, st758⟩ := Jvm.LawKit.callS X755 hx (y := mN4) hown (own_v hZ hw 36 rfl) (own_v hZ hw 37 rfl) (own_v hZ hw 30 rfl) (own_v hZ hw 38 rfl) (by decide) (backOf (W := 0) (rm_put l Z a0 hw [] b755 (0 : Int32) ((192 : Int32) ||| (p1 >>> ((6 : Int32) &&& 31))) ([] : List Int32) 6 k755 h755 f759 f757 rfl (Nat.le_of_ble_eq_true rfl) (Nat.le_of_ble_eq_true rfl) (by omega)) hZ (own_w hw 38 rfl) (own_w hw 30 rfl) (by decide) (by decide)) (g := (mkF m 61 #[.val (.int p1), .val (.ref b755)] [(.int ((192 : Int32) ||| (p1 >>> ((6 : Int32) &&& 31)))), (.int (0 : Int32)), (.ref b755)])) rfl (by rw [hml]; rfl) (argsL := [(.ref b755), (.int (0 : Int32)), (.int ((192 : Int32) ||| (p1 >>> ((6 : Int32) &&& 31))))]) (rest := []) (lenOf pd_832 rfl) rfl (by show 2 * 0 + _ ≤ _; exact Nat.le_of_eq rfl) (hb hby d_method_6_61) (fun _ _ => ⟨rfl, e755, (by decide : 1 + 0 ≤ _), (by decide : 6 + 0 ≤ _)⟩)
      dsimp only [Pt.U, Pt.locs, Pt.cells, Pt.slots] at X758 l758 y758 z758 st758 hQ758
      subst l758 y758 z758
      obtain ⟨rfl, N758q, K758, f758_0⟩ := hQ758
      have N758 := Fr.app N0 N758q
      have z758 : h755.size ≤ T758.heap.size := K758.1
      have lt758_0 : @LT.lt Nat _ b755 T758.heap.size := f758_0.lt
      refine oG.st st758 ?_
      refine oG.st (fun _ k => XS.aloadN X758.here hx rfl (hb hby d_method_6_64) rfl rfl (XS.iconst X758.here hx rfl (hb hby d_method_6_65) (XS.sipush X758.here hx rfl (hb hby d_method_6_66) (XS.iloadN X758.here hx rfl (hb hby d_method_6_69) rfl (XS.bipush X758.here hx rfl (hb hby d_method_6_70) (XS.iand X758.here hx rfl (hb hby d_method_6_72) rfl (XS.ior X758.here hx rfl (hb hby d_method_6_73) rfl k))))))) ?_
      show oG _ _ _ _ (T758.setTop (mkF m 74 #[.val (.int p1), .val (.ref b755)] [(.int ((128 : Int32) ||| (p1 &&& (63 : Int32)))), (.int (3 : Int32)), (.ref b755)]))
      have f761 : Old Z Z.heap.size T758.heap := f759.keep K758 (allS (by omega) all0)
      obtain ⟨_, _, ⟨T760, L760, k760, n760⟩, -, X760, ⟨Lc760, hQ760, l760, y760, z760⟩, st760⟩ := Jvm.LawKit.callS X758 hx (y := mN4) hown (own_v hZ hw 36 rfl) (own_v hZ hw 37 rfl) (own_v hZ hw 30 rfl) (own_v hZ hw 38 rfl) (by decide) (backOf (W := 0) (rm_put l Z a0 hw [] b755 (3 : Int32) ((128 : Int32) ||| (p1 &&& (63 : Int32))) (([] : List Int32) ++ own_put ((192 : Int32) ||| (p1 >>> ((6 : Int32) &&& 31)))) 6 k755 T758.heap f761 f758_0 rfl (Nat.le_of_ble_eq_true rfl) (Nat.le_of_ble_eq_true rfl) (by omega)) hZ (own_w hw 38 rfl) (own_w hw 30 rfl) (by decide) (by decide)) (g := (mkF m 74 #[.val (.int p1), .val (.ref b755)] [(.int ((128 : Int32) ||| (p1 &&& (63 : Int32)))), (.int (3 : Int32)), (.ref b755)])) rfl (by rw [hml]; rfl) (argsL := [(.ref b755), (.int (3 : Int32)), (.int ((128 : Int32) ||| (p1 &&& (63 : Int32))))]) (rest := []) (lenOf pd_832 rfl) rfl (by show 2 * 0 + _ ≤ _; exact Nat.le_of_eq rfl) (hb hby d_method_6_74) (fun _ _ => ⟨rfl, rfl, (by decide : 1 + 0 ≤ _), (by decide : 6 + 0 ≤ _)⟩)
      dsimp only [Pt.U, Pt.locs, Pt.cells, Pt.slots] at X760 l760 y760 z760 st760 hQ760
      subst l760 y760 z760
      obtain ⟨rfl, N760q, K760, f760_0⟩ := hQ760
      have N760 := Fr.app N758 N760q
      have z760 : T758.heap.size ≤ T760.heap.size := K760.1
      have lt760_0 : @LT.lt Nat _ b755 T760.heap.size := f760_0.lt
      refine oG.st st760 ?_
      show oG _ _ _ _ (T760.setTop (mkF m 77 #[.val (.int p1), .val (.ref b755)] []))
      have f762 : Arv Z T760.heap b755 k755 .char (6 : Int32) [(.int (37 : Int32)), (.int (own_dg ((((192 : Int32) ||| (p1 >>> ((6 : Int32) &&& 31))) >>> ((4 : Int32) &&& 31)) &&& (15 : Int32)))), (.int (own_dg (((192 : Int32) ||| (p1 >>> ((6 : Int32) &&& 31))) &&& (15 : Int32)))), (.int (37 : Int32)), (.int (own_dg ((((128 : Int32) ||| (p1 &&& (63 : Int32))) >>> ((4 : Int32) &&& 31)) &&& (15 : Int32)))), (.int (own_dg (((128 : Int32) ||| (p1 &&& (63 : Int32))) &&& (15 : Int32))))] (.int (0 : Int32)) := f760_0
      obtain ⟨T763, h763, X763, e763, E763, A763, D763, U763, st763⟩ := newO X760 hx hZ hown (own_w hw 42 rfl) (own_w hw 12 rfl) (own_w hw 4 rfl) rfl (g := (mkF m 77 #[.val (.int p1), .val (.ref b755)] [])) rfl (hb hby d_method_6_77) (by decide) (by decide)
      obtain ⟨b763, g763⟩ : ∃ z, z = T760.heap.size := ⟨_, rfl⟩
      rw [← g763] at A763 D763 U763 st763
      refine oG.st st763 ?_
      have z763 : T760.heap.size ≤ h763.size := E763.1
      have lt_b763 : @LT.lt Nat _ b763 h763.size := A763.lt
      have f764 : Fld Z h763 b763 "java/lang/String" "value" "[B" .null := D763 (Or.inr (own_w hw 25 rfl)) (ty := (.array .byte)) (by decide)
      have f765 : Fld Z h763 b763 "java/lang/String" "coder" "B" (.int (0 : Int32)) := D763 (Or.inr (own_w hw 27 rfl)) (ty := .byte) (by decide)
      refine oG.st (fun _ k => XS.dup X763.here hx rfl (hb hby d_method_6_80) rfl rfl (XS.aloadN X763.here hx rfl (hb hby d_method_6_81) rfl rfl k)) ?_
      show oG _ _ _ _ (T763.setTop (mkF m 82 #[.val (.int p1), .val (.ref b755)] [(.ref b755), (.ref b763), (.ref b763)]))
      have f767 : Arv Z h763 b755 k755 .char (6 : Int32) [(.int (37 : Int32)), (.int (own_dg ((((192 : Int32) ||| (p1 >>> ((6 : Int32) &&& 31))) >>> ((4 : Int32) &&& 31)) &&& (15 : Int32)))), (.int (own_dg (((192 : Int32) ||| (p1 >>> ((6 : Int32) &&& 31))) &&& (15 : Int32)))), (.int (37 : Int32)), (.int (own_dg ((((128 : Int32) ||| (p1 &&& (63 : Int32))) >>> ((4 : Int32) &&& 31)) &&& (15 : Int32)))), (.int (own_dg (((128 : Int32) ||| (p1 &&& (63 : Int32))) &&& (15 : Int32))))] (.int (0 : Int32)) := f762.ext E763
      have f768 : Old Z Z.heap.size T760.heap := f761.keep K760 (allS (by omega) all0)
      have f769 : Old Z Z.heap.size h763 := f768.ext E763
      have hp766 : ∀ c ∈ ([(37 : Int32), (own_dg ((((192 : Int32) ||| (p1 >>> ((6 : Int32) &&& 31))) >>> ((4 : Int32) &&& 31)) &&& (15 : Int32))), (own_dg (((192 : Int32) ||| (p1 >>> ((6 : Int32) &&& 31))) &&& (15 : Int32))), (37 : Int32), (own_dg ((((128 : Int32) ||| (p1 &&& (63 : Int32))) >>> ((4 : Int32) &&& 31)) &&& (15 : Int32))), (own_dg (((128 : Int32) ||| (p1 &&& (63 : Int32))) &&& (15 : Int32)))] : List Int32), ¬ c < 0 ∧ ¬ (255 : Int32) < c := (own_aS (by decide) (own_aS (own_dgR _) (own_aS (own_dgR _) (own_aS (by decide) (own_aS (own_dgR _) (own_aS (own_dgR _) own_a0))))))
      obtain ⟨_, _, ⟨T766, L766, k766, n766⟩, -, X766, ⟨Lc766, hQ766, l766, y766, z766⟩, st766⟩ := X763.specialBack hx (y := mN19) rfl hown (own_v hZ hw 43 rfl) (own_v hZ hw 44 rfl) (own_v hZ hw 45 rfl) (by decide) (StrChars.Road.backV (W := 1) hZ (own_hws hw) (kI := 4) (own_w hw 12 rfl) (cs := ([(37 : Int32), (own_dg ((((192 : Int32) ||| (p1 >>> ((6 : Int32) &&& 31))) >>> ((4 : Int32) &&& 31)) &&& (15 : Int32))), (own_dg (((192 : Int32) ||| (p1 >>> ((6 : Int32) &&& 31))) &&& (15 : Int32))), (37 : Int32), (own_dg ((((128 : Int32) ||| (p1 &&& (63 : Int32))) >>> ((4 : Int32) &&& 31)) &&& (15 : Int32))), (own_dg (((128 : Int32) ||| (p1 &&& (63 : Int32))) &&& (15 : Int32)))] : List Int32)) (bs := (([(37 : Int32), (own_dg ((((192 : Int32) ||| (p1 >>> ((6 : Int32) &&& 31))) >>> ((4 : Int32) &&& 31)) &&& (15 : Int32))), (own_dg (((192 : Int32) ||| (p1 >>> ((6 : Int32) &&& 31))) &&& (15 : Int32))), (37 : Int32), (own_dg ((((128 : Int32) ||| (p1 &&& (63 : Int32))) >>> ((4 : Int32) &&& 31)) &&& (15 : Int32))), (own_dg (((128 : Int32) ||| (p1 &&& (63 : Int32))) &&& (15 : Int32)))] : List Int32)).map (fun c => c.toInt8.toInt32)) (n := 6) (n0 := Z.heap.size) (by omega) (by omega) A763 f764 f765 f767 (st_C.ext f769.2) hzc rfl rfl (by decide) (by decide) hp766 rfl (by decide) (by decide)) (g := (mkF m 82 #[.val (.int p1), .val (.ref b755)] [(.ref b755), (.ref b763), (.ref b763)])) rfl (by rw [hml]; rfl) (Steps.refl _) (a := b763) (argsL := [(.ref b755)]) (rest := [(.ref b763)]) (lenOf pd_837 rfl) rfl (by show 2 * 0 + _ ≤ _; exact Nat.le_of_eq rfl) (hb hby d_method_6_82) (fun _ _ => ⟨rfl, e763, (by decide : 2 + 1 ≤ _), (by decide : 10 + 6 ≤ _)⟩)
      dsimp only [Pt.U, Pt.locs, Pt.cells, Pt.slots] at X766 l766 y766 z766 st766 hQ766
      subst l766 y766 z766
      obtain ⟨rfl, N766q, K766, Ex766, Cd766, t766, kb766, u766, v766, w766, Vl766, Ar766⟩ := hQ766
      have N766 := Fr.app N760 N766q
      have z766 : h763.size ≤ T766.heap.size := K766.1
      have fT766 : own_Str Z T766.heap b763 t766 ([(37 : Int32), (own_dg ((((192 : Int32) ||| (p1 >>> ((6 : Int32) &&& 31))) >>> ((4 : Int32) &&& 31)) &&& (15 : Int32))), (own_dg (((192 : Int32) ||| (p1 >>> ((6 : Int32) &&& 31))) &&& (15 : Int32))), (37 : Int32), (own_dg ((((128 : Int32) ||| (p1 &&& (63 : Int32))) >>> ((4 : Int32) &&& 31)) &&& (15 : Int32))), (own_dg (((128 : Int32) ||| (p1 &&& (63 : Int32))) &&& (15 : Int32)))] : List Int32) := ⟨kb766, 0, (6 : Int32), _, Ex766, Vl766, Cd766, Ar766, StrChars.Road.codOf rfl (fun c q => (hp766 c q).2), own_upL hp766, (Nat.le_of_ble_eq_true rfl)⟩
      have lt766 : @LT.lt Nat _ t766 T766.heap.size := fT766.ltv
      refine oG.tr st766 ?_
      show oG _ _ _ _ (T766.setTop (mkF m 85 #[.val (.int p1), .val (.ref b755)] [(.ref b763)]))
      obtain ⟨fs770, hr770, hrun770, hend770, hW770, hsm770⟩ := X766.leave (v := some (.ref b763)) (fun h => by rw [Bd.returns] at h; cases h)
      have hqf771 : (own_encL (own_utf [p1])) = ([(37 : Int32), (own_dg ((((192 : Int32) ||| (p1 >>> ((6 : Int32) &&& 31))) >>> ((4 : Int32) &&& 31)) &&& (15 : Int32))), (own_dg (((192 : Int32) ||| (p1 >>> ((6 : Int32) &&& 31))) &&& (15 : Int32))), (37 : Int32), (own_dg ((((128 : Int32) ||| (p1 &&& (63 : Int32))) >>> ((4 : Int32) &&& 31)) &&& (15 : Int32))), (own_dg (((128 : Int32) ||| (p1 &&& (63 : Int32))) &&& (15 : Int32)))] : List Int32) := by rw [own_utfB h4 h43]; show own_pct _ ++ (own_pct _ ++ []) = _; rw [(own_s6 h4 h43).pct, (own_m63 _).pct]; rfl
      have f771 : own_Str Z T766.heap b763 t766 (own_encL (own_utf [p1])) := by
        rw [hqf771]
        exact fT766
      have K772 : Keep h0 h755 [] := (Keep.refl h0 []).ext E755
      have K773 : Keep h0 T758.heap [] := K772.trans K758 (allS (Or.inr (by omega)) all0)
      have K774 : Keep h0 T760.heap [] := K773.trans K760 (allS (Or.inr (by omega)) all0)
      have K775 : Keep h0 h763 [] := K774.ext E763
      have K776 : Keep h0 T766.heap [] := K775.trans K766 (allS (Or.inr (by omega)) all0)
      subst hPP
      refine ⟨_, _, own_retA X766 hx Bd.returns rfl rfl (hb hby d_method_6_85) hr770, hrun770, hend770, _, _, rfl, ?_, ⟨_, rfl⟩, hW770, hsm770.mono (by decide) (by decide)⟩
      · show Q_enc1 Z _ _ h0 _ T766.heap _
        exact ⟨b763, t766, rfl, N766, K776, f771⟩
    ·
      refine oG.st (fun _ k => XS.icmpYes X0.here hx rfl (pc0 := 43) (pc' := 86) rfl (hb hby d_method_6_43) rfl (flt h43).2.1 (by decide) (by decide) k) ?_
      refine oG.st (fun _ k => XS.bipush X0.here hx rfl (hb hby d_method_6_86) k) ?_
      show oG _ _ _ _ (s₁.setTop (mkF m 88 #[.val (.int p1), .unset] [(.int (9 : Int32))]))
      obtain ⟨T777, h777, k777, X777, e777, E777, A777, st777⟩ := newP X0 hx hZ (own_w hw 35 rfl) e0 (g := (mkF m 88 #[.val (.int p1), .unset] [(.int (9 : Int32))])) rfl (hb hby d_method_6_88) rfl (by decide) (cap := 9) (by decide) (by decide) (by decide) (by decide)
      obtain ⟨b777, g777⟩ : ∃ z, z = h0.size := ⟨_, rfl⟩
      rw [← g777] at A777 st777
      refine oG.st st777 ?_
      have z777 : h0.size ≤ h777.size := E777.1
      have f778 : Arv Z h777 b777 k777 .char (9 : Int32) [(.int (0 : Int32)), (.int (0 : Int32)), (.int (0 : Int32)), (.int (0 : Int32)), (.int (0 : Int32)), (.int (0 : Int32)), (.int (0 : Int32)), (.int (0 : Int32)), (.int (0 : Int32))] (.int (0 : Int32)) := (Arv.new A777 (by decide)).pad (pad_rep [] (.int (0 : Int32)) 9)
      have lt_b777 : @LT.lt Nat _ b777 h777.size := f778.lt
      refine oG.st (fun _ k => XS.astoreN X777.here hx rfl (hb hby d_method_6_90) rfl rfl (l' := #[.val (.int p1), .val (.ref b777)]) rfl k) ?_
      show oG _ _ _ _ (T777.setTop (mkF m 91 #[.val (.int p1), .val (.ref b777)] []))
      have f779 : Arv Z h777 b777 k777 .char (Int32.ofNat 9) (([] : List Int32).map Value.int) (.int (0 : Int32)) := Arv.pad f778 (fun i => (pad_rep [] (.int (0 : Int32)) 9 i).symm)
      refine oG.st (fun _ k => XS.aloadN X777.here hx rfl (hb hby d_method_6_91) rfl rfl (XS.iconst X777.here hx rfl (hb hby d_method_6_92) (XS.sipush X777.here hx rfl (hb hby d_method_6_93) (XS.iloadN X777.here hx rfl (hb hby d_method_6_96) rfl (XS.bipush X777.here hx rfl (hb hby d_method_6_97) (XS.ishr X777.here hx rfl (hb hby d_method_6_99) rfl (XS.ior X777.here hx rfl (hb hby d_method_6_100) rfl k))))))) ?_
      show oG _ _ _ _ (T777.setTop (mkF m 101 #[.val (.int p1), .val (.ref b777)] [(.int ((224 : Int32) ||| (p1 >>> ((12 : Int32) &&& 31)))), (.int (0 : Int32)), (.ref b777)]))
      have f781 : Old Z Z.heap.size h777 := OL.ext E777
      obtain ⟨_, _, ⟨T780, L780, k780, n780⟩, -, X780, ⟨Lc780, hQ780, l780, y780, z780⟩, st780⟩ := Jvm.LawKit.callS X777 hx (y := mN4) hown (own_v hZ hw 36 rfl) (own_v hZ hw 37 rfl) (own_v hZ hw 30 rfl) (own_v hZ hw 38 rfl) (by decide) (backOf (W := 0) (rm_put l Z a0 hw [] b777 (0 : Int32) ((224 : Int32) ||| (p1 >>> ((12 : Int32) &&& 31))) ([] : List Int32) 9 k777 h777 f781 f779 rfl (Nat.le_of_ble_eq_true rfl) (Nat.le_of_ble_eq_true rfl) (by omega)) hZ (own_w hw 38 rfl) (own_w hw 30 rfl) (by decide) (by decide)) (g := (mkF m 101 #[.val (.int p1), .val (.ref b777)] [(.int ((224 : Int32) ||| (p1 >>> ((12 : Int32) &&& 31)))), (.int (0 : Int32)), (.ref b777)])) rfl (by rw [hml]; rfl) (argsL := [(.ref b777), (.int (0 : Int32)), (.int ((224 : Int32) ||| (p1 >>> ((12 : Int32) &&& 31))))]) (rest := []) (lenOf pd_832 rfl) rfl (by show 2 * 0 + _ ≤ _; exact Nat.le_of_eq rfl) (hb hby d_method_6_101) (fun _ _ => ⟨rfl, e777, (by decide : 1 + 0 ≤ _), (by decide : 9 + 0 ≤ _)⟩)
      dsimp only [Pt.U, Pt.locs, Pt.cells, Pt.slots] at X780 l780 y780 z780 st780 hQ780
      subst l780 y780 z780
      obtain ⟨rfl, N780q, K780, f780_0⟩ := hQ780
      have N780 := Fr.app N0 N780q
      have z780 : h777.size ≤ T780.heap.size := K780.1
      have lt780_0 : @LT.lt Nat _ b777 T780.heap.size := f780_0.lt
      refine oG.st st780 ?_
      refine oG.st (fun _ k => XS.aloadN X780.here hx rfl (hb hby d_method_6_104) rfl rfl (XS.iconst X780.here hx rfl (hb hby d_method_6_105) (XS.sipush X780.here hx rfl (hb hby d_method_6_106) (XS.iloadN X780.here hx rfl (hb hby d_method_6_109) rfl (XS.bipush X780.here hx rfl (hb hby d_method_6_110) (XS.ishr X780.here hx rfl (hb hby d_method_6_112) rfl (XS.bipush X780.here hx rfl (hb hby d_method_6_113) k))))))) ?_
      show oG _ _ _ _ (T780.setTop (mkF m 115 #[.val (.int p1), .val (.ref b777)] [(.int (63 : Int32)), (.int (p1 >>> ((6 : Int32) &&& 31))), (.int (128 : Int32)), (.int (3 : Int32)), (.ref b777)]))
      refine oG.st (fun _ k => XS.iand X780.here hx rfl (hb hby d_method_6_115) rfl (XS.ior X780.here hx rfl (hb hby d_method_6_116) rfl k)) ?_
      show oG _ _ _ _ (T780.setTop (mkF m 117 #[.val (.int p1), .val (.ref b777)] [(.int ((128 : Int32) ||| ((p1 >>> ((6 : Int32) &&& 31)) &&& (63 : Int32)))), (.int (3 : Int32)), (.ref b777)]))
      have f783 : Old Z Z.heap.size T780.heap := f781.keep K780 (allS (by omega) all0)
      obtain ⟨_, _, ⟨T782, L782, k782, n782⟩, -, X782, ⟨Lc782, hQ782, l782, y782, z782⟩, st782⟩ := Jvm.LawKit.callS X780 hx (y := mN4) hown (own_v hZ hw 36 rfl) (own_v hZ hw 37 rfl) (own_v hZ hw 30 rfl) (own_v hZ hw 38 rfl) (by decide) (backOf (W := 0) (rm_put l Z a0 hw [] b777 (3 : Int32) ((128 : Int32) ||| ((p1 >>> ((6 : Int32) &&& 31)) &&& (63 : Int32))) (([] : List Int32) ++ own_put ((224 : Int32) ||| (p1 >>> ((12 : Int32) &&& 31)))) 9 k777 T780.heap f783 f780_0 rfl (Nat.le_of_ble_eq_true rfl) (Nat.le_of_ble_eq_true rfl) (by omega)) hZ (own_w hw 38 rfl) (own_w hw 30 rfl) (by decide) (by decide)) (g := (mkF m 117 #[.val (.int p1), .val (.ref b777)] [(.int ((128 : Int32) ||| ((p1 >>> ((6 : Int32) &&& 31)) &&& (63 : Int32)))), (.int (3 : Int32)), (.ref b777)])) rfl (by rw [hml]; rfl) (argsL := [(.ref b777), (.int (3 : Int32)), (.int ((128 : Int32) ||| ((p1 >>> ((6 : Int32) &&& 31)) &&& (63 : Int32))))]) (rest := []) (lenOf pd_832 rfl) rfl (by show 2 * 0 + _ ≤ _; exact Nat.le_of_eq rfl) (hb hby d_method_6_117) (fun _ _ => ⟨rfl, rfl, (by decide : 1 + 0 ≤ _), (by decide : 9 + 0 ≤ _)⟩)
      dsimp only [Pt.U, Pt.locs, Pt.cells, Pt.slots] at X782 l782 y782 z782 st782 hQ782
      subst l782 y782 z782
      obtain ⟨rfl, N782q, K782, f782_0⟩ := hQ782
      have N782 := Fr.app N780 N782q
      have z782 : T780.heap.size ≤ T782.heap.size := K782.1
      have lt782_0 : @LT.lt Nat _ b777 T782.heap.size := f782_0.lt
      refine oG.st st782 ?_
      refine oG.st (fun _ k => XS.aloadN X782.here hx rfl (hb hby d_method_6_120) rfl rfl (XS.bipush X782.here hx rfl (hb hby d_method_6_121) (XS.sipush X782.here hx rfl (hb hby d_method_6_123) (XS.iloadN X782.here hx rfl (hb hby d_method_6_126) rfl (XS.bipush X782.here hx rfl (hb hby d_method_6_127) (XS.iand X782.here hx rfl (hb hby d_method_6_129) rfl (XS.ior X782.here hx rfl (hb hby d_method_6_130) rfl k))))))) ?_
      show oG _ _ _ _ (T782.setTop (mkF m 131 #[.val (.int p1), .val (.ref b777)] [(.int ((128 : Int32) ||| (p1 &&& (63 : Int32)))), (.int (6 : Int32)), (.ref b777)]))
      have f785 : Old Z Z.heap.size T782.heap := f783.keep K782 (allS (by omega) all0)
      obtain ⟨_, _, ⟨T784, L784, k784, n784⟩, -, X784, ⟨Lc784, hQ784, l784, y784, z784⟩, st784⟩ := Jvm.LawKit.callS X782 hx (y := mN4) hown (own_v hZ hw 36 rfl) (own_v hZ hw 37 rfl) (own_v hZ hw 30 rfl) (own_v hZ hw 38 rfl) (by decide) (backOf (W := 0) (rm_put l Z a0 hw [] b777 (6 : Int32) ((128 : Int32) ||| (p1 &&& (63 : Int32))) ((([] : List Int32) ++ own_put ((224 : Int32) ||| (p1 >>> ((12 : Int32) &&& 31)))) ++ own_put ((128 : Int32) ||| ((p1 >>> ((6 : Int32) &&& 31)) &&& (63 : Int32)))) 9 k777 T782.heap f785 f782_0 rfl (Nat.le_of_ble_eq_true rfl) (Nat.le_of_ble_eq_true rfl) (by omega)) hZ (own_w hw 38 rfl) (own_w hw 30 rfl) (by decide) (by decide)) (g := (mkF m 131 #[.val (.int p1), .val (.ref b777)] [(.int ((128 : Int32) ||| (p1 &&& (63 : Int32)))), (.int (6 : Int32)), (.ref b777)])) rfl (by rw [hml]; rfl) (argsL := [(.ref b777), (.int (6 : Int32)), (.int ((128 : Int32) ||| (p1 &&& (63 : Int32))))]) (rest := []) (lenOf pd_832 rfl) rfl (by show 2 * 0 + _ ≤ _; exact Nat.le_of_eq rfl) (hb hby d_method_6_131) (fun _ _ => ⟨rfl, rfl, (by decide : 1 + 0 ≤ _), (by decide : 9 + 0 ≤ _)⟩)
      dsimp only [Pt.U, Pt.locs, Pt.cells, Pt.slots] at X784 l784 y784 z784 st784 hQ784
      subst l784 y784 z784
      obtain ⟨rfl, N784q, K784, f784_0⟩ := hQ784
      have N784 := Fr.app N782 N784q
      have z784 : T782.heap.size ≤ T784.heap.size := K784.1
      have lt784_0 : @LT.lt Nat _ b777 T784.heap.size := f784_0.lt
      refine oG.st st784 ?_
      show oG _ _ _ _ (T784.setTop (mkF m 134 #[.val (.int p1), .val (.ref b777)] []))
      have f786 : Arv Z T784.heap b777 k777 .char (9 : Int32) [(.int (37 : Int32)), (.int (own_dg ((((224 : Int32) ||| (p1 >>> ((12 : Int32) &&& 31))) >>> ((4 : Int32) &&& 31)) &&& (15 : Int32)))), (.int (own_dg (((224 : Int32) ||| (p1 >>> ((12 : Int32) &&& 31))) &&& (15 : Int32)))), (.int (37 : Int32)), (.int (own_dg ((((128 : Int32) ||| ((p1 >>> ((6 : Int32) &&& 31)) &&& (63 : Int32))) >>> ((4 : Int32) &&& 31)) &&& (15 : Int32)))), (.int (own_dg (((128 : Int32) ||| ((p1 >>> ((6 : Int32) &&& 31)) &&& (63 : Int32))) &&& (15 : Int32)))), (.int (37 : Int32)), (.int (own_dg ((((128 : Int32) ||| (p1 &&& (63 : Int32))) >>> ((4 : Int32) &&& 31)) &&& (15 : Int32)))), (.int (own_dg (((128 : Int32) ||| (p1 &&& (63 : Int32))) &&& (15 : Int32))))] (.int (0 : Int32)) := f784_0
      obtain ⟨T787, h787, X787, e787, E787, A787, D787, U787, st787⟩ := newO X784 hx hZ hown (own_w hw 42 rfl) (own_w hw 12 rfl) (own_w hw 4 rfl) rfl (g := (mkF m 134 #[.val (.int p1), .val (.ref b777)] [])) rfl (hb hby d_method_6_134) (by decide) (by decide)
      obtain ⟨b787, g787⟩ : ∃ z, z = T784.heap.size := ⟨_, rfl⟩
      rw [← g787] at A787 D787 U787 st787
      refine oG.st st787 ?_
      have z787 : T784.heap.size ≤ h787.size := E787.1
      have lt_b787 : @LT.lt Nat _ b787 h787.size := A787.lt
      have f788 : Fld Z h787 b787 "java/lang/String" "value" "[B" .null := D787 (Or.inr (own_w hw 25 rfl)) (ty := (.array .byte)) (by decide)
      have f789 : Fld Z h787 b787 "java/lang/String" "coder" "B" (.int (0 : Int32)) := D787 (Or.inr (own_w hw 27 rfl)) (ty := .byte) (by decide)
      refine oG.st (fun _ k => XS.dup X787.here hx rfl (hb hby d_method_6_137) rfl rfl (XS.aloadN X787.here hx rfl (hb hby d_method_6_138) rfl rfl k)) ?_
      show oG _ _ _ _ (T787.setTop (mkF m 139 #[.val (.int p1), .val (.ref b777)] [(.ref b777), (.ref b787), (.ref b787)]))
      have f791 : Arv Z h787 b777 k777 .char (9 : Int32) [(.int (37 : Int32)), (.int (own_dg ((((224 : Int32) ||| (p1 >>> ((12 : Int32) &&& 31))) >>> ((4 : Int32) &&& 31)) &&& (15 : Int32)))), (.int (own_dg (((224 : Int32) ||| (p1 >>> ((12 : Int32) &&& 31))) &&& (15 : Int32)))), (.int (37 : Int32)), (.int (own_dg ((((128 : Int32) ||| ((p1 >>> ((6 : Int32) &&& 31)) &&& (63 : Int32))) >>> ((4 : Int32) &&& 31)) &&& (15 : Int32)))), (.int (own_dg (((128 : Int32) ||| ((p1 >>> ((6 : Int32) &&& 31)) &&& (63 : Int32))) &&& (15 : Int32)))), (.int (37 : Int32)), (.int (own_dg ((((128 : Int32) ||| (p1 &&& (63 : Int32))) >>> ((4 : Int32) &&& 31)) &&& (15 : Int32)))), (.int (own_dg (((128 : Int32) ||| (p1 &&& (63 : Int32))) &&& (15 : Int32))))] (.int (0 : Int32)) := f786.ext E787
      have f792 : Old Z Z.heap.size T784.heap := f785.keep K784 (allS (by omega) all0)
      have f793 : Old Z Z.heap.size h787 := f792.ext E787
      have hp790 : ∀ c ∈ ([(37 : Int32), (own_dg ((((224 : Int32) ||| (p1 >>> ((12 : Int32) &&& 31))) >>> ((4 : Int32) &&& 31)) &&& (15 : Int32))), (own_dg (((224 : Int32) ||| (p1 >>> ((12 : Int32) &&& 31))) &&& (15 : Int32))), (37 : Int32), (own_dg ((((128 : Int32) ||| ((p1 >>> ((6 : Int32) &&& 31)) &&& (63 : Int32))) >>> ((4 : Int32) &&& 31)) &&& (15 : Int32))), (own_dg (((128 : Int32) ||| ((p1 >>> ((6 : Int32) &&& 31)) &&& (63 : Int32))) &&& (15 : Int32))), (37 : Int32), (own_dg ((((128 : Int32) ||| (p1 &&& (63 : Int32))) >>> ((4 : Int32) &&& 31)) &&& (15 : Int32))), (own_dg (((128 : Int32) ||| (p1 &&& (63 : Int32))) &&& (15 : Int32)))] : List Int32), ¬ c < 0 ∧ ¬ (255 : Int32) < c := (own_aS (by decide) (own_aS (own_dgR _) (own_aS (own_dgR _) (own_aS (by decide) (own_aS (own_dgR _) (own_aS (own_dgR _) (own_aS (by decide) (own_aS (own_dgR _) (own_aS (own_dgR _) own_a0)))))))))
      obtain ⟨_, _, ⟨T790, L790, k790, n790⟩, -, X790, ⟨Lc790, hQ790, l790, y790, z790⟩, st790⟩ := X787.specialBack hx (y := mN19) rfl hown (own_v hZ hw 43 rfl) (own_v hZ hw 44 rfl) (own_v hZ hw 45 rfl) (by decide) (StrChars.Road.backV (W := 1) hZ (own_hws hw) (kI := 4) (own_w hw 12 rfl) (cs := ([(37 : Int32), (own_dg ((((224 : Int32) ||| (p1 >>> ((12 : Int32) &&& 31))) >>> ((4 : Int32) &&& 31)) &&& (15 : Int32))), (own_dg (((224 : Int32) ||| (p1 >>> ((12 : Int32) &&& 31))) &&& (15 : Int32))), (37 : Int32), (own_dg ((((128 : Int32) ||| ((p1 >>> ((6 : Int32) &&& 31)) &&& (63 : Int32))) >>> ((4 : Int32) &&& 31)) &&& (15 : Int32))), (own_dg (((128 : Int32) ||| ((p1 >>> ((6 : Int32) &&& 31)) &&& (63 : Int32))) &&& (15 : Int32))), (37 : Int32), (own_dg ((((128 : Int32) ||| (p1 &&& (63 : Int32))) >>> ((4 : Int32) &&& 31)) &&& (15 : Int32))), (own_dg (((128 : Int32) ||| (p1 &&& (63 : Int32))) &&& (15 : Int32)))] : List Int32)) (bs := (([(37 : Int32), (own_dg ((((224 : Int32) ||| (p1 >>> ((12 : Int32) &&& 31))) >>> ((4 : Int32) &&& 31)) &&& (15 : Int32))), (own_dg (((224 : Int32) ||| (p1 >>> ((12 : Int32) &&& 31))) &&& (15 : Int32))), (37 : Int32), (own_dg ((((128 : Int32) ||| ((p1 >>> ((6 : Int32) &&& 31)) &&& (63 : Int32))) >>> ((4 : Int32) &&& 31)) &&& (15 : Int32))), (own_dg (((128 : Int32) ||| ((p1 >>> ((6 : Int32) &&& 31)) &&& (63 : Int32))) &&& (15 : Int32))), (37 : Int32), (own_dg ((((128 : Int32) ||| (p1 &&& (63 : Int32))) >>> ((4 : Int32) &&& 31)) &&& (15 : Int32))), (own_dg (((128 : Int32) ||| (p1 &&& (63 : Int32))) &&& (15 : Int32)))] : List Int32)).map (fun c => c.toInt8.toInt32)) (n := 9) (n0 := Z.heap.size) (by omega) (by omega) A787 f788 f789 f791 (st_C.ext f793.2) hzc rfl rfl (by decide) (by decide) hp790 rfl (by decide) (by decide)) (g := (mkF m 139 #[.val (.int p1), .val (.ref b777)] [(.ref b777), (.ref b787), (.ref b787)])) rfl (by rw [hml]; rfl) (Steps.refl _) (a := b787) (argsL := [(.ref b777)]) (rest := [(.ref b787)]) (lenOf pd_837 rfl) rfl (by show 2 * 0 + _ ≤ _; exact Nat.le_of_eq rfl) (hb hby d_method_6_139) (fun _ _ => ⟨rfl, e787, (by decide : 2 + 1 ≤ _), (by decide : 13 + 9 ≤ _)⟩)
      dsimp only [Pt.U, Pt.locs, Pt.cells, Pt.slots] at X790 l790 y790 z790 st790 hQ790
      subst l790 y790 z790
      obtain ⟨rfl, N790q, K790, Ex790, Cd790, t790, kb790, u790, v790, w790, Vl790, Ar790⟩ := hQ790
      have N790 := Fr.app N784 N790q
      have z790 : h787.size ≤ T790.heap.size := K790.1
      have fT790 : own_Str Z T790.heap b787 t790 ([(37 : Int32), (own_dg ((((224 : Int32) ||| (p1 >>> ((12 : Int32) &&& 31))) >>> ((4 : Int32) &&& 31)) &&& (15 : Int32))), (own_dg (((224 : Int32) ||| (p1 >>> ((12 : Int32) &&& 31))) &&& (15 : Int32))), (37 : Int32), (own_dg ((((128 : Int32) ||| ((p1 >>> ((6 : Int32) &&& 31)) &&& (63 : Int32))) >>> ((4 : Int32) &&& 31)) &&& (15 : Int32))), (own_dg (((128 : Int32) ||| ((p1 >>> ((6 : Int32) &&& 31)) &&& (63 : Int32))) &&& (15 : Int32))), (37 : Int32), (own_dg ((((128 : Int32) ||| (p1 &&& (63 : Int32))) >>> ((4 : Int32) &&& 31)) &&& (15 : Int32))), (own_dg (((128 : Int32) ||| (p1 &&& (63 : Int32))) &&& (15 : Int32)))] : List Int32) := ⟨kb790, 0, (9 : Int32), _, Ex790, Vl790, Cd790, Ar790, StrChars.Road.codOf rfl (fun c q => (hp790 c q).2), own_upL hp790, (Nat.le_of_ble_eq_true rfl)⟩
      have lt790 : @LT.lt Nat _ t790 T790.heap.size := fT790.ltv
      refine oG.tr st790 ?_
      show oG _ _ _ _ (T790.setTop (mkF m 142 #[.val (.int p1), .val (.ref b777)] [(.ref b787)]))
      obtain ⟨fs794, hr794, hrun794, hend794, hW794, hsm794⟩ := X790.leave (v := some (.ref b787)) (fun h => by rw [Bd.returns] at h; cases h)
      have hqf795 : (own_encL (own_utf [p1])) = ([(37 : Int32), (own_dg ((((224 : Int32) ||| (p1 >>> ((12 : Int32) &&& 31))) >>> ((4 : Int32) &&& 31)) &&& (15 : Int32))), (own_dg (((224 : Int32) ||| (p1 >>> ((12 : Int32) &&& 31))) &&& (15 : Int32))), (37 : Int32), (own_dg ((((128 : Int32) ||| ((p1 >>> ((6 : Int32) &&& 31)) &&& (63 : Int32))) >>> ((4 : Int32) &&& 31)) &&& (15 : Int32))), (own_dg (((128 : Int32) ||| ((p1 >>> ((6 : Int32) &&& 31)) &&& (63 : Int32))) &&& (15 : Int32))), (37 : Int32), (own_dg ((((128 : Int32) ||| (p1 &&& (63 : Int32))) >>> ((4 : Int32) &&& 31)) &&& (15 : Int32))), (own_dg (((128 : Int32) ||| (p1 &&& (63 : Int32))) &&& (15 : Int32)))] : List Int32) := by rw [own_utfC h4 h43]; show own_pct _ ++ (own_pct _ ++ (own_pct _ ++ [])) = _; rw [(own_s12 h4 h.2).pct, (own_m63 _).pct, (own_m63 _).pct]; rfl
      have f795 : own_Str Z T790.heap b787 t790 (own_encL (own_utf [p1])) := by
        rw [hqf795]
        exact fT790
      have K796 : Keep h0 h777 [] := (Keep.refl h0 []).ext E777
      have K797 : Keep h0 T780.heap [] := K796.trans K780 (allS (Or.inr (by omega)) all0)
      have K798 : Keep h0 T782.heap [] := K797.trans K782 (allS (Or.inr (by omega)) all0)
      have K799 : Keep h0 T784.heap [] := K798.trans K784 (allS (Or.inr (by omega)) all0)
      have K800 : Keep h0 h787 [] := K799.ext E787
      have K801 : Keep h0 T790.heap [] := K800.trans K790 (allS (Or.inr (by omega)) all0)
      subst hPP
      refine ⟨_, _, own_retA X790 hx Bd.returns rfl rfl (hb hby d_method_6_142) hr794, hrun794, hend794, _, _, rfl, ?_, ⟨_, rfl⟩, hW794, hsm794.mono (by decide) (by decide)⟩
      · show Q_enc1 Z _ _ h0 _ T790.heap _
        exact ⟨b787, t790, rfl, N790, K801, f795⟩
theorem ef_906 (m : MethodId) (x0 : Nat) (x1 : Nat) (x2 : Int32) (x3 : Int32) : entryFrame m #[(.ref x0), (.ref x1), (.int x2), (.int x3), .null] 6 = mkF m 0 #[.val (.ref x0), .val (.ref x1), .val (.int x2), .val (.int x3), .val .null, .unset] [] := by first | (simp [entryFrame, mkF, argsToLocals, Value.category]; done) | rfl
theorem dj42_149_0 : decode cJ5 0 = .ok (.aload_n 0, 1) := by decide +kernel
theorem dj42_149_1 : decode cJ5 1 = .ok (.invokespecial 1, 3) := by decide +kernel
theorem dj42_149_4 : decode cJ5 4 = .ok (.iload_n 3, 1) := by decide +kernel
theorem dj42_149_5 : decode cJ5 5 = .ok (.ifCond .ne 22, 3) := by decide +kernel
theorem dj42_149_8 : decode cJ5 8 = .ok (.aload_n 0, 1) := by decide +kernel
theorem dj42_149_9 : decode cJ5 9 = .ok (.ldc 7, 2) := by decide +kernel
theorem dj42_149_11 : decode cJ5 11 = .ok (.getfield 9, 3) := by decide +kernel
theorem dj42_149_14 : decode cJ5 14 = .ok (.putfield 9, 3) := by decide +kernel
theorem dj42_149_17 : decode cJ5 17 = .ok (.aload_n 0, 1) := by decide +kernel
theorem dj42_149_18 : decode cJ5 18 = .ok (.ldc 7, 2) := by decide +kernel
theorem dj42_149_20 : decode cJ5 20 = .ok (.getfield 15, 3) := by decide +kernel
theorem dj42_149_23 : decode cJ5 23 = .ok (.putfield 15, 3) := by decide +kernel
theorem dj42_149_26 : decode cJ5 26 = .ok (.return_, 1) := by decide +kernel
def Q_init4e (Z : State) (a1 : Nat) (a2 : Nat) (h0 : Heap) (v : Option Value) (h : Heap) (L : List Loc) : Prop := ∃ (t : Nat), v = none ∧ Fr Z.heap.size L ∧ Keep h0 h [a1] ∧ own_Str Z h a1 t [] ∧ Exa Z h t "[B"
set_option maxRecDepth 65536 in
set_option maxHeartbeats 40000000 in
theorem rm_init4e (l : Launch) (Z : State) (a0 : Array Value) (hw : ∀ d ∈ tables_1, d.before a0 Z = true) (ws : List Jvm.Cond) (a1 : Nat) (a2 : Nat) (h0 : Heap) (hEL : EW Z a0 consts_1) (OL : Old Z Z.heap.size h0) (p0_ : Exa Z h0 a1 "java/lang/String") (p1_ : Fld Z h0 a1 "java/lang/String" "value" "[B" .null) (p2_ : Fld Z h0 a1 "java/lang/String" "coder" "B" (.int (0 : Int32))) (hn0 : Z.heap.size ≤ a1) :
    MetFree l mN20 (head1 (Jvm.Cond.code mN20 jdk_42_method_149_code 6 none :: ws) rM11) (fun a U => a = #[(.ref a1), (.ref a2), (.int (0 : Int32)), (.int (0 : Int32)), .null] ∧ Z.Warmed39 U.vm ∧ U.heap = h0 ∧ CHv Z consts_1 U.vm h0) (fun _ _ _ _ _ => True) (fun _ U o U' => ∃ v L, o = .returned v ∧ Q_init4e Z a1 a2 h0 v U'.heap L ∧ CHr Z consts_1 U.vm U.heap U'.vm U'.heap ∧ ReturnedEndW U o U' L rM11.cells rM11.slots) := by
  refine MetFree.of_bodySF (plainFor_of_name pn_240) hisR ?_
  intro p e s m args below meth c s₁ Bd hml0 hP hK
  obtain ⟨rfl, hZ, hh, hC0⟩ := hP
  have hx := Bd.exec
  have hby := Bd.bytes
  have hml : c.maxLocals = 6 := hml0
  have hown : s.vm.findClass "java/lang/String" = some m.cls := findClass_of_methodNamed Bd.named
  have hnm := (name_of_methodNamed Bd.named Bd.method).1
  have X0 : Stand p l e rM11 (s.setVm s.vm) m #[(.ref a1), (.ref a2), (.int (0 : Int32)), (.int (0 : Int32)), .null] below meth c s₁ [] 0 0 := Stand.of_body Bd
  have e0 : s₁.heap = h0 := by rw [← hh, Bd.state]; rfl
  have N0 := Fr.nil Z.heap.size
  have Z0 : Z.heap.size ≤ h0.size := OL.2.1
  have hS0 : s.Since s.vm h0.size := (State.WarmedH.refl s).since _
  have wS := own_wS hw
  have R0 : CHr Z consts_1 s.vm h0 s.vm h0 := CHr.refl hC0
  have lt_0 : @LT.lt Nat _ a1 h0.size := p0_.lt
  have lt_1 : @LT.lt Nat _ a1 h0.size := p1_.lt
  have lt_2 : @LT.lt Nat _ a1 h0.size := p2_.lt
  show oG p.tables e below (fun o tE => ∃ v L, o = .returned v ∧ Q_init4e Z a1 a2 h0 v tE.heap L ∧ CHr Z consts_1 s.vm s.heap tE.vm tE.heap ∧ ReturnedEndW s o tE L rM11.cells rM11.slots) (s₁.setTop (entryFrame m #[(.ref a1), (.ref a2), (.int (0 : Int32)), (.int (0 : Int32)), .null] 6))
  refine own_hd (fun PP hPP => ?_)
  refine oG.st (fun t k => castTop (ef_906 m a1 a2 (0 : Int32) (0 : Int32)) k) ?_
  refine oG.st (fun _ k => XS.aloadN X0.here hx rfl (hb hby dj42_149_0) rfl rfl k) ?_
  show oG _ _ _ _ (s₁.setTop (mkF m 1 #[.val (.ref a1), .val (.ref a2), .val (.int (0 : Int32)), .val (.int (0 : Int32)), .val .null, .unset] [(.ref a1)]))
  obtain ⟨T802, X802, e802, st802⟩ := initO X0 hx hZ hown (own_w hw 21 rfl) (own_w hw 22 rfl) (own_w hw 23 rfl) e0 (g := (mkF m 1 #[.val (.ref a1), .val (.ref a2), .val (.int (0 : Int32)), .val (.int (0 : Int32)), .val .null, .unset] [(.ref a1)])) rfl (by rw [hml]; rfl) rfl (hb hby dj42_149_1) (by decide) (W := 0) (by show 2 * 0 + _ ≤ _; exact Nat.le_of_eq rfl) (by decide)
  refine oG.st st802 ?_
  refine oG.st (fun _ k => XS.iloadN X802.here hx rfl (hb hby dj42_149_4) rfl k) ?_
  show oG _ _ _ _ (T802.setTop (mkF m 5 #[.val (.ref a1), .val (.ref a2), .val (.int (0 : Int32)), .val (.int (0 : Int32)), .val .null, .unset] [(.int (0 : Int32))]))
  refine oG.st (fun _ k => XS.ifNo X802.here hx rfl (hb hby dj42_149_5) rfl ((if0 _ _).trans (teq (rfl : (0 : Int32) = (0 : Int32))).2) k) ?_
  refine oG.st (fun _ k => XS.aloadN X802.here hx rfl (hb hby dj42_149_8) rfl rfl k) ?_
  show oG _ _ _ _ (T802.setTop (mkF m 9 #[.val (.ref a1), .val (.ref a2), .val (.int (0 : Int32)), .val (.int (0 : Int32)), .val .null, .unset] [(.ref a1)]))
  obtain ⟨a803, T803, h803, kk803, t803, kb803, X803, e803, E803, hS803, hk803, hZ803, hown803, A803, C803, V803, B803, la803, lb803, ch803, Li803, sf803, st803⟩ := ldcCH X802 hx hZ hown (own_w hw 214 rfl) wS e802 hS0 (by omega) hEL (by decide) R0.1 (vs := []) (z := (0 : Int32)) (by decide) (by decide) (by decide) (g := (mkF m 9 #[.val (.ref a1), .val (.ref a2), .val (.int (0 : Int32)), .val (.int (0 : Int32)), .val .null, .unset] [(.ref a1)])) rfl (hb hby dj42_149_9) (n := 0) (by decide) (by decide) (by decide) (by decide)
  refine oG.st st803 ?_
  have z803 : h0.size ≤ h803.size := E803.1
  have la803' : @LT.lt Nat _ a803 h803.size := la803
  have lb803' : @LT.lt Nat _ t803 h803.size := lb803
  have R803 : CHr Z consts_1 s.vm h0 T803.vm h803 := R0.trans ch803
  have fT803 : own_Str Z h803 a803 t803 ([] : List Int32) := ⟨kb803, 0, (0 : Int32), [], A803, V803, C803, B803, Or.inl ⟨rfl, rfl, rfl, (by decide)⟩, (by decide), (by decide)⟩
  have kl803 : Exa Z h803 t803 "[B" := own_exaK B803 (own_litKB hZ803.alike (fun x q => (sf803 x q).2) B803)
  show oG _ _ _ _ (T803.setTop (mkF m 11 #[.val (.ref a1), .val (.ref a2), .val (.int (0 : Int32)), .val (.int (0 : Int32)), .val .null, .unset] [(.ref a803), (.ref a1)]))
  obtain ⟨T804, X804, e804, st804⟩ := getF X803 hx hZ803 hown803 (host := "") (Or.inl (own_w hw 24 rfl)) Via.refl e803 V803 (g := (mkF m 11 #[.val (.ref a1), .val (.ref a2), .val (.int (0 : Int32)), .val (.int (0 : Int32)), .val .null, .unset] [(.ref a803), (.ref a1)])) rfl rfl (hb hby dj42_149_11)
  refine oG.st st804 ?_
  show oG _ _ _ _ (T804.setTop (mkF m 14 #[.val (.ref a1), .val (.ref a2), .val (.int (0 : Int32)), .val (.int (0 : Int32)), .val .null, .unset] [(.ref t803), (.ref a1)]))
  have f805 : Fld Z h803 a1 "java/lang/String" "value" "[B" .null := p1_.ext E803
  have f806 : Exa Z h803 a1 "java/lang/String" := p0_.ext E803
  obtain ⟨T807, h807, X807, e807, W807, st807⟩ := putF X804 hx hZ803 hown803 (host := "") (Or.inl (own_w hw 24 rfl)) Via.refl e804 f805 f806 (Or.inr ⟨(own_w hw 25 rfl), rfl, hnm⟩) (own_w hw 12 rfl) (ty := (.array .byte)) (by decide) rfl rfl (g := (mkF m 14 #[.val (.ref a1), .val (.ref a2), .val (.int (0 : Int32)), .val (.int (0 : Int32)), .val .null, .unset] [(.ref t803), (.ref a1)])) rfl rfl (hb hby dj42_149_14)
  refine oG.st st807 ?_
  have N807 := Fr.snoc X807 N0 (by omega)
  have Sf809 : Safe Z consts_1 T803.vm h803 a1 := own_safeNull hZ803.alike f806 f805
  have z807 : h803.size ≤ h807.size := Nat.le_of_eq W807.size.symm
  have f808 : Fld Z h807 a1 "java/lang/String" "value" "[B" (.ref t803) := f805.same W807
  have R807 : CHr Z consts_1 s.vm h0 T803.vm h807 := R803.trans (CHr.wr W807 Sf809 R803.1)
  have Sf810 : Safe Z consts_1 T803.vm h807 a1 := Safe.wr W807 Sf809 R803.1 Sf809
  refine oG.st (fun _ k => XS.aloadN X807.here hx rfl (hb hby dj42_149_17) rfl rfl k) ?_
  show oG _ _ _ _ (T807.setTop (mkF m 18 #[.val (.ref a1), .val (.ref a2), .val (.int (0 : Int32)), .val (.int (0 : Int32)), .val .null, .unset] [(.ref a1)]))
  obtain ⟨a811, T811, h811, kk811, t811, kb811, X811, e811, E811, hS811, hk811, hZ811, hown811, A811, C811, V811, B811, la811, lb811, ch811, Li811, sf811, st811⟩ := ldcCH X807 hx hZ803 hown803 (own_w hw 214 rfl) wS e807 hS803 (by omega) hEL (by decide) R807.1 (vs := []) (z := (0 : Int32)) (by decide) (by decide) (by decide) (g := (mkF m 18 #[.val (.ref a1), .val (.ref a2), .val (.int (0 : Int32)), .val (.int (0 : Int32)), .val .null, .unset] [(.ref a1)])) rfl (hb hby dj42_149_18) (n := 0) (by decide) (by decide) (by decide) (by decide)
  refine oG.st st811 ?_
  have z811 : h807.size ≤ h811.size := E811.1
  have la811' : @LT.lt Nat _ a811 h811.size := la811
  have lb811' : @LT.lt Nat _ t811 h811.size := lb811
  have R811 : CHr Z consts_1 s.vm h0 T811.vm h811 := R807.trans ch811
  have Sf812 : Safe Z consts_1 T811.vm h811 a1 := ch811.safe (by show @LT.lt Nat _ a1 _; omega) Sf810
  have fT811 : own_Str Z h811 a811 t811 ([] : List Int32) := ⟨kb811, 0, (0 : Int32), [], A811, V811, C811, B811, Or.inl ⟨rfl, rfl, rfl, (by decide)⟩, (by decide), (by decide)⟩
  have nl813 := sf811 a1 Sf812
  have nl813a : @Ne Nat a1 a811 := nl813.1
  have nl813b : @Ne Nat a1 t811 := nl813.2
  show oG _ _ _ _ (T811.setTop (mkF m 20 #[.val (.ref a1), .val (.ref a2), .val (.int (0 : Int32)), .val (.int (0 : Int32)), .val .null, .unset] [(.ref a811), (.ref a1)]))
  obtain ⟨T814, X814, e814, st814⟩ := getF X811 hx hZ811 hown811 (host := "") (Or.inl (own_w hw 26 rfl)) Via.refl e811 C811 (g := (mkF m 20 #[.val (.ref a1), .val (.ref a2), .val (.int (0 : Int32)), .val (.int (0 : Int32)), .val .null, .unset] [(.ref a811), (.ref a1)])) rfl rfl (hb hby dj42_149_20)
  refine oG.st st814 ?_
  show oG _ _ _ _ (T814.setTop (mkF m 23 #[.val (.ref a1), .val (.ref a2), .val (.int (0 : Int32)), .val (.int (0 : Int32)), .val .null, .unset] [(.int 0), (.ref a1)]))
  have f815 : Fld Z h803 a1 "java/lang/String" "coder" "B" (.int (0 : Int32)) := p2_.ext E803
  have f816 : Fld Z h807 a1 "java/lang/String" "coder" "B" (.int (0 : Int32)) := f815.other W807 (Or.inr (slot_ne (Or.inr (own_w hw 27 rfl)) (Or.inr (own_w hw 25 rfl)) (by decide) (t := .byte) (t' := (.array .byte)) (by decide) (by decide)))
  have f817 : Fld Z h811 a1 "java/lang/String" "coder" "B" (.int (0 : Int32)) := f816.ext E811
  have f818 : Exa Z h807 a1 "java/lang/String" := f806.wr W807
  have f819 : Exa Z h811 a1 "java/lang/String" := f818.ext E811
  obtain ⟨T820, h820, X820, e820, W820, st820⟩ := putF X814 hx hZ811 hown811 (host := "") (Or.inl (own_w hw 26 rfl)) Via.refl e814 f817 f819 (Or.inr ⟨(own_w hw 27 rfl), rfl, hnm⟩) (own_w hw 12 rfl) (ty := .byte) (by decide) rfl (by decide) (g := (mkF m 23 #[.val (.ref a1), .val (.ref a2), .val (.int (0 : Int32)), .val (.int (0 : Int32)), .val .null, .unset] [(.int 0), (.ref a1)])) rfl rfl (hb hby dj42_149_23)
  refine oG.st st820 ?_
  have N820 := Fr.snoc X820 N807 (by omega)
  have z820 : h811.size ≤ h820.size := Nat.le_of_eq W820.size.symm
  have f821 : Fld Z h820 a1 "java/lang/String" "coder" "B" (.int 0) := f817.same W820
  have R820 : CHr Z consts_1 s.vm h0 T811.vm h820 := R811.trans (CHr.wr W820 Sf812 R811.1)
  have Sf822 : Safe Z consts_1 T811.vm h820 a1 := Safe.wr W820 Sf812 R811.1 Sf812
  show oG _ _ _ _ (T820.setTop (mkF m 26 #[.val (.ref a1), .val (.ref a2), .val (.int (0 : Int32)), .val (.int (0 : Int32)), .val .null, .unset] []))
  obtain ⟨fs823, hr823, hrun823, hend823, hret823⟩ := X820.leaveW hS811 (by rw [e820]; exact (by omega)) (v := none) (fun _ => rfl)
  have f824 : Fld Z h811 a1 "java/lang/String" "value" "[B" (.ref t803) := f808.ext E811
  have f825 : Fld Z h820 a1 "java/lang/String" "value" "[B" (.ref t803) := f824.other W820 (Or.inr (slot_ne (Or.inr (own_w hw 25 rfl)) (Or.inr (own_w hw 27 rfl)) (by decide) (t := (.array .byte)) (t' := .byte) (by decide) (by decide)))
  have f826 : Exa Z h820 a1 "java/lang/String" := f819.wr W820
  have ne827 : @Ne Nat t803 a1 := Exa.ne kl803 f806 (by decide)
  have f828 : Arv Z h807 t803 kb803 .byte (0 : Int32) [] (.int 0) := B803.other W807 ne827
  have f829 : Arv Z h811 t803 kb803 .byte (0 : Int32) [] (.int 0) := f828.ext E811
  have f830 : Arv Z h820 t803 kb803 .byte (0 : Int32) [] (.int 0) := f829.other W820 ne827
  have K831 : Keep h0 h803 [a1] := (Keep.refl h0 [a1]).ext E803
  have K832 : Keep h0 h807 [a1] := K831.wr W807 (Or.inl (List.mem_of_getElem? (i := 0) rfl))
  have K833 : Keep h0 h811 [a1] := K832.ext E811
  have K834 : Keep h0 h820 [a1] := K833.wr W820 (Or.inl (List.mem_of_getElem? (i := 0) rfl))
  have f835 : Exa Z h807 t803 "[B" := kl803.wr W807
  have f836 : Exa Z h811 t803 "[B" := f835.ext E811
  have f837 : Exa Z h820 t803 "[B" := f836.wr W820
  subst hPP
  refine ⟨_, _, X820.returnOut hx Bd.returns (hb hby dj42_149_26) hr823, hrun823, hend823, _, _, rfl, ?_, ?_, hret823.1, hret823.2.1, hret823.2.2.1, hret823.2.2.2.mono (by decide) (by decide)⟩
  · show Q_init4e Z _ _ h0 _ T820.heap _
    rw [e820]
    exact ⟨t803, rfl, N820, K834, ⟨kb803, 0, 0, [], f826, f825, f821, f830, Or.inl ⟨rfl, rfl, rfl, own_a0⟩, own_a0, by decide⟩, f837⟩
  · have hfin := R820.trans (CHv.at X820 hZ811 hEL R820.1)
    rw [← hh] at hfin
    show CHr Z consts_1 s.vm s.heap T820.vm T820.heap
    rw [e820]
    exact hfin
theorem dj42_3_0 : decode cJ10 0 = .ok (.aload_n 0, 1) := by decide +kernel
theorem dj42_3_1 : decode cJ10 1 = .ok (.aload_n 1, 1) := by decide +kernel
theorem dj42_3_2 : decode cJ10 2 = .ok (.iconst 0, 1) := by decide +kernel
theorem dj42_3_3 : decode cJ10 3 = .ok (.aload_n 1, 1) := by decide +kernel
theorem dj42_3_4 : decode cJ10 4 = .ok (.arraylength, 1) := by decide +kernel
theorem dj42_3_5 : decode cJ10 5 = .ok (.aconst_null, 1) := by decide +kernel
theorem pd_926 : parseMethodDescriptor "([CIILjava/lang/Void;)V" = some ⟨[(.array .char), .int, .int, (.object "java/lang/Void")], none⟩ := by decide +kernel
theorem dj42_3_6 : decode cJ10 6 = .ok (.invokespecial 27, 3) := by decide +kernel
theorem dj42_3_9 : decode cJ10 9 = .ok (.return_, 1) := by decide +kernel
def Q_init1e (Z : State) (a1 : Nat) (a2 : Nat) (k : ClassId) (vs : List Value) (d : Value) (h0 : Heap) (v : Option Value) (h : Heap) (L : List Loc) : Prop := ∃ (t : Nat), v = none ∧ Fr Z.heap.size L ∧ Keep h0 h [a1] ∧ own_Str Z h a1 t [] ∧ Exa Z h t "[B"
set_option maxRecDepth 65536 in
set_option maxHeartbeats 40000000 in
theorem rm_init1e (l : Launch) (Z : State) (a0 : Array Value) (hw : ∀ d ∈ tables_1, d.before a0 Z = true) (ws : List Jvm.Cond) (a1 : Nat) (a2 : Nat) (k : ClassId) (vs : List Value) (d : Value) (h0 : Heap) (hEL : EW Z a0 consts_1) (OL : Old Z Z.heap.size h0) (p0_ : Exa Z h0 a1 "java/lang/String") (p1_ : Fld Z h0 a1 "java/lang/String" "value" "[B" .null) (p2_ : Fld Z h0 a1 "java/lang/String" "coder" "B" (.int (0 : Int32))) (p3_ : Arv Z h0 a2 k .char (0 : Int32) vs d) (hn0 : Z.heap.size ≤ a1) :
    MetFree l mN19 (head1 (Jvm.Cond.code mN19 jdk_42_method_3_code 2 none :: ws) rM17) (fun a U => a = #[(.ref a1), (.ref a2)] ∧ Z.Warmed39 U.vm ∧ U.heap = h0 ∧ CHv Z consts_1 U.vm h0) (fun _ _ _ _ _ => True) (fun _ U o U' => ∃ v L, o = .returned v ∧ Q_init1e Z a1 a2 k vs d h0 v U'.heap L ∧ CHr Z consts_1 U.vm U.heap U'.vm U'.heap ∧ ReturnedEndW U o U' L rM17.cells rM17.slots) := by
  refine MetFree.of_bodySF (plainFor_of_name pn_240) hisR ?_
  intro p e s m args below meth c s₁ Bd hml0 hP hK
  obtain ⟨rfl, hZ, hh, hC0⟩ := hP
  have hx := Bd.exec
  have hby := Bd.bytes
  have hml : c.maxLocals = 2 := hml0
  have hown : s.vm.findClass "java/lang/String" = some m.cls := findClass_of_methodNamed Bd.named
  have hnm := (name_of_methodNamed Bd.named Bd.method).1
  have X0 : Stand p l e rM17 (s.setVm s.vm) m #[(.ref a1), (.ref a2)] below meth c s₁ [] 0 0 := Stand.of_body Bd
  have e0 : s₁.heap = h0 := by rw [← hh, Bd.state]; rfl
  have N0 := Fr.nil Z.heap.size
  have Z0 : Z.heap.size ≤ h0.size := OL.2.1
  have hS0 : s.Since s.vm h0.size := (State.WarmedH.refl s).since _
  have wS := own_wS hw
  have R0 : CHr Z consts_1 s.vm h0 s.vm h0 := CHr.refl hC0
  have lt_0 : @LT.lt Nat _ a1 h0.size := p0_.lt
  have lt_1 : @LT.lt Nat _ a1 h0.size := p1_.lt
  have lt_2 : @LT.lt Nat _ a1 h0.size := p2_.lt
  have lt_3 : @LT.lt Nat _ a2 h0.size := p3_.lt
  show oG p.tables e below (fun o tE => ∃ v L, o = .returned v ∧ Q_init1e Z a1 a2 k vs d h0 v tE.heap L ∧ CHr Z consts_1 s.vm s.heap tE.vm tE.heap ∧ ReturnedEndW s o tE L rM17.cells rM17.slots) (s₁.setTop (entryFrame m #[(.ref a1), (.ref a2)] 2))
  refine own_hd (fun PP hPP => ?_)
  refine oG.st (fun t k => castTop (ef_265 m a1 a2) k) ?_
  refine oG.st (fun _ k => XS.aloadN X0.here hx rfl (hb hby dj42_3_0) rfl rfl (XS.aloadN X0.here hx rfl (hb hby dj42_3_1) rfl rfl (XS.iconst X0.here hx rfl (hb hby dj42_3_2) (XS.aloadN X0.here hx rfl (hb hby dj42_3_3) rfl rfl k)))) ?_
  show oG _ _ _ _ (s₁.setTop (mkF m 4 #[.val (.ref a1), .val (.ref a2)] [(.ref a2), (.int (0 : Int32)), (.ref a2), (.ref a1)]))
  obtain ⟨c838, Ar838, q838, S838, Nn838, H838, G838⟩ := id p3_
  refine oG.st (X0.arraylength hx (own_rwE e0 Ar838.1) (State.isArrayOf_alike hZ.alike Ar838.2.1) (g := (mkF m 4 #[.val (.ref a1), .val (.ref a2)] [(.ref a2), (.int (0 : Int32)), (.ref a2), (.ref a1)])) rfl rfl (hb hby dj42_3_4)) ?_
  rw [len_of S838 Nn838]
  refine oG.st (fun _ k => XS.aconstNull X0.here hx rfl (hb hby dj42_3_5) k) ?_
  show oG _ _ _ _ (s₁.setTop (mkF m 6 #[.val (.ref a1), .val (.ref a2)] [.null, (.int (0 : Int32)), (.int (0 : Int32)), (.ref a2), (.ref a1)]))
  obtain ⟨_, _, ⟨T839, L839, k839, n839⟩, -, X839, hs839, hg839, ⟨Lc839, hQ839, l839, y839, z839, ch839⟩, st839⟩ := X0.specialBackS hx (y := mN20) rfl hown (own_v hZ hw 46 rfl) (own_v hZ hw 47 rfl) (own_v hZ hw 48 rfl) (by decide) (backOfSH (s := s) (vm0 := s.vm) (W := 0) (rm_init4e l Z a0 hw [] a1 a2 h0 hEL OL p0_ p1_ p2_ hn0) hZ (own_w hw 48 rfl) (own_w hw 4 rfl) (by decide) (by decide) hEL R0.1) (g := (mkF m 6 #[.val (.ref a1), .val (.ref a2)] [.null, (.int (0 : Int32)), (.int (0 : Int32)), (.ref a2), (.ref a1)])) rfl (by rw [hml]; rfl) (Steps.refl _) (a := a1) (argsL := [(.ref a2), (.int (0 : Int32)), (.int (0 : Int32)), .null]) (rest := []) (lenOf pd_926 rfl) rfl (by show 2 * 0 + _ ≤ _; exact Nat.le_of_eq rfl) (hb hby dj42_3_6) (fun _ _ => ⟨rfl, e0, (by decide : 0 + 4 ≤ _), (by decide : 0 + 8 ≤ _)⟩)
  dsimp only [Pt.U, Pt.locs, Pt.cells, Pt.slots] at X839 l839 y839 z839 st839 hQ839 hs839 hg839 ch839
  subst l839 y839 z839
  obtain ⟨t_839, rfl, N839q, K839, f839_0, f839_1⟩ := hQ839
  have N839 := Fr.app N0 N839q
  obtain ⟨Y839, hS839, hZ839, hown839⟩ := rebS hS0 (n1 := h0.size) (by omega) X839 hs839 (by have := hg839; first | exact this | (rw [← e0]; exact this)) hZ hown
  have z839 : h0.size ≤ T839.heap.size := K839.1
  have R839 : CHr Z consts_1 s.vm h0 T839.vm T839.heap := R0.trans ch839
  have lt839_0 : @LT.lt Nat _ a1 T839.heap.size := f839_0.lt
  have ltv839_0 : @LT.lt Nat _ t_839 T839.heap.size := f839_0.ltv
  have lt839_1 : @LT.lt Nat _ t_839 T839.heap.size := f839_1.lt
  refine oG.tr st839 ?_
  show oG _ _ _ _ (T839.setTop (mkF m 9 #[.val (.ref a1), .val (.ref a2)] []))
  obtain ⟨fs840, hr840, hrun840, hend840, hret840⟩ := Y839.leaveW hS839 (by omega) (v := none) (fun _ => rfl)
  have K841 : Keep h0 T839.heap [a1] := (Keep.refl h0 [a1]).trans K839 (allS (Or.inl (List.mem_of_getElem? (i := 0) rfl)) all0)
  subst hPP
  refine ⟨_, _, Y839.returnOut hx Bd.returns (hb hby dj42_3_9) hr840, hrun840, hend840, _, _, rfl, ?_, ?_, hret840.1, hret840.2.1, hret840.2.2.1, hret840.2.2.2.mono (by decide) (by decide)⟩
  · show Q_init1e Z _ _ _ _ _ h0 _ T839.heap _
    exact ⟨t_839, rfl, N839, K841, f839_0, f839_1⟩
  · have hfin := R839.trans (CHv.at Y839 hZ839 hEL R839.1)
    rw [← hh] at hfin
    show CHr Z consts_1 s.vm s.heap T839.vm T839.heap
    exact hfin
theorem ef_929 (m : MethodId) (x0 : Int32) : entryFrame m #[(.int x0)] maxLocals = mkF m 0 #[.val (.int x0), .unset, .unset, .unset, .unset, .unset] [] := by first | (simp [entryFrame, mkF, argsToLocals, Value.category, maxLocals]; done) | rfl
theorem pd_930 : parseMethodDescriptor "(I)Ljava/lang/String;" = some ⟨[.int], some (.object "java/lang/String")⟩ := by decide +kernel
theorem pd_931 : parseMethodDescriptor "(Ljava/lang/String;)Ljava/lang/String;" = some ⟨[(.object "java/lang/String")], some (.object "java/lang/String")⟩ := by decide +kernel
theorem pd_932 : parseMethodDescriptor "(Ljava/lang/Object;)Z" = some ⟨[(.object "java/lang/Object")], some .boolean⟩ := by decide +kernel
def Q_law (Z : State) (p1 : Int32) (ac : Nat) (ah : Nat) (kh : ClassId) (zc : Int32) (h0 : Heap) (v : Option Value) (h : Heap) (L : List Loc) : Prop := v = some (.int (1 : Int32)) ∧ Fr Z.heap.size L ∧ Keep h0 h []
set_option maxRecDepth 65536 in
set_option maxHeartbeats 40000000 in
theorem rm_law (l : Launch) (Z : State) (a0 : Array Value) (hw : ∀ d ∈ tables_1, d.before a0 Z = true) (ws : List Jvm.Cond) (p1 : Int32) (ac : Nat) (ah : Nat) (kh : ClassId) (zc : Int32) (h0 : Heap) (hEL : EW Z a0 consts_1) (OL : Old Z Z.heap.size h0) (p0_ : Arv Z h0 ah kh .char (16 : Int32) (own_hexL.map Value.int) (.int (0 : Int32))) (st_C : Sta Z Z.heap "java/lang/String" "COMPACT_STRINGS" "Z" (.int zc)) (st_UTF_8 : Sta Z Z.heap "java/nio/charset/StandardCharsets" "UTF_8" "Ljava/nio/charset/Charset;" (.ref ac)) (st_INSTANCE : Sta Z Z.heap "sun/nio/cs/UTF_8" "INSTANCE" "Lsun/nio/cs/UTF_8;" (.ref ac)) (st_HEX_DIGITS : Sta Z Z.heap "com/example/vigilant_gate/vigilantgate/PercentEncoding" "HEX_DIGITS" "[C" (.ref ah)) (st_A : Sta Z Z.heap "java/lang/StringUTF16" "$assertionsDisabled" "Z" (.int (1 : Int32))) (st_H : Sta Z Z.heap "java/lang/StringUTF16" "HI_BYTE_SHIFT" "I" (.int (0 : Int32))) (st_L : Sta Z Z.heap "java/lang/StringUTF16" "LO_BYTE_SHIFT" "I" (.int (8 : Int32))) (hzc : ¬ zc = 0) (hah : @LT.lt Nat _ ah Z.heap.size) :
    MetFree l x (head1 (Jvm.Cond.code x code maxLocals ret :: ws) room_1) (fun a U => a = #[(.int p1)] ∧ Z.Warmed39 U.vm ∧ U.heap = h0 ∧ CHv Z consts_1 U.vm h0) (fun _ _ _ _ _ => True) (fun _ U o U' => ∃ v L, o = .returned v ∧ Q_law Z p1 ac ah kh zc h0 v U'.heap L ∧ CHr Z consts_1 U.vm U.heap U'.vm U'.heap ∧ ReturnedEndW U o U' L 48 1280) := by
  refine MetFree.of_bodySF (plainFor_of_name pn_675) hisR ?_
  intro p e s m args below meth c s₁ Bd hml0 hP hK
  obtain ⟨rfl, hZ, hh, hC0⟩ := hP
  have hx := Bd.exec
  have hby := Bd.bytes
  have hml : c.maxLocals = 6 := hml0
  have hown : s.vm.findClass "com/example/vigilant_gate/vigilantgate/PercentEncodingEncodePinLaw" = some m.cls := findClass_of_methodNamed Bd.named
  have hnm := (name_of_methodNamed Bd.named Bd.method).1
  have X0 : Stand p l e room_1 (s.setVm s.vm) m #[(.int p1)] below meth c s₁ [] 0 0 := Stand.of_body Bd
  have e0 : s₁.heap = h0 := by rw [← hh, Bd.state]; rfl
  have N0 := Fr.nil Z.heap.size
  have Z0 : Z.heap.size ≤ h0.size := OL.2.1
  have hS0 : s.Since s.vm h0.size := (State.WarmedH.refl s).since _
  have wS := own_wS hw
  have R0 : CHr Z consts_1 s.vm h0 s.vm h0 := CHr.refl hC0
  have lt_0 : @LT.lt Nat _ ah h0.size := p0_.lt
  show oG p.tables e below (fun o tE => ∃ v L, o = .returned v ∧ Q_law Z p1 ac ah kh zc h0 v tE.heap L ∧ CHr Z consts_1 s.vm s.heap tE.vm tE.heap ∧ ReturnedEndW s o tE L 48 1280) (s₁.setTop (entryFrame m #[(.int p1)] maxLocals))
  refine own_hd (fun PP hPP => ?_)
  refine oG.st (fun t k => castTop (ef_929 m p1) k) ?_
  show oG _ _ _ _ (s₁.setTop (mkF m 0 #[.val (.int p1), .unset, .unset, .unset, .unset, .unset] []))
  have J842 : ∀ (c1 : Int32), ((¬ c1 < 0 ∧ ¬ (65535 : Int32) < c1) ∧ own_nsur c1) → oG p.tables e below PP (s₁.setTop (mkF m 23 #[.val (.int p1), .val (.int c1), .unset, .unset, .unset, .unset] [])) := by
    intro c1 hJ842
    have hc1 := hJ842.1
    refine oG.st (fun _ k => XS.iloadN X0.here hx rfl (hb hby at_23) rfl (XS.i2c X0.here hx rfl (hb hby at_24) rfl k)) ?_
    show oG _ _ _ _ (s₁.setTop (mkF m 25 #[.val (.int p1), .val (.int c1), .unset, .unset, .unset, .unset] [(.int (c1.toUInt32.toUInt16.toUInt32.toInt32))]))
    rw [show c1.toUInt32.toUInt16.toUInt32.toInt32 = c1 from own_nar hc1]
    show oG _ _ _ _ (s₁.setTop (mkF m 25 #[.val (.int p1), .val (.int c1), .unset, .unset, .unset, .unset] [(.int c1)]))
    obtain ⟨_, _, ⟨T843, L843, k843, n843⟩, -, X843, ⟨Lc843, hQ843, l843, y843, z843⟩, st843⟩ := Jvm.LawKit.callS X0 hx (y := mN28) hown (own_v hZ hw 2 rfl) (own_v hZ hw 3 rfl) (own_v hZ hw 4 rfl) (own_v hZ hw 5 rfl) (by decide) (backOf (W := 0) (rm_valueOfC l Z a0 hw [] c1 zc h0 OL st_C st_A st_H st_L hzc hc1) hZ (own_w hw 5 rfl) (own_w hw 4 rfl) (by decide) (by decide)) (g := (mkF m 25 #[.val (.int p1), .val (.int c1), .unset, .unset, .unset, .unset] [(.int c1)])) rfl (by rw [hml]; rfl) (argsL := [(.int c1)]) (rest := []) (lenOf pd_842 rfl) rfl (by show 2 * 0 + _ ≤ _; exact Nat.le_of_eq rfl) (hb hby at_25) (fun _ _ => ⟨rfl, e0, (by decide : 0 + 2 ≤ _), (by decide : 0 + 6 ≤ _)⟩)
    dsimp only [Pt.U, Pt.locs, Pt.cells, Pt.slots] at X843 l843 y843 z843 st843 hQ843
    subst l843 y843 z843
    obtain ⟨x_843, t_843, rfl, N843q, K843, f843_0, f843_1, pr843_0, pr843_1⟩ := hQ843
    have N843 := Fr.app N0 N843q
    have z843 : h0.size ≤ T843.heap.size := K843.1
    have R843 : CHr Z consts_1 s.vm h0 s.vm T843.heap := R0.trans (CHr.keep K843 sf0 R0.1)
    have lt843_0 : @LT.lt Nat _ x_843 T843.heap.size := f843_0.lt
    have ltv843_0 : @LT.lt Nat _ t_843 T843.heap.size := f843_0.ltv
    have lt843_1 : @LT.lt Nat _ t_843 T843.heap.size := f843_1.lt
    refine oG.st st843 ?_
    refine oG.st (fun _ k => XS.astoreN X843.here hx rfl (hb hby at_28) rfl rfl (l' := #[.val (.int p1), .val (.int c1), .val (.ref x_843), .unset, .unset, .unset]) rfl (XS.iloadN X843.here hx rfl (hb hby at_29) rfl k)) ?_
    show oG _ _ _ _ (T843.setTop (mkF m 30 #[.val (.int p1), .val (.int c1), .val (.ref x_843), .unset, .unset, .unset] [(.int c1)]))
    have f845 : Old Z Z.heap.size T843.heap := OL.keep K843 all0
    obtain ⟨_, _, ⟨T844, L844, k844, n844⟩, -, X844, ⟨Lc844, hQ844, l844, y844, z844⟩, st844⟩ := Jvm.LawKit.callS X843 hx (y := mN3) hown (own_v hZ hw 28 rfl) (own_v hZ hw 29 rfl) (own_v hZ hw 30 rfl) (own_v hZ hw 31 rfl) (by decide) (backOf (W := 0) (rm_enc1 l Z a0 hw [] c1 zc T843.heap f845 st_C st_A st_H st_L hzc hc1) hZ (own_w hw 31 rfl) (own_w hw 30 rfl) (by decide) (by decide)) (g := (mkF m 30 #[.val (.int p1), .val (.int c1), .val (.ref x_843), .unset, .unset, .unset] [(.int c1)])) rfl (by rw [hml]; rfl) (argsL := [(.int c1)]) (rest := []) (lenOf pd_930 rfl) rfl (by show 2 * 0 + _ ≤ _; exact Nat.le_of_eq rfl) (hb hby at_30) (fun _ _ => ⟨rfl, rfl, (by decide : 2 + 3 ≤ _), (by decide : 6 + 26 ≤ _)⟩)
    dsimp only [Pt.U, Pt.locs, Pt.cells, Pt.slots] at X844 l844 y844 z844 st844 hQ844
    subst l844 y844 z844
    obtain ⟨x_844, t_844, rfl, N844q, K844, f844_0⟩ := hQ844
    have N844 := Fr.app N843 N844q
    have z844 : T843.heap.size ≤ T844.heap.size := K844.1
    have R844 : CHr Z consts_1 s.vm h0 s.vm T844.heap := R843.trans (CHr.keep K844 sf0 R843.1)
    have lt844_0 : @LT.lt Nat _ x_844 T844.heap.size := f844_0.lt
    have ltv844_0 : @LT.lt Nat _ t_844 T844.heap.size := f844_0.ltv
    refine oG.st st844 ?_
    refine oG.st (fun _ k => XS.astoreN X844.here hx rfl (hb hby at_33) rfl rfl (l' := #[.val (.int p1), .val (.int c1), .val (.ref x_843), .val (.ref x_844), .unset, .unset]) rfl (XS.aloadN X844.here hx rfl (hb hby at_34) rfl rfl k)) ?_
    show oG _ _ _ _ (T844.setTop (mkF m 35 #[.val (.int p1), .val (.int c1), .val (.ref x_843), .val (.ref x_844), .unset, .unset] [(.ref x_843)]))
    have f847 : own_Str Z T844.heap x_843 t_843 [c1] := f843_0.keep K844 nin0 nin0
    have f848 : Exa Z T844.heap t_843 "[B" := f843_1.keep K844
    have f849 : Arv Z T843.heap ah kh .char (16 : Int32) (own_hexL.map Value.int) (.int (0 : Int32)) := p0_.keep K843 nin0
    have f850 : Arv Z T844.heap ah kh .char (16 : Int32) (own_hexL.map Value.int) (.int (0 : Int32)) := f849.keep K844 nin0
    have f851 : Old Z Z.heap.size T844.heap := f845.keep K844 all0
    obtain ⟨_, _, ⟨T846, L846, k846, n846⟩, -, X846, ⟨Lc846, hQ846, l846, y846, z846⟩, st846⟩ := Jvm.LawKit.callS X844 hx (y := mN0) hown (own_v hZ hw 59 rfl) (own_v hZ hw 60 rfl) (own_v hZ hw 61 rfl) (own_v hZ hw 62 rfl) (by decide) (backOf (W := 0) (rm_encode l Z a0 hw [] x_843 t_843 [c1] ac ah kh zc T844.heap f851 f847 f848 f850 st_C st_UTF_8 st_INSTANCE st_HEX_DIGITS st_A st_H st_L hzc (Or.inr ⟨c1, rfl, hc1, hJ842.2⟩) hah) hZ (own_w hw 62 rfl) (own_w hw 61 rfl) (by decide) (by decide)) (g := (mkF m 35 #[.val (.int p1), .val (.int c1), .val (.ref x_843), .val (.ref x_844), .unset, .unset] [(.ref x_843)])) rfl (by rw [hml]; rfl) (argsL := [(.ref x_843)]) (rest := []) (lenOf pd_931 rfl) rfl (by show 2 * 0 + _ ≤ _; exact Nat.le_of_eq rfl) (hb hby at_35) (fun _ _ => ⟨rfl, rfl, (by decide : 5 + 15 ≤ _), (by decide : 32 + 210 ≤ _)⟩)
    dsimp only [Pt.U, Pt.locs, Pt.cells, Pt.slots] at X846 l846 y846 z846 st846 hQ846
    subst l846 y846 z846
    obtain ⟨x_846, t2_846, rfl, N846q, K846, f846_0⟩ := hQ846
    have N846 := Fr.app N844 N846q
    have z846 : T844.heap.size ≤ T846.heap.size := K846.1
    have R846 : CHr Z consts_1 s.vm h0 s.vm T846.heap := R844.trans (CHr.keep K846 sf0 R844.1)
    have lt846_0 : @LT.lt Nat _ x_846 T846.heap.size := f846_0.lt
    have ltv846_0 : @LT.lt Nat _ t2_846 T846.heap.size := f846_0.ltv
    refine oG.st st846 ?_
    refine oG.st (fun _ k => XS.aloadN X846.here hx rfl (hb hby at_38) rfl rfl k) ?_
    show oG _ _ _ _ (T846.setTop (mkF m 39 #[.val (.int p1), .val (.int c1), .val (.ref x_843), .val (.ref x_844), .unset, .unset] [(.ref x_844), (.ref x_846)]))
    obtain ⟨kb853, cd853, N853_, vs853, s1853, s2853, s3853, s4853, s5853, s6853, s7853⟩ := id f846_0
    have f854 : own_Str Z T846.heap x_844 t_844 (own_encL (own_utf [c1])) := f844_0.keep K846 nin0 nin0
    obtain ⟨kb855, cd855, N855_, vs855, s1855, s2855, s3855, s4855, s5855, s6855, s7855⟩ := id f854
    have f856 : Old Z Z.heap.size T846.heap := f851.keep K846 all0
    obtain ⟨cq852, kq852, q852a, q852b, q852c⟩ := isOf hZ rfl f846_0.exa
    obtain ⟨_, _, ⟨T852, L852, k852, n852⟩, -, X852, ⟨Lc852, hQ852, l852, y852, z852⟩, st852⟩ := X846.virtualBack hx (y := mN25) (z := mN25) hown (own_v hZ hw 206 rfl) (own_v hZ hw 207 rfl) (notFace_of_selects (args := #[]) (own_v hZ hw 209 rfl)) (own_v hZ hw 209 rfl) (own_v hZ hw 208 rfl) (by decide) (StrChars.Road.eqW (W := 0) hZ (own_heq hw) (kI := 4) (own_w hw 12 rfl) s1853 s2853 s3853 s4853 s5853 s6853 s7853 s1855 s2855 s3855 s4855 s5855 s6855 s7855 (st_C.ext f856.2) hzc (by decide) (by decide)) q852a q852c (g := (mkF m 39 #[.val (.int p1), .val (.int c1), .val (.ref x_843), .val (.ref x_844), .unset, .unset] [(.ref x_844), (.ref x_846)])) rfl (by rw [hml]; rfl) (Steps.refl _) (argsL := [(.ref x_844)]) (rest := []) (lenOf pd_932 rfl) rfl (by show 2 * 0 + _ ≤ _; exact Nat.le_of_eq rfl) (hb hby at_39) (fun _ _ => ⟨rfl, rfl, (by decide : 20 + 0 ≤ _), (by decide : 242 + 0 ≤ _)⟩)
    dsimp only [Pt.U, Pt.locs, Pt.cells, Pt.slots] at X852 l852 y852 z852 st852 hQ852
    subst l852 y852 z852
    obtain ⟨hv852, rfl, K852⟩ := hQ852
    obtain ⟨r852, rfl, he852⟩ := own_eqv hv852
    have N852 := Fr.app N846 (Fr.nil Z.heap.size)
    refine oG.tr st852 ?_
    refine oG.st (fun _ k => XS.istore X852.here hx rfl (hb hby at_42) rfl (l' := #[.val (.int p1), .val (.int c1), .val (.ref x_843), .val (.ref x_844), .val (.int r852), .unset]) rfl k) ?_
    show oG _ _ _ _ (T852.setTop (mkF m 44 #[.val (.int p1), .val (.int c1), .val (.ref x_843), .val (.ref x_844), .val (.int r852), .unset] []))
    obtain ⟨T857, h857, X857, e857, E857, A857, D857, U857, st857⟩ := newO X852 hx hZ hown (own_w hw 42 rfl) (own_w hw 12 rfl) (own_w hw 4 rfl) K852 (g := (mkF m 44 #[.val (.int p1), .val (.int c1), .val (.ref x_843), .val (.ref x_844), .val (.int r852), .unset] [])) rfl (hb hby at_44) (by decide) (by decide)
    obtain ⟨b857, g857⟩ : ∃ z, z = T846.heap.size := ⟨_, rfl⟩
    rw [← g857] at A857 D857 U857 st857
    refine oG.st st857 ?_
    have z857 : T846.heap.size ≤ h857.size := E857.1
    have lt_b857 : @LT.lt Nat _ b857 h857.size := A857.lt
    have f858 : Fld Z h857 b857 "java/lang/String" "value" "[B" .null := D857 (Or.inr (own_w hw 25 rfl)) (ty := (.array .byte)) (by decide)
    have f859 : Fld Z h857 b857 "java/lang/String" "coder" "B" (.int (0 : Int32)) := D857 (Or.inr (own_w hw 27 rfl)) (ty := .byte) (by decide)
    have R857 : CHr Z consts_1 s.vm h0 s.vm h857 := R846.trans (CHr.ext E857 R846.1)
    have Sf857 : Safe Z consts_1 s.vm h857 b857 := (Safe.new (Nat.le_of_eq g857.symm)).ext E857 R846.1
    refine oG.st (fun _ k => XS.dup X857.here hx rfl (hb hby at_47) rfl rfl (XS.iconst X857.here hx rfl (hb hby at_48) k)) ?_
    show oG _ _ _ _ (T857.setTop (mkF m 49 #[.val (.int p1), .val (.int c1), .val (.ref x_843), .val (.ref x_844), .val (.int r852), .unset] [(.int (0 : Int32)), (.ref b857), (.ref b857)]))
    obtain ⟨T860, h860, k860, X860, e860, E860, A860, st860⟩ := newP X857 hx hZ (own_w hw 35 rfl) e857 (g := (mkF m 49 #[.val (.int p1), .val (.int c1), .val (.ref x_843), .val (.ref x_844), .val (.int r852), .unset] [(.int (0 : Int32)), (.ref b857), (.ref b857)])) rfl (hb hby at_49) rfl (by decide) (cap := 0) (by decide) (by decide) (by decide) (by decide)
    obtain ⟨b860, g860⟩ : ∃ z, z = h857.size := ⟨_, rfl⟩
    rw [← g860] at A860 st860
    refine oG.st st860 ?_
    have z860 : h857.size ≤ h860.size := E860.1
    have f861 : Arv Z h860 b860 k860 .char (0 : Int32) [] (.int (0 : Int32)) := (Arv.new A860 (by decide)).pad (pad_rep [] (.int (0 : Int32)) 0)
    have lt_b860 : @LT.lt Nat _ b860 h860.size := f861.lt
    have R860 : CHr Z consts_1 s.vm h0 s.vm h860 := R857.trans (CHr.ext E860 R857.1)
    have Sf862 : Safe Z consts_1 s.vm h860 b857 := Safe.ext E860 R857.1 Sf857
    show oG _ _ _ _ (T860.setTop (mkF m 51 #[.val (.int p1), .val (.int c1), .val (.ref x_843), .val (.ref x_844), .val (.int r852), .unset] [(.ref b860), (.ref b857), (.ref b857)]))
    have f864 : Exa Z h860 b857 "java/lang/String" := A857.ext E860
    have f865 : Fld Z h860 b857 "java/lang/String" "value" "[B" .null := f858.ext E860
    have f866 : Fld Z h860 b857 "java/lang/String" "coder" "B" (.int (0 : Int32)) := f859.ext E860
    have f867 : Old Z Z.heap.size h857 := f856.ext E857
    have f868 : Old Z Z.heap.size h860 := f867.ext E860
    obtain ⟨_, _, ⟨T863, L863, k863, n863⟩, -, X863, hs863, hg863, ⟨Lc863, hQ863, l863, y863, z863, ch863⟩, st863⟩ := X860.specialBackS hx (y := mN19) rfl hown (own_v hZ hw 43 rfl) (own_v hZ hw 44 rfl) (own_v hZ hw 45 rfl) (by decide) (backOfSH (s := s) (vm0 := s.vm) (W := 1) (rm_init1e l Z a0 hw [] b857 b860 k860 [] (.int (0 : Int32)) h860 hEL f868 f864 f865 f866 f861 (by omega)) hZ (own_w hw 45 rfl) (own_w hw 4 rfl) (by decide) (by decide) hEL R860.1) (g := (mkF m 51 #[.val (.int p1), .val (.int c1), .val (.ref x_843), .val (.ref x_844), .val (.int r852), .unset] [(.ref b860), (.ref b857), (.ref b857)])) rfl (by rw [hml]; rfl) (Steps.refl _) (a := b857) (argsL := [(.ref b860)]) (rest := [(.ref b857)]) (lenOf pd_837 rfl) rfl (by show 2 * 0 + _ ≤ _; exact Nat.le_of_eq rfl) (hb hby at_51) (fun _ _ => ⟨rfl, e860, (by decide : 22 + 4 ≤ _), (by decide : 246 + 8 ≤ _)⟩)
    dsimp only [Pt.U, Pt.locs, Pt.cells, Pt.slots] at X863 l863 y863 z863 st863 hQ863 hs863 hg863 ch863
    subst l863 y863 z863
    obtain ⟨t_863, rfl, N863q, K863, f863_0, f863_1⟩ := hQ863
    have N863 := Fr.app N852 N863q
    obtain ⟨Y863, hS863, hZ863, hown863⟩ := rebS hS0 (n1 := h860.size) (by omega) X863 hs863 (by have := hg863; first | exact this | (rw [← e860]; exact this)) hZ hown
    have z863 : h860.size ≤ T863.heap.size := K863.1
    have R863 : CHr Z consts_1 s.vm h0 T863.vm T863.heap := R860.trans ch863
    have Sf869 : Safe Z consts_1 T863.vm T863.heap b857 := ch863.safe (by show @LT.lt Nat _ b857 _; omega) Sf862
    have lt863_0 : @LT.lt Nat _ b857 T863.heap.size := f863_0.lt
    have ltv863_0 : @LT.lt Nat _ t_863 T863.heap.size := f863_0.ltv
    have lt863_1 : @LT.lt Nat _ t_863 T863.heap.size := f863_1.lt
    refine oG.tr st863 ?_
    show oG _ _ _ _ (T863.setTop (mkF m 54 #[.val (.int p1), .val (.int c1), .val (.ref x_843), .val (.ref x_844), .val (.int r852), .unset] [(.ref b857)]))
    have f871 : Arv Z T846.heap ah kh .char (16 : Int32) (own_hexL.map Value.int) (.int (0 : Int32)) := f850.keep K846 nin0
    have f872 : Arv Z h857 ah kh .char (16 : Int32) (own_hexL.map Value.int) (.int (0 : Int32)) := f871.ext E857
    have f873 : Arv Z h860 ah kh .char (16 : Int32) (own_hexL.map Value.int) (.int (0 : Int32)) := f872.ext E860
    have ne874 : @Ne Nat b857 ah := Exa.neArv f864 f873 (own_w hw 12 rfl)
    have f875 : Arv Z T863.heap ah kh .char (16 : Int32) (own_hexL.map Value.int) (.int (0 : Int32)) := f873.keep K863 (ninS (Ne.symm ne874) nin0)
    have f876 : Old Z Z.heap.size T863.heap := f868.keep K863 (allS (by omega) all0)
    obtain ⟨_, _, ⟨T870, L870, k870, n870⟩, -, X870, ⟨Lc870, hQ870, l870, y870, z870⟩, st870⟩ := Jvm.LawKit.callS Y863 hx (y := mN0) hown863 (own_v hZ863 hw 59 rfl) (own_v hZ863 hw 60 rfl) (own_v hZ863 hw 61 rfl) (own_v hZ863 hw 62 rfl) (by decide) (backOf (W := 0) (rm_encode l Z a0 hw [] b857 t_863 [] ac ah kh zc T863.heap f876 f863_0 f863_1 f875 st_C st_UTF_8 st_INSTANCE st_HEX_DIGITS st_A st_H st_L hzc (Or.inl rfl) hah) hZ863 (own_w hw 62 rfl) (own_w hw 61 rfl) (by decide) (by decide)) (g := (mkF m 54 #[.val (.int p1), .val (.int c1), .val (.ref x_843), .val (.ref x_844), .val (.int r852), .unset] [(.ref b857)])) rfl (by rw [hml]; rfl) (argsL := [(.ref b857)]) (rest := []) (lenOf pd_931 rfl) rfl (by show 2 * 0 + _ ≤ _; exact Nat.le_of_eq rfl) (hb hby at_54) (fun _ _ => ⟨rfl, rfl, (by decide : 26 + 15 ≤ _), (by decide : 254 + 210 ≤ _)⟩)
    dsimp only [Pt.U, Pt.locs, Pt.cells, Pt.slots] at X870 l870 y870 z870 st870 hQ870
    subst l870 y870 z870
    obtain ⟨x_870, t2_870, rfl, N870q, K870, f870_0⟩ := hQ870
    have N870 := Fr.app N863 N870q
    have z870 : T863.heap.size ≤ T870.heap.size := K870.1
    have R870 : CHr Z consts_1 s.vm h0 T863.vm T870.heap := R863.trans (CHr.keep K870 sf0 R863.1)
    have Sf877 : Safe Z consts_1 T863.vm T870.heap b857 := Safe.keep K870 sf0 R863.1 Sf869
    have lt870_0 : @LT.lt Nat _ x_870 T870.heap.size := f870_0.lt
    have ltv870_0 : @LT.lt Nat _ t2_870 T870.heap.size := f870_0.ltv
    refine oG.st st870 ?_
    show oG _ _ _ _ (T870.setTop (mkF m 57 #[.val (.int p1), .val (.int c1), .val (.ref x_843), .val (.ref x_844), .val (.int r852), .unset] [(.ref x_870)]))
    obtain ⟨kb879, cd879, N879_, vs879, s1879, s2879, s3879, s4879, s5879, s6879, s7879⟩ := id f870_0
    obtain ⟨cq878, kq878, q878a, q878b, q878c⟩ := isOf hZ863 rfl f870_0.exa
    obtain ⟨_, _, ⟨T878, L878, k878, n878⟩, -, X878, ⟨Lc878, hQ878, l878, y878, z878⟩, st878⟩ := X870.virtualBack hx (y := mN27) (z := mN27) hown863 (own_v hZ863 hw 219 rfl) (own_v hZ863 hw 220 rfl) (notFace_of_selects (args := #[]) (own_v hZ863 hw 222 rfl)) (own_v hZ863 hw 222 rfl) (own_v hZ863 hw 221 rfl) (by decide) (StrChars.Road.empW (W := 0) hZ863 (own_hem hw) (kI := 4) (own_w hw 12 rfl) s1879 s2879 s3879 s4879 s5879 s6879 s7879 (by decide) (by decide)) q878a q878c (g := (mkF m 57 #[.val (.int p1), .val (.int c1), .val (.ref x_843), .val (.ref x_844), .val (.int r852), .unset] [(.ref x_870)])) rfl (by rw [hml]; rfl) (Steps.refl _) (argsL := []) (rest := []) (lenOf pd_201 rfl) rfl (by show 2 * 0 + _ ≤ _; exact Nat.le_of_eq rfl) (hb hby at_57) (fun _ _ => ⟨rfl, rfl, (by decide : 41 + 0 ≤ _), (by decide : 464 + 0 ≤ _)⟩)
    dsimp only [Pt.U, Pt.locs, Pt.cells, Pt.slots] at X878 l878 y878 z878 st878 hQ878
    subst l878 y878 z878
    obtain ⟨rfl, rfl, K878⟩ := hQ878
    have N878 := Fr.app N870 (Fr.nil Z.heap.size)
    refine oG.tr st878 ?_
    refine oG.st (fun _ k => XS.istore X878.here hx rfl (hb hby at_60) rfl (l' := #[.val (.int p1), .val (.int c1), .val (.ref x_843), .val (.ref x_844), .val (.int r852), .val (.int (if ((own_encL (own_utf []))).length = 0 then 1 else 0))]) rfl (XS.iload X878.here hx rfl (hb hby at_62) rfl k)) ?_
    show oG _ _ _ _ (T878.setTop (mkF m 64 #[.val (.int p1), .val (.int c1), .val (.ref x_843), .val (.ref x_844), .val (.int r852), .val (.int (if ((own_encL (own_utf []))).length = 0 then 1 else 0))] [(.int r852)]))
    have hc880 : ¬ (r852 = (0 : Int32)) := fun q => Or.elim he852 (fun u => absurd (u.1.symm.trans q) (by decide)) (fun u => u.2 rfl)
    refine oG.st (fun _ k => XS.ifNo X878.here hx rfl (hb hby at_64) rfl ((if0 _ _).trans (feq hc880).1) k) ?_
    refine oG.st (fun _ k => XS.iload X878.here hx rfl (hb hby at_67) rfl k) ?_
    show oG _ _ _ _ (T878.setTop (mkF m 69 #[.val (.int p1), .val (.int c1), .val (.ref x_843), .val (.ref x_844), .val (.int r852), .val (.int (if ((own_encL (own_utf []))).length = 0 then 1 else 0))] [(.int (if ((own_encL (own_utf []))).length = 0 then 1 else 0))]))
    have hc881 : ¬ ((if ((own_encL (own_utf []))).length = 0 then 1 else 0) = (0 : Int32)) := by decide
    refine oG.st (fun _ k => XS.ifNo X878.here hx rfl (hb hby at_69) rfl ((if0 _ _).trans (feq hc881).1) k) ?_
    refine oG.st (fun _ k => XS.iconst X878.here hx rfl (hb hby at_72) (XS.goto X878.here hx rfl (pc0 := 73) (pc' := 77) rfl (hb hby at_73) (by decide) (by decide) k)) ?_
    show oG _ _ _ _ (T878.setTop (mkF m 77 #[.val (.int p1), .val (.int c1), .val (.ref x_843), .val (.ref x_844), .val (.int r852), .val (.int (if ((own_encL (own_utf []))).length = 0 then 1 else 0))] [(.int (1 : Int32))]))
    obtain ⟨fs882, hr882, hrun882, hend882, hret882⟩ := X878.leaveW hS863 (by rw [K878]; exact (by omega)) (v := some (.int (nar .boolean (1 : Int32)))) (fun h => by rw [Bd.returns] at h; cases h)
    have K883 : Keep h0 T843.heap [] := (Keep.refl h0 []).trans K843 all0
    have K884 : Keep h0 T844.heap [] := K883.trans K844 all0
    have K885 : Keep h0 T846.heap [] := K884.trans K846 all0
    have K886 : Keep h0 h857 [] := K885.ext E857
    have K887 : Keep h0 h860 [] := K886.ext E860
    have K888 : Keep h0 T863.heap [] := K887.trans K863 (allS (Or.inr (by omega)) all0)
    have K889 : Keep h0 T870.heap [] := K888.trans K870 all0
    subst hPP
    refine ⟨_, _, retN X878 hx (t := .boolean) Bd.returns (by simp) (hb hby at_77) hr882, hrun882, hend882, _, _, rfl, ?_, ?_, hret882.1, hret882.2.1, hret882.2.2.1, hret882.2.2.2.mono (by decide) (by decide)⟩
    · show Q_law Z _ _ _ _ _ h0 _ T878.heap _
      rw [K878]
      exact ⟨rfl, N878, K889⟩
    · have hfin := R870.trans (CHv.at X878 hZ863 hEL R870.1)
      rw [← hh] at hfin
      show CHr Z consts_1 s.vm s.heap T878.vm T878.heap
      rw [K878]
      exact hfin
  refine oG.st (fun _ k => XS.iloadN X0.here hx rfl (hb hby at_0) rfl k) ?_
  show oG _ _ _ _ (s₁.setTop (mkF m 1 #[.val (.int p1), .unset, .unset, .unset, .unset, .unset] [(.int p1)]))
  refine oG.st (X0.ldcInt hx hown (own_v hZ hw 0 rfl) (g := (mkF m 1 #[.val (.int p1), .unset, .unset, .unset, .unset, .unset] [(.int p1)])) rfl (hb hby at_1)) ?_
  refine oG.st (fun _ k => XS.iand X0.here hx rfl (hb hby at_3) rfl (XS.istoreN X0.here hx rfl (hb hby at_4) rfl (l' := #[.val (.int p1), .val (.int (p1 &&& (65535 : Int32))), .unset, .unset, .unset, .unset]) rfl (XS.iloadN X0.here hx rfl (hb hby at_5) rfl k))) ?_
  show oG _ _ _ _ (s₁.setTop (mkF m 6 #[.val (.int p1), .val (.int (p1 &&& (65535 : Int32))), .unset, .unset, .unset, .unset] [(.int (p1 &&& (65535 : Int32)))]))
  refine oG.st (X0.ldcInt hx hown (own_v hZ hw 1 rfl) (g := (mkF m 6 #[.val (.int p1), .val (.int (p1 &&& (65535 : Int32))), .unset, .unset, .unset, .unset] [(.int (p1 &&& (65535 : Int32)))])) rfl (hb hby at_6)) ?_
  show oG _ _ _ _ (s₁.setTop (mkF m 8 #[.val (.int p1), .val (.int (p1 &&& (65535 : Int32))), .unset, .unset, .unset, .unset] [(.int (55296 : Int32)), (.int (p1 &&& (65535 : Int32)))]))
  by_cases hc890 : (p1 &&& (65535 : Int32)) < (55296 : Int32)
  ·
    refine oG.st (fun _ k => XS.icmpYes X0.here hx rfl (pc0 := 8) (pc' := 23) rfl (hb hby at_8) rfl (tlt hc890).1 (by decide) (by decide) k) ?_
    show oG _ _ _ _ (s₁.setTop (mkF m 23 #[.val (.int p1), .val (.int (p1 &&& (65535 : Int32))), .unset, .unset, .unset, .unset] []))
    exact J842 (p1 &&& (65535 : Int32)) (own_chr1 hc890)
  ·
    refine oG.st (fun _ k => XS.icmpNo X0.here hx rfl (hb hby at_8) rfl (flt hc890).1 k) ?_
    refine oG.st (fun _ k => XS.iloadN X0.here hx rfl (hb hby at_11) rfl k) ?_
    show oG _ _ _ _ (s₁.setTop (mkF m 12 #[.val (.int p1), .val (.int (p1 &&& (65535 : Int32))), .unset, .unset, .unset, .unset] [(.int (p1 &&& (65535 : Int32)))]))
    refine oG.st (X0.ldcInt hx hown (own_v hZ hw 244 rfl) (g := (mkF m 12 #[.val (.int p1), .val (.int (p1 &&& (65535 : Int32))), .unset, .unset, .unset, .unset] [(.int (p1 &&& (65535 : Int32)))])) rfl (hb hby at_12)) ?_
    show oG _ _ _ _ (s₁.setTop (mkF m 14 #[.val (.int p1), .val (.int (p1 &&& (65535 : Int32))), .unset, .unset, .unset, .unset] [(.int (57343 : Int32)), (.int (p1 &&& (65535 : Int32)))]))
    by_cases hc891 : (57343 : Int32) < (p1 &&& (65535 : Int32))
    ·
      refine oG.st (fun _ k => XS.icmpYes X0.here hx rfl (pc0 := 14) (pc' := 23) rfl (hb hby at_14) rfl (tlt hc891).2.2.1 (by decide) (by decide) k) ?_
      show oG _ _ _ _ (s₁.setTop (mkF m 23 #[.val (.int p1), .val (.int (p1 &&& (65535 : Int32))), .unset, .unset, .unset, .unset] []))
      exact J842 (p1 &&& (65535 : Int32)) (own_chr2 hc891)
    ·
      refine oG.st (fun _ k => XS.icmpNo X0.here hx rfl (hb hby at_14) rfl (flt hc891).2.2.1 k) ?_
      refine oG.st (fun _ k => XS.iloadN X0.here hx rfl (hb hby at_17) rfl (XS.sipush X0.here hx rfl (hb hby at_18) (XS.isub X0.here hx rfl (hb hby at_21) rfl (XS.istoreN X0.here hx rfl (hb hby at_22) rfl (l' := #[.val (.int p1), .val (.int ((p1 &&& (65535 : Int32)) - (2048 : Int32))), .unset, .unset, .unset, .unset]) rfl k)))) ?_
      show oG _ _ _ _ (s₁.setTop (mkF m 23 #[.val (.int p1), .val (.int ((p1 &&& (65535 : Int32)) - (2048 : Int32))), .unset, .unset, .unset, .unset] []))
      exact J842 ((p1 &&& (65535 : Int32)) - (2048 : Int32)) (own_chr3 hc890 hc891)

theorem own_staRef {s : State} {args : Array Value} {T T2 : Term} {K : String} (h : (Jvm.Cond.eq T T2).before args s = true) (hx : (Jvm.Cond.exactly T K).before args s = true) : ∃ ac, T.eval args s none [] s = some (.ref ac) ∧ T2.eval args s none [] s = some (.ref ac) := by
  obtain ⟨ac, e1⟩ := exa_v (Cond.before_iff.mp hx)
  obtain ⟨x, y, f1, f2, -, k2⟩ := cmp_v (Or.inl (Cond.before_iff.mp h))
  cases e1.symm.trans f1
  refine ⟨ac, e1, ?_⟩
  have q := Cond.before_iff.mp h
  simp only [Cond.value, f1, f2] at q
  cases y <;> simp_all


theorem own_staEq {s : State} {args : Array Value} {C n d : String} {v : Int32} (h : (Jvm.Cond.eq (Jvm.Term.static C n d) (Jvm.Term.int v)).before args s = true) (hi : (Jvm.Cond.initializedFor C n d).before args s = true) : Sta s s.heap C n d (.int v) := by
  obtain ⟨x, y, e1, e2, -, -⟩ := cmp_v (Or.inl (Cond.before_iff.mp h))
  have e3 : y = .int v := by simpa [Term.eval] using e2.symm
  subst e3
  have e4 : x = .int v := by
    have q := Cond.before_iff.mp h
    simp only [Cond.value, e1, e2] at q
    cases x <;> simp_all
  subst e4
  exact Sta.start e1 (Or.inl hi)

set_option maxRecDepth 65536 in
set_option maxHeartbeats 40000000 in
theorem comes_1 {Post : Tables → Env → Array Value → State → Outcome → State → Prop} (hpost : ∀ tb e args s v u, (limb_1_1.after args s (.returned v) u = true ∧ limb_1_2.after args s (.returned v) u = true ∧ True) → ReturnedEndW s (.returned v) u (Jvm.fieldLocs frame_1_writes args s ++ Jvm.arrayLocs frame_1_arrays args s ++ Jvm.staticLocs frame_1_statics s) 48 1280 → Post tb e args s (.returned v) u) :
    ArmFor flags0 classFile x code maxLocals ret World_1 tables_1 room_1 Calls_1 rest_1 Pre_1 Post := by
  intro l hfl _ _ p e ha hc hk s m args below hf hA hF happ hP
  obtain ⟨hcalls, hrest, hpre⟩ := hP
  obtain ⟨-, -, -, hnamed, -, -, -, hat⟩ := (Spec.applies_iff hf).mp happ
  obtain ⟨hg, hn⟩ := and_e (Cond.before_iff.mp (show (Jvm.Cond.and given_1 narrow_1).before args s = true from hpre))
  obtain ⟨g0, r0⟩ := and_e hg
  obtain ⟨w0, rfl⟩ : ∃ w0 : Value, args = #[w0] := by
    have hs : args.size = 1 := by simpa [Cond.value, given_1] using g0
    obtain ⟨L⟩ := args
    match L, hs with
    | [w0], _ => exact ⟨w0, rfl⟩
  have hw := fun d (hd : d ∈ tables_1) => atoms_spec (ws := Jvm.Cond.code x code maxLocals ret :: tables_1) hat d (List.mem_cons_of_mem _ hd)
  obtain ⟨hsets, hown0⟩ := atoms_of _ (rest_1_c_eq ▸ (show rest_1_c.before _ s = true from hrest))
  have hfit : Fit s := fun {y c} hc i hi => by
    obtain ⟨ha, rfl⟩ := Array.getElem?_eq_some_iff.mp hc
    have q := List.all_eq_true.mp ((Array.all_eq_true_iff_forall_mem.mp hF) _ (Array.getElem_mem ha)) i (List.mem_range.mpr hi)
    simpa [Array.getElem?_eq_getElem hi] using q
  obtain ⟨i0, e0⟩ := is_v r0
  obtain rfl : w0 = (.int i0) := Option.some.inj e0
  obtain ⟨zc, ez⟩ := is_v (Cond.before_iff.mp (hsets _ (List.mem_of_getElem? (i := 1) rfl)))
  have st_zc : Sta s s.heap "java/lang/String" "COMPACT_STRINGS" "Z" (.int zc) := Sta.start ez (Or.inl (hsets _ (List.mem_of_getElem? (i := 0) rfl)))
  have hzc : ¬ (zc = (0 : Int32)) := gotF (Cond.eq_ints ez (Term.int_eval (0))) (not_v (Cond.before_iff.mp (hsets _ (List.mem_of_getElem? (i := 2) rfl))))
  have hEL : EW s _ consts_1 := (EW.cons (own_w hw 214 rfl) (by decide) EW.nil)
  have hC0 : CHv s consts_1 s.vm s.heap := CHv.start hEL (fun p hp => hcalls.1 p hp) (hsets _ (List.mem_of_getElem? (i := 2) rfl)) (own_w hw 16 rfl) (own_w hw 12 rfl)
  have st_A : Sta s s.heap "java/lang/StringUTF16" "$assertionsDisabled" "Z" (.int (1 : Int32)) := own_staEq (hsets _ (List.mem_of_getElem? (i := 21) rfl)) (hsets _ (List.mem_of_getElem? (i := 20) rfl))
  have st_H : Sta s s.heap "java/lang/StringUTF16" "HI_BYTE_SHIFT" "I" (.int (0 : Int32)) := own_staEq (hsets _ (List.mem_of_getElem? (i := 24) rfl)) (hsets _ (List.mem_of_getElem? (i := 23) rfl))
  have st_L : Sta s s.heap "java/lang/StringUTF16" "LO_BYTE_SHIFT" "I" (.int (8 : Int32)) := own_staEq (hsets _ (List.mem_of_getElem? (i := 27) rfl)) (hsets _ (List.mem_of_getElem? (i := 26) rfl))
  obtain ⟨ac, ec1, ec2⟩ := own_staRef (hsets _ (List.mem_of_getElem? (i := 13) rfl)) (hsets _ (List.mem_of_getElem? (i := 14) rfl))
  have st_UTF_8 : Sta s s.heap "java/nio/charset/StandardCharsets" "UTF_8" "Ljava/nio/charset/Charset;" (.ref ac) := Sta.start ec1 (Or.inl (hsets _ (List.mem_of_getElem? (i := 10) rfl)))
  have st_INSTANCE : Sta s s.heap "sun/nio/cs/UTF_8" "INSTANCE" "Lsun/nio/cs/UTF_8;" (.ref ac) := Sta.start ec2 (Or.inl (hsets _ (List.mem_of_getElem? (i := 12) rfl)))
  obtain ⟨hn1, hnr1⟩ := and_e hn
  obtain ⟨hn2, hnr2⟩ := and_e hnr1
  obtain ⟨hn3, hn4⟩ := and_e hnr2
  obtain ⟨ah, kh, st_HEX_DIGITS, fHEX⟩ := own_hex hfit hn1 hn2 hn3 hn4 (own_w hw 61 rfl) (own_w hw 144 rfl)
  have hah : @LT.lt Nat _ ah s.heap.size := fHEX.lt
  obtain ⟨n, o, h1, h2, h3, _, L, rfl, ⟨rfl, N, -⟩, -, hq⟩ := rm_law l s _ hw tables_1 i0 ac ah kh zc s.heap hEL (Old.start s) fHEX st_zc st_UTF_8 st_INSTANCE st_HEX_DIGITS st_A st_H st_L hzc hah p e ha hc hk s m _ below hf ((Spec.applies_iff_loose hf).mp happ).1 ⟨rfl, State.Warmed39.refl s, rfl, hC0⟩ trivial
  refine ⟨n, _, h1, h2, h3, hpost _ _ _ _ _ _ ⟨Cond.after_iff.mpr rfl, Cond.after_iff.mpr (eq_i res_at (Term.int_eval (1)) rfl), trivial⟩ ⟨hq.1, hq.2.1, hq.2.2.1, (hq.2.2.2.sift fun y hy => Or.inr (N y hy)).mono (by decide) (by decide)⟩⟩
theorem main_1_1 : Claimed_1_1 := comes_1 fun _ _ _ _ _ _ h hF => ⟨h.1, hF⟩
theorem main_1_2 : Claimed_1_2 := comes_1 fun _ _ _ _ _ _ h hF => ⟨h.2.1, hF⟩
end Jvm.Pilot.@@N@@
namespace Jvm.Pilot.@@N@@
open Jvm Jvm.ClassFile Sem Op Lib Jvm.Free Jvm.Stand Jvm.Pilot.@@N@@.Jvm.D
/-! MADE BY PROGRAM (witnessworld.py) out of the Statement's table words and the real class files: 33 classes; the members and pool entries that the words name. The judged class is class 1, her method 1. -/
namespace start1
open Jvm.ClassFile
def u (s : String) : CpInfo := .utf8 (stringToUtf16 s)
/-- a pool by its gaps: so many unusable entries, then the entry; so many at the end -/
def gap : Nat → List CpInfo → List CpInfo
  | 0, r => r
  | n + 1, r => .unusable :: gap n r
def poolList (es : List (Nat × CpInfo)) (last : Nat) : List CpInfo := es.foldr (fun e r => gap e.1 (e.2 :: r)) (gap last [])
def pool (es : List (Nat × CpInfo)) (last : Nat) : Array CpInfo := ⟨poolList es last⟩
def fileOf (pool : Array CpInfo) (this : Nat) (attrs : Array Attribute := #[]) (ms : Array MethodInfo := #[]) (fl : Nat := 33) (sup : Nat := 0) (ifs : Array Nat := #[]) (fds : Array FieldInfo := #[]) : ClassFile where
  minorVersion := 0
  majorVersion := 65
  constantPool := pool
  accessFlags := fl
  thisClass := this
  superClass := sup
  interfaces := ifs
  fields := fds
  methods := ms
  attributes := attrs
def plain (name : String) (sup : Option ClassId) : Class where
  name := name
  kind := .ordinary
  loader := none
  accessFlags := 33
  super := sup
  interfaces := #[]
  cf := none
  fields := #[]
  methods := #[]
  instanceTypes := #[]
  staticTypes := #[]
  resolved := #[]
  callSites := []
  init := .initialized
  statics := none
  mirror := none

def pool0 : Array CpInfo := pool [(5, u "<init>"), (0, u "()V"), (1, .class_ 10), (1, u "java/lang/Object"), (85, u "clone"), (0, u "()Ljava/lang/Object;")] 26

def k0c0 : Code := { maxStack := 0, maxLocals := 1, code := object_method_1_code, exceptionTable := #[], attributes := #[] }
def k0m0 : Method := { name := "<init>", desc := "()V", sig := { parameters := [], returnType := none }, accessFlags := 1, code := some k0c0 }
def k0m1 : Method := { name := "clone", desc := "()Ljava/lang/Object;", sig := { parameters := [], returnType := some (.object "java/lang/Object") }, accessFlags := 260, code := none }
/-- java/lang/Object -/
def k0 : Class := { plain "java/lang/Object" none with
  accessFlags := 33
  interfaces := #[]
  cf := some (fileOf pool0 8 #[] #[{ accessFlags := 1, nameIndex := 5, descriptorIndex := 6, attributes := #[] }, { accessFlags := 260, nameIndex := 96, descriptorIndex := 97, attributes := #[] }] 33 0 #[] #[])
  fields := #[]
  methods := #[k0m0, k0m1]
  instanceTypes := #[]
  staticTypes := #[]
  resolved := Array.replicate 124 none
  statics := none }

def pool1 : Array CpInfo := pool [(2, .class_ 4), (1, u "java/lang/Object"), (0, u "<init>"), (0, u "()V"), (0, .integer 65535), (0, .integer 55296), (0, .integer 57343), (0, .methodref 11 12), (0, .class_ 13), (0, .nameAndType 14 15), (0, u "java/lang/String"), (0, u "valueOf"), (0, u "(C)Ljava/lang/String;"), (0, .methodref 17 18), (0, .class_ 19), (0, .nameAndType 20 21), (0, u "com/example/vigilant_gate/vigilantgate/PercentEncodingEncodePinLaw"), (0, u "enc1"), (0, u "(I)Ljava/lang/String;"), (0, .methodref 23 24), (0, .class_ 25), (0, .nameAndType 26 27), (0, u "com/example/vigilant_gate/vigilantgate/PercentEncoding"), (0, u "encode"), (0, u "(Ljava/lang/String;)Ljava/lang/String;"), (0, .methodref 11 29), (0, .nameAndType 30 31), (0, u "equals"), (0, u "(Ljava/lang/Object;)Z"), (0, .methodref 11 33), (0, .nameAndType 5 34), (0, u "([C)V"), (0, .methodref 11 36), (0, .nameAndType 37 38), (0, u "isEmpty"), (0, u "()Z"), (0, .methodref 17 40), (0, .nameAndType 41 42), (0, u "digit"), (0, u "(I)C"), (0, .methodref 17 44), (0, .nameAndType 45 46), (0, u "unreserved"), (0, u "(I)Z"), (0, .methodref 17 48), (0, .nameAndType 49 50), (0, u "put"), (0, u "([CII)V"), (2, u "law")] 3

def k1m0 : Method := { name := "<init>", desc := "()V", sig := { parameters := [], returnType := none }, accessFlags := 2, code := none }
def k1c1 : Code := { maxStack := 3, maxLocals := 6, code := code, exceptionTable := #[], attributes := #[] }
def k1m1 : Method := { name := "law", desc := "(I)Z", sig := { parameters := [.int], returnType := some .boolean }, accessFlags := 9, code := some k1c1 }
def k1c2 : Code := { maxStack := 2, maxLocals := 1, code := method_3_code, exceptionTable := #[], attributes := #[] }
def k1m2 : Method := { name := "unreserved", desc := "(I)Z", sig := { parameters := [.int], returnType := some .boolean }, accessFlags := 10, code := some k1c2 }
def k1c3 : Code := { maxStack := 3, maxLocals := 1, code := method_4_code, exceptionTable := #[], attributes := #[] }
def k1m3 : Method := { name := "digit", desc := "(I)C", sig := { parameters := [.int], returnType := some .char }, accessFlags := 10, code := some k1c3 }
def k1c4 : Code := { maxStack := 4, maxLocals := 3, code := method_5_code, exceptionTable := #[], attributes := #[] }
def k1m4 : Method := { name := "put", desc := "([CII)V", sig := { parameters := [(.array .char), .int, .int], returnType := none }, accessFlags := 10, code := some k1c4 }
def k1c5 : Code := { maxStack := 5, maxLocals := 2, code := method_6_code, exceptionTable := #[], attributes := #[] }
def k1m5 : Method := { name := "enc1", desc := "(I)Ljava/lang/String;", sig := { parameters := [.int], returnType := some (.object "java/lang/String") }, accessFlags := 10, code := some k1c5 }
/-- com/example/vigilant_gate/vigilantgate/PercentEncodingEncodePinLaw -/
def k1 : Class := { plain "com/example/vigilant_gate/vigilantgate/PercentEncodingEncodePinLaw" (some 0) with
  accessFlags := 49
  interfaces := #[]
  cf := some (fileOf pool1 17 #[] #[{ accessFlags := 2, nameIndex := 5, descriptorIndex := 6, attributes := #[] }, { accessFlags := 9, nameIndex := 53, descriptorIndex := 46, attributes := #[] }, { accessFlags := 10, nameIndex := 45, descriptorIndex := 46, attributes := #[] }, { accessFlags := 10, nameIndex := 41, descriptorIndex := 42, attributes := #[] }, { accessFlags := 10, nameIndex := 49, descriptorIndex := 50, attributes := #[] }, { accessFlags := 10, nameIndex := 20, descriptorIndex := 21, attributes := #[] }] 49 2 #[] #[])
  fields := #[]
  methods := #[k1m0, k1m1, k1m2, k1m3, k1m4, k1m5]
  instanceTypes := #[]
  staticTypes := #[]
  resolved := Array.replicate 57 none
  statics := none }

def pool2 : Array CpInfo := pool [(1, .class_ 2), (0, u "java/io/Serializable"), (0, .class_ 4), (0, u "java/lang/Object")] 2

/-- java/io/Serializable -/
def k2 : Class := { plain "java/io/Serializable" (some 0) with
  accessFlags := 1537
  interfaces := #[]
  cf := some (fileOf pool2 1 #[] #[] 1537 3 #[] #[])
  fields := #[]
  methods := #[]
  instanceTypes := #[]
  staticTypes := #[]
  resolved := Array.replicate 7 none
  statics := none }

def pool3 : Array CpInfo := pool [(1, .class_ 2), (0, u "java/lang/Comparable"), (0, .class_ 4), (0, u "java/lang/Object")] 7

/-- java/lang/Comparable -/
def k3 : Class := { plain "java/lang/Comparable" (some 0) with
  accessFlags := 1537
  interfaces := #[]
  cf := some (fileOf pool3 1 #[] #[] 1537 3 #[] #[])
  fields := #[]
  methods := #[]
  instanceTypes := #[]
  staticTypes := #[]
  resolved := Array.replicate 12 none
  statics := none }

def pool4 : Array CpInfo := pool [(2, .class_ 4), (1, u "java/lang/CharSequence"), (42, .class_ 48), (0, u "java/lang/CharSequence$1CodePointIterator"), (10, .class_ 60), (0, u "java/lang/CharSequence$1CharIterator"), (5, .class_ 67), (0, u "java/lang/Object")] 63

/-- java/lang/CharSequence -/
def k4 : Class := { plain "java/lang/CharSequence" (some 0) with
  accessFlags := 1537
  interfaces := #[]
  cf := some (fileOf pool4 2 #[.nestMembers #[47, 59]] #[] 1537 66 #[] #[])
  fields := #[]
  methods := #[]
  instanceTypes := #[]
  staticTypes := #[]
  resolved := Array.replicate 131 none
  statics := none }

def pool5 : Array CpInfo := pool [(1, .class_ 2), (0, u "java/lang/constant/Constable"), (0, .class_ 4), (0, u "java/lang/Object")] 6

/-- java/lang/constant/Constable -/
def k5 : Class := { plain "java/lang/constant/Constable" (some 0) with
  accessFlags := 1537
  interfaces := #[]
  cf := some (fileOf pool5 1 #[] #[] 1537 3 #[] #[])
  fields := #[]
  methods := #[]
  instanceTypes := #[]
  staticTypes := #[]
  resolved := Array.replicate 11 none
  statics := none }

def pool6 : Array CpInfo := pool [(1, .class_ 2), (0, u "java/lang/constant/ConstantDesc"), (0, .class_ 4), (0, u "java/lang/Object")] 32

/-- java/lang/constant/ConstantDesc -/
def k6 : Class := { plain "java/lang/constant/ConstantDesc" (some 0) with
  accessFlags := 1537
  interfaces := #[]
  cf := some (fileOf pool6 1 #[] #[] 1537 3 #[] #[])
  fields := #[]
  methods := #[]
  instanceTypes := #[]
  staticTypes := #[]
  resolved := Array.replicate 37 none
  statics := none }

def pool7 : Array CpInfo := pool [(1, .methodref 2 3), (0, .class_ 4), (0, .nameAndType 5 6), (0, u "java/lang/Object"), (0, u "<init>"), (0, u "()V"), (0, .string 8), (0, u ""), (0, .fieldref 10 11), (0, .class_ 12), (0, .nameAndType 13 14), (0, u "java/lang/String"), (0, u "value"), (0, u "[B"), (0, .fieldref 10 16), (0, .nameAndType 17 18), (0, u "coder"), (0, u "B"), (2, u "hash"), (0, u "I"), (2, u "hashIsZero"), (0, u "Z"), (0, .methodref 10 28), (0, .nameAndType 5 29), (0, u "([CIILjava/lang/Void;)V"), (8, .fieldref 10 39), (0, .nameAndType 40 26), (0, u "COMPACT_STRINGS"), (1, .class_ 44), (1, u "java/lang/StringUTF16"), (0, u "compress"), (1, .methodref 42 48), (0, .nameAndType 49 50), (0, u "coderFromArrayLen"), (0, u "([BI)B"), (2, u "toBytes"), (0, .methodref 55 56), (0, .class_ 57), (0, .nameAndType 58 59), (0, u "java/util/Arrays"), (0, u "copyOfRange"), (0, u "([BII)[B"), (0, .methodref 42 61), (0, .nameAndType 62 63), (0, u "newBytesFor"), (0, u "(I)[B"), (22, .fieldref 87 88), (0, .class_ 89), (0, .nameAndType 90 91), (0, u "sun/nio/cs/UTF_8"), (0, u "INSTANCE"), (0, u "Lsun/nio/cs/UTF_8;"), (1, .class_ 95), (1, u "java/lang/StringCoding"), (6, .methodref 55 103), (0, .nameAndType 104 105), (0, u "copyOf"), (0, u "([BI)[B"), (1, .class_ 109), (1, u "java/lang/StringLatin1"), (18, .methodref 93 129), (0, .nameAndType 130 131), (0, u "hasNegatives"), (0, u "([BII)Z"), (10, u "()Z"), (34, .methodref 42 178), (0, .nameAndType 45 179), (0, u "([CII)[B"), (29, .methodref 10 210), (0, .nameAndType 5 211), (0, u "([BB)V"), (40, .methodref 10 253), (0, .nameAndType 254 255), (0, u "encodeUTF8"), (0, u "(B[BZ)[B"), (23, .methodref 280 281), (0, .class_ 14), (0, .nameAndType 282 283), (0, u "clone"), (0, u "()Ljava/lang/Object;"), (33, u "encode"), (16, u "()I"), (0, .methodref 10 336), (0, .nameAndType 17 337), (0, u "()B"), (2, u "()[B"), (19, .methodref 42 361), (0, .nameAndType 362 363), (0, u "getChar"), (0, u "([BI)C"), (1, .class_ 367), (1, u "java/lang/Character"), (1, u "(C)Z"), (34, .methodref 365 405), (0, .nameAndType 406 369), (0, u "isSurrogate"), (66, .methodref 10 474), (0, .nameAndType 475 476), (0, u "encodeUTF8_UTF16"), (0, u "([BZ)[B"), (12, .methodref 10 490), (0, .nameAndType 5 491), (0, u "(Ljava/lang/AbstractStringBuilder;Ljava/lang/Void;)V"), (1, .nameAndType 494 142), (0, u "isLatin1"), (11, .nameAndType 507 334), (0, u "length"), (24, u "getBytes"), (2, .methodref 10 536), (0, .nameAndType 317 537), (0, u "(Ljava/nio/charset/Charset;B[B)[B"), (3, .methodref 107 542), (0, .nameAndType 543 544), (0, u "equals"), (0, u "([B[B)Z"), (4, .methodref 550 506), (0, .class_ 551), (0, u "java/lang/AbstractStringBuilder"), (0, .methodref 550 553), (0, .nameAndType 554 340), (0, u "getValue"), (18, u "(Ljava/lang/Object;)Z"), (1, .class_ 576), (0, u "java/lang/CharSequence"), (22, u "CASE_INSENSITIVE_ORDER"), (0, u "Ljava/util/Comparator;"), (91, u "isEmpty"), (89, u "valueOf"), (0, u "(C)Ljava/lang/String;"), (226, u "([C)V"), (4, .methodref 107 1016), (0, .nameAndType 1017 369), (0, u "canEncode"), (0, .methodref 107 1019), (0, .nameAndType 53 1020), (0, u "(C)[B"), (0, .methodref 42 1019), (25, .methodref 550 493), (53, u "serialPersistentFields"), (0, u "[Ljava/io/ObjectStreamField;"), (0, .class_ 1104), (0, u "java/lang/String$CaseInsensitiveComparator"), (1, .class_ 1107), (0, u "java/io/Serializable"), (0, .class_ 1109), (0, u "java/lang/Comparable"), (0, .class_ 1111), (0, u "java/lang/constant/Constable"), (0, .class_ 1113), (0, u "java/lang/constant/ConstantDesc"), (2, u "serialVersionUID"), (0, u "J"), (3, u "REPL"), (0, u "C"), (2, u "LATIN1"), (1, u "UTF16"), (105, u "(Ljava/lang/StringBuilder;)V"), (11, u "(Ljava/nio/charset/Charset;)[B")] 205

def k7m0 : Method := { name := "<init>", desc := "()V", sig := { parameters := [], returnType := none }, accessFlags := 1, code := none }
def k7c1 : Code := { maxStack := 5, maxLocals := 2, code := jdk_42_method_3_code, exceptionTable := #[], attributes := #[] }
def k7m1 : Method := { name := "<init>", desc := "([C)V", sig := { parameters := [(.array .char)], returnType := none }, accessFlags := 1, code := some k7c1 }
def k7c2 : Code := { maxStack := 4, maxLocals := 3, code := jdk_42_method_18_code, exceptionTable := #[], attributes := #[] }
def k7m2 : Method := { name := "encode", desc := "(Ljava/nio/charset/Charset;B[B)[B", sig := { parameters := [(.object "java/nio/charset/Charset"), .byte, (.array .byte)], returnType := some (.array .byte) }, accessFlags := 10, code := some k7c2 }
def k7c3 : Code := { maxStack := 5, maxLocals := 9, code := jdk_42_method_46_code, exceptionTable := #[], attributes := #[] }
def k7m3 : Method := { name := "encodeUTF8", desc := "(B[BZ)[B", sig := { parameters := [.byte, (.array .byte), .boolean], returnType := some (.array .byte) }, accessFlags := 10, code := some k7c3 }
def k7c4 : Code := { maxStack := 5, maxLocals := 9, code := jdk_42_method_47_code, exceptionTable := #[], attributes := #[] }
def k7m4 : Method := { name := "encodeUTF8_UTF16", desc := "([BZ)[B", sig := { parameters := [(.array .byte), .boolean], returnType := some (.array .byte) }, accessFlags := 10, code := some k7c4 }
def k7c5 : Code := { maxStack := 3, maxLocals := 2, code := jdk_42_method_53_code, exceptionTable := #[], attributes := #[] }
def k7m5 : Method := { name := "<init>", desc := "(Ljava/lang/StringBuilder;)V", sig := { parameters := [(.object "java/lang/StringBuilder")], returnType := none }, accessFlags := 1, code := some k7c5 }
def k7c6 : Code := { maxStack := 1, maxLocals := 1, code := jdk_42_method_55_code, exceptionTable := #[], attributes := #[] }
def k7m6 : Method := { name := "isEmpty", desc := "()Z", sig := { parameters := [], returnType := some .boolean }, accessFlags := 1, code := some k7c6 }
def k7c7 : Code := { maxStack := 3, maxLocals := 2, code := jdk_42_method_64_code, exceptionTable := #[], attributes := #[] }
def k7m7 : Method := { name := "getBytes", desc := "(Ljava/nio/charset/Charset;)[B", sig := { parameters := [(.object "java/nio/charset/Charset")], returnType := some (.array .byte) }, accessFlags := 1, code := some k7c7 }
def k7c8 : Code := { maxStack := 2, maxLocals := 3, code := jdk_42_method_66_code, exceptionTable := #[], attributes := #[] }
def k7m8 : Method := { name := "equals", desc := "(Ljava/lang/Object;)Z", sig := { parameters := [(.object "java/lang/Object")], returnType := some .boolean }, accessFlags := 1, code := some k7c8 }
def k7c9 : Code := { maxStack := 4, maxLocals := 1, code := jdk_42_method_139_code, exceptionTable := #[], attributes := #[] }
def k7m9 : Method := { name := "valueOf", desc := "(C)Ljava/lang/String;", sig := { parameters := [.char], returnType := some (.object "java/lang/String") }, accessFlags := 9, code := some k7c9 }
def k7c10 : Code := { maxStack := 4, maxLocals := 6, code := jdk_42_method_149_code, exceptionTable := #[], attributes := #[] }
def k7m10 : Method := { name := "<init>", desc := "([CIILjava/lang/Void;)V", sig := { parameters := [(.array .char), .int, .int, (.object "java/lang/Void")], returnType := none }, accessFlags := 2, code := some k7c10 }
def k7c11 : Code := { maxStack := 5, maxLocals := 5, code := jdk_42_method_150_code, exceptionTable := #[], attributes := #[] }
def k7m11 : Method := { name := "<init>", desc := "(Ljava/lang/AbstractStringBuilder;Ljava/lang/Void;)V", sig := { parameters := [(.object "java/lang/AbstractStringBuilder"), (.object "java/lang/Void")], returnType := none }, accessFlags := 0, code := some k7c11 }
def k7c12 : Code := { maxStack := 2, maxLocals := 3, code := jdk_42_method_151_code, exceptionTable := #[], attributes := #[] }
def k7m12 : Method := { name := "<init>", desc := "([BB)V", sig := { parameters := [(.array .byte), .byte], returnType := none }, accessFlags := 0, code := some k7c12 }
def k7c13 : Code := { maxStack := 1, maxLocals := 1, code := jdk_42_method_152_code, exceptionTable := #[], attributes := #[] }
def k7m13 : Method := { name := "coder", desc := "()B", sig := { parameters := [], returnType := some .byte }, accessFlags := 0, code := some k7c13 }
/-- java/lang/String -/
def k7 : Class := { plain "java/lang/String" (some 0) with
  accessFlags := 49
  interfaces := #[2, 3, 4, 5, 6]
  cf := some (fileOf pool7 10 #[.nestMembers #[1103]] #[{ accessFlags := 1, nameIndex := 5, descriptorIndex := 6, attributes := #[] }, { accessFlags := 1, nameIndex := 5, descriptorIndex := 1010, attributes := #[] }, { accessFlags := 10, nameIndex := 317, descriptorIndex := 537, attributes := #[] }, { accessFlags := 10, nameIndex := 254, descriptorIndex := 255, attributes := #[] }, { accessFlags := 10, nameIndex := 475, descriptorIndex := 476, attributes := #[] }, { accessFlags := 1, nameIndex := 5, descriptorIndex := 1233, attributes := #[] }, { accessFlags := 1, nameIndex := 692, descriptorIndex := 142, attributes := #[] }, { accessFlags := 1, nameIndex := 532, descriptorIndex := 1245, attributes := #[] }, { accessFlags := 1, nameIndex := 543, descriptorIndex := 573, attributes := #[] }, { accessFlags := 9, nameIndex := 782, descriptorIndex := 783, attributes := #[] }, { accessFlags := 2, nameIndex := 5, descriptorIndex := 29, attributes := #[] }, { accessFlags := 0, nameIndex := 5, descriptorIndex := 491, attributes := #[] }, { accessFlags := 0, nameIndex := 5, descriptorIndex := 211, attributes := #[] }, { accessFlags := 0, nameIndex := 17, descriptorIndex := 337, attributes := #[] }] 49 2 #[1106, 1108, 575, 1110, 1112] #[{ accessFlags := 18, nameIndex := 13, descriptorIndex := 14, attributes := #[] }, { accessFlags := 18, nameIndex := 17, descriptorIndex := 18, attributes := #[] }, { accessFlags := 2, nameIndex := 21, descriptorIndex := 22, attributes := #[] }, { accessFlags := 2, nameIndex := 25, descriptorIndex := 26, attributes := #[] }, { accessFlags := 26, nameIndex := 1116, descriptorIndex := 1117, attributes := #[] }, { accessFlags := 24, nameIndex := 40, descriptorIndex := 26, attributes := #[] }, { accessFlags := 26, nameIndex := 1101, descriptorIndex := 1102, attributes := #[] }, { accessFlags := 26, nameIndex := 1121, descriptorIndex := 1122, attributes := #[] }, { accessFlags := 25, nameIndex := 599, descriptorIndex := 600, attributes := #[] }, { accessFlags := 24, nameIndex := 1125, descriptorIndex := 18, attributes := #[] }, { accessFlags := 24, nameIndex := 1127, descriptorIndex := 18, attributes := #[] }])
  fields := #[{ name := "value", type := (.array .byte), accessFlags := 18, slot := 0, constantValue := 0 }, { name := "coder", type := .byte, accessFlags := 18, slot := 1, constantValue := 0 }, { name := "hash", type := .int, accessFlags := 2, slot := 2, constantValue := 0 }, { name := "hashIsZero", type := .boolean, accessFlags := 2, slot := 3, constantValue := 0 }, { name := "serialVersionUID", type := .long, accessFlags := 26, slot := 0, constantValue := 0 }, { name := "COMPACT_STRINGS", type := .boolean, accessFlags := 24, slot := 1, constantValue := 0 }, { name := "serialPersistentFields", type := (.array (.object "java/io/ObjectStreamField")), accessFlags := 26, slot := 2, constantValue := 0 }, { name := "REPL", type := .char, accessFlags := 26, slot := 3, constantValue := 0 }, { name := "CASE_INSENSITIVE_ORDER", type := (.object "java/util/Comparator"), accessFlags := 25, slot := 4, constantValue := 0 }, { name := "LATIN1", type := .byte, accessFlags := 24, slot := 5, constantValue := 0 }, { name := "UTF16", type := .byte, accessFlags := 24, slot := 6, constantValue := 0 }]
  methods := #[k7m0, k7m1, k7m2, k7m3, k7m4, k7m5, k7m6, k7m7, k7m8, k7m9, k7m10, k7m11, k7m12, k7m13]
  instanceTypes := #[(.array .byte), .byte, .int, .boolean]
  staticTypes := #[.long, .boolean, (.array (.object "java/io/ObjectStreamField")), .char, (.object "java/util/Comparator"), .byte, .byte]
  resolved := Array.replicate 1451 none
  statics := some 0 }

def pool8 : Array CpInfo := pool [(4, .class_ 6), (1, u "java/lang/Object"), (0, u "<init>"), (0, u "()V"), (5, .class_ 16), (1, u "java/lang/StringLatin1"), (73, u "canEncode"), (14, u "(C)Z"), (15, u "$assertionsDisabled"), (0, u "Z"), (98, .class_ 223), (1, u "java/lang/StringLatin1$LinesSpliterator"), (57, u "equals"), (0, u "([B[B)Z"), (97, u "toBytes"), (1, u "(C)[B"), (7, .class_ 391), (0, u "java/lang/StringLatin1$CharsSpliterator")] 3

def k8m0 : Method := { name := "<init>", desc := "()V", sig := { parameters := [], returnType := none }, accessFlags := 0, code := none }
def k8c1 : Code := { maxStack := 2, maxLocals := 1, code := jdk_43_method_3_code, exceptionTable := #[], attributes := #[] }
def k8m1 : Method := { name := "canEncode", desc := "(C)Z", sig := { parameters := [.char], returnType := some .boolean }, accessFlags := 9, code := some k8c1 }
def k8c2 : Code := { maxStack := 3, maxLocals := 3, code := jdk_43_method_13_code, exceptionTable := #[], attributes := #[] }
def k8m2 : Method := { name := "equals", desc := "([B[B)Z", sig := { parameters := [(.array .byte), (.array .byte)], returnType := some .boolean }, accessFlags := 9, code := some k8c2 }
def k8c3 : Code := { maxStack := 4, maxLocals := 1, code := jdk_43_method_46_code, exceptionTable := #[], attributes := #[] }
def k8m3 : Method := { name := "toBytes", desc := "(C)[B", sig := { parameters := [.char], returnType := some (.array .byte) }, accessFlags := 9, code := some k8c3 }
/-- java/lang/StringLatin1 -/
def k8 : Class := { plain "java/lang/StringLatin1" (some 0) with
  accessFlags := 48
  interfaces := #[]
  cf := some (fileOf pool8 14 #[.nestMembers #[390, 221]] #[{ accessFlags := 0, nameIndex := 7, descriptorIndex := 8, attributes := #[] }, { accessFlags := 9, nameIndex := 90, descriptorIndex := 105, attributes := #[] }, { accessFlags := 9, nameIndex := 281, descriptorIndex := 282, attributes := #[] }, { accessFlags := 9, nameIndex := 380, descriptorIndex := 382, attributes := #[] }] 48 4 #[] #[{ accessFlags := 4120, nameIndex := 121, descriptorIndex := 122, attributes := #[] }])
  fields := #[{ name := "$assertionsDisabled", type := .boolean, accessFlags := 4120, slot := 0, constantValue := 0 }]
  methods := #[k8m0, k8m1, k8m2, k8m3]
  instanceTypes := #[]
  staticTypes := #[.boolean]
  resolved := Array.replicate 395 none
  statics := none }

def pool9 : Array CpInfo := pool [(6, .class_ 8), (1, u "java/lang/Object"), (0, u "<init>"), (0, u "()V"), (0, .methodref 12 13), (0, .class_ 14), (0, .nameAndType 15 16), (0, u "java/lang/StringUTF16"), (0, u "newBytesLength"), (0, u "(I)I"), (3, .integer 1073741823), (23, .fieldref 12 45), (0, .nameAndType 46 47), (0, u "$assertionsDisabled"), (0, u "Z"), (11, .fieldref 12 60), (0, .nameAndType 61 62), (0, u "HI_BYTE_SHIFT"), (0, u "I"), (0, .fieldref 12 64), (0, .nameAndType 65 62), (0, u "LO_BYTE_SHIFT"), (7, u "getChar"), (0, u "([BI)C"), (34, u "newBytesFor"), (0, u "(I)[B"), (0, .methodref 12 112), (0, .nameAndType 113 114), (0, u "putChar"), (0, u "([BII)V"), (0, .methodref 12 116), (0, .nameAndType 117 118), (0, u "compress"), (0, u "([CI[BII)I"), (2, u "toBytes"), (0, u "([CII)[B"), (138, u "coderFromArrayLen"), (0, u "([BI)B"), (106, .class_ 371), (1, u "java/lang/StringUTF16$LinesSpliterator"), (58, u "MAX_LENGTH"), (44, u "(C)[B"), (151, .class_ 628), (0, u "java/lang/StringUTF16$CodePointsSpliterator"), (0, .class_ 630), (0, u "java/lang/StringUTF16$CharsSpliterator")] 4

def k9m0 : Method := { name := "<init>", desc := "()V", sig := { parameters := [], returnType := none }, accessFlags := 0, code := none }
def k9c1 : Code := { maxStack := 1, maxLocals := 1, code := jdk_52_method_2_code, exceptionTable := #[], attributes := #[] }
def k9m1 : Method := { name := "newBytesFor", desc := "(I)[B", sig := { parameters := [.int], returnType := some (.array .byte) }, accessFlags := 9, code := some k9c1 }
def k9c2 : Code := { maxStack := 4, maxLocals := 1, code := jdk_52_method_3_code, exceptionTable := #[], attributes := #[] }
def k9m2 : Method := { name := "newBytesLength", desc := "(I)I", sig := { parameters := [.int], returnType := some .int }, accessFlags := 9, code := some k9c2 }
def k9c3 : Code := { maxStack := 4, maxLocals := 3, code := jdk_52_method_4_code, exceptionTable := #[], attributes := #[] }
def k9m3 : Method := { name := "putChar", desc := "([BII)V", sig := { parameters := [(.array .byte), .int, .int], returnType := none }, accessFlags := 8, code := some k9c3 }
def k9c4 : Code := { maxStack := 3, maxLocals := 2, code := jdk_52_method_5_code, exceptionTable := #[], attributes := #[] }
def k9m4 : Method := { name := "getChar", desc := "([BI)C", sig := { parameters := [(.array .byte), .int], returnType := some .char }, accessFlags := 8, code := some k9c4 }
def k9c5 : Code := { maxStack := 2, maxLocals := 2, code := jdk_52_method_15_code, exceptionTable := #[], attributes := #[] }
def k9m5 : Method := { name := "coderFromArrayLen", desc := "([BI)B", sig := { parameters := [(.array .byte), .int], returnType := some .byte }, accessFlags := 8, code := some k9c5 }
def k9c6 : Code := { maxStack := 5, maxLocals := 6, code := jdk_52_method_16_code, exceptionTable := #[], attributes := #[] }
def k9m6 : Method := { name := "compress", desc := "([CII)[B", sig := { parameters := [(.array .char), .int, .int], returnType := some (.array .byte) }, accessFlags := 9, code := some k9c6 }
def k9c7 : Code := { maxStack := 3, maxLocals := 7, code := jdk_52_method_21_code, exceptionTable := #[], attributes := #[] }
def k9m7 : Method := { name := "compress", desc := "([CI[BII)I", sig := { parameters := [(.array .char), .int, (.array .byte), .int, .int], returnType := some .int }, accessFlags := 9, code := some k9c7 }
def k9c8 : Code := { maxStack := 3, maxLocals := 2, code := jdk_52_method_24_code, exceptionTable := #[], attributes := #[] }
def k9m8 : Method := { name := "toBytes", desc := "(C)[B", sig := { parameters := [.char], returnType := some (.array .byte) }, accessFlags := 9, code := some k9c8 }
/-- java/lang/StringUTF16 -/
def k9 : Class := { plain "java/lang/StringUTF16" (some 0) with
  accessFlags := 48
  interfaces := #[]
  cf := some (fileOf pool9 12 #[.nestMembers #[627, 629, 369]] #[{ accessFlags := 0, nameIndex := 9, descriptorIndex := 10, attributes := #[] }, { accessFlags := 9, nameIndex := 109, descriptorIndex := 110, attributes := #[] }, { accessFlags := 9, nameIndex := 15, descriptorIndex := 16, attributes := #[] }, { accessFlags := 8, nameIndex := 113, descriptorIndex := 114, attributes := #[] }, { accessFlags := 8, nameIndex := 73, descriptorIndex := 74, attributes := #[] }, { accessFlags := 8, nameIndex := 261, descriptorIndex := 262, attributes := #[] }, { accessFlags := 9, nameIndex := 117, descriptorIndex := 122, attributes := #[] }, { accessFlags := 9, nameIndex := 117, descriptorIndex := 118, attributes := #[] }, { accessFlags := 9, nameIndex := 121, descriptorIndex := 475, attributes := #[] }] 48 6 #[] #[{ accessFlags := 26, nameIndex := 61, descriptorIndex := 62, attributes := #[] }, { accessFlags := 26, nameIndex := 65, descriptorIndex := 62, attributes := #[] }, { accessFlags := 24, nameIndex := 430, descriptorIndex := 62, attributes := #[] }, { accessFlags := 4120, nameIndex := 46, descriptorIndex := 47, attributes := #[] }])
  fields := #[{ name := "HI_BYTE_SHIFT", type := .int, accessFlags := 26, slot := 0, constantValue := 0 }, { name := "LO_BYTE_SHIFT", type := .int, accessFlags := 26, slot := 1, constantValue := 0 }, { name := "MAX_LENGTH", type := .int, accessFlags := 24, slot := 2, constantValue := 0 }, { name := "$assertionsDisabled", type := .boolean, accessFlags := 4120, slot := 3, constantValue := 0 }]
  methods := #[k9m0, k9m1, k9m2, k9m3, k9m4, k9m5, k9m6, k9m7, k9m8]
  instanceTypes := #[]
  staticTypes := #[.int, .int, .int, .boolean]
  resolved := Array.replicate 635 none
  statics := some 1 }

def pool10 : Array CpInfo := pool [(2, .class_ 4), (1, u "java/lang/Object"), (0, u "<init>"), (0, u "()V"), (0, .fieldref 8 9), (0, .class_ 10), (0, .nameAndType 11 12), (0, u "java/nio/charset/StandardCharsets"), (0, u "UTF_8"), (0, u "Ljava/nio/charset/Charset;"), (0, .methodref 14 15), (0, .class_ 16), (0, .nameAndType 17 18), (0, u "java/lang/String"), (0, u "getBytes"), (0, u "(Ljava/nio/charset/Charset;)[B"), (0, .class_ 20), (0, u "java/lang/StringBuilder"), (0, .methodref 19 22), (0, .nameAndType 5 23), (0, u "(I)V"), (0, .methodref 25 26), (0, .class_ 27), (0, .nameAndType 28 29), (0, u "com/example/vigilant_gate/vigilantgate/PercentEncoding"), (0, u "isUnreserved"), (0, u "(I)Z"), (0, .methodref 19 31), (0, .nameAndType 32 33), (0, u "append"), (0, u "(C)Ljava/lang/StringBuilder;"), (0, .fieldref 25 35), (0, .nameAndType 36 37), (0, u "HEX_DIGITS"), (0, u "[C"), (0, .methodref 19 39), (0, .nameAndType 40 41), (0, u "toString"), (0, u "()Ljava/lang/String;"), (8, u "encode"), (0, u "(Ljava/lang/String;)Ljava/lang/String;")] 6

def k10m0 : Method := { name := "<init>", desc := "()V", sig := { parameters := [], returnType := none }, accessFlags := 2, code := none }
def k10c1 : Code := { maxStack := 4, maxLocals := 8, code := prog_12_method_2_code, exceptionTable := #[], attributes := #[] }
def k10m1 : Method := { name := "encode", desc := "(Ljava/lang/String;)Ljava/lang/String;", sig := { parameters := [(.object "java/lang/String")], returnType := some (.object "java/lang/String") }, accessFlags := 8, code := some k10c1 }
def k10c2 : Code := { maxStack := 2, maxLocals := 1, code := prog_12_method_3_code, exceptionTable := #[], attributes := #[] }
def k10m2 : Method := { name := "isUnreserved", desc := "(I)Z", sig := { parameters := [.int], returnType := some .boolean }, accessFlags := 10, code := some k10c2 }
/-- com/example/vigilant_gate/vigilantgate/PercentEncoding -/
def k10 : Class := { plain "com/example/vigilant_gate/vigilantgate/PercentEncoding" (some 0) with
  accessFlags := 32
  interfaces := #[]
  cf := some (fileOf pool10 25 #[] #[{ accessFlags := 2, nameIndex := 5, descriptorIndex := 6, attributes := #[] }, { accessFlags := 8, nameIndex := 50, descriptorIndex := 51, attributes := #[] }, { accessFlags := 10, nameIndex := 28, descriptorIndex := 29, attributes := #[] }] 32 2 #[] #[{ accessFlags := 26, nameIndex := 36, descriptorIndex := 37, attributes := #[] }])
  fields := #[{ name := "HEX_DIGITS", type := (.array .char), accessFlags := 26, slot := 0, constantValue := 0 }]
  methods := #[k10m0, k10m1, k10m2]
  instanceTypes := #[]
  staticTypes := #[(.array .char)]
  resolved := Array.replicate 58 none
  statics := some 2 }

def pool11 : Array CpInfo := pool [(2, .class_ 4), (1, u "java/lang/Object"), (0, u "<init>"), (0, u "()V"), (14, .class_ 23), (1, u "java/nio/charset/StandardCharsets"), (0, u "US_ASCII"), (0, u "Ljava/nio/charset/Charset;"), (7, u "ISO_8859_1"), (7, u "UTF_8"), (5, u "UTF_16BE"), (5, u "UTF_16LE"), (5, u "UTF_16")] 8

def k11m0 : Method := { name := "<init>", desc := "()V", sig := { parameters := [], returnType := none }, accessFlags := 2, code := none }
/-- java/nio/charset/StandardCharsets -/
def k11 : Class := { plain "java/nio/charset/StandardCharsets" (some 0) with
  accessFlags := 49
  interfaces := #[]
  cf := some (fileOf pool11 21 #[] #[{ accessFlags := 2, nameIndex := 5, descriptorIndex := 6, attributes := #[] }] 49 2 #[] #[{ accessFlags := 25, nameIndex := 24, descriptorIndex := 25, attributes := #[] }, { accessFlags := 25, nameIndex := 33, descriptorIndex := 25, attributes := #[] }, { accessFlags := 25, nameIndex := 41, descriptorIndex := 25, attributes := #[] }, { accessFlags := 25, nameIndex := 47, descriptorIndex := 25, attributes := #[] }, { accessFlags := 25, nameIndex := 53, descriptorIndex := 25, attributes := #[] }, { accessFlags := 25, nameIndex := 59, descriptorIndex := 25, attributes := #[] }])
  fields := #[{ name := "US_ASCII", type := (.object "java/nio/charset/Charset"), accessFlags := 25, slot := 0, constantValue := 0 }, { name := "ISO_8859_1", type := (.object "java/nio/charset/Charset"), accessFlags := 25, slot := 1, constantValue := 0 }, { name := "UTF_8", type := (.object "java/nio/charset/Charset"), accessFlags := 25, slot := 2, constantValue := 0 }, { name := "UTF_16BE", type := (.object "java/nio/charset/Charset"), accessFlags := 25, slot := 3, constantValue := 0 }, { name := "UTF_16LE", type := (.object "java/nio/charset/Charset"), accessFlags := 25, slot := 4, constantValue := 0 }, { name := "UTF_16", type := (.object "java/nio/charset/Charset"), accessFlags := 25, slot := 5, constantValue := 0 }]
  methods := #[k11m0]
  instanceTypes := #[]
  staticTypes := #[(.object "java/nio/charset/Charset"), (.object "java/nio/charset/Charset"), (.object "java/nio/charset/Charset"), (.object "java/nio/charset/Charset"), (.object "java/nio/charset/Charset"), (.object "java/nio/charset/Charset")]
  resolved := Array.replicate 68 none
  statics := some 3 }

def pool12 : Array CpInfo := pool [(18, .class_ 20), (1, u "java/nio/charset/Charset"), (0, u "cache1"), (0, u "[Ljava/lang/Object;"), (2, u "cache2"), (0, .class_ 27), (0, u "java/lang/Object"), (0, .class_ 29), (0, u "java/nio/charset/Charset$1"), (4, .class_ 36), (1, u "java/nio/charset/Charset$ThreadTrackHolder"), (21, .class_ 59), (0, u "java/nio/charset/Charset$2"), (11, .class_ 73), (1, u "java/nio/charset/Charset$ExtendedProviderHolder"), (22, u "standardProvider"), (0, u "Ljava/nio/charset/spi/CharsetProvider;"), (29, u "name"), (7, .class_ 136), (0, u "java/nio/charset/Charset$3"), (5, u "defaultCharset"), (0, u "Ljava/nio/charset/Charset;"), (14, u "zeroAliases"), (0, u "[Ljava/lang/String;"), (29, u "Ljava/lang/String;"), (2, u "aliases"), (2, u "aliasSet"), (0, u "Ljava/util/Set;"), (82, .class_ 280), (0, u "java/lang/Comparable"), (84, .class_ 366), (0, u "java/nio/charset/Charset$ExtendedProviderHolder$1")] 3

/-- java/nio/charset/Charset -/
def k12 : Class := { plain "java/nio/charset/Charset" (some 0) with
  accessFlags := 1057
  interfaces := #[3]
  cf := some (fileOf pool12 18 #[.nestMembers #[71, 365, 34, 135, 58, 28]] #[] 1057 26 #[279] #[{ accessFlags := 26, nameIndex := 96, descriptorIndex := 97, attributes := #[] }, { accessFlags := 26, nameIndex := 158, descriptorIndex := 159, attributes := #[] }, { accessFlags := 74, nameIndex := 21, descriptorIndex := 22, attributes := #[] }, { accessFlags := 74, nameIndex := 25, descriptorIndex := 22, attributes := #[] }, { accessFlags := 10, nameIndex := 142, descriptorIndex := 143, attributes := #[] }, { accessFlags := 18, nameIndex := 127, descriptorIndex := 189, attributes := #[] }, { accessFlags := 18, nameIndex := 192, descriptorIndex := 159, attributes := #[] }, { accessFlags := 2, nameIndex := 195, descriptorIndex := 196, attributes := #[] }])
  fields := #[{ name := "standardProvider", type := (.object "java/nio/charset/spi/CharsetProvider"), accessFlags := 26, slot := 0, constantValue := 0 }, { name := "zeroAliases", type := (.array (.object "java/lang/String")), accessFlags := 26, slot := 1, constantValue := 0 }, { name := "cache1", type := (.array (.object "java/lang/Object")), accessFlags := 74, slot := 2, constantValue := 0 }, { name := "cache2", type := (.array (.object "java/lang/Object")), accessFlags := 74, slot := 3, constantValue := 0 }, { name := "defaultCharset", type := (.object "java/nio/charset/Charset"), accessFlags := 10, slot := 4, constantValue := 0 }, { name := "name", type := (.object "java/lang/String"), accessFlags := 18, slot := 0, constantValue := 0 }, { name := "aliases", type := (.array (.object "java/lang/String")), accessFlags := 18, slot := 1, constantValue := 0 }, { name := "aliasSet", type := (.object "java/util/Set"), accessFlags := 2, slot := 2, constantValue := 0 }]
  methods := #[]
  instanceTypes := #[(.object "java/lang/String"), (.array (.object "java/lang/String")), (.object "java/util/Set")]
  staticTypes := #[(.object "java/nio/charset/spi/CharsetProvider"), (.array (.object "java/lang/String")), (.array (.object "java/lang/Object")), (.array (.object "java/lang/Object")), (.object "java/nio/charset/Charset")]
  resolved := Array.replicate 370 none
  statics := none }

def pool13 : Array CpInfo := pool [(1, .class_ 2), (0, u "sun/nio/cs/HistoricallyNamedCharset"), (0, .class_ 4), (0, u "java/lang/Object")] 4

/-- sun/nio/cs/HistoricallyNamedCharset -/
def k13 : Class := { plain "sun/nio/cs/HistoricallyNamedCharset" (some 0) with
  accessFlags := 1537
  interfaces := #[]
  cf := some (fileOf pool13 1 #[] #[] 1537 3 #[] #[])
  fields := #[]
  methods := #[]
  instanceTypes := #[]
  staticTypes := #[]
  resolved := Array.replicate 9 none
  statics := none }

def pool14 : Array CpInfo := pool [(2, .class_ 4), (1, u "java/nio/charset/Charset"), (130, .class_ 136), (0, u "sun/nio/cs/Unicode"), (0, .class_ 138), (0, u "sun/nio/cs/HistoricallyNamedCharset")] 15

/-- sun/nio/cs/Unicode -/
def k14 : Class := { plain "sun/nio/cs/Unicode" (some 12) with
  accessFlags := 1056
  interfaces := #[13]
  cf := some (fileOf pool14 135 #[] #[] 1056 2 #[137] #[])
  fields := #[]
  methods := #[]
  instanceTypes := #[(.object "java/lang/String"), (.array (.object "java/lang/String")), (.object "java/util/Set")]
  staticTypes := #[]
  resolved := Array.replicate 154 none
  statics := none }

def pool15 : Array CpInfo := pool [(10, .class_ 12), (1, u "sun/nio/cs/Unicode"), (0, u "<init>"), (3, .class_ 18), (0, u "sun/nio/cs/UTF_8$Decoder"), (3, .class_ 23), (0, u "sun/nio/cs/UTF_8$Encoder"), (15, .class_ 40), (0, u "sun/nio/cs/UTF_8"), (2, u "()V"), (2, u "INSTANCE"), (0, u "Lsun/nio/cs/UTF_8;"), (8, u "JLA"), (0, u "Ljdk/internal/access/JavaLangAccess;")] 26

def k15m0 : Method := { name := "<init>", desc := "()V", sig := { parameters := [], returnType := none }, accessFlags := 1, code := none }
/-- sun/nio/cs/UTF_8 -/
def k15 : Class := { plain "sun/nio/cs/UTF_8" (some 14) with
  accessFlags := 49
  interfaces := #[]
  cf := some (fileOf pool15 39 #[.nestMembers #[22, 17]] #[{ accessFlags := 1, nameIndex := 13, descriptorIndex := 43, attributes := #[] }] 49 10 #[] #[{ accessFlags := 25, nameIndex := 46, descriptorIndex := 47, attributes := #[] }, { accessFlags := 26, nameIndex := 56, descriptorIndex := 57, attributes := #[] }])
  fields := #[{ name := "INSTANCE", type := (.object "sun/nio/cs/UTF_8"), accessFlags := 25, slot := 0, constantValue := 0 }, { name := "JLA", type := (.object "jdk/internal/access/JavaLangAccess"), accessFlags := 26, slot := 1, constantValue := 0 }]
  methods := #[k15m0]
  instanceTypes := #[(.object "java/lang/String"), (.array (.object "java/lang/String")), (.object "java/util/Set")]
  staticTypes := #[(.object "sun/nio/cs/UTF_8"), (.object "jdk/internal/access/JavaLangAccess")]
  resolved := Array.replicate 84 none
  statics := some 4 }

def pool16 : Array CpInfo := pool [(2, .class_ 4), (1, u "java/lang/Object"), (0, u "<init>"), (0, u "()V"), (0, .methodref 8 9), (0, .class_ 10), (0, .nameAndType 11 12), (0, u "java/lang/StringCoding"), (0, u "countPositives"), (0, u "([BII)I"), (11, u "hasNegatives"), (0, u "([BII)Z")] 23

def k16m0 : Method := { name := "<init>", desc := "()V", sig := { parameters := [], returnType := none }, accessFlags := 2, code := none }
def k16c1 : Code := { maxStack := 3, maxLocals := 3, code := jdk_123_method_2_code, exceptionTable := #[], attributes := #[] }
def k16m1 : Method := { name := "hasNegatives", desc := "([BII)Z", sig := { parameters := [(.array .byte), .int, .int], returnType := some .boolean }, accessFlags := 9, code := some k16c1 }
def k16c2 : Code := { maxStack := 2, maxLocals := 5, code := jdk_123_method_3_code, exceptionTable := #[], attributes := #[] }
def k16m2 : Method := { name := "countPositives", desc := "([BII)I", sig := { parameters := [(.array .byte), .int, .int], returnType := some .int }, accessFlags := 9, code := some k16c2 }
/-- java/lang/StringCoding -/
def k16 : Class := { plain "java/lang/StringCoding" (some 0) with
  accessFlags := 32
  interfaces := #[]
  cf := some (fileOf pool16 8 #[] #[{ accessFlags := 2, nameIndex := 5, descriptorIndex := 6, attributes := #[] }, { accessFlags := 9, nameIndex := 24, descriptorIndex := 25, attributes := #[] }, { accessFlags := 9, nameIndex := 11, descriptorIndex := 12, attributes := #[] }] 32 2 #[] #[])
  fields := #[]
  methods := #[k16m0, k16m1, k16m2]
  instanceTypes := #[]
  staticTypes := #[]
  resolved := Array.replicate 49 none
  statics := none }

def pool17 : Array CpInfo := pool [(1, .class_ 2), (0, u "java/lang/Cloneable"), (0, .class_ 4), (0, u "java/lang/Object")] 2

/-- java/lang/Cloneable -/
def k17 : Class := { plain "java/lang/Cloneable" (some 0) with
  accessFlags := 1537
  interfaces := #[]
  cf := some (fileOf pool17 1 #[] #[] 1537 3 #[] #[])
  fields := #[]
  methods := #[]
  instanceTypes := #[]
  staticTypes := #[]
  resolved := Array.replicate 7 none
  statics := none }

def pool18 : Array CpInfo := pool [(1, .class_ 2), (0, u "java/lang/Appendable"), (0, .class_ 4), (0, u "java/lang/Object")] 9

/-- java/lang/Appendable -/
def k18 : Class := { plain "java/lang/Appendable" (some 0) with
  accessFlags := 1537
  interfaces := #[]
  cf := some (fileOf pool18 1 #[] #[] 1537 3 #[] #[])
  fields := #[]
  methods := #[]
  instanceTypes := #[]
  staticTypes := #[]
  resolved := Array.replicate 14 none
  statics := none }

def pool19 : Array CpInfo := pool [(1, .class_ 2), (0, u "java/lang/String"), (0, .methodref 4 5), (0, .class_ 6), (0, .nameAndType 7 8), (0, u "java/lang/Object"), (0, u "<init>"), (0, u "()V"), (1, .class_ 12), (1, u "java/lang/AbstractStringBuilder"), (0, u "EMPTYVALUE"), (0, u "[B"), (0, .fieldref 10 16), (0, .nameAndType 17 14), (0, u "value"), (0, .fieldref 1 19), (0, .nameAndType 20 21), (0, u "COMPACT_STRINGS"), (0, u "Z"), (0, .fieldref 10 23), (0, .nameAndType 24 25), (0, u "coder"), (0, u "B"), (8, u "length"), (0, u "()I"), (3, .integer 2147483647), (5, u "append"), (2, .class_ 49), (0, u "java/lang/CharSequence"), (25, u "maybeLatin1"), (3, .fieldref 10 80), (0, .nameAndType 81 82), (0, u "count"), (0, u "I"), (0, .methodref 10 84), (0, .nameAndType 85 86), (0, u "isLatin1"), (0, u "()Z"), (1, .class_ 90), (1, u "java/lang/StringLatin1"), (9, .methodref 10 101), (0, .nameAndType 102 103), (0, u "ensureCapacityInternal"), (0, u "(I)V"), (0, .methodref 10 105), (0, .nameAndType 106 107), (0, u "newCapacity"), (0, u "(I)I"), (0, .methodref 109 110), (0, .class_ 111), (0, .nameAndType 112 113), (0, u "java/util/Arrays"), (0, u "copyOf"), (0, u "([BI)[B"), (0, .methodref 115 116), (0, .class_ 117), (0, .nameAndType 118 119), (0, u "jdk/internal/util/ArraysSupport"), (0, u "newLength"), (0, u "(III)I"), (71, .methodref 88 192), (0, .nameAndType 193 194), (0, u "canEncode"), (0, u "(C)Z"), (97, u "(C)Ljava/lang/AbstractStringBuilder;"), (110, u "()[B"), (40, .class_ 445), (0, u "java/lang/Appendable"), (106, u "getValue")] 56

def k19m0 : Method := { name := "<init>", desc := "()V", sig := { parameters := [], returnType := none }, accessFlags := 0, code := none }
def k19c1 : Code := { maxStack := 2, maxLocals := 2, code := jdk_68_method_2_code, exceptionTable := #[], attributes := #[] }
def k19m1 : Method := { name := "<init>", desc := "(I)V", sig := { parameters := [.int], returnType := none }, accessFlags := 0, code := some k19c1 }
def k19c2 : Code := { maxStack := 1, maxLocals := 1, code := jdk_68_method_6_code, exceptionTable := #[], attributes := #[] }
def k19m2 : Method := { name := "length", desc := "()I", sig := { parameters := [], returnType := some .int }, accessFlags := 1, code := some k19c2 }
def k19c3 : Code := { maxStack := 4, maxLocals := 3, code := jdk_68_method_9_code, exceptionTable := #[], attributes := #[] }
def k19m3 : Method := { name := "ensureCapacityInternal", desc := "(I)V", sig := { parameters := [.int], returnType := none }, accessFlags := 2, code := some k19c3 }
def k19c4 : Code := { maxStack := 5, maxLocals := 6, code := jdk_68_method_10_code, exceptionTable := #[], attributes := #[] }
def k19m4 : Method := { name := "newCapacity", desc := "(I)I", sig := { parameters := [.int], returnType := some .int }, accessFlags := 2, code := some k19c4 }
def k19c5 : Code := { maxStack := 5, maxLocals := 2, code := jdk_68_method_31_code, exceptionTable := #[], attributes := #[] }
def k19m5 : Method := { name := "append", desc := "(C)Ljava/lang/AbstractStringBuilder;", sig := { parameters := [.char], returnType := some (.object "java/lang/AbstractStringBuilder") }, accessFlags := 1, code := some k19c5 }
def k19c6 : Code := { maxStack := 1, maxLocals := 1, code := jdk_68_method_64_code, exceptionTable := #[], attributes := #[] }
def k19m6 : Method := { name := "getValue", desc := "()[B", sig := { parameters := [], returnType := some (.array .byte) }, accessFlags := 16, code := some k19c6 }
def k19c7 : Code := { maxStack := 1, maxLocals := 1, code := jdk_68_method_68_code, exceptionTable := #[], attributes := #[] }
def k19m7 : Method := { name := "isLatin1", desc := "()Z", sig := { parameters := [], returnType := some .boolean }, accessFlags := 16, code := some k19c7 }
/-- java/lang/AbstractStringBuilder -/
def k19 : Class := { plain "java/lang/AbstractStringBuilder" (some 0) with
  accessFlags := 1056
  interfaces := #[18, 4]
  cf := some (fileOf pool19 10 #[] #[{ accessFlags := 0, nameIndex := 7, descriptorIndex := 8, attributes := #[] }, { accessFlags := 0, nameIndex := 7, descriptorIndex := 103, attributes := #[] }, { accessFlags := 1, nameIndex := 34, descriptorIndex := 35, attributes := #[] }, { accessFlags := 2, nameIndex := 102, descriptorIndex := 103, attributes := #[] }, { accessFlags := 2, nameIndex := 106, descriptorIndex := 107, attributes := #[] }, { accessFlags := 1, nameIndex := 45, descriptorIndex := 292, attributes := #[] }, { accessFlags := 16, nameIndex := 552, descriptorIndex := 403, attributes := #[] }, { accessFlags := 16, nameIndex := 85, descriptorIndex := 86, attributes := #[] }] 1056 4 #[444, 48] #[{ accessFlags := 0, nameIndex := 17, descriptorIndex := 14, attributes := #[] }, { accessFlags := 0, nameIndex := 24, descriptorIndex := 25, attributes := #[] }, { accessFlags := 0, nameIndex := 75, descriptorIndex := 21, attributes := #[] }, { accessFlags := 0, nameIndex := 81, descriptorIndex := 82, attributes := #[] }, { accessFlags := 26, nameIndex := 13, descriptorIndex := 14, attributes := #[] }])
  fields := #[{ name := "value", type := (.array .byte), accessFlags := 0, slot := 0, constantValue := 0 }, { name := "coder", type := .byte, accessFlags := 0, slot := 1, constantValue := 0 }, { name := "maybeLatin1", type := .boolean, accessFlags := 0, slot := 2, constantValue := 0 }, { name := "count", type := .int, accessFlags := 0, slot := 3, constantValue := 0 }, { name := "EMPTYVALUE", type := (.array .byte), accessFlags := 26, slot := 0, constantValue := 0 }]
  methods := #[k19m0, k19m1, k19m2, k19m3, k19m4, k19m5, k19m6, k19m7]
  instanceTypes := #[(.array .byte), .byte, .boolean, .int]
  staticTypes := #[(.array .byte)]
  resolved := Array.replicate 609 none
  statics := none }

def pool20 : Array CpInfo := pool [(1, .methodref 2 3), (0, .class_ 4), (0, .nameAndType 5 6), (0, u "java/lang/AbstractStringBuilder"), (0, u "<init>"), (0, u "(I)V"), (11, .class_ 20), (1, u "java/lang/String"), (3, .class_ 26), (1, u "java/lang/StringBuilder"), (0, u "append"), (22, .methodref 2 51), (0, .nameAndType 27 52), (0, u "(C)Ljava/lang/AbstractStringBuilder;"), (84, .methodref 18 138), (0, .nameAndType 5 139), (0, u "(Ljava/lang/StringBuilder;)V"), (5, u "()V"), (10, u "()I"), (129, u "(C)Ljava/lang/StringBuilder;"), (56, .methodref 2 344), (0, .nameAndType 345 156), (0, u "length"), (3, .class_ 350), (0, u "java/lang/Appendable"), (0, .class_ 352), (0, u "java/io/Serializable"), (0, .class_ 354), (0, u "java/lang/Comparable"), (0, .class_ 356), (0, u "java/lang/CharSequence"), (0, u "serialVersionUID"), (0, u "J"), (40, u "toString"), (0, u "()Ljava/lang/String;")] 21

def k20m0 : Method := { name := "<init>", desc := "()V", sig := { parameters := [], returnType := none }, accessFlags := 1, code := none }
def k20c1 : Code := { maxStack := 2, maxLocals := 2, code := jdk_67_method_2_code, exceptionTable := #[], attributes := #[] }
def k20m1 : Method := { name := "<init>", desc := "(I)V", sig := { parameters := [.int], returnType := none }, accessFlags := 1, code := some k20c1 }
def k20c2 : Code := { maxStack := 2, maxLocals := 2, code := jdk_67_method_14_code, exceptionTable := #[], attributes := #[] }
def k20m2 : Method := { name := "append", desc := "(C)Ljava/lang/StringBuilder;", sig := { parameters := [.char], returnType := some (.object "java/lang/StringBuilder") }, accessFlags := 1, code := some k20c2 }
def k20c3 : Code := { maxStack := 3, maxLocals := 1, code := jdk_67_method_42_code, exceptionTable := #[], attributes := #[] }
def k20m3 : Method := { name := "toString", desc := "()Ljava/lang/String;", sig := { parameters := [], returnType := some (.object "java/lang/String") }, accessFlags := 1, code := some k20c3 }
def k20c4 : Code := { maxStack := 1, maxLocals := 1, code := jdk_67_method_93_code, exceptionTable := #[], attributes := #[] }
def k20m4 : Method := { name := "length", desc := "()I", sig := { parameters := [], returnType := some .int }, accessFlags := 4161, code := some k20c4 }
/-- java/lang/StringBuilder -/
def k20 : Class := { plain "java/lang/StringBuilder" (some 19) with
  accessFlags := 49
  interfaces := #[18, 2, 3, 4]
  cf := some (fileOf pool20 24 #[] #[{ accessFlags := 1, nameIndex := 5, descriptorIndex := 145, attributes := #[] }, { accessFlags := 1, nameIndex := 5, descriptorIndex := 6, attributes := #[] }, { accessFlags := 1, nameIndex := 27, descriptorIndex := 286, attributes := #[] }, { accessFlags := 1, nameIndex := 399, descriptorIndex := 400, attributes := #[] }, { accessFlags := 4161, nameIndex := 345, descriptorIndex := 156, attributes := #[] }] 49 2 #[349, 351, 353, 355] #[{ accessFlags := 24, nameIndex := 357, descriptorIndex := 358, attributes := #[] }])
  fields := #[{ name := "serialVersionUID", type := .long, accessFlags := 24, slot := 0, constantValue := 0 }]
  methods := #[k20m0, k20m1, k20m2, k20m3, k20m4]
  instanceTypes := #[(.array .byte), .byte, .boolean, .int]
  staticTypes := #[.long]
  resolved := Array.replicate 422 none
  statics := none }

def pool21 : Array CpInfo := pool [(9, u "<init>"), (6, .class_ 18), (1, u "java/lang/Object"), (0, u "()V"), (1, .class_ 23), (1, u "jdk/internal/util/ArraysSupport"), (0, u "LOG2_ARRAY_LONG_INDEX_SCALE"), (0, u "I"), (2, u "U"), (0, u "Ljdk/internal/misc/Unsafe;"), (8, u "BIG_ENDIAN"), (0, u "Z"), (8, u "LOG2_BYTE_BIT_SIZE"), (4, u "LOG2_ARRAY_INT_INDEX_SCALE"), (54, u "JLA"), (0, u "Ljdk/internal/access/JavaLangAccess;"), (11, u "LOG2_ARRAY_BOOLEAN_INDEX_SCALE"), (9, u "LOG2_ARRAY_BYTE_INDEX_SCALE"), (5, u "LOG2_ARRAY_CHAR_INDEX_SCALE"), (5, u "LOG2_ARRAY_SHORT_INDEX_SCALE"), (18, u "LOG2_ARRAY_FLOAT_INDEX_SCALE"), (24, u "LOG2_ARRAY_DOUBLE_INDEX_SCALE"), (6, .methodref 195 196), (0, .class_ 197), (0, .nameAndType 198 199), (0, u "java/lang/Math"), (0, u "max"), (0, u "(II)I"), (0, .integer 2147483639), (76, u "T_BOOLEAN"), (2, u "T_CHAR"), (1, u "T_FLOAT"), (1, u "T_DOUBLE"), (1, u "T_BYTE"), (1, u "T_SHORT"), (1, u "T_INT"), (1, u "T_LONG"), (1, u "SOFT_MAX_ARRAY_LENGTH"), (56, u "newLength"), (0, u "(III)I")] 25

def k21m0 : Method := { name := "<init>", desc := "()V", sig := { parameters := [], returnType := none }, accessFlags := 2, code := none }
def k21c1 : Code := { maxStack := 3, maxLocals := 4, code := jdk_48_method_27_code, exceptionTable := #[], attributes := #[] }
def k21m1 : Method := { name := "newLength", desc := "(III)I", sig := { parameters := [.int, .int, .int], returnType := some .int }, accessFlags := 9, code := some k21c1 }
/-- jdk/internal/util/ArraysSupport -/
def k21 : Class := { plain "jdk/internal/util/ArraysSupport" (some 0) with
  accessFlags := 33
  interfaces := #[]
  cf := some (fileOf pool21 21 #[] #[{ accessFlags := 2, nameIndex := 9, descriptorIndex := 19, attributes := #[] }, { accessFlags := 9, nameIndex := 351, descriptorIndex := 352, attributes := #[] }] 33 16 #[] #[{ accessFlags := 24, nameIndex := 28, descriptorIndex := 29, attributes := #[] }, { accessFlags := 26, nameIndex := 38, descriptorIndex := 39, attributes := #[] }, { accessFlags := 25, nameIndex := 121, descriptorIndex := 25, attributes := #[] }, { accessFlags := 25, nameIndex := 131, descriptorIndex := 25, attributes := #[] }, { accessFlags := 25, nameIndex := 137, descriptorIndex := 25, attributes := #[] }, { accessFlags := 25, nameIndex := 143, descriptorIndex := 25, attributes := #[] }, { accessFlags := 25, nameIndex := 53, descriptorIndex := 25, attributes := #[] }, { accessFlags := 25, nameIndex := 24, descriptorIndex := 25, attributes := #[] }, { accessFlags := 25, nameIndex := 162, descriptorIndex := 25, attributes := #[] }, { accessFlags := 25, nameIndex := 187, descriptorIndex := 25, attributes := #[] }, { accessFlags := 26, nameIndex := 48, descriptorIndex := 25, attributes := #[] }, { accessFlags := 25, nameIndex := 277, descriptorIndex := 25, attributes := #[] }, { accessFlags := 25, nameIndex := 280, descriptorIndex := 25, attributes := #[] }, { accessFlags := 25, nameIndex := 282, descriptorIndex := 25, attributes := #[] }, { accessFlags := 25, nameIndex := 284, descriptorIndex := 25, attributes := #[] }, { accessFlags := 25, nameIndex := 286, descriptorIndex := 25, attributes := #[] }, { accessFlags := 25, nameIndex := 288, descriptorIndex := 25, attributes := #[] }, { accessFlags := 25, nameIndex := 290, descriptorIndex := 25, attributes := #[] }, { accessFlags := 25, nameIndex := 292, descriptorIndex := 25, attributes := #[] }, { accessFlags := 26, nameIndex := 108, descriptorIndex := 109, attributes := #[] }, { accessFlags := 25, nameIndex := 294, descriptorIndex := 25, attributes := #[] }])
  fields := #[{ name := "U", type := (.object "jdk/internal/misc/Unsafe"), accessFlags := 24, slot := 0, constantValue := 0 }, { name := "BIG_ENDIAN", type := .boolean, accessFlags := 26, slot := 1, constantValue := 0 }, { name := "LOG2_ARRAY_BOOLEAN_INDEX_SCALE", type := .int, accessFlags := 25, slot := 2, constantValue := 0 }, { name := "LOG2_ARRAY_BYTE_INDEX_SCALE", type := .int, accessFlags := 25, slot := 3, constantValue := 0 }, { name := "LOG2_ARRAY_CHAR_INDEX_SCALE", type := .int, accessFlags := 25, slot := 4, constantValue := 0 }, { name := "LOG2_ARRAY_SHORT_INDEX_SCALE", type := .int, accessFlags := 25, slot := 5, constantValue := 0 }, { name := "LOG2_ARRAY_INT_INDEX_SCALE", type := .int, accessFlags := 25, slot := 6, constantValue := 0 }, { name := "LOG2_ARRAY_LONG_INDEX_SCALE", type := .int, accessFlags := 25, slot := 7, constantValue := 0 }, { name := "LOG2_ARRAY_FLOAT_INDEX_SCALE", type := .int, accessFlags := 25, slot := 8, constantValue := 0 }, { name := "LOG2_ARRAY_DOUBLE_INDEX_SCALE", type := .int, accessFlags := 25, slot := 9, constantValue := 0 }, { name := "LOG2_BYTE_BIT_SIZE", type := .int, accessFlags := 26, slot := 10, constantValue := 0 }, { name := "T_BOOLEAN", type := .int, accessFlags := 25, slot := 11, constantValue := 0 }, { name := "T_CHAR", type := .int, accessFlags := 25, slot := 12, constantValue := 0 }, { name := "T_FLOAT", type := .int, accessFlags := 25, slot := 13, constantValue := 0 }, { name := "T_DOUBLE", type := .int, accessFlags := 25, slot := 14, constantValue := 0 }, { name := "T_BYTE", type := .int, accessFlags := 25, slot := 15, constantValue := 0 }, { name := "T_SHORT", type := .int, accessFlags := 25, slot := 16, constantValue := 0 }, { name := "T_INT", type := .int, accessFlags := 25, slot := 17, constantValue := 0 }, { name := "T_LONG", type := .int, accessFlags := 25, slot := 18, constantValue := 0 }, { name := "JLA", type := (.object "jdk/internal/access/JavaLangAccess"), accessFlags := 26, slot := 19, constantValue := 0 }, { name := "SOFT_MAX_ARRAY_LENGTH", type := .int, accessFlags := 25, slot := 20, constantValue := 0 }]
  methods := #[k21m0, k21m1]
  instanceTypes := #[]
  staticTypes := #[(.object "jdk/internal/misc/Unsafe"), .boolean, .int, .int, .int, .int, .int, .int, .int, .int, .int, .int, .int, .int, .int, .int, .int, .int, .int, (.object "jdk/internal/access/JavaLangAccess"), .int]
  resolved := Array.replicate 378 none
  statics := none }

def pool22 : Array CpInfo := pool [(1, .class_ 2), (0, u "java/lang/Math"), (1, .class_ 6), (1, u "java/lang/Object"), (0, u "<init>"), (0, u "()V"), (89, .class_ 100), (1, u "java/lang/Math$RandomNumberGeneratorHolder"), (71, u "negativeZeroFloatBits"), (0, u "J"), (2, u "negativeZeroDoubleBits"), (21, u "max"), (2, u "min"), (43, u "$assertionsDisabled"), (0, u "Z"), (88, u "(II)I"), (2, u "twoToTheDoubleScaleDown"), (0, u "D"), (4, u "twoToTheDoubleScaleUp"), (9, u "E"), (3, u "PI"), (2, u "TAU"), (2, u "DEGREES_TO_RADIANS"), (0, u "RADIANS_TO_DEGREES")] 94

def k22m0 : Method := { name := "<init>", desc := "()V", sig := { parameters := [], returnType := none }, accessFlags := 2, code := none }
def k22c1 : Code := { maxStack := 2, maxLocals := 2, code := jdk_29_method_65_code, exceptionTable := #[], attributes := #[] }
def k22m1 : Method := { name := "max", desc := "(II)I", sig := { parameters := [.int, .int], returnType := some .int }, accessFlags := 9, code := some k22c1 }
def k22c2 : Code := { maxStack := 2, maxLocals := 2, code := jdk_29_method_69_code, exceptionTable := #[], attributes := #[] }
def k22m2 : Method := { name := "min", desc := "(II)I", sig := { parameters := [.int, .int], returnType := some .int }, accessFlags := 9, code := some k22c2 }
/-- java/lang/Math -/
def k22 : Class := { plain "java/lang/Math" (some 0) with
  accessFlags := 49
  interfaces := #[]
  cf := some (fileOf pool22 1 #[.nestMembers #[98]] #[{ accessFlags := 2, nameIndex := 7, descriptorIndex := 8, attributes := #[] }, { accessFlags := 9, nameIndex := 198, descriptorIndex := 335, attributes := #[] }, { accessFlags := 9, nameIndex := 201, descriptorIndex := 335, attributes := #[] }] 49 4 #[] #[{ accessFlags := 25, nameIndex := 354, descriptorIndex := 339, attributes := #[] }, { accessFlags := 25, nameIndex := 358, descriptorIndex := 339, attributes := #[] }, { accessFlags := 25, nameIndex := 361, descriptorIndex := 339, attributes := #[] }, { accessFlags := 26, nameIndex := 364, descriptorIndex := 339, attributes := #[] }, { accessFlags := 26, nameIndex := 365, descriptorIndex := 339, attributes := #[] }, { accessFlags := 26, nameIndex := 172, descriptorIndex := 173, attributes := #[] }, { accessFlags := 26, nameIndex := 176, descriptorIndex := 173, attributes := #[] }, { accessFlags := 8, nameIndex := 344, descriptorIndex := 339, attributes := #[] }, { accessFlags := 8, nameIndex := 338, descriptorIndex := 339, attributes := #[] }, { accessFlags := 4120, nameIndex := 245, descriptorIndex := 246, attributes := #[] }])
  fields := #[{ name := "E", type := .double, accessFlags := 25, slot := 0, constantValue := 0 }, { name := "PI", type := .double, accessFlags := 25, slot := 1, constantValue := 0 }, { name := "TAU", type := .double, accessFlags := 25, slot := 2, constantValue := 0 }, { name := "DEGREES_TO_RADIANS", type := .double, accessFlags := 26, slot := 3, constantValue := 0 }, { name := "RADIANS_TO_DEGREES", type := .double, accessFlags := 26, slot := 4, constantValue := 0 }, { name := "negativeZeroFloatBits", type := .long, accessFlags := 26, slot := 5, constantValue := 0 }, { name := "negativeZeroDoubleBits", type := .long, accessFlags := 26, slot := 6, constantValue := 0 }, { name := "twoToTheDoubleScaleUp", type := .double, accessFlags := 8, slot := 7, constantValue := 0 }, { name := "twoToTheDoubleScaleDown", type := .double, accessFlags := 8, slot := 8, constantValue := 0 }, { name := "$assertionsDisabled", type := .boolean, accessFlags := 4120, slot := 9, constantValue := 0 }]
  methods := #[k22m0, k22m1, k22m2]
  instanceTypes := #[]
  staticTypes := #[.double, .double, .double, .double, .double, .long, .long, .double, .double, .boolean]
  resolved := Array.replicate 460 none
  statics := none }

def pool23 : Array CpInfo := pool [(2, .class_ 4), (1, u "java/lang/Object"), (0, u "<init>"), (0, u "()V"), (7, .class_ 16), (1, u "java/util/Arrays"), (57, .class_ 76), (1, u "java/util/Arrays$NaturalOrder"), (32, u "()Ljava/lang/Object;"), (3, .class_ 115), (1, u "java/util/Arrays$LegacyMergeSort"), (1, u "Z"), (10, .nameAndType 129 109), (0, u "clone"), (9, u "copyOfRange"), (10, .methodref 151 152), (0, .class_ 153), (0, .nameAndType 154 155), (0, u "java/lang/System"), (0, u "arraycopy"), (0, u "(Ljava/lang/Object;ILjava/lang/Object;II)V"), (146, u "copyOf"), (1, .methodref 305 306), (0, .class_ 307), (0, .nameAndType 308 309), (0, u "java/lang/Math"), (0, u "min"), (0, u "(II)I"), (0, .methodref 311 128), (0, .class_ 312), (0, u "[B"), (26, .methodref 14 340), (0, .nameAndType 341 342), (0, u "copyOfRangeByte"), (0, u "([BII)[B"), (0, .methodref 14 344), (0, .nameAndType 345 346), (0, u "checkLength"), (0, u "(II)V"), (28, .class_ 376), (0, u "java/util/Arrays$ArrayList"), (68, u "$assertionsDisabled"), (269, u "MIN_ARRAY_SORT_GRAN"), (0, u "I"), (2, u "INSERTIONSORT_THRESHOLD"), (149, u "([BI)[B"), (105, .class_ 976), (0, u "java/util/Arrays$ArrayItr")] 52

def k23m0 : Method := { name := "<init>", desc := "()V", sig := { parameters := [], returnType := none }, accessFlags := 2, code := none }
def k23c1 : Code := { maxStack := 6, maxLocals := 3, code := jdk_65_method_121_code, exceptionTable := #[], attributes := #[] }
def k23m1 : Method := { name := "copyOf", desc := "([BI)[B", sig := { parameters := [(.array .byte), .int], returnType := some (.array .byte) }, accessFlags := 9, code := some k23c1 }
def k23c2 : Code := { maxStack := 4, maxLocals := 2, code := jdk_65_method_131_code, exceptionTable := #[], attributes := #[] }
def k23m2 : Method := { name := "checkLength", desc := "(II)V", sig := { parameters := [.int, .int], returnType := none }, accessFlags := 10, code := some k23c2 }
def k23c3 : Code := { maxStack := 3, maxLocals := 3, code := jdk_65_method_132_code, exceptionTable := #[], attributes := #[] }
def k23m3 : Method := { name := "copyOfRange", desc := "([BII)[B", sig := { parameters := [(.array .byte), .int, .int], returnType := some (.array .byte) }, accessFlags := 9, code := some k23c3 }
def k23c4 : Code := { maxStack := 6, maxLocals := 5, code := jdk_65_method_133_code, exceptionTable := #[], attributes := #[] }
def k23m4 : Method := { name := "copyOfRangeByte", desc := "([BII)[B", sig := { parameters := [(.array .byte), .int, .int], returnType := some (.array .byte) }, accessFlags := 10, code := some k23c4 }
/-- java/util/Arrays -/
def k23 : Class := { plain "java/util/Arrays" (some 0) with
  accessFlags := 49
  interfaces := #[]
  cf := some (fileOf pool23 14 #[.nestMembers #[975, 375, 113, 74]] #[{ accessFlags := 2, nameIndex := 5, descriptorIndex := 6, attributes := #[] }, { accessFlags := 9, nameIndex := 302, descriptorIndex := 869, attributes := #[] }, { accessFlags := 10, nameIndex := 345, descriptorIndex := 346, attributes := #[] }, { accessFlags := 9, nameIndex := 139, descriptorIndex := 342, attributes := #[] }, { accessFlags := 10, nameIndex := 341, descriptorIndex := 342, attributes := #[] }] 49 2 #[] #[{ accessFlags := 26, nameIndex := 715, descriptorIndex := 716, attributes := #[] }, { accessFlags := 26, nameIndex := 719, descriptorIndex := 716, attributes := #[] }, { accessFlags := 4120, nameIndex := 445, descriptorIndex := 117, attributes := #[] }])
  fields := #[{ name := "MIN_ARRAY_SORT_GRAN", type := .int, accessFlags := 26, slot := 0, constantValue := 0 }, { name := "INSERTIONSORT_THRESHOLD", type := .int, accessFlags := 26, slot := 1, constantValue := 0 }, { name := "$assertionsDisabled", type := .boolean, accessFlags := 4120, slot := 2, constantValue := 0 }]
  methods := #[k23m0, k23m1, k23m2, k23m3, k23m4]
  instanceTypes := #[]
  staticTypes := #[.int, .int, .boolean]
  resolved := Array.replicate 1029 none
  statics := none }

def pool24 : Array CpInfo := pool [(2, .class_ 4), (1, u "java/lang/Object"), (0, u "<init>"), (0, u "()V"), (1, .class_ 10), (1, u "java/lang/System"), (0, u "allowSecurityManager"), (0, u "I"), (16, u "cons"), (0, u "Ljava/io/Console;"), (77, .class_ 110), (1, u "java/lang/System$CallersHolder"), (43, u "initialErrStream"), (0, u "Ljava/io/PrintStream;"), (19, u "security"), (0, u "Ljava/lang/SecurityManager;"), (31, .class_ 209), (0, u "java/lang/System$1"), (7, u "props"), (0, u "Ljava/util/Properties;"), (2, u "lineSeparator"), (0, u "Ljava/lang/String;"), (96, .class_ 321), (1, u "java/lang/System$LoggerFinder"), (5, .class_ 328), (0, u "java/lang/System$Logger"), (67, u "err"), (2, u "out"), (91, u "notSupportedJnuEncoding"), (15, u "in"), (17, u "initialIn"), (0, u "Ljava/io/InputStream;"), (35, u "bootLayer"), (0, u "Ljava/lang/ModuleLayer;"), (99, .class_ 664), (0, u "java/lang/System$2"), (9, u "NEVER"), (2, u "MAYBE"), (49, u "arraycopy"), (0, u "(Ljava/lang/Object;ILjava/lang/Object;II)V"), (72, .class_ 802), (0, u "java/lang/System$Logger$Level")] 31

def k24m0 : Method := { name := "<init>", desc := "()V", sig := { parameters := [], returnType := none }, accessFlags := 2, code := none }
def k24m1 : Method := { name := "arraycopy", desc := "(Ljava/lang/Object;ILjava/lang/Object;II)V", sig := { parameters := [(.object "java/lang/Object"), .int, (.object "java/lang/Object"), .int, .int], returnType := none }, accessFlags := 265, code := none }
/-- java/lang/System -/
def k24 : Class := { plain "java/lang/System" (some 0) with
  accessFlags := 49
  interfaces := #[]
  cf := some (fileOf pool24 8 #[.nestMembers #[319, 327, 801, 108, 663, 208]] #[{ accessFlags := 2, nameIndex := 5, descriptorIndex := 6, attributes := #[] }, { accessFlags := 265, nameIndex := 727, descriptorIndex := 728, attributes := #[] }] 49 2 #[] #[{ accessFlags := 25, nameIndex := 507, descriptorIndex := 526, attributes := #[] }, { accessFlags := 25, nameIndex := 399, descriptorIndex := 155, attributes := #[] }, { accessFlags := 25, nameIndex := 396, descriptorIndex := 155, attributes := #[] }, { accessFlags := 10, nameIndex := 525, descriptorIndex := 526, attributes := #[] }, { accessFlags := 26, nameIndex := 674, descriptorIndex := 12, attributes := #[] }, { accessFlags := 26, nameIndex := 677, descriptorIndex := 12, attributes := #[] }, { accessFlags := 10, nameIndex := 11, descriptorIndex := 12, attributes := #[] }, { accessFlags := 74, nameIndex := 175, descriptorIndex := 176, attributes := #[] }, { accessFlags := 10, nameIndex := 491, descriptorIndex := 222, attributes := #[] }, { accessFlags := 74, nameIndex := 29, descriptorIndex := 30, attributes := #[] }, { accessFlags := 74, nameIndex := 154, descriptorIndex := 155, attributes := #[] }, { accessFlags := 10, nameIndex := 217, descriptorIndex := 218, attributes := #[] }, { accessFlags := 10, nameIndex := 221, descriptorIndex := 222, attributes := #[] }, { accessFlags := 8, nameIndex := 562, descriptorIndex := 563, attributes := #[] }])
  fields := #[{ name := "in", type := (.object "java/io/InputStream"), accessFlags := 25, slot := 0, constantValue := 0 }, { name := "out", type := (.object "java/io/PrintStream"), accessFlags := 25, slot := 1, constantValue := 0 }, { name := "err", type := (.object "java/io/PrintStream"), accessFlags := 25, slot := 2, constantValue := 0 }, { name := "initialIn", type := (.object "java/io/InputStream"), accessFlags := 10, slot := 3, constantValue := 0 }, { name := "NEVER", type := .int, accessFlags := 26, slot := 4, constantValue := 0 }, { name := "MAYBE", type := .int, accessFlags := 26, slot := 5, constantValue := 0 }, { name := "allowSecurityManager", type := .int, accessFlags := 10, slot := 6, constantValue := 0 }, { name := "security", type := (.object "java/lang/SecurityManager"), accessFlags := 74, slot := 7, constantValue := 0 }, { name := "notSupportedJnuEncoding", type := (.object "java/lang/String"), accessFlags := 10, slot := 8, constantValue := 0 }, { name := "cons", type := (.object "java/io/Console"), accessFlags := 74, slot := 9, constantValue := 0 }, { name := "initialErrStream", type := (.object "java/io/PrintStream"), accessFlags := 74, slot := 10, constantValue := 0 }, { name := "props", type := (.object "java/util/Properties"), accessFlags := 10, slot := 11, constantValue := 0 }, { name := "lineSeparator", type := (.object "java/lang/String"), accessFlags := 10, slot := 12, constantValue := 0 }, { name := "bootLayer", type := (.object "java/lang/ModuleLayer"), accessFlags := 8, slot := 13, constantValue := 0 }]
  methods := #[k24m0, k24m1]
  instanceTypes := #[]
  staticTypes := #[(.object "java/io/InputStream"), (.object "java/io/PrintStream"), (.object "java/io/PrintStream"), (.object "java/io/InputStream"), .int, .int, .int, (.object "java/lang/SecurityManager"), (.object "java/lang/String"), (.object "java/io/Console"), (.object "java/io/PrintStream"), (.object "java/util/Properties"), (.object "java/lang/String"), (.object "java/lang/ModuleLayer")]
  resolved := Array.replicate 834 none
  statics := none }

def pool25 : Array CpInfo := pool [(1, .class_ 2), (0, u "java/lang/Character"), (18, u "value"), (0, u "C"), (19, .class_ 44), (1, u "java/lang/Object"), (3, .class_ 50), (1, u "java/lang/Character$CharacterCache"), (24, .integer 55296), (1, .integer 57344), (3, u "(C)Z"), (202, u "$assertionsDisabled"), (0, u "Z"), (21, .class_ 309), (1, u "java/lang/Character$UnicodeBlock"), (73, u "TYPE"), (0, u "Ljava/lang/Class;"), (0, .class_ 386), (0, u "java/io/Serializable"), (0, .class_ 388), (0, u "java/lang/Comparable"), (0, .class_ 390), (0, u "java/lang/constant/Constable"), (0, u "MIN_RADIX"), (0, u "I"), (2, u "MAX_RADIX"), (1, u "MIN_VALUE"), (1, u "MAX_VALUE"), (3, u "UNASSIGNED"), (0, u "B"), (0, u "UPPERCASE_LETTER"), (1, u "LOWERCASE_LETTER"), (0, u "TITLECASE_LETTER"), (1, u "MODIFIER_LETTER"), (1, u "OTHER_LETTER"), (1, u "NON_SPACING_MARK"), (1, u "ENCLOSING_MARK"), (1, u "COMBINING_SPACING_MARK"), (1, u "DECIMAL_DIGIT_NUMBER"), (1, u "LETTER_NUMBER"), (1, u "OTHER_NUMBER"), (1, u "SPACE_SEPARATOR"), (1, u "LINE_SEPARATOR"), (1, u "PARAGRAPH_SEPARATOR"), (1, u "CONTROL"), (1, u "FORMAT"), (1, u "PRIVATE_USE"), (1, u "SURROGATE"), (1, u "DASH_PUNCTUATION"), (1, u "START_PUNCTUATION"), (1, u "END_PUNCTUATION"), (1, u "CONNECTOR_PUNCTUATION"), (1, u "OTHER_PUNCTUATION"), (1, u "MATH_SYMBOL"), (1, u "CURRENCY_SYMBOL"), (1, u "MODIFIER_SYMBOL"), (1, u "OTHER_SYMBOL"), (1, u "INITIAL_QUOTE_PUNCTUATION"), (1, u "FINAL_QUOTE_PUNCTUATION"), (1, u "ERROR"), (1, u "DIRECTIONALITY_UNDEFINED"), (0, u "DIRECTIONALITY_LEFT_TO_RIGHT"), (0, u "DIRECTIONALITY_RIGHT_TO_LEFT"), (0, u "DIRECTIONALITY_RIGHT_TO_LEFT_ARABIC"), (0, u "DIRECTIONALITY_EUROPEAN_NUMBER"), (0, u "DIRECTIONALITY_EUROPEAN_NUMBER_SEPARATOR"), (0, u "DIRECTIONALITY_EUROPEAN_NUMBER_TERMINATOR"), (0, u "DIRECTIONALITY_ARABIC_NUMBER"), (0, u "DIRECTIONALITY_COMMON_NUMBER_SEPARATOR"), (0, u "DIRECTIONALITY_NONSPACING_MARK"), (0, u "DIRECTIONALITY_BOUNDARY_NEUTRAL"), (0, u "DIRECTIONALITY_PARAGRAPH_SEPARATOR"), (0, u "DIRECTIONALITY_SEGMENT_SEPARATOR"), (0, u "DIRECTIONALITY_WHITESPACE"), (0, u "DIRECTIONALITY_OTHER_NEUTRALS"), (0, u "DIRECTIONALITY_LEFT_TO_RIGHT_EMBEDDING"), (0, u "DIRECTIONALITY_LEFT_TO_RIGHT_OVERRIDE"), (0, u "DIRECTIONALITY_RIGHT_TO_LEFT_EMBEDDING"), (0, u "DIRECTIONALITY_RIGHT_TO_LEFT_OVERRIDE"), (1, u "DIRECTIONALITY_POP_DIRECTIONAL_FORMAT"), (0, u "DIRECTIONALITY_LEFT_TO_RIGHT_ISOLATE"), (0, u "DIRECTIONALITY_RIGHT_TO_LEFT_ISOLATE"), (0, u "DIRECTIONALITY_FIRST_STRONG_ISOLATE"), (0, u "DIRECTIONALITY_POP_DIRECTIONAL_ISOLATE"), (0, u "MIN_HIGH_SURROGATE"), (0, u "MAX_HIGH_SURROGATE"), (1, u "MIN_LOW_SURROGATE"), (0, u "MAX_LOW_SURROGATE"), (1, u "MIN_SURROGATE"), (0, u "MAX_SURROGATE"), (0, u "MIN_SUPPLEMENTARY_CODE_POINT"), (0, u "MIN_CODE_POINT"), (0, u "MAX_CODE_POINT"), (1, u "serialVersionUID"), (0, u "J"), (2, u "SIZE"), (0, u "BYTES"), (24, u "isSurrogate"), (63, .class_ 596), (0, u "java/lang/Character$UnicodeScript"), (0, .class_ 598), (0, u "java/lang/Character$Subset")] 5

def k25c0 : Code := { maxStack := 2, maxLocals := 1, code := jdk_89_method_16_code, exceptionTable := #[], attributes := #[] }
def k25m0 : Method := { name := "isSurrogate", desc := "(C)Z", sig := { parameters := [.char], returnType := some .boolean }, accessFlags := 9, code := some k25c0 }
/-- java/lang/Character -/
def k25 : Class := { plain "java/lang/Character" (some 0) with
  accessFlags := 49
  interfaces := #[2, 3, 5]
  cf := some (fileOf pool25 1 #[.nestMembers #[48, 595, 307, 597]] #[{ accessFlags := 9, nameIndex := 531, descriptorIndex := 81, attributes := #[] }] 49 42 #[385, 387, 389] #[{ accessFlags := 25, nameIndex := 391, descriptorIndex := 392, attributes := #[] }, { accessFlags := 25, nameIndex := 395, descriptorIndex := 392, attributes := #[] }, { accessFlags := 25, nameIndex := 397, descriptorIndex := 22, attributes := #[] }, { accessFlags := 25, nameIndex := 399, descriptorIndex := 22, attributes := #[] }, { accessFlags := 25, nameIndex := 383, descriptorIndex := 384, attributes := #[] }, { accessFlags := 25, nameIndex := 403, descriptorIndex := 404, attributes := #[] }, { accessFlags := 25, nameIndex := 405, descriptorIndex := 404, attributes := #[] }, { accessFlags := 25, nameIndex := 407, descriptorIndex := 404, attributes := #[] }, { accessFlags := 25, nameIndex := 408, descriptorIndex := 404, attributes := #[] }, { accessFlags := 25, nameIndex := 410, descriptorIndex := 404, attributes := #[] }, { accessFlags := 25, nameIndex := 412, descriptorIndex := 404, attributes := #[] }, { accessFlags := 25, nameIndex := 414, descriptorIndex := 404, attributes := #[] }, { accessFlags := 25, nameIndex := 416, descriptorIndex := 404, attributes := #[] }, { accessFlags := 25, nameIndex := 418, descriptorIndex := 404, attributes := #[] }, { accessFlags := 25, nameIndex := 420, descriptorIndex := 404, attributes := #[] }, { accessFlags := 25, nameIndex := 422, descriptorIndex := 404, attributes := #[] }, { accessFlags := 25, nameIndex := 424, descriptorIndex := 404, attributes := #[] }, { accessFlags := 25, nameIndex := 426, descriptorIndex := 404, attributes := #[] }, { accessFlags := 25, nameIndex := 428, descriptorIndex := 404, attributes := #[] }, { accessFlags := 25, nameIndex := 430, descriptorIndex := 404, attributes := #[] }, { accessFlags := 25, nameIndex := 432, descriptorIndex := 404, attributes := #[] }, { accessFlags := 25, nameIndex := 434, descriptorIndex := 404, attributes := #[] }, { accessFlags := 25, nameIndex := 436, descriptorIndex := 404, attributes := #[] }, { accessFlags := 25, nameIndex := 438, descriptorIndex := 404, attributes := #[] }, { accessFlags := 25, nameIndex := 440, descriptorIndex := 404, attributes := #[] }, { accessFlags := 25, nameIndex := 442, descriptorIndex := 404, attributes := #[] }, { accessFlags := 25, nameIndex := 444, descriptorIndex := 404, attributes := #[] }, { accessFlags := 25, nameIndex := 446, descriptorIndex := 404, attributes := #[] }, { accessFlags := 25, nameIndex := 448, descriptorIndex := 404, attributes := #[] }, { accessFlags := 25, nameIndex := 450, descriptorIndex := 404, attributes := #[] }, { accessFlags := 25, nameIndex := 452, descriptorIndex := 404, attributes := #[] }, { accessFlags := 25, nameIndex := 454, descriptorIndex := 404, attributes := #[] }, { accessFlags := 25, nameIndex := 456, descriptorIndex := 404, attributes := #[] }, { accessFlags := 25, nameIndex := 458, descriptorIndex := 404, attributes := #[] }, { accessFlags := 25, nameIndex := 460, descriptorIndex := 404, attributes := #[] }, { accessFlags := 24, nameIndex := 462, descriptorIndex := 392, attributes := #[] }, { accessFlags := 25, nameIndex := 464, descriptorIndex := 404, attributes := #[] }, { accessFlags := 25, nameIndex := 465, descriptorIndex := 404, attributes := #[] }, { accessFlags := 25, nameIndex := 466, descriptorIndex := 404, attributes := #[] }, { accessFlags := 25, nameIndex := 467, descriptorIndex := 404, attributes := #[] }, { accessFlags := 25, nameIndex := 468, descriptorIndex := 404, attributes := #[] }, { accessFlags := 25, nameIndex := 469, descriptorIndex := 404, attributes := #[] }, { accessFlags := 25, nameIndex := 470, descriptorIndex := 404, attributes := #[] }, { accessFlags := 25, nameIndex := 471, descriptorIndex := 404, attributes := #[] }, { accessFlags := 25, nameIndex := 472, descriptorIndex := 404, attributes := #[] }, { accessFlags := 25, nameIndex := 473, descriptorIndex := 404, attributes := #[] }, { accessFlags := 25, nameIndex := 474, descriptorIndex := 404, attributes := #[] }, { accessFlags := 25, nameIndex := 475, descriptorIndex := 404, attributes := #[] }, { accessFlags := 25, nameIndex := 476, descriptorIndex := 404, attributes := #[] }, { accessFlags := 25, nameIndex := 477, descriptorIndex := 404, attributes := #[] }, { accessFlags := 25, nameIndex := 478, descriptorIndex := 404, attributes := #[] }, { accessFlags := 25, nameIndex := 479, descriptorIndex := 404, attributes := #[] }, { accessFlags := 25, nameIndex := 480, descriptorIndex := 404, attributes := #[] }, { accessFlags := 25, nameIndex := 481, descriptorIndex := 404, attributes := #[] }, { accessFlags := 25, nameIndex := 482, descriptorIndex := 404, attributes := #[] }, { accessFlags := 25, nameIndex := 484, descriptorIndex := 404, attributes := #[] }, { accessFlags := 25, nameIndex := 485, descriptorIndex := 404, attributes := #[] }, { accessFlags := 25, nameIndex := 486, descriptorIndex := 404, attributes := #[] }, { accessFlags := 25, nameIndex := 487, descriptorIndex := 404, attributes := #[] }, { accessFlags := 25, nameIndex := 488, descriptorIndex := 404, attributes := #[] }, { accessFlags := 25, nameIndex := 489, descriptorIndex := 22, attributes := #[] }, { accessFlags := 25, nameIndex := 490, descriptorIndex := 22, attributes := #[] }, { accessFlags := 25, nameIndex := 492, descriptorIndex := 22, attributes := #[] }, { accessFlags := 25, nameIndex := 493, descriptorIndex := 22, attributes := #[] }, { accessFlags := 25, nameIndex := 495, descriptorIndex := 22, attributes := #[] }, { accessFlags := 25, nameIndex := 496, descriptorIndex := 22, attributes := #[] }, { accessFlags := 25, nameIndex := 497, descriptorIndex := 392, attributes := #[] }, { accessFlags := 25, nameIndex := 498, descriptorIndex := 392, attributes := #[] }, { accessFlags := 25, nameIndex := 499, descriptorIndex := 392, attributes := #[] }, { accessFlags := 18, nameIndex := 21, descriptorIndex := 22, attributes := #[] }, { accessFlags := 26, nameIndex := 501, descriptorIndex := 502, attributes := #[] }, { accessFlags := 25, nameIndex := 505, descriptorIndex := 392, attributes := #[] }, { accessFlags := 25, nameIndex := 506, descriptorIndex := 392, attributes := #[] }, { accessFlags := 4120, nameIndex := 284, descriptorIndex := 285, attributes := #[] }])
  fields := #[{ name := "MIN_RADIX", type := .int, accessFlags := 25, slot := 0, constantValue := 0 }, { name := "MAX_RADIX", type := .int, accessFlags := 25, slot := 1, constantValue := 0 }, { name := "MIN_VALUE", type := .char, accessFlags := 25, slot := 2, constantValue := 0 }, { name := "MAX_VALUE", type := .char, accessFlags := 25, slot := 3, constantValue := 0 }, { name := "TYPE", type := (.object "java/lang/Class"), accessFlags := 25, slot := 4, constantValue := 0 }, { name := "UNASSIGNED", type := .byte, accessFlags := 25, slot := 5, constantValue := 0 }, { name := "UPPERCASE_LETTER", type := .byte, accessFlags := 25, slot := 6, constantValue := 0 }, { name := "LOWERCASE_LETTER", type := .byte, accessFlags := 25, slot := 7, constantValue := 0 }, { name := "TITLECASE_LETTER", type := .byte, accessFlags := 25, slot := 8, constantValue := 0 }, { name := "MODIFIER_LETTER", type := .byte, accessFlags := 25, slot := 9, constantValue := 0 }, { name := "OTHER_LETTER", type := .byte, accessFlags := 25, slot := 10, constantValue := 0 }, { name := "NON_SPACING_MARK", type := .byte, accessFlags := 25, slot := 11, constantValue := 0 }, { name := "ENCLOSING_MARK", type := .byte, accessFlags := 25, slot := 12, constantValue := 0 }, { name := "COMBINING_SPACING_MARK", type := .byte, accessFlags := 25, slot := 13, constantValue := 0 }, { name := "DECIMAL_DIGIT_NUMBER", type := .byte, accessFlags := 25, slot := 14, constantValue := 0 }, { name := "LETTER_NUMBER", type := .byte, accessFlags := 25, slot := 15, constantValue := 0 }, { name := "OTHER_NUMBER", type := .byte, accessFlags := 25, slot := 16, constantValue := 0 }, { name := "SPACE_SEPARATOR", type := .byte, accessFlags := 25, slot := 17, constantValue := 0 }, { name := "LINE_SEPARATOR", type := .byte, accessFlags := 25, slot := 18, constantValue := 0 }, { name := "PARAGRAPH_SEPARATOR", type := .byte, accessFlags := 25, slot := 19, constantValue := 0 }, { name := "CONTROL", type := .byte, accessFlags := 25, slot := 20, constantValue := 0 }, { name := "FORMAT", type := .byte, accessFlags := 25, slot := 21, constantValue := 0 }, { name := "PRIVATE_USE", type := .byte, accessFlags := 25, slot := 22, constantValue := 0 }, { name := "SURROGATE", type := .byte, accessFlags := 25, slot := 23, constantValue := 0 }, { name := "DASH_PUNCTUATION", type := .byte, accessFlags := 25, slot := 24, constantValue := 0 }, { name := "START_PUNCTUATION", type := .byte, accessFlags := 25, slot := 25, constantValue := 0 }, { name := "END_PUNCTUATION", type := .byte, accessFlags := 25, slot := 26, constantValue := 0 }, { name := "CONNECTOR_PUNCTUATION", type := .byte, accessFlags := 25, slot := 27, constantValue := 0 }, { name := "OTHER_PUNCTUATION", type := .byte, accessFlags := 25, slot := 28, constantValue := 0 }, { name := "MATH_SYMBOL", type := .byte, accessFlags := 25, slot := 29, constantValue := 0 }, { name := "CURRENCY_SYMBOL", type := .byte, accessFlags := 25, slot := 30, constantValue := 0 }, { name := "MODIFIER_SYMBOL", type := .byte, accessFlags := 25, slot := 31, constantValue := 0 }, { name := "OTHER_SYMBOL", type := .byte, accessFlags := 25, slot := 32, constantValue := 0 }, { name := "INITIAL_QUOTE_PUNCTUATION", type := .byte, accessFlags := 25, slot := 33, constantValue := 0 }, { name := "FINAL_QUOTE_PUNCTUATION", type := .byte, accessFlags := 25, slot := 34, constantValue := 0 }, { name := "ERROR", type := .int, accessFlags := 24, slot := 35, constantValue := 0 }, { name := "DIRECTIONALITY_UNDEFINED", type := .byte, accessFlags := 25, slot := 36, constantValue := 0 }, { name := "DIRECTIONALITY_LEFT_TO_RIGHT", type := .byte, accessFlags := 25, slot := 37, constantValue := 0 }, { name := "DIRECTIONALITY_RIGHT_TO_LEFT", type := .byte, accessFlags := 25, slot := 38, constantValue := 0 }, { name := "DIRECTIONALITY_RIGHT_TO_LEFT_ARABIC", type := .byte, accessFlags := 25, slot := 39, constantValue := 0 }, { name := "DIRECTIONALITY_EUROPEAN_NUMBER", type := .byte, accessFlags := 25, slot := 40, constantValue := 0 }, { name := "DIRECTIONALITY_EUROPEAN_NUMBER_SEPARATOR", type := .byte, accessFlags := 25, slot := 41, constantValue := 0 }, { name := "DIRECTIONALITY_EUROPEAN_NUMBER_TERMINATOR", type := .byte, accessFlags := 25, slot := 42, constantValue := 0 }, { name := "DIRECTIONALITY_ARABIC_NUMBER", type := .byte, accessFlags := 25, slot := 43, constantValue := 0 }, { name := "DIRECTIONALITY_COMMON_NUMBER_SEPARATOR", type := .byte, accessFlags := 25, slot := 44, constantValue := 0 }, { name := "DIRECTIONALITY_NONSPACING_MARK", type := .byte, accessFlags := 25, slot := 45, constantValue := 0 }, { name := "DIRECTIONALITY_BOUNDARY_NEUTRAL", type := .byte, accessFlags := 25, slot := 46, constantValue := 0 }, { name := "DIRECTIONALITY_PARAGRAPH_SEPARATOR", type := .byte, accessFlags := 25, slot := 47, constantValue := 0 }, { name := "DIRECTIONALITY_SEGMENT_SEPARATOR", type := .byte, accessFlags := 25, slot := 48, constantValue := 0 }, { name := "DIRECTIONALITY_WHITESPACE", type := .byte, accessFlags := 25, slot := 49, constantValue := 0 }, { name := "DIRECTIONALITY_OTHER_NEUTRALS", type := .byte, accessFlags := 25, slot := 50, constantValue := 0 }, { name := "DIRECTIONALITY_LEFT_TO_RIGHT_EMBEDDING", type := .byte, accessFlags := 25, slot := 51, constantValue := 0 }, { name := "DIRECTIONALITY_LEFT_TO_RIGHT_OVERRIDE", type := .byte, accessFlags := 25, slot := 52, constantValue := 0 }, { name := "DIRECTIONALITY_RIGHT_TO_LEFT_EMBEDDING", type := .byte, accessFlags := 25, slot := 53, constantValue := 0 }, { name := "DIRECTIONALITY_RIGHT_TO_LEFT_OVERRIDE", type := .byte, accessFlags := 25, slot := 54, constantValue := 0 }, { name := "DIRECTIONALITY_POP_DIRECTIONAL_FORMAT", type := .byte, accessFlags := 25, slot := 55, constantValue := 0 }, { name := "DIRECTIONALITY_LEFT_TO_RIGHT_ISOLATE", type := .byte, accessFlags := 25, slot := 56, constantValue := 0 }, { name := "DIRECTIONALITY_RIGHT_TO_LEFT_ISOLATE", type := .byte, accessFlags := 25, slot := 57, constantValue := 0 }, { name := "DIRECTIONALITY_FIRST_STRONG_ISOLATE", type := .byte, accessFlags := 25, slot := 58, constantValue := 0 }, { name := "DIRECTIONALITY_POP_DIRECTIONAL_ISOLATE", type := .byte, accessFlags := 25, slot := 59, constantValue := 0 }, { name := "MIN_HIGH_SURROGATE", type := .char, accessFlags := 25, slot := 60, constantValue := 0 }, { name := "MAX_HIGH_SURROGATE", type := .char, accessFlags := 25, slot := 61, constantValue := 0 }, { name := "MIN_LOW_SURROGATE", type := .char, accessFlags := 25, slot := 62, constantValue := 0 }, { name := "MAX_LOW_SURROGATE", type := .char, accessFlags := 25, slot := 63, constantValue := 0 }, { name := "MIN_SURROGATE", type := .char, accessFlags := 25, slot := 64, constantValue := 0 }, { name := "MAX_SURROGATE", type := .char, accessFlags := 25, slot := 65, constantValue := 0 }, { name := "MIN_SUPPLEMENTARY_CODE_POINT", type := .int, accessFlags := 25, slot := 66, constantValue := 0 }, { name := "MIN_CODE_POINT", type := .int, accessFlags := 25, slot := 67, constantValue := 0 }, { name := "MAX_CODE_POINT", type := .int, accessFlags := 25, slot := 68, constantValue := 0 }, { name := "value", type := .char, accessFlags := 18, slot := 0, constantValue := 0 }, { name := "serialVersionUID", type := .long, accessFlags := 26, slot := 69, constantValue := 0 }, { name := "SIZE", type := .int, accessFlags := 25, slot := 70, constantValue := 0 }, { name := "BYTES", type := .int, accessFlags := 25, slot := 71, constantValue := 0 }, { name := "$assertionsDisabled", type := .boolean, accessFlags := 4120, slot := 72, constantValue := 0 }]
  methods := #[k25m0]
  instanceTypes := #[.char]
  staticTypes := #[.int, .int, .char, .char, (.object "java/lang/Class"), .byte, .byte, .byte, .byte, .byte, .byte, .byte, .byte, .byte, .byte, .byte, .byte, .byte, .byte, .byte, .byte, .byte, .byte, .byte, .byte, .byte, .byte, .byte, .byte, .byte, .byte, .byte, .byte, .byte, .byte, .int, .byte, .byte, .byte, .byte, .byte, .byte, .byte, .byte, .byte, .byte, .byte, .byte, .byte, .byte, .byte, .byte, .byte, .byte, .byte, .byte, .byte, .byte, .byte, .byte, .char, .char, .char, .char, .char, .char, .int, .int, .int, .long, .int, .int, .boolean]
  resolved := Array.replicate 604 none
  statics := none }

def pool26 : Array CpInfo := pool [(2, .class_ 4), (1, u "java/lang/Object"), (0, u "<init>"), (0, u "()V"), (17, .class_ 26), (1, u "jdk/internal/util/Preconditions"), (28, .class_ 56), (0, u "jdk/internal/util/Preconditions$4"), (57, .class_ 115), (0, u "jdk/internal/util/Preconditions$1"), (7, u "SIOOBE_FORMATTER"), (0, u "Ljava/util/function/BiFunction;"), (0, .class_ 126), (0, u "jdk/internal/util/Preconditions$2"), (3, u "AIOOBE_FORMATTER"), (0, .class_ 132), (0, u "jdk/internal/util/Preconditions$3"), (3, u "IOOBE_FORMATTER")] 57

def k26m0 : Method := { name := "<init>", desc := "()V", sig := { parameters := [], returnType := none }, accessFlags := 1, code := none }
/-- jdk/internal/util/Preconditions -/
def k26 : Class := { plain "jdk/internal/util/Preconditions" (some 0) with
  accessFlags := 33
  interfaces := #[]
  cf := some (fileOf pool26 24 #[.nestMembers #[55, 131, 125, 114]] #[{ accessFlags := 1, nameIndex := 5, descriptorIndex := 6, attributes := #[] }] 33 2 #[] #[{ accessFlags := 25, nameIndex := 123, descriptorIndex := 124, attributes := #[] }, { accessFlags := 25, nameIndex := 130, descriptorIndex := 124, attributes := #[] }, { accessFlags := 25, nameIndex := 136, descriptorIndex := 124, attributes := #[] }])
  fields := #[{ name := "SIOOBE_FORMATTER", type := (.object "java/util/function/BiFunction"), accessFlags := 25, slot := 0, constantValue := 0 }, { name := "AIOOBE_FORMATTER", type := (.object "java/util/function/BiFunction"), accessFlags := 25, slot := 1, constantValue := 0 }, { name := "IOOBE_FORMATTER", type := (.object "java/util/function/BiFunction"), accessFlags := 25, slot := 2, constantValue := 0 }]
  methods := #[k26m0]
  instanceTypes := #[]
  staticTypes := #[(.object "java/util/function/BiFunction"), (.object "java/util/function/BiFunction"), (.object "java/util/function/BiFunction")]
  resolved := Array.replicate 194 none
  statics := some 5 }

/-- the primitive byte -/
def k27 : Class := { plain "byte" none with kind := .primitive 'B', accessFlags := 0x411 }
/-- [B -/
def k28 : Class := { plain "[B" (some 0) with kind := .array 27 .byte, interfaces := #[17, 2], accessFlags := 1041 }

/-- the primitive char -/
def k29 : Class := { plain "char" none with kind := .primitive 'C', accessFlags := 0x411 }
/-- [C -/
def k30 : Class := { plain "[C" (some 0) with kind := .array 29 .char, interfaces := #[17, 2], accessFlags := 1041 }

/-- the primitive int -/
def k31 : Class := { plain "int" none with kind := .primitive 'I', accessFlags := 0x411 }
/-- [I -/
def k32 : Class := { plain "[I" (some 0) with kind := .array 31 .int, interfaces := #[17, 2], accessFlags := 1041 }

def heap : Heap := #[{ cls := 7, slots := #[.long 0, .int 1, .null, .int 0, .null, .int 0, .int 0], vm := .statics 7 },
  { cls := 9, slots := #[.int 0, .int 8, .int 0, .int 1], vm := .statics 9 },
  { cls := 10, slots := #[.ref 6], vm := .statics 10 },
  { cls := 11, slots := #[.null, .null, .ref 7, .null, .null, .null], vm := .statics 11 },
  { cls := 15, slots := #[.ref 7, .null], vm := .statics 15 },
  { cls := 26, slots := #[.null, .null, .null], vm := .statics 26 },
  { cls := 30, slots := #[.int 48, .int 49, .int 50, .int 51, .int 52, .int 53, .int 54, .int 55, .int 56, .int 57, .int 65, .int 66, .int 67, .int 68, .int 69, .int 70], vm := .none },
  { cls := 15, slots := #[.null, .null, .null], vm := .none }]
def classes : Array Class := #[k0, k1, k2, k3, k4, k5, k6, k7, k8, k9, k10, k11, k12, k13, k14, k15, k16, k17, k18, k19, k20, k21, k22, k23, k24, k25, k26, k27, k28, k29, k30, k31, k32]
def interned : List (Array UInt16 × Addr) := []
def slotsUsed : Nat := 42
def theMethod : MethodId := ⟨1, 1⟩
def args0 : Array Value := #[.int 233]
def aboutOver (below : List Frame) : State where
  vm := { classes := classes, interned := interned.toArray }
  heap := heap
  slotsUsed := slotsUsed
  threads := #[{ frames := .invoking theMethod args0 :: below }]
def below0 : List Frame := [.native { method := ⟨0, 0⟩, args := #[] }]
def about1 : State := aboutOver below0
def p0 : Program := .bare "" "" ""
def e0 : Env := launch0.env 0 0 0
theorem w_frames : about1.frames = Frame.invoking theMethod args0 :: below0 := rfl
set_option maxRecDepth 65536 in
theorem w_args : argsFit about1.vm theMethod args0 = true := by decide +kernel
set_option maxRecDepth 65536 in
theorem w_heap : heapFits about1 = true := by decide +kernel
set_option maxRecDepth 65536 in
theorem w_runnable : about1.curStatus? = some .runnable := by decide +kernel
set_option maxRecDepth 65536 in
theorem w_alone : about1.alone = true := by decide +kernel
set_option maxRecDepth 65536 in
theorem w_named : about1.methodNamed? x = some theMethod := by decide +kernel
set_option maxRecDepth 65536 in
theorem w_hears : about1.hears theMethod below0 = true := by decide +kernel
set_option maxRecDepth 65536 in
theorem w_ripe : about1.ripe theMethod args0 below0 = true := by decide +kernel
theorem w_running : about1.status = .running := rfl
set_option maxRecDepth 65536 in
theorem w_room : about1.hasRoom e0.platform room_1 = true :=
  launch0.hasRoom_least _ room_1 (by decide +kernel) (by decide +kernel) (by decide +kernel) (by decide +kernel) (by decide +kernel) (by decide +kernel)
theorem allAtoms_all (ts : List Jvm.Cond) (a : Array Jvm.Value) (st : Jvm.State) : (allAtoms ts).before a st = ts.all (fun c => c.before a st) := by
  induction ts with
  | nil => rfl
  | cons c t ih =>
    show (Jvm.Cond.and c (allAtoms t)).before a st = _
    rw [Jvm.Cond.before_and, ih, List.all_cons]
def words1 : List Jvm.Cond := Jvm.Cond.code x code maxLocals ret :: tables_1
/-- a 'code' word, met by the world's own term for the bytes: nothing is compared byte by byte -/
theorem code_word {y : MethodName} {bytes : ByteArray} {mx : Nat} {rt : Option FieldType} {a : Array Value} {s : State} {m : MethodId} {meth : Method} {c : Code} (h1 : s.methodNamed? y = some m) (h2 : s.vm.method? m = some meth) (h3 : meth.code = some c) (h4 : c.code = bytes)
    (h5 : (c.maxLocals == mx && c.exceptionTable.isEmpty && decide (c.maxStack ≤ mostOperands) && decide (meth.sig.returnType = rt) && !meth.locks && decide (parseMethodDescriptor y.desc = some meth.sig)) = true) : (Jvm.Cond.code y bytes mx rt).before a s = true := by
  simp only [Bool.and_eq_true, beq_iff_eq, Bool.not_eq_true', decide_eq_true_eq] at h5
  obtain ⟨⟨⟨⟨⟨g1, g2⟩, g3⟩, g4⟩, g5⟩, g6⟩ := h5
  simp [Cond.before, Cond.holds, Cond.value, h1, h2, h3, h4, g1, g2, g3, g4, g5, g6]
def isCode : Jvm.Cond → Bool
  | .code _ _ _ _ => true
  | _ => false
theorem all_split {L : List Jvm.Cond} {P : Jvm.Cond → Bool} (h1 : L.all (fun c => isCode c || P c) = true) (h2 : ∀ c ∈ L.filter isCode, P c = true) : L.all P = true := by
  refine List.all_eq_true.mpr fun c hc => ?_
  have h := List.all_eq_true.mp h1 c hc
  rcases Bool.eq_false_or_eq_true (isCode c) with hi | hi
  · exact h2 c (List.mem_filter.mpr ⟨hc, hi⟩)
  · simpa [hi] using h
set_option maxRecDepth 65536 in
theorem w_c0 : (Jvm.Cond.code x code maxLocals ret).before args0 about1 = true := code_word (m := ⟨1, 1⟩) (meth := k1m1) (c := k1c1) (by decide +kernel) rfl rfl rfl (by decide +kernel)
set_option maxRecDepth 65536 in
theorem w_c1 : (Jvm.Cond.code ({ cls := "java/lang/String", name := "valueOf", desc := "(C)Ljava/lang/String;" } : Jvm.MethodName) jdk_42_method_139_code (1 : Nat) (Option.some (Jvm.ClassFile.FieldType.object "java/lang/String"))).before args0 about1 = true := code_word (m := ⟨7, 9⟩) (meth := k7m9) (c := k7c9) (by decide +kernel) rfl rfl rfl (by decide +kernel)
set_option maxRecDepth 65536 in
theorem w_c2 : (Jvm.Cond.code ({ cls := "java/lang/StringLatin1", name := "canEncode", desc := "(C)Z" } : Jvm.MethodName) jdk_43_method_3_code (1 : Nat) (Option.some Jvm.ClassFile.FieldType.boolean)).before args0 about1 = true := code_word (m := ⟨8, 1⟩) (meth := k8m1) (c := k8c1) (by decide +kernel) rfl rfl rfl (by decide +kernel)
set_option maxRecDepth 65536 in
theorem w_c3 : (Jvm.Cond.code ({ cls := "java/lang/StringLatin1", name := "toBytes", desc := "(C)[B" } : Jvm.MethodName) jdk_43_method_46_code (1 : Nat) (Option.some (Jvm.ClassFile.FieldType.array Jvm.ClassFile.FieldType.byte))).before args0 about1 = true := code_word (m := ⟨8, 3⟩) (meth := k8m3) (c := k8c3) (by decide +kernel) rfl rfl rfl (by decide +kernel)
set_option maxRecDepth 65536 in
theorem w_c4 : (Jvm.Cond.code ({ cls := "java/lang/String", name := "<init>", desc := "([BB)V" } : Jvm.MethodName) jdk_42_method_151_code (3 : Nat) (Option.none : Option Jvm.ClassFile.FieldType)).before args0 about1 = true := code_word (m := ⟨7, 12⟩) (meth := k7m12) (c := k7c12) (by decide +kernel) rfl rfl rfl (by decide +kernel)
set_option maxRecDepth 65536 in
theorem w_c5 : (Jvm.Cond.code ({ cls := "java/lang/Object", name := "<init>", desc := "()V" } : Jvm.MethodName) object_method_1_code (1 : Nat) (Option.none : Option Jvm.ClassFile.FieldType)).before args0 about1 = true := code_word (m := ⟨0, 0⟩) (meth := k0m0) (c := k0c0) (by decide +kernel) rfl rfl rfl (by decide +kernel)
set_option maxRecDepth 65536 in
theorem w_c6 : (Jvm.Cond.code ({ cls := "com/example/vigilant_gate/vigilantgate/PercentEncodingEncodePinLaw", name := "enc1", desc := "(I)Ljava/lang/String;" } : Jvm.MethodName) method_6_code (2 : Nat) (Option.some (Jvm.ClassFile.FieldType.object "java/lang/String"))).before args0 about1 = true := code_word (m := ⟨1, 5⟩) (meth := k1m5) (c := k1c5) (by decide +kernel) rfl rfl rfl (by decide +kernel)
set_option maxRecDepth 65536 in
theorem w_c7 : (Jvm.Cond.code ({ cls := "com/example/vigilant_gate/vigilantgate/PercentEncodingEncodePinLaw", name := "unreserved", desc := "(I)Z" } : Jvm.MethodName) method_3_code (1 : Nat) (Option.some Jvm.ClassFile.FieldType.boolean)).before args0 about1 = true := code_word (m := ⟨1, 2⟩) (meth := k1m2) (c := k1c2) (by decide +kernel) rfl rfl rfl (by decide +kernel)
set_option maxRecDepth 65536 in
theorem w_c8 : (Jvm.Cond.code ({ cls := "com/example/vigilant_gate/vigilantgate/PercentEncodingEncodePinLaw", name := "put", desc := "([CII)V" } : Jvm.MethodName) method_5_code (3 : Nat) (Option.none : Option Jvm.ClassFile.FieldType)).before args0 about1 = true := code_word (m := ⟨1, 4⟩) (meth := k1m4) (c := k1c4) (by decide +kernel) rfl rfl rfl (by decide +kernel)
set_option maxRecDepth 65536 in
theorem w_c9 : (Jvm.Cond.code ({ cls := "com/example/vigilant_gate/vigilantgate/PercentEncodingEncodePinLaw", name := "digit", desc := "(I)C" } : Jvm.MethodName) method_4_code (1 : Nat) (Option.some Jvm.ClassFile.FieldType.char)).before args0 about1 = true := code_word (m := ⟨1, 3⟩) (meth := k1m3) (c := k1c3) (by decide +kernel) rfl rfl rfl (by decide +kernel)
set_option maxRecDepth 65536 in
theorem w_c10 : (Jvm.Cond.code ({ cls := "java/lang/String", name := "<init>", desc := "([C)V" } : Jvm.MethodName) jdk_42_method_3_code (2 : Nat) (Option.none : Option Jvm.ClassFile.FieldType)).before args0 about1 = true := code_word (m := ⟨7, 1⟩) (meth := k7m1) (c := k7c1) (by decide +kernel) rfl rfl rfl (by decide +kernel)
set_option maxRecDepth 65536 in
theorem w_c11 : (Jvm.Cond.code ({ cls := "java/lang/String", name := "<init>", desc := "([CIILjava/lang/Void;)V" } : Jvm.MethodName) jdk_42_method_149_code (6 : Nat) (Option.none : Option Jvm.ClassFile.FieldType)).before args0 about1 = true := code_word (m := ⟨7, 10⟩) (meth := k7m10) (c := k7c10) (by decide +kernel) rfl rfl rfl (by decide +kernel)
set_option maxRecDepth 65536 in
theorem w_c12 : (Jvm.Cond.code ({ cls := "java/lang/StringUTF16", name := "compress", desc := "([CII)[B" } : Jvm.MethodName) jdk_52_method_16_code (6 : Nat) (Option.some (Jvm.ClassFile.FieldType.array Jvm.ClassFile.FieldType.byte))).before args0 about1 = true := code_word (m := ⟨9, 6⟩) (meth := k9m6) (c := k9c6) (by decide +kernel) rfl rfl rfl (by decide +kernel)
set_option maxRecDepth 65536 in
theorem w_c13 : (Jvm.Cond.code ({ cls := "java/lang/StringUTF16", name := "compress", desc := "([CI[BII)I" } : Jvm.MethodName) jdk_52_method_21_code (7 : Nat) (Option.some Jvm.ClassFile.FieldType.int)).before args0 about1 = true := code_word (m := ⟨9, 7⟩) (meth := k9m7) (c := k9c7) (by decide +kernel) rfl rfl rfl (by decide +kernel)
set_option maxRecDepth 65536 in
theorem w_c14 : (Jvm.Cond.code ({ cls := "java/lang/StringUTF16", name := "coderFromArrayLen", desc := "([BI)B" } : Jvm.MethodName) jdk_52_method_15_code (2 : Nat) (Option.some Jvm.ClassFile.FieldType.byte)).before args0 about1 = true := code_word (m := ⟨9, 5⟩) (meth := k9m5) (c := k9c5) (by decide +kernel) rfl rfl rfl (by decide +kernel)
set_option maxRecDepth 65536 in
theorem w_c15 : (Jvm.Cond.code ({ cls := "com/example/vigilant_gate/vigilantgate/PercentEncoding", name := "encode", desc := "(Ljava/lang/String;)Ljava/lang/String;" } : Jvm.MethodName) prog_12_method_2_code (8 : Nat) (Option.some (Jvm.ClassFile.FieldType.object "java/lang/String"))).before args0 about1 = true := code_word (m := ⟨10, 1⟩) (meth := k10m1) (c := k10c1) (by decide +kernel) rfl rfl rfl (by decide +kernel)
set_option maxRecDepth 65536 in
theorem w_c16 : (Jvm.Cond.code ({ cls := "java/lang/String", name := "getBytes", desc := "(Ljava/nio/charset/Charset;)[B" } : Jvm.MethodName) jdk_42_method_64_code (2 : Nat) (Option.some (Jvm.ClassFile.FieldType.array Jvm.ClassFile.FieldType.byte))).before args0 about1 = true := code_word (m := ⟨7, 7⟩) (meth := k7m7) (c := k7c7) (by decide +kernel) rfl rfl rfl (by decide +kernel)
set_option maxRecDepth 65536 in
theorem w_c17 : (Jvm.Cond.code ({ cls := "java/lang/String", name := "coder", desc := "()B" } : Jvm.MethodName) jdk_42_method_152_code (1 : Nat) (Option.some Jvm.ClassFile.FieldType.byte)).before args0 about1 = true := code_word (m := ⟨7, 13⟩) (meth := k7m13) (c := k7c13) (by decide +kernel) rfl rfl rfl (by decide +kernel)
set_option maxRecDepth 65536 in
theorem w_c18 : (Jvm.Cond.code ({ cls := "java/lang/String", name := "encode", desc := "(Ljava/nio/charset/Charset;B[B)[B" } : Jvm.MethodName) jdk_42_method_18_code (3 : Nat) (Option.some (Jvm.ClassFile.FieldType.array Jvm.ClassFile.FieldType.byte))).before args0 about1 = true := code_word (m := ⟨7, 2⟩) (meth := k7m2) (c := k7c2) (by decide +kernel) rfl rfl rfl (by decide +kernel)
set_option maxRecDepth 65536 in
theorem w_c19 : (Jvm.Cond.code ({ cls := "java/lang/String", name := "encodeUTF8", desc := "(B[BZ)[B" } : Jvm.MethodName) jdk_42_method_46_code (9 : Nat) (Option.some (Jvm.ClassFile.FieldType.array Jvm.ClassFile.FieldType.byte))).before args0 about1 = true := code_word (m := ⟨7, 3⟩) (meth := k7m3) (c := k7c3) (by decide +kernel) rfl rfl rfl (by decide +kernel)
set_option maxRecDepth 65536 in
theorem w_c20 : (Jvm.Cond.code ({ cls := "java/lang/StringCoding", name := "hasNegatives", desc := "([BII)Z" } : Jvm.MethodName) jdk_123_method_2_code (3 : Nat) (Option.some Jvm.ClassFile.FieldType.boolean)).before args0 about1 = true := code_word (m := ⟨16, 1⟩) (meth := k16m1) (c := k16c1) (by decide +kernel) rfl rfl rfl (by decide +kernel)
set_option maxRecDepth 65536 in
theorem w_c21 : (Jvm.Cond.code ({ cls := "java/lang/StringCoding", name := "countPositives", desc := "([BII)I" } : Jvm.MethodName) jdk_123_method_3_code (5 : Nat) (Option.some Jvm.ClassFile.FieldType.int)).before args0 about1 = true := code_word (m := ⟨16, 2⟩) (meth := k16m2) (c := k16c2) (by decide +kernel) rfl rfl rfl (by decide +kernel)
set_option maxRecDepth 65536 in
theorem w_c22 : (Jvm.Cond.code ({ cls := "java/lang/StringBuilder", name := "<init>", desc := "(I)V" } : Jvm.MethodName) jdk_67_method_2_code (2 : Nat) (Option.none : Option Jvm.ClassFile.FieldType)).before args0 about1 = true := code_word (m := ⟨20, 1⟩) (meth := k20m1) (c := k20c1) (by decide +kernel) rfl rfl rfl (by decide +kernel)
set_option maxRecDepth 65536 in
theorem w_c23 : (Jvm.Cond.code ({ cls := "java/lang/AbstractStringBuilder", name := "<init>", desc := "(I)V" } : Jvm.MethodName) jdk_68_method_2_code (2 : Nat) (Option.none : Option Jvm.ClassFile.FieldType)).before args0 about1 = true := code_word (m := ⟨19, 1⟩) (meth := k19m1) (c := k19c1) (by decide +kernel) rfl rfl rfl (by decide +kernel)
set_option maxRecDepth 65536 in
theorem w_c24 : (Jvm.Cond.code ({ cls := "com/example/vigilant_gate/vigilantgate/PercentEncoding", name := "isUnreserved", desc := "(I)Z" } : Jvm.MethodName) prog_12_method_3_code (1 : Nat) (Option.some Jvm.ClassFile.FieldType.boolean)).before args0 about1 = true := code_word (m := ⟨10, 2⟩) (meth := k10m2) (c := k10c2) (by decide +kernel) rfl rfl rfl (by decide +kernel)
set_option maxRecDepth 65536 in
theorem w_c25 : (Jvm.Cond.code ({ cls := "java/lang/StringBuilder", name := "append", desc := "(C)Ljava/lang/StringBuilder;" } : Jvm.MethodName) jdk_67_method_14_code (2 : Nat) (Option.some (Jvm.ClassFile.FieldType.object "java/lang/StringBuilder"))).before args0 about1 = true := code_word (m := ⟨20, 2⟩) (meth := k20m2) (c := k20c2) (by decide +kernel) rfl rfl rfl (by decide +kernel)
set_option maxRecDepth 65536 in
theorem w_c26 : (Jvm.Cond.code ({ cls := "java/lang/AbstractStringBuilder", name := "append", desc := "(C)Ljava/lang/AbstractStringBuilder;" } : Jvm.MethodName) jdk_68_method_31_code (2 : Nat) (Option.some (Jvm.ClassFile.FieldType.object "java/lang/AbstractStringBuilder"))).before args0 about1 = true := code_word (m := ⟨19, 5⟩) (meth := k19m5) (c := k19c5) (by decide +kernel) rfl rfl rfl (by decide +kernel)
set_option maxRecDepth 65536 in
theorem w_c27 : (Jvm.Cond.code ({ cls := "java/lang/AbstractStringBuilder", name := "ensureCapacityInternal", desc := "(I)V" } : Jvm.MethodName) jdk_68_method_9_code (3 : Nat) (Option.none : Option Jvm.ClassFile.FieldType)).before args0 about1 = true := code_word (m := ⟨19, 3⟩) (meth := k19m3) (c := k19c3) (by decide +kernel) rfl rfl rfl (by decide +kernel)
set_option maxRecDepth 65536 in
theorem w_c28 : (Jvm.Cond.code ({ cls := "java/lang/AbstractStringBuilder", name := "isLatin1", desc := "()Z" } : Jvm.MethodName) jdk_68_method_68_code (1 : Nat) (Option.some Jvm.ClassFile.FieldType.boolean)).before args0 about1 = true := code_word (m := ⟨19, 7⟩) (meth := k19m7) (c := k19c7) (by decide +kernel) rfl rfl rfl (by decide +kernel)
set_option maxRecDepth 65536 in
theorem w_c29 : (Jvm.Cond.code ({ cls := "java/lang/AbstractStringBuilder", name := "newCapacity", desc := "(I)I" } : Jvm.MethodName) jdk_68_method_10_code (6 : Nat) (Option.some Jvm.ClassFile.FieldType.int)).before args0 about1 = true := code_word (m := ⟨19, 4⟩) (meth := k19m4) (c := k19c4) (by decide +kernel) rfl rfl rfl (by decide +kernel)
set_option maxRecDepth 65536 in
theorem w_c30 : (Jvm.Cond.code ({ cls := "jdk/internal/util/ArraysSupport", name := "newLength", desc := "(III)I" } : Jvm.MethodName) jdk_48_method_27_code (4 : Nat) (Option.some Jvm.ClassFile.FieldType.int)).before args0 about1 = true := code_word (m := ⟨21, 1⟩) (meth := k21m1) (c := k21c1) (by decide +kernel) rfl rfl rfl (by decide +kernel)
set_option maxRecDepth 65536 in
theorem w_c31 : (Jvm.Cond.code ({ cls := "java/lang/Math", name := "max", desc := "(II)I" } : Jvm.MethodName) jdk_29_method_65_code (2 : Nat) (Option.some Jvm.ClassFile.FieldType.int)).before args0 about1 = true := code_word (m := ⟨22, 1⟩) (meth := k22m1) (c := k22c1) (by decide +kernel) rfl rfl rfl (by decide +kernel)
set_option maxRecDepth 65536 in
theorem w_c32 : (Jvm.Cond.code ({ cls := "java/util/Arrays", name := "copyOf", desc := "([BI)[B" } : Jvm.MethodName) jdk_65_method_121_code (3 : Nat) (Option.some (Jvm.ClassFile.FieldType.array Jvm.ClassFile.FieldType.byte))).before args0 about1 = true := code_word (m := ⟨23, 1⟩) (meth := k23m1) (c := k23c1) (by decide +kernel) rfl rfl rfl (by decide +kernel)
set_option maxRecDepth 65536 in
theorem w_c33 : (Jvm.Cond.code ({ cls := "java/lang/Math", name := "min", desc := "(II)I" } : Jvm.MethodName) jdk_29_method_69_code (2 : Nat) (Option.some Jvm.ClassFile.FieldType.int)).before args0 about1 = true := code_word (m := ⟨22, 2⟩) (meth := k22m2) (c := k22c2) (by decide +kernel) rfl rfl rfl (by decide +kernel)
set_option maxRecDepth 65536 in
theorem w_c34 : (Jvm.Cond.code ({ cls := "java/lang/StringBuilder", name := "toString", desc := "()Ljava/lang/String;" } : Jvm.MethodName) jdk_67_method_42_code (1 : Nat) (Option.some (Jvm.ClassFile.FieldType.object "java/lang/String"))).before args0 about1 = true := code_word (m := ⟨20, 3⟩) (meth := k20m3) (c := k20c3) (by decide +kernel) rfl rfl rfl (by decide +kernel)
set_option maxRecDepth 65536 in
theorem w_c35 : (Jvm.Cond.code ({ cls := "java/lang/String", name := "<init>", desc := "(Ljava/lang/StringBuilder;)V" } : Jvm.MethodName) jdk_42_method_53_code (2 : Nat) (Option.none : Option Jvm.ClassFile.FieldType)).before args0 about1 = true := code_word (m := ⟨7, 5⟩) (meth := k7m5) (c := k7c5) (by decide +kernel) rfl rfl rfl (by decide +kernel)
set_option maxRecDepth 65536 in
theorem w_c36 : (Jvm.Cond.code ({ cls := "java/lang/String", name := "<init>", desc := "(Ljava/lang/AbstractStringBuilder;Ljava/lang/Void;)V" } : Jvm.MethodName) jdk_42_method_150_code (5 : Nat) (Option.none : Option Jvm.ClassFile.FieldType)).before args0 about1 = true := code_word (m := ⟨7, 11⟩) (meth := k7m11) (c := k7c11) (by decide +kernel) rfl rfl rfl (by decide +kernel)
set_option maxRecDepth 65536 in
theorem w_c37 : (Jvm.Cond.code ({ cls := "java/lang/AbstractStringBuilder", name := "getValue", desc := "()[B" } : Jvm.MethodName) jdk_68_method_64_code (1 : Nat) (Option.some (Jvm.ClassFile.FieldType.array Jvm.ClassFile.FieldType.byte))).before args0 about1 = true := code_word (m := ⟨19, 6⟩) (meth := k19m6) (c := k19c6) (by decide +kernel) rfl rfl rfl (by decide +kernel)
set_option maxRecDepth 65536 in
theorem w_c38 : (Jvm.Cond.code ({ cls := "java/lang/StringBuilder", name := "length", desc := "()I" } : Jvm.MethodName) jdk_67_method_93_code (1 : Nat) (Option.some Jvm.ClassFile.FieldType.int)).before args0 about1 = true := code_word (m := ⟨20, 4⟩) (meth := k20m4) (c := k20c4) (by decide +kernel) rfl rfl rfl (by decide +kernel)
set_option maxRecDepth 65536 in
theorem w_c39 : (Jvm.Cond.code ({ cls := "java/lang/AbstractStringBuilder", name := "length", desc := "()I" } : Jvm.MethodName) jdk_68_method_6_code (1 : Nat) (Option.some Jvm.ClassFile.FieldType.int)).before args0 about1 = true := code_word (m := ⟨19, 2⟩) (meth := k19m2) (c := k19c2) (by decide +kernel) rfl rfl rfl (by decide +kernel)
set_option maxRecDepth 65536 in
theorem w_c40 : (Jvm.Cond.code ({ cls := "java/util/Arrays", name := "copyOfRange", desc := "([BII)[B" } : Jvm.MethodName) jdk_65_method_132_code (3 : Nat) (Option.some (Jvm.ClassFile.FieldType.array Jvm.ClassFile.FieldType.byte))).before args0 about1 = true := code_word (m := ⟨23, 3⟩) (meth := k23m3) (c := k23c3) (by decide +kernel) rfl rfl rfl (by decide +kernel)
set_option maxRecDepth 65536 in
theorem w_c41 : (Jvm.Cond.code ({ cls := "java/util/Arrays", name := "copyOfRangeByte", desc := "([BII)[B" } : Jvm.MethodName) jdk_65_method_133_code (5 : Nat) (Option.some (Jvm.ClassFile.FieldType.array Jvm.ClassFile.FieldType.byte))).before args0 about1 = true := code_word (m := ⟨23, 4⟩) (meth := k23m4) (c := k23c4) (by decide +kernel) rfl rfl rfl (by decide +kernel)
set_option maxRecDepth 65536 in
theorem w_c42 : (Jvm.Cond.code ({ cls := "java/util/Arrays", name := "checkLength", desc := "(II)V" } : Jvm.MethodName) jdk_65_method_131_code (2 : Nat) (Option.none : Option Jvm.ClassFile.FieldType)).before args0 about1 = true := code_word (m := ⟨23, 2⟩) (meth := k23m2) (c := k23c2) (by decide +kernel) rfl rfl rfl (by decide +kernel)
set_option maxRecDepth 65536 in
theorem w_c43 : (Jvm.Cond.code ({ cls := "java/lang/String", name := "equals", desc := "(Ljava/lang/Object;)Z" } : Jvm.MethodName) jdk_42_method_66_code (3 : Nat) (Option.some Jvm.ClassFile.FieldType.boolean)).before args0 about1 = true := code_word (m := ⟨7, 8⟩) (meth := k7m8) (c := k7c8) (by decide +kernel) rfl rfl rfl (by decide +kernel)
set_option maxRecDepth 65536 in
theorem w_c44 : (Jvm.Cond.code ({ cls := "java/lang/StringLatin1", name := "equals", desc := "([B[B)Z" } : Jvm.MethodName) jdk_43_method_13_code (3 : Nat) (Option.some Jvm.ClassFile.FieldType.boolean)).before args0 about1 = true := code_word (m := ⟨8, 2⟩) (meth := k8m2) (c := k8c2) (by decide +kernel) rfl rfl rfl (by decide +kernel)
set_option maxRecDepth 65536 in
theorem w_c45 : (Jvm.Cond.code ({ cls := "java/lang/String", name := "isEmpty", desc := "()Z" } : Jvm.MethodName) jdk_42_method_55_code (1 : Nat) (Option.some Jvm.ClassFile.FieldType.boolean)).before args0 about1 = true := code_word (m := ⟨7, 6⟩) (meth := k7m6) (c := k7c6) (by decide +kernel) rfl rfl rfl (by decide +kernel)
set_option maxRecDepth 65536 in
theorem w_c46 : (Jvm.Cond.code ({ cls := "java/lang/StringUTF16", name := "toBytes", desc := "(C)[B" } : Jvm.MethodName) jdk_52_method_24_code (2 : Nat) (Option.some (Jvm.ClassFile.FieldType.array Jvm.ClassFile.FieldType.byte))).before args0 about1 = true := code_word (m := ⟨9, 8⟩) (meth := k9m8) (c := k9c8) (by decide +kernel) rfl rfl rfl (by decide +kernel)
set_option maxRecDepth 65536 in
theorem w_c47 : (Jvm.Cond.code ({ cls := "java/lang/StringUTF16", name := "putChar", desc := "([BII)V" } : Jvm.MethodName) jdk_52_method_4_code (3 : Nat) (Option.none : Option Jvm.ClassFile.FieldType)).before args0 about1 = true := code_word (m := ⟨9, 3⟩) (meth := k9m3) (c := k9c3) (by decide +kernel) rfl rfl rfl (by decide +kernel)
set_option maxRecDepth 65536 in
theorem w_c48 : (Jvm.Cond.code ({ cls := "java/lang/String", name := "encodeUTF8_UTF16", desc := "([BZ)[B" } : Jvm.MethodName) jdk_42_method_47_code (9 : Nat) (Option.some (Jvm.ClassFile.FieldType.array Jvm.ClassFile.FieldType.byte))).before args0 about1 = true := code_word (m := ⟨7, 4⟩) (meth := k7m4) (c := k7c4) (by decide +kernel) rfl rfl rfl (by decide +kernel)
set_option maxRecDepth 65536 in
theorem w_c49 : (Jvm.Cond.code ({ cls := "java/lang/StringUTF16", name := "getChar", desc := "([BI)C" } : Jvm.MethodName) jdk_52_method_5_code (2 : Nat) (Option.some Jvm.ClassFile.FieldType.char)).before args0 about1 = true := code_word (m := ⟨9, 4⟩) (meth := k9m4) (c := k9c4) (by decide +kernel) rfl rfl rfl (by decide +kernel)
set_option maxRecDepth 65536 in
theorem w_c50 : (Jvm.Cond.code ({ cls := "java/lang/Character", name := "isSurrogate", desc := "(C)Z" } : Jvm.MethodName) jdk_89_method_16_code (1 : Nat) (Option.some Jvm.ClassFile.FieldType.boolean)).before args0 about1 = true := code_word (m := ⟨25, 0⟩) (meth := k25m0) (c := k25c0) (by decide +kernel) rfl rfl rfl (by decide +kernel)
set_option maxRecDepth 65536 in
theorem w_c51 : (Jvm.Cond.code ({ cls := "java/lang/StringUTF16", name := "newBytesFor", desc := "(I)[B" } : Jvm.MethodName) jdk_52_method_2_code (1 : Nat) (Option.some (Jvm.ClassFile.FieldType.array Jvm.ClassFile.FieldType.byte))).before args0 about1 = true := code_word (m := ⟨9, 1⟩) (meth := k9m1) (c := k9c1) (by decide +kernel) rfl rfl rfl (by decide +kernel)
set_option maxRecDepth 65536 in
theorem w_c52 : (Jvm.Cond.code ({ cls := "java/lang/StringUTF16", name := "newBytesLength", desc := "(I)I" } : Jvm.MethodName) jdk_52_method_3_code (1 : Nat) (Option.some Jvm.ClassFile.FieldType.int)).before args0 about1 = true := code_word (m := ⟨9, 2⟩) (meth := k9m2) (c := k9c2) (by decide +kernel) rfl rfl rfl (by decide +kernel)
def codes1 : List Jvm.Cond := [Jvm.Cond.code x code maxLocals ret, Jvm.Cond.code ({ cls := "java/lang/String", name := "valueOf", desc := "(C)Ljava/lang/String;" } : Jvm.MethodName) jdk_42_method_139_code (1 : Nat) (Option.some (Jvm.ClassFile.FieldType.object "java/lang/String")), Jvm.Cond.code ({ cls := "java/lang/StringLatin1", name := "canEncode", desc := "(C)Z" } : Jvm.MethodName) jdk_43_method_3_code (1 : Nat) (Option.some Jvm.ClassFile.FieldType.boolean), Jvm.Cond.code ({ cls := "java/lang/StringLatin1", name := "toBytes", desc := "(C)[B" } : Jvm.MethodName) jdk_43_method_46_code (1 : Nat) (Option.some (Jvm.ClassFile.FieldType.array Jvm.ClassFile.FieldType.byte)), Jvm.Cond.code ({ cls := "java/lang/String", name := "<init>", desc := "([BB)V" } : Jvm.MethodName) jdk_42_method_151_code (3 : Nat) (Option.none : Option Jvm.ClassFile.FieldType), Jvm.Cond.code ({ cls := "java/lang/Object", name := "<init>", desc := "()V" } : Jvm.MethodName) object_method_1_code (1 : Nat) (Option.none : Option Jvm.ClassFile.FieldType), Jvm.Cond.code ({ cls := "com/example/vigilant_gate/vigilantgate/PercentEncodingEncodePinLaw", name := "enc1", desc := "(I)Ljava/lang/String;" } : Jvm.MethodName) method_6_code (2 : Nat) (Option.some (Jvm.ClassFile.FieldType.object "java/lang/String")), Jvm.Cond.code ({ cls := "com/example/vigilant_gate/vigilantgate/PercentEncodingEncodePinLaw", name := "unreserved", desc := "(I)Z" } : Jvm.MethodName) method_3_code (1 : Nat) (Option.some Jvm.ClassFile.FieldType.boolean), Jvm.Cond.code ({ cls := "com/example/vigilant_gate/vigilantgate/PercentEncodingEncodePinLaw", name := "put", desc := "([CII)V" } : Jvm.MethodName) method_5_code (3 : Nat) (Option.none : Option Jvm.ClassFile.FieldType), Jvm.Cond.code ({ cls := "com/example/vigilant_gate/vigilantgate/PercentEncodingEncodePinLaw", name := "digit", desc := "(I)C" } : Jvm.MethodName) method_4_code (1 : Nat) (Option.some Jvm.ClassFile.FieldType.char), Jvm.Cond.code ({ cls := "java/lang/String", name := "<init>", desc := "([C)V" } : Jvm.MethodName) jdk_42_method_3_code (2 : Nat) (Option.none : Option Jvm.ClassFile.FieldType), Jvm.Cond.code ({ cls := "java/lang/String", name := "<init>", desc := "([CIILjava/lang/Void;)V" } : Jvm.MethodName) jdk_42_method_149_code (6 : Nat) (Option.none : Option Jvm.ClassFile.FieldType), Jvm.Cond.code ({ cls := "java/lang/StringUTF16", name := "compress", desc := "([CII)[B" } : Jvm.MethodName) jdk_52_method_16_code (6 : Nat) (Option.some (Jvm.ClassFile.FieldType.array Jvm.ClassFile.FieldType.byte)), Jvm.Cond.code ({ cls := "java/lang/StringUTF16", name := "compress", desc := "([CI[BII)I" } : Jvm.MethodName) jdk_52_method_21_code (7 : Nat) (Option.some Jvm.ClassFile.FieldType.int), Jvm.Cond.code ({ cls := "java/lang/StringUTF16", name := "coderFromArrayLen", desc := "([BI)B" } : Jvm.MethodName) jdk_52_method_15_code (2 : Nat) (Option.some Jvm.ClassFile.FieldType.byte), Jvm.Cond.code ({ cls := "com/example/vigilant_gate/vigilantgate/PercentEncoding", name := "encode", desc := "(Ljava/lang/String;)Ljava/lang/String;" } : Jvm.MethodName) prog_12_method_2_code (8 : Nat) (Option.some (Jvm.ClassFile.FieldType.object "java/lang/String")), Jvm.Cond.code ({ cls := "java/lang/String", name := "getBytes", desc := "(Ljava/nio/charset/Charset;)[B" } : Jvm.MethodName) jdk_42_method_64_code (2 : Nat) (Option.some (Jvm.ClassFile.FieldType.array Jvm.ClassFile.FieldType.byte)), Jvm.Cond.code ({ cls := "java/lang/String", name := "coder", desc := "()B" } : Jvm.MethodName) jdk_42_method_152_code (1 : Nat) (Option.some Jvm.ClassFile.FieldType.byte), Jvm.Cond.code ({ cls := "java/lang/String", name := "encode", desc := "(Ljava/nio/charset/Charset;B[B)[B" } : Jvm.MethodName) jdk_42_method_18_code (3 : Nat) (Option.some (Jvm.ClassFile.FieldType.array Jvm.ClassFile.FieldType.byte)), Jvm.Cond.code ({ cls := "java/lang/String", name := "encodeUTF8", desc := "(B[BZ)[B" } : Jvm.MethodName) jdk_42_method_46_code (9 : Nat) (Option.some (Jvm.ClassFile.FieldType.array Jvm.ClassFile.FieldType.byte)), Jvm.Cond.code ({ cls := "java/lang/StringCoding", name := "hasNegatives", desc := "([BII)Z" } : Jvm.MethodName) jdk_123_method_2_code (3 : Nat) (Option.some Jvm.ClassFile.FieldType.boolean), Jvm.Cond.code ({ cls := "java/lang/StringCoding", name := "countPositives", desc := "([BII)I" } : Jvm.MethodName) jdk_123_method_3_code (5 : Nat) (Option.some Jvm.ClassFile.FieldType.int), Jvm.Cond.code ({ cls := "java/lang/StringBuilder", name := "<init>", desc := "(I)V" } : Jvm.MethodName) jdk_67_method_2_code (2 : Nat) (Option.none : Option Jvm.ClassFile.FieldType), Jvm.Cond.code ({ cls := "java/lang/AbstractStringBuilder", name := "<init>", desc := "(I)V" } : Jvm.MethodName) jdk_68_method_2_code (2 : Nat) (Option.none : Option Jvm.ClassFile.FieldType), Jvm.Cond.code ({ cls := "com/example/vigilant_gate/vigilantgate/PercentEncoding", name := "isUnreserved", desc := "(I)Z" } : Jvm.MethodName) prog_12_method_3_code (1 : Nat) (Option.some Jvm.ClassFile.FieldType.boolean), Jvm.Cond.code ({ cls := "java/lang/StringBuilder", name := "append", desc := "(C)Ljava/lang/StringBuilder;" } : Jvm.MethodName) jdk_67_method_14_code (2 : Nat) (Option.some (Jvm.ClassFile.FieldType.object "java/lang/StringBuilder")), Jvm.Cond.code ({ cls := "java/lang/AbstractStringBuilder", name := "append", desc := "(C)Ljava/lang/AbstractStringBuilder;" } : Jvm.MethodName) jdk_68_method_31_code (2 : Nat) (Option.some (Jvm.ClassFile.FieldType.object "java/lang/AbstractStringBuilder")), Jvm.Cond.code ({ cls := "java/lang/AbstractStringBuilder", name := "ensureCapacityInternal", desc := "(I)V" } : Jvm.MethodName) jdk_68_method_9_code (3 : Nat) (Option.none : Option Jvm.ClassFile.FieldType), Jvm.Cond.code ({ cls := "java/lang/AbstractStringBuilder", name := "isLatin1", desc := "()Z" } : Jvm.MethodName) jdk_68_method_68_code (1 : Nat) (Option.some Jvm.ClassFile.FieldType.boolean), Jvm.Cond.code ({ cls := "java/lang/AbstractStringBuilder", name := "newCapacity", desc := "(I)I" } : Jvm.MethodName) jdk_68_method_10_code (6 : Nat) (Option.some Jvm.ClassFile.FieldType.int), Jvm.Cond.code ({ cls := "jdk/internal/util/ArraysSupport", name := "newLength", desc := "(III)I" } : Jvm.MethodName) jdk_48_method_27_code (4 : Nat) (Option.some Jvm.ClassFile.FieldType.int), Jvm.Cond.code ({ cls := "java/lang/Math", name := "max", desc := "(II)I" } : Jvm.MethodName) jdk_29_method_65_code (2 : Nat) (Option.some Jvm.ClassFile.FieldType.int), Jvm.Cond.code ({ cls := "java/util/Arrays", name := "copyOf", desc := "([BI)[B" } : Jvm.MethodName) jdk_65_method_121_code (3 : Nat) (Option.some (Jvm.ClassFile.FieldType.array Jvm.ClassFile.FieldType.byte)), Jvm.Cond.code ({ cls := "java/lang/Math", name := "min", desc := "(II)I" } : Jvm.MethodName) jdk_29_method_69_code (2 : Nat) (Option.some Jvm.ClassFile.FieldType.int), Jvm.Cond.code ({ cls := "java/lang/StringBuilder", name := "toString", desc := "()Ljava/lang/String;" } : Jvm.MethodName) jdk_67_method_42_code (1 : Nat) (Option.some (Jvm.ClassFile.FieldType.object "java/lang/String")), Jvm.Cond.code ({ cls := "java/lang/String", name := "<init>", desc := "(Ljava/lang/StringBuilder;)V" } : Jvm.MethodName) jdk_42_method_53_code (2 : Nat) (Option.none : Option Jvm.ClassFile.FieldType), Jvm.Cond.code ({ cls := "java/lang/String", name := "<init>", desc := "(Ljava/lang/AbstractStringBuilder;Ljava/lang/Void;)V" } : Jvm.MethodName) jdk_42_method_150_code (5 : Nat) (Option.none : Option Jvm.ClassFile.FieldType), Jvm.Cond.code ({ cls := "java/lang/AbstractStringBuilder", name := "getValue", desc := "()[B" } : Jvm.MethodName) jdk_68_method_64_code (1 : Nat) (Option.some (Jvm.ClassFile.FieldType.array Jvm.ClassFile.FieldType.byte)), Jvm.Cond.code ({ cls := "java/lang/StringBuilder", name := "length", desc := "()I" } : Jvm.MethodName) jdk_67_method_93_code (1 : Nat) (Option.some Jvm.ClassFile.FieldType.int), Jvm.Cond.code ({ cls := "java/lang/AbstractStringBuilder", name := "length", desc := "()I" } : Jvm.MethodName) jdk_68_method_6_code (1 : Nat) (Option.some Jvm.ClassFile.FieldType.int), Jvm.Cond.code ({ cls := "java/util/Arrays", name := "copyOfRange", desc := "([BII)[B" } : Jvm.MethodName) jdk_65_method_132_code (3 : Nat) (Option.some (Jvm.ClassFile.FieldType.array Jvm.ClassFile.FieldType.byte)), Jvm.Cond.code ({ cls := "java/util/Arrays", name := "copyOfRangeByte", desc := "([BII)[B" } : Jvm.MethodName) jdk_65_method_133_code (5 : Nat) (Option.some (Jvm.ClassFile.FieldType.array Jvm.ClassFile.FieldType.byte)), Jvm.Cond.code ({ cls := "java/util/Arrays", name := "checkLength", desc := "(II)V" } : Jvm.MethodName) jdk_65_method_131_code (2 : Nat) (Option.none : Option Jvm.ClassFile.FieldType), Jvm.Cond.code ({ cls := "java/lang/String", name := "equals", desc := "(Ljava/lang/Object;)Z" } : Jvm.MethodName) jdk_42_method_66_code (3 : Nat) (Option.some Jvm.ClassFile.FieldType.boolean), Jvm.Cond.code ({ cls := "java/lang/StringLatin1", name := "equals", desc := "([B[B)Z" } : Jvm.MethodName) jdk_43_method_13_code (3 : Nat) (Option.some Jvm.ClassFile.FieldType.boolean), Jvm.Cond.code ({ cls := "java/lang/String", name := "isEmpty", desc := "()Z" } : Jvm.MethodName) jdk_42_method_55_code (1 : Nat) (Option.some Jvm.ClassFile.FieldType.boolean), Jvm.Cond.code ({ cls := "java/lang/StringUTF16", name := "toBytes", desc := "(C)[B" } : Jvm.MethodName) jdk_52_method_24_code (2 : Nat) (Option.some (Jvm.ClassFile.FieldType.array Jvm.ClassFile.FieldType.byte)), Jvm.Cond.code ({ cls := "java/lang/StringUTF16", name := "putChar", desc := "([BII)V" } : Jvm.MethodName) jdk_52_method_4_code (3 : Nat) (Option.none : Option Jvm.ClassFile.FieldType), Jvm.Cond.code ({ cls := "java/lang/String", name := "encodeUTF8_UTF16", desc := "([BZ)[B" } : Jvm.MethodName) jdk_42_method_47_code (9 : Nat) (Option.some (Jvm.ClassFile.FieldType.array Jvm.ClassFile.FieldType.byte)), Jvm.Cond.code ({ cls := "java/lang/StringUTF16", name := "getChar", desc := "([BI)C" } : Jvm.MethodName) jdk_52_method_5_code (2 : Nat) (Option.some Jvm.ClassFile.FieldType.char), Jvm.Cond.code ({ cls := "java/lang/Character", name := "isSurrogate", desc := "(C)Z" } : Jvm.MethodName) jdk_89_method_16_code (1 : Nat) (Option.some Jvm.ClassFile.FieldType.boolean), Jvm.Cond.code ({ cls := "java/lang/StringUTF16", name := "newBytesFor", desc := "(I)[B" } : Jvm.MethodName) jdk_52_method_2_code (1 : Nat) (Option.some (Jvm.ClassFile.FieldType.array Jvm.ClassFile.FieldType.byte)), Jvm.Cond.code ({ cls := "java/lang/StringUTF16", name := "newBytesLength", desc := "(I)I" } : Jvm.MethodName) jdk_52_method_3_code (1 : Nat) (Option.some Jvm.ClassFile.FieldType.int)]
set_option maxRecDepth 65536 in
theorem codes_eq : words1.filter isCode = codes1 := rfl
theorem w_codes : ∀ c ∈ words1.filter isCode, c.before args0 about1 = true := by
  rw [codes_eq]
  intro c hc
  simp only [codes1, List.mem_cons, List.not_mem_nil, or_false] at hc
  rcases hc with rfl | rfl | rfl | rfl | rfl | rfl | rfl | rfl | rfl | rfl | rfl | rfl | rfl | rfl | rfl | rfl | rfl | rfl | rfl | rfl | rfl | rfl | rfl | rfl | rfl | rfl | rfl | rfl | rfl | rfl | rfl | rfl | rfl | rfl | rfl | rfl | rfl | rfl | rfl | rfl | rfl | rfl | rfl | rfl | rfl | rfl | rfl | rfl | rfl | rfl | rfl | rfl | rfl
  · exact w_c0
  · exact w_c1
  · exact w_c2
  · exact w_c3
  · exact w_c4
  · exact w_c5
  · exact w_c6
  · exact w_c7
  · exact w_c8
  · exact w_c9
  · exact w_c10
  · exact w_c11
  · exact w_c12
  · exact w_c13
  · exact w_c14
  · exact w_c15
  · exact w_c16
  · exact w_c17
  · exact w_c18
  · exact w_c19
  · exact w_c20
  · exact w_c21
  · exact w_c22
  · exact w_c23
  · exact w_c24
  · exact w_c25
  · exact w_c26
  · exact w_c27
  · exact w_c28
  · exact w_c29
  · exact w_c30
  · exact w_c31
  · exact w_c32
  · exact w_c33
  · exact w_c34
  · exact w_c35
  · exact w_c36
  · exact w_c37
  · exact w_c38
  · exact w_c39
  · exact w_c40
  · exact w_c41
  · exact w_c42
  · exact w_c43
  · exact w_c44
  · exact w_c45
  · exact w_c46
  · exact w_c47
  · exact w_c48
  · exact w_c49
  · exact w_c50
  · exact w_c51
  · exact w_c52
set_option maxRecDepth 65536 in
theorem w_t1 : (words1.take 24).all (fun c => isCode c || c.before args0 about1) = true := by decide +kernel
set_option maxRecDepth 65536 in
theorem w_t2 : ((words1.drop 24).take 24).all (fun c => isCode c || c.before args0 about1) = true := by decide +kernel
set_option maxRecDepth 65536 in
theorem w_t3 : (((words1.drop 24).drop 24).take 24).all (fun c => isCode c || c.before args0 about1) = true := by decide +kernel
set_option maxRecDepth 65536 in
theorem w_t4 : ((((words1.drop 24).drop 24).drop 24).take 24).all (fun c => isCode c || c.before args0 about1) = true := by decide +kernel
set_option maxRecDepth 65536 in
theorem w_t5 : (((((words1.drop 24).drop 24).drop 24).drop 24).take 24).all (fun c => isCode c || c.before args0 about1) = true := by decide +kernel
set_option maxRecDepth 65536 in
theorem w_t6 : ((((((words1.drop 24).drop 24).drop 24).drop 24).drop 24).take 24).all (fun c => isCode c || c.before args0 about1) = true := by decide +kernel
set_option maxRecDepth 65536 in
theorem w_t7 : (((((((words1.drop 24).drop 24).drop 24).drop 24).drop 24).drop 24).take 24).all (fun c => isCode c || c.before args0 about1) = true := by decide +kernel
set_option maxRecDepth 65536 in
theorem w_t8 : ((((((((words1.drop 24).drop 24).drop 24).drop 24).drop 24).drop 24).drop 24).take 24).all (fun c => isCode c || c.before args0 about1) = true := by decide +kernel
set_option maxRecDepth 65536 in
theorem w_t9 : (((((((((words1.drop 24).drop 24).drop 24).drop 24).drop 24).drop 24).drop 24).drop 24).take 24).all (fun c => isCode c || c.before args0 about1) = true := by decide +kernel
set_option maxRecDepth 65536 in
theorem w_t10 : ((((((((((words1.drop 24).drop 24).drop 24).drop 24).drop 24).drop 24).drop 24).drop 24).drop 24).take 24).all (fun c => isCode c || c.before args0 about1) = true := by decide +kernel
set_option maxRecDepth 65536 in
theorem w_t11 : ((((((((((words1.drop 24).drop 24).drop 24).drop 24).drop 24).drop 24).drop 24).drop 24).drop 24).drop 24).all (fun c => isCode c || c.before args0 about1) = true := by decide +kernel
theorem w_tables : (allAtoms (Jvm.Cond.code x code maxLocals ret :: tables_1)).before args0 about1 = true := by
  rw [allAtoms_all]
  show words1.all (fun c => c.before args0 about1) = true
  refine all_split ?_ w_codes
  rw [← List.take_append_drop 24 words1, List.all_append, w_t1, ← List.take_append_drop 24 (words1.drop 24), List.all_append, w_t2, ← List.take_append_drop 24 ((words1.drop 24).drop 24), List.all_append, w_t3, ← List.take_append_drop 24 (((words1.drop 24).drop 24).drop 24), List.all_append, w_t4, ← List.take_append_drop 24 ((((words1.drop 24).drop 24).drop 24).drop 24), List.all_append, w_t5, ← List.take_append_drop 24 (((((words1.drop 24).drop 24).drop 24).drop 24).drop 24), List.all_append, w_t6, ← List.take_append_drop 24 ((((((words1.drop 24).drop 24).drop 24).drop 24).drop 24).drop 24), List.all_append, w_t7, ← List.take_append_drop 24 (((((((words1.drop 24).drop 24).drop 24).drop 24).drop 24).drop 24).drop 24), List.all_append, w_t8, ← List.take_append_drop 24 ((((((((words1.drop 24).drop 24).drop 24).drop 24).drop 24).drop 24).drop 24).drop 24), List.all_append, w_t9, ← List.take_append_drop 24 (((((((((words1.drop 24).drop 24).drop 24).drop 24).drop 24).drop 24).drop 24).drop 24).drop 24), List.all_append, w_t10, w_t11]
  rfl
set_option maxRecDepth 65536 in
theorem w_rest : rest_1_c.before args0 about1 = true := by decide +kernel
set_option maxRecDepth 65536 in
theorem w_case : (Jvm.Cond.and given_1 narrow_1).before args0 about1 = true := by decide +kernel
set_option maxRecDepth 65536 in
theorem w_consts : constsHeld consts_1 about1 := Jvm.Lit.constsHeldB_iff.mp (by decide +kernel)
theorem w_applies : (headSpec (Jvm.Cond.code x code maxLocals ret :: tables_1) room_1).applies x e0.platform about1 = true :=
  (Spec.applies_iff w_frames).mpr ⟨w_running, w_runnable, w_alone, w_named, w_hears, w_ripe, w_room, w_tables⟩
theorem atStart : AtStart classFile x code maxLocals ret World_1 tables_1 room_1 Calls_1 rest_1 Pre_1 launch0 p0 e0 about1 theMethod args0 below0 :=
  ⟨lists_1, trivial, launch0.admits_env _ _ _, launch0.least_env, fairChoices_fair.cas, fairChoices_fair.clock, w_frames, w_args, w_heap, w_applies, ⟨w_consts, trivial⟩, w_rest, w_case⟩
end start1
theorem witness_1 : WitnessClaimed_1 := ⟨start1.p0, start1.e0, start1.about1, start1.theMethod, start1.args0, start1.below0, start1.atStart⟩
end Jvm.Pilot.@@N@@
