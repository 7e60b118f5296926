import JvmDerived
import JvmDerived.Pilot.@@N@@Statement
import JvmDerived.Pilot.@@N@@Code
set_option linter.unusedVariables false
set_option linter.unusedSimpArgs false

/- laws to paste: Road.backV, Road.lenW, Road.chN, Road.codOf, lo8_inj (cut by pick.py; bodies as the Statement names them) -/
namespace Jvm.Pilot.@@N@@
namespace StrChars
open Jvm Sem ClassFile Op Lib Jvm.Stand Jvm.Free.XT Jvm.Free.ALB Jvm.Free.JM Jvm.Free
open Jvm.Lib.Cold (StaticIs)
/-- a char array whose places are chars -/
def Ch (a : Addr) (A : Cell) (U : State) : Prop := Arr .char a A U ∧ Typed .char A
theorem Ch.mv {a : Addr} {A : Cell} {U U' : State} (h : Ch a A U) (hal : U.vm.Alike U'.vm) (hh : U'.heap = U.heap) : Ch a A U' := ⟨h.1.mv hal hh, h.2⟩
theorem Ch.keep {a : Addr} {A : Cell} {U U' : State} (h : Ch a A U) (hal : U.vm.Alike U'.vm) (hk : U'.heap[a]? = some A) : Ch a A U' := ⟨h.1.keep hal hk, h.2⟩
/-- what place i of a char[]'s cell holds -/
def cv (A : Cell) (i : Nat) : Int32 := match A.slots[i]? with | some (.int x) => x | _ => 0
theorem Ch.get {a : Addr} {A : Cell} {U : State} (h : Ch a A U) {i : Nat} (hi : i < A.slots.size) : A.slots[i]? = some (.int (cv A i)) := by
  have e := Array.getElem?_eq_getElem hi
  have f := h.2 i _ e
  unfold cv; rw [e]
  generalize A.slots[i] = v at f
  cases v <;> simp [fits] at f ⊢
/-- the byte that i2b leaves of a char -/
def lo8 (x : Int32) : Int32 := x.toInt8.toInt32
theorem fits_lo8 (y : Int32) : fits .byte (.int (lo8 y)) = true := by
  have h1 := y.toInt8.le_toInt
  have h2 := y.toInt8.toInt_lt
  simp only [lo8, fits, Bool.and_eq_true, decide_eq_true_eq, Int32.le_iff_toInt_le, Int8.toInt_toInt32, show (-128 : Int32).toInt = -128 from by decide, show (127 : Int32).toInt = 127 from by decide]
  omega
/-- A' is A but that each place j of lo .. hi - 1 holds f j -/
def Laid (A A' : Cell) (lo hi : Nat) (f : Nat → Value) : Prop := A'.cls = A.cls ∧ A'.vm = A.vm ∧ A'.slots.size = A.slots.size ∧ ∀ i, A'.slots[i]? = if lo ≤ i ∧ i < hi then some (f i) else A.slots[i]?
theorem Laid.zero (A : Cell) (lo : Nat) (f : Nat → Value) : Laid A A lo (lo + 0) f := ⟨rfl, rfl, rfl, fun i => by rw [if_neg (by omega)]⟩
theorem Laid.step {A Ak : Cell} {lo k : Nat} {f : Nat → Value} {v : Value} (h : Laid A Ak lo k f) (hlo : lo ≤ k) (hk : k < Ak.slots.size) (hv : v = f k) : Laid A (Ak.setSlot k v) lo (k + 1) f := by
  refine ⟨h.1, h.2.1, by simpa [Cell.setSlot] using h.2.2.1, fun i => ?_⟩
  by_cases e : k = i
  · subst e; rw [Cell.slots_setSlot_self v hk, if_pos (by omega), hv]
  · rw [Cell.slots_setSlot_ne v e, h.2.2.2 i]
    by_cases q : lo ≤ i ∧ i < k
    · rw [if_pos q, if_pos (by omega)]
    · rw [if_neg q, if_neg (by omega)]
def U16 : String := "java/lang/StringUTF16"
namespace Cmp5
def yN : MethodName := ⟨"java/lang/StringUTF16", "compress", "([CI[BII)I"⟩
abbrev yB : ByteArray := jdk_52_method_21_code
theorem d0 : decode yB 0 = .ok (.iconst 0, 1) := by decide +kernel
theorem d1 : decode yB 1 = .ok (.istore 5, 2) := by decide +kernel
theorem d3 : decode yB 3 = .ok (.iload 5, 2) := by decide +kernel
theorem d5 : decode yB 5 = .ok (.iload 4, 2) := by decide +kernel
theorem d7 : decode yB 7 = .ok (.if_icmp (.ge) 37, 3) := by decide +kernel
theorem d10 : decode yB 10 = .ok (.aload_n 0, 1) := by decide +kernel
theorem d11 : decode yB 11 = .ok (.iload_n 1, 1) := by decide +kernel
theorem d12 : decode yB 12 = .ok (.caload, 1) := by decide +kernel
theorem d13 : decode yB 13 = .ok (.istore 6, 2) := by decide +kernel
theorem d15 : decode yB 15 = .ok (.iload 6, 2) := by decide +kernel
theorem d17 : decode yB 17 = .ok (.sipush 255, 3) := by decide +kernel
theorem d20 : decode yB 20 = .ok (.if_icmp (.le) 6, 3) := by decide +kernel
theorem d26 : decode yB 26 = .ok (.aload_n 2, 1) := by decide +kernel
theorem d27 : decode yB 27 = .ok (.iload_n 3, 1) := by decide +kernel
theorem d28 : decode yB 28 = .ok (.iload 6, 2) := by decide +kernel
theorem d30 : decode yB 30 = .ok (.i2b, 1) := by decide +kernel
theorem d31 : decode yB 31 = .ok (.bastore, 1) := by decide +kernel
theorem d32 : decode yB 32 = .ok (.iinc 1 1, 3) := by decide +kernel
theorem d35 : decode yB 35 = .ok (.iinc 3 1, 3) := by decide +kernel
theorem d38 : decode yB 38 = .ok (.iinc 5 1, 3) := by decide +kernel
theorem d41 : decode yB 41 = .ok (.goto (-38), 3) := by decide +kernel
theorem d44 : decode yB 44 = .ok (.iload 4, 2) := by decide +kernel
theorem d46 : decode yB 46 = .ok (.ireturn, 1) := by decide +kernel
def site : List Cond := []
def tab : Cond := tabOf yN yB 7 (some .int) site
def P (b : Addr) (A : Cell) (d : Addr) (B : Cell) (o q len : Nat) (args : Array Value) (s : State) : Prop := args = #[.ref b, .int (Int32.ofNat o), .ref d, .int (Int32.ofNat q), .int (Int32.ofNat len)] ∧ Ch b A s ∧ Arr .byte d B s ∧ b ≠ d ∧ o + len ≤ A.slots.size ∧ q + len ≤ B.slots.size ∧ ∀ i, i < len → ¬ 255 < cv A (o + i)
def E (b : Addr) (A : Cell) (d : Addr) (B : Cell) (o q len : Nat) (r : Option Value) (s u : State) : Prop := r = some (.int (Int32.ofNat len)) ∧ ∃ B', Put d B' s u ∧ Laid B B' q (q + len) (fun j => Value.int (lo8 (cv A (o + (j - q)))))
/-- no char of the range above 255: len; the places written hold each char's low byte -/
theorem law (l : Launch) (b : Addr) (A : Cell) (d : Addr) (B : Cell) (o q len : Nat) : Law l yN 5 5 0 0 yB 7 (some .int) site (P b A d B o q len) (E b A d B o q len) (copyLocs d q len) 0 0 := by
  refine Law.of_walk (plainFor_of_name (by decide +kernel)) (by decide +kernel) (by decide +kernel) (by decide) (fun _ _ h => by rw [h.1]; rfl) (fun _ U U' hal hh h => ⟨h.1, h.2.1.mv hal hh, h.2.2.1.mv hal hh, h.2.2.2⟩) (fun r U U' V V' h1 hal h2 h => ⟨h.1, h.2.elim fun B' q => ⟨B', q.1.mv h1 h2, q.2⟩⟩) ?_
  intro p e s m args below meth c s₁ X0 hexec hbytes hml hret hlk hnm hown hh0 W hP
  obtain ⟨rfl, hA, hB, hne, l1, l2, hp⟩ := hP
  have c1 : Steps p.tables e below (s₁.setTop (entryFrame m #[.ref b, .int (Int32.ofNat o), .ref d, .int (Int32.ofNat q), .int (Int32.ofNat len)] 7)) (s₁.setTop (mkF m 0 #[.val (.ref b), .val (.int (Int32.ofNat o)), .val (.ref d), .val (.int (Int32.ofNat q)), .val (.int (Int32.ofNat len)), .unset, .unset] [])) := entry rfl
  have hA0 := hA.1.mv X0.warmed.alike hh0
  have hB0 := hB.mv X0.warmed.alike hh0
  have a31 := hA.1.2.2.2
  have c2 : Steps p.tables e below (s₁.setTop (entryFrame m #[.ref b, .int (Int32.ofNat o), .ref d, .int (Int32.ofNat q), .int (Int32.ofNat len)] 7)) (s₁.setTop (mkF m 3 #[.val (.ref b), .val (.int (Int32.ofNat o)), .val (.ref d), .val (.int (Int32.ofNat q)), .val (.int (Int32.ofNat len)), .val (.int 0), .unset] [])) := c1.trans (by
    refine iconstV X0.here hexec rfl 0 (hb hbytes d0) (by decide) ?_
    refine XS.istore X0.here hexec rfl (hb hbytes d1) rfl rfl ?_
    exact Steps.refl _)
  have loop : ∀ (r i : Nat), i + r = len → ∀ (z : Slot), (z = .unset ∨ ∃ w, z = .val w ∧ w.category = 1) → ∀ (Tl : State) (Bk : Cell), Stand p l e { frames := 0, locals := 0, cells := 0, slots := 0 } s m #[.ref b, .int (Int32.ofNat o), .ref d, .int (Int32.ofNat q), .int (Int32.ofNat len)] below meth c Tl ([] ++ copyLocs d q i) 0 0 → Put d Bk s₁ Tl → Laid B Bk q (q + i) (fun j => Value.int (lo8 (cv A (o + (j - q))))) →
      Steps p.tables e below (s₁.setTop (entryFrame m #[.ref b, .int (Int32.ofNat o), .ref d, .int (Int32.ofNat q), .int (Int32.ofNat len)] 7)) (Tl.setTop (mkF m 3 #[.val (.ref b), .val (.int (Int32.ofNat (o + i))), .val (.ref d), .val (.int (Int32.ofNat (q + i))), .val (.int (Int32.ofNat len)), .val (.int (Int32.ofNat i)), z] [])) → ∃ (T' : State) (B' : Cell) (z' : Slot), Stand p l e { frames := 0, locals := 0, cells := 0, slots := 0 } s m #[.ref b, .int (Int32.ofNat o), .ref d, .int (Int32.ofNat q), .int (Int32.ofNat len)] below meth c T' ([] ++ copyLocs d q len) 0 0 ∧ Put d B' s₁ T' ∧ Laid B B' q (q + len) (fun j => Value.int (lo8 (cv A (o + (j - q))))) ∧
      Steps p.tables e below (s₁.setTop (entryFrame m #[.ref b, .int (Int32.ofNat o), .ref d, .int (Int32.ofNat q), .int (Int32.ofNat len)] 7)) (T'.setTop (mkF m 3 #[.val (.ref b), .val (.int (Int32.ofNat (o + len))), .val (.ref d), .val (.int (Int32.ofNat (q + len))), .val (.int (Int32.ofNat len)), .val (.int (Int32.ofNat len)), z'] [])) := by
    intro r
    induction r with
    | zero =>
      intro i hi z hz Tl Bk Xl pl fl cl
      have hil : i = len := by omega
      rw [hil] at Xl fl cl
      exact ⟨Tl, Bk, z, Xl, pl, fl, cl⟩
    | succ r ih =>
      intro i hi z hz Tl Bk Xl pl fl cl
      have all := X0.warmed.alike.symm.trans Xl.warmed.alike
      have hAl := hA0.keep all (pl.other hne hA0.1)
      have hBk := hB0.like all pl.1 fl.1 fl.2.1 fl.2.2.1
      have hlt : q + i < Bk.slots.size := by rw [fl.2.2.1]; omega
      have c3 : Steps p.tables e below (s₁.setTop (entryFrame m #[.ref b, .int (Int32.ofNat o), .ref d, .int (Int32.ofNat q), .int (Int32.ofNat len)] 7)) (Tl.setTop (mkF m 12 #[.val (.ref b), .val (.int (Int32.ofNat (o + i))), .val (.ref d), .val (.int (Int32.ofNat (q + i))), .val (.int (Int32.ofNat len)), .val (.int (Int32.ofNat i)), z] [.int (Int32.ofNat (o + i)), .ref b])) := cl.trans (by
        refine XS.iload Xl.here hexec rfl (hb hbytes d3) rfl ?_
        refine XS.iload Xl.here hexec rfl (hb hbytes d5) rfl ?_
        refine XS.icmpNo Xl.here hexec rfl (hb hbytes d7) rfl (ii_ge_f (lt32 (by omega) (by omega))) ?_
        refine XS.aloadN Xl.here hexec rfl (hb hbytes d10) rfl rfl ?_
        refine XS.iloadN Xl.here hexec rfl (hb hbytes d11) rfl ?_
        exact Steps.refl _)
      have c4 : Steps p.tables e below (s₁.setTop (entryFrame m #[.ref b, .int (Int32.ofNat o), .ref d, .int (Int32.ofNat q), .int (Int32.ofNat len)] 7)) (Tl.setTop (mkF m 13 #[.val (.ref b), .val (.int (Int32.ofNat (o + i))), .val (.ref d), .val (.int (Int32.ofNat (q + i))), .val (.int (Int32.ofNat len)), .val (.int (Int32.ofNat i)), z] [.int (cv A (o + i))])) := c3.trans (by
        refine Xl.aget hexec hAl rfl (hA.get (i := o + i) (by omega)) rfl rfl (hb hbytes d12) ?_
        exact Steps.refl _)
      have c5 : Steps p.tables e below (s₁.setTop (entryFrame m #[.ref b, .int (Int32.ofNat o), .ref d, .int (Int32.ofNat q), .int (Int32.ofNat len)] 7)) (Tl.setTop (mkF m 15 #[.val (.ref b), .val (.int (Int32.ofNat (o + i))), .val (.ref d), .val (.int (Int32.ofNat (q + i))), .val (.int (Int32.ofNat len)), .val (.int (Int32.ofNat i)), .val (.int (cv A (o + i)))] [])) := c4.trans (by
        refine XS.istoreS Xl.here hexec rfl (hb hbytes d13) rfl rfl hz ?_
        exact Steps.refl _)
      have c6 : Steps p.tables e below (s₁.setTop (entryFrame m #[.ref b, .int (Int32.ofNat o), .ref d, .int (Int32.ofNat q), .int (Int32.ofNat len)] 7)) (Tl.setTop (mkF m 31 #[.val (.ref b), .val (.int (Int32.ofNat (o + i))), .val (.ref d), .val (.int (Int32.ofNat (q + i))), .val (.int (Int32.ofNat len)), .val (.int (Int32.ofNat i)), .val (.int (cv A (o + i)))] [.int (lo8 (cv A (o + i))), .int (Int32.ofNat (q + i)), .ref d])) := c5.trans (by
        refine XS.iload Xl.here hexec rfl (hb hbytes d15) rfl ?_
        refine sipushV Xl.here hexec rfl 255 (hb hbytes d17) (by decide) ?_
        refine XS.icmpYes Xl.here hexec rfl (pc0 := 20) rfl (hb hbytes d20) rfl (ii_le_t (hp i (by omega))) (by decide) rfl ?_
        refine XS.aloadN Xl.here hexec rfl (hb hbytes d26) rfl rfl ?_
        refine XS.iloadN Xl.here hexec rfl (hb hbytes d27) rfl ?_
        refine XS.iload Xl.here hexec rfl (hb hbytes d28) rfl ?_
        refine i2b Xl.here hexec rfl (hb hbytes d30) rfl ?_
        exact Steps.refl _)
      obtain ⟨T7, X7, p7, st7⟩ := Xl.aput hexec hBk rfl hlt rfl (fits_lo8 (cv A (o + i))) (g := (mkF m 31 #[.val (.ref b), .val (.int (Int32.ofNat (o + i))), .val (.ref d), .val (.int (Int32.ofNat (q + i))), .val (.int (Int32.ofNat len)), .val (.int (Int32.ofNat i)), .val (.int (cv A (o + i)))] [.int (lo8 (cv A (o + i))), .int (Int32.ofNat (q + i)), .ref d])) rfl (rest := []) rfl (hb hbytes d31)
      have c8 : Steps p.tables e below (s₁.setTop (entryFrame m #[.ref b, .int (Int32.ofNat o), .ref d, .int (Int32.ofNat q), .int (Int32.ofNat len)] 7)) (T7.setTop (mkF m 32 #[.val (.ref b), .val (.int (Int32.ofNat (o + i))), .val (.ref d), .val (.int (Int32.ofNat (q + i))), .val (.int (Int32.ofNat len)), .val (.int (Int32.ofNat i)), .val (.int (cv A (o + i)))] [])) := c6.trans (st7 _ (Steps.refl _))
      have c9 : Steps p.tables e below (s₁.setTop (entryFrame m #[.ref b, .int (Int32.ofNat o), .ref d, .int (Int32.ofNat q), .int (Int32.ofNat len)] 7)) (T7.setTop (mkF m 3 #[.val (.ref b), .val (.int (Int32.ofNat (o + i) + 1)), .val (.ref d), .val (.int (Int32.ofNat (q + i) + 1)), .val (.int (Int32.ofNat len)), .val (.int (Int32.ofNat i + 1)), .val (.int (cv A (o + i)))] [])) := c8.trans (by
        refine iincV X7.here hexec rfl 1 (hb hbytes d32) (by decide) rfl rfl ?_
        refine iincV X7.here hexec rfl 1 (hb hbytes d35) (by decide) rfl rfl ?_
        refine iincV X7.here hexec rfl 1 (hb hbytes d38) (by decide) rfl rfl ?_
        refine XS.goto X7.here hexec rfl (pc0 := 41) rfl (hb hbytes d41) (by decide) rfl ?_
        exact Steps.refl _)
      have c10 : Steps p.tables e below (s₁.setTop (entryFrame m #[.ref b, .int (Int32.ofNat o), .ref d, .int (Int32.ofNat q), .int (Int32.ofNat len)] 7)) (T7.setTop (mkF m 3 #[.val (.ref b), .val (.int (Int32.ofNat (o + (i + 1)))), .val (.ref d), .val (.int (Int32.ofNat (q + (i + 1)))), .val (.int (Int32.ofNat len)), .val (.int (Int32.ofNat (i + 1))), .val (.int (cv A (o + i)))] [])) := by
        have := c9
        rw [succ32, succ32, succ32] at this
        exact this
      exact ih (i + 1) (by omega) _ (Or.inr ⟨_, rfl, rfl⟩) T7 _ (by rw [copyLocs_step, ← List.append_assoc]; exact X7) (pl.trans p7) (fl.step (by omega) hlt (by simp)) c10
  obtain ⟨T9, B9, z9, X9, p9, f9, g9⟩ := loop len 0 (by omega) .unset (Or.inl rfl) s₁ B (by simpa [copyLocs] using X0) ⟨hB0.1, fun _ _ => rfl, rfl⟩ (Laid.zero _ _ _) c2
  have c11 : Steps p.tables e below (s₁.setTop (entryFrame m #[.ref b, .int (Int32.ofNat o), .ref d, .int (Int32.ofNat q), .int (Int32.ofNat len)] 7)) (T9.setTop (mkF m 46 #[.val (.ref b), .val (.int (Int32.ofNat (o + len))), .val (.ref d), .val (.int (Int32.ofNat (q + len))), .val (.int (Int32.ofNat len)), .val (.int (Int32.ofNat len)), z9] [.int (Int32.ofNat len)])) := g9.trans (by
    refine XS.iload X9.here hexec rfl (hb hbytes d3) rfl ?_
    refine XS.iload X9.here hexec rfl (hb hbytes d5) rfl ?_
    refine XS.icmpYes X9.here hexec rfl (pc0 := 7) rfl (hb hbytes d7) rfl (ii_ge_t (nlt32 (by omega) (Nat.le_refl _))) (by decide) rfl ?_
    refine XS.iload X9.here hexec rfl (hb hbytes d44) rfl ?_
    exact Steps.refl _)
  exact ⟨T9, some (.int (Int32.ofNat len)), _, _, _, X9, by simp, rfl, rfl, (fun h => by cases h), ⟨rfl, B9, p9.from hh0, f9⟩, fun fs hl => c11.trans (X9.ireturnOut hexec hret rfl (Or.inl rfl) (hb hbytes d46) hl)⟩
end Cmp5
namespace Cmp3
def yN : MethodName := ⟨"java/lang/StringUTF16", "compress", "([CII)[B"⟩
abbrev yB : ByteArray := jdk_52_method_16_code
theorem d0 : decode yB 0 = .ok (.iload_n 2, 1) := by decide +kernel
theorem d1 : decode yB 1 = .ok (.newarray .byte, 2) := by decide +kernel
theorem d3 : decode yB 3 = .ok (.astore_n 3, 1) := by decide +kernel
theorem d4 : decode yB 4 = .ok (.aload_n 0, 1) := by decide +kernel
theorem d5 : decode yB 5 = .ok (.iload_n 1, 1) := by decide +kernel
theorem d6 : decode yB 6 = .ok (.aload_n 3, 1) := by decide +kernel
theorem d7 : decode yB 7 = .ok (.iconst 0, 1) := by decide +kernel
theorem d8 : decode yB 8 = .ok (.iload_n 2, 1) := by decide +kernel
theorem d9 : decode yB 9 = .ok (.invokestatic 115, 3) := by decide +kernel
theorem d12 : decode yB 12 = .ok (.istore 4, 2) := by decide +kernel
theorem d14 : decode yB 14 = .ok (.iload 4, 2) := by decide +kernel
theorem d16 : decode yB 16 = .ok (.iload_n 2, 1) := by decide +kernel
theorem d17 : decode yB 17 = .ok (.if_icmp (.eq) 40, 3) := by decide +kernel
theorem d57 : decode yB 57 = .ok (.aload_n 3, 1) := by decide +kernel
theorem d58 : decode yB 58 = .ok (.areturn, 1) := by decide +kernel
def site : List Cond := [.arrayClass .byte, Cmp5.tab] ++ staticW U16 115 Cmp5.yN
def tab : Cond := tabOf yN yB 6 (some (.array .byte)) site
def P (b : Addr) (A : Cell) (o len : Nat) (args : Array Value) (s : State) : Prop := args = #[.ref b, .int (Int32.ofNat o), .int (Int32.ofNat len)] ∧ Ch b A s ∧ o + len ≤ A.slots.size ∧ len ≤ 536870912 ∧ ∀ i, i < len → ¬ 255 < cv A (o + i)
def E (b : Addr) (A : Cell) (o len : Nat) (r : Option Value) (s u : State) : Prop := NewArr .byte "[B" len (fun j => .int (lo8 (cv A (o + j)))) r s u ∧ u.heap.size = s.heap.size + 1
/-- no char of the range above 255: a new byte[] of their low bytes -/
theorem law (l : Launch) (b : Addr) (A : Cell) (o len : Nat) : Law l yN 3 3 1 18 yB 6 (some (.array .byte)) site (P b A o len) (E b A o len) [] 1 len := by
  refine Law.of_walk (plainFor_of_name (by decide +kernel)) (by decide +kernel) (by decide +kernel) (by decide) (fun _ _ h => by rw [h.1]; rfl) (fun _ U U' hal hh h => ⟨h.1, h.2.1.mv hal hh, h.2.2⟩) (fun r U U' V V' h1 hal h2 h => ⟨NewArr.mv r U U' V V' h1 hal h2 h.1, by rw [h1, h2]; exact h.2⟩) ?_
  intro p e s m args below meth c s₁ X0 hexec hbytes hml hret hlk hnm hown hh0 W hP
  obtain ⟨rfl, hA, l1, l2, hp⟩ := hP
  have a31 := hA.1.2.2.2
  have c1 : Steps p.tables e below (s₁.setTop (entryFrame m #[.ref b, .int (Int32.ofNat o), .int (Int32.ofNat len)] 6)) (s₁.setTop (mkF m 0 #[.val (.ref b), .val (.int (Int32.ofNat o)), .val (.int (Int32.ofNat len)), .unset, .unset, .unset] [])) := entry rfl
  have c2 : Steps p.tables e below (s₁.setTop (entryFrame m #[.ref b, .int (Int32.ofNat o), .int (Int32.ofNat len)] 6)) (s₁.setTop (mkF m 1 #[.val (.ref b), .val (.int (Int32.ofNat o)), .val (.int (Int32.ofNat len)), .unset, .unset, .unset] [.int (Int32.ofNat len)])) := c1.trans (by
    refine XS.iloadN X0.here hexec rfl (hb hbytes d0) rfl ?_
    exact Steps.refl _)
  obtain ⟨T3, B3, X3, ba3, bs3, bv3, bh3, bf3, st3⟩ := X0.anew hexec (atype := .byte) (wk W (.arrayClass .byte)) rfl (by show len * 1 ≤ _; omega) (by omega) (g := (mkF m 1 #[.val (.ref b), .val (.int (Int32.ofNat o)), .val (.int (Int32.ofNat len)), .unset, .unset, .unset] [.int (Int32.ofNat len)])) rfl (hb hbytes d1) (rest := []) rfl (Nat.le_refl _) (by show 0 + len ≤ len; omega)
  rw [hh0] at ba3 st3
  have kp3 : XT.Kept s T3 := (XT.Kept.of_eq hh0).push bh3
  have hA3 := hA.keep X3.warmed.alike (kp3 _ _ hA.1.1)
  have hne : b ≠ s.heap.size := hA.1.ne
  have c4 : Steps p.tables e below (s₁.setTop (entryFrame m #[.ref b, .int (Int32.ofNat o), .int (Int32.ofNat len)] 6)) (T3.setTop (mkF m 3 #[.val (.ref b), .val (.int (Int32.ofNat o)), .val (.int (Int32.ofNat len)), .unset, .unset, .unset] [.ref s.heap.size])) := c2.trans (st3 _ (Steps.refl _))
  have c5 : Steps p.tables e below (s₁.setTop (entryFrame m #[.ref b, .int (Int32.ofNat o), .int (Int32.ofNat len)] 6)) (T3.setTop (mkF m 9 #[.val (.ref b), .val (.int (Int32.ofNat o)), .val (.int (Int32.ofNat len)), .val (.ref s.heap.size), .unset, .unset] [.int (Int32.ofNat len), .int 0, .ref s.heap.size, .int (Int32.ofNat o), .ref b])) := c4.trans (by
    refine XS.astoreN X3.here hexec rfl (hb hbytes d3) rfl rfl rfl ?_
    refine XS.aloadN X3.here hexec rfl (hb hbytes d4) rfl rfl ?_
    refine XS.iloadN X3.here hexec rfl (hb hbytes d5) rfl ?_
    refine XS.aloadN X3.here hexec rfl (hb hbytes d6) rfl rfl ?_
    refine iconstV X3.here hexec rfl 0 (hb hbytes d7) (by decide) ?_
    refine XS.iloadN X3.here hexec rfl (hb hbytes d8) rfl ?_
    exact Steps.refl _)
  obtain ⟨v6, T6, X6, E6, g6⟩ := X3.callS hexec (Cmp5.law l b A s.heap.size B3 o 0 len) hown (wks W (staticW U16 115 Cmp5.yN)) (wk W Cmp5.tab) (W := 0) (Nat.le_of_ble_eq_true rfl) (Nat.le_of_ble_eq_true rfl) (Nat.le_refl _) (by show 0 + len + 0 ≤ len; omega) (g := (mkF m 9 #[.val (.ref b), .val (.int (Int32.ofNat o)), .val (.int (Int32.ofNat len)), .val (.ref s.heap.size), .unset, .unset] [.int (Int32.ofNat len), .int (Int32.ofNat 0), .ref s.heap.size, .int (Int32.ofNat o), .ref b])) rfl (by rw [hml]; rfl) c5 (argsL := [.ref b, .int (Int32.ofNat o), .ref s.heap.size, .int (Int32.ofNat 0), .int (Int32.ofNat len)]) (rest := []) rfl rfl (by show 2 * 0 + 0 ≤ _; decide) (hb hbytes d9) (⟨rfl, hA3, ba3, hne, l1, by rw [bs3]; simp, hp⟩)
  obtain ⟨rfl, B6, p6, f6⟩ := E6
  have c7 : Steps p.tables e below (s₁.setTop (entryFrame m #[.ref b, .int (Int32.ofNat o), .int (Int32.ofNat len)] 6)) (T6.setTop (mkF m 12 #[.val (.ref b), .val (.int (Int32.ofNat o)), .val (.int (Int32.ofNat len)), .val (.ref s.heap.size), .unset, .unset] [.int (Int32.ofNat len)])) := g6
  have c8 : Steps p.tables e below (s₁.setTop (entryFrame m #[.ref b, .int (Int32.ofNat o), .int (Int32.ofNat len)] 6)) (T6.setTop (mkF m 58 #[.val (.ref b), .val (.int (Int32.ofNat o)), .val (.int (Int32.ofNat len)), .val (.ref s.heap.size), .val (.int (Int32.ofNat len)), .unset] [.ref s.heap.size])) := c7.trans (by
    refine XS.istore X6.here hexec rfl (hb hbytes d12) rfl rfl ?_
    refine XS.iload X6.here hexec rfl (hb hbytes d14) rfl ?_
    refine XS.iloadN X6.here hexec rfl (hb hbytes d16) rfl ?_
    refine XS.icmpYes X6.here hexec rfl (pc0 := 17) rfl (hb hbytes d17) rfl (ii_eq_t rfl) (by decide) rfl ?_
    refine XS.aloadN X6.here hexec rfl (hb hbytes d57) rfl rfl ?_
    exact Steps.refl _)
  have X8 := X6.wide (L' := []) (cells' := 1) (slots' := len) (fun x hx hlt => by
    simp only [List.nil_append, copyLocs, List.mem_map, List.mem_range] at hx
    obtain ⟨i, -, rfl⟩ := hx
    exact absurd hlt (Nat.lt_irrefl _)) (Nat.le_refl _) (by omega)
  exact ⟨T6, some (.ref s.heap.size), _, _, _, X8, rfl, rfl, rfl, (fun h => by cases h), ⟨⟨rfl, B6, ba3.like (X3.warmed.alike.symm.trans X6.warmed.alike) p6.1 f6.1 f6.2.1 f6.2.2.1, f6.2.1.trans bv3, by rw [X6.warmed.alike.findClass, f6.1]; exact bf3, by rw [f6.2.2.1, bs3]; simp, fun j hj => by rw [f6.2.2.2 j, if_pos (by omega)]; rfl, kp3.put p6 (Nat.le_refl _)⟩, by rw [p6.2.2, bh3, hh0]; simp⟩, fun fs hl => c8.trans (X8.areturnOut hexec rfl hret rfl (hb hbytes d58) hl)⟩
end Cmp3
namespace CodL
def yN : MethodName := ⟨"java/lang/StringUTF16", "coderFromArrayLen", "([BI)B"⟩
abbrev yB : ByteArray := jdk_52_method_15_code
theorem d0 : decode yB 0 = .ok (.iload_n 1, 1) := by decide +kernel
theorem d1 : decode yB 1 = .ok (.aload_n 0, 1) := by decide +kernel
theorem d2 : decode yB 2 = .ok (.arraylength, 1) := by decide +kernel
theorem d3 : decode yB 3 = .ok (.isub, 1) := by decide +kernel
theorem d4 : decode yB 4 = .ok (.bipush 31, 2) := by decide +kernel
theorem d6 : decode yB 6 = .ok (.iushr, 1) := by decide +kernel
theorem d7 : decode yB 7 = .ok (.i2b, 1) := by decide +kernel
theorem d8 : decode yB 8 = .ok (.ireturn, 1) := by decide +kernel
def site : List Cond := []
def tab : Cond := tabOf yN yB 2 (some .byte) site
def P (d : Addr) (B : Cell) (args : Array Value) (s : State) : Prop := args = #[.ref d, .int (Int32.ofNat B.slots.size)] ∧ Arr .byte d B s
def E (r : Option Value) (s u : State) : Prop := XT.PureE (some (.int 0)) r s u
/-- an array as long as the number of chars: LATIN1 -/
theorem law (l : Launch) (d : Addr) (B : Cell) : Law l yN 2 2 0 0 yB 2 (some .byte) site (P d B) E [] 0 0 := by
  refine Law.of_walk (plainFor_of_name (by decide +kernel)) (by decide +kernel) (by decide +kernel) (by decide) (fun _ _ h => by rw [h.1]; rfl) (fun _ U U' hal hh h => ⟨h.1, h.2.mv hal hh⟩) (fun r U U' V V' h1 hal h2 h => XT.PureE.mv r U U' V V' h1 hal h2 h) ?_
  intro p e s m args below meth c s₁ X0 hexec hbytes hml hret hlk hnm hown hh0 W hP
  obtain ⟨rfl, hB⟩ := hP
  have hB0 := hB.mv X0.warmed.alike hh0
  have c1 : Steps p.tables e below (s₁.setTop (entryFrame m #[.ref d, .int (Int32.ofNat B.slots.size)] 2)) (s₁.setTop (mkF m 0 #[.val (.ref d), .val (.int (Int32.ofNat B.slots.size))] [])) := entry rfl
  have c2 : Steps p.tables e below (s₁.setTop (entryFrame m #[.ref d, .int (Int32.ofNat B.slots.size)] 2)) (s₁.setTop (mkF m 2 #[.val (.ref d), .val (.int (Int32.ofNat B.slots.size))] [.ref d, .int (Int32.ofNat B.slots.size)])) := c1.trans (by
    refine XS.iloadN X0.here hexec rfl (hb hbytes d0) rfl ?_
    refine XS.aloadN X0.here hexec rfl (hb hbytes d1) rfl rfl ?_
    exact Steps.refl _)
  have c3 : Steps p.tables e below (s₁.setTop (entryFrame m #[.ref d, .int (Int32.ofNat B.slots.size)] 2)) (s₁.setTop (mkF m 8 #[.val (.ref d), .val (.int (Int32.ofNat B.slots.size))] [.int (lo8 (ushr (Int32.ofNat B.slots.size - Int32.ofNat B.slots.size) 31))])) := c2.trans (by
    refine X0.alen hexec hB0 rfl rfl (hb hbytes d2) ?_
    refine XS.isub X0.here hexec rfl (hb hbytes d3) rfl ?_
    refine bipushV X0.here hexec rfl 31 (hb hbytes d4) (by decide) ?_
    refine iushr X0.here hexec rfl (hb hbytes d6) rfl ?_
    refine i2b X0.here hexec rfl (hb hbytes d7) rfl ?_
    exact Steps.refl _)
  have e0 : lo8 (ushr (Int32.ofNat B.slots.size - Int32.ofNat B.slots.size) 31) = 0 := by rw [Int32.sub_self]; decide
  rw [e0] at c3
  exact ⟨s₁, some (.int 0), _, _, _, X0, rfl, rfl, rfl, (fun h => by cases h), ⟨rfl, hh0⟩, fun fs hl => c3.trans (X0.ireturnOut hexec hret rfl (Or.inr (Or.inr (Or.inl rfl))) (hb hbytes d8) hl)⟩
end CodL
/-- the String at a is Latin-1 over a new byte[] (the heap's one new cell): the low bytes of the len chars of A from o on; every cell but a is kept -/
def Got (a : Addr) (D : Cell) (fV fC : Field) (A : Cell) (o len : Nat) (r : Option Value) (s u : State) : Prop := r = none ∧ ∃ D' V : Cell, Blank "java/lang/String" a D' u ∧ Same D D' [fV.slot, fC.slot] ∧ D'.slots[fV.slot]? = some (.ref s.heap.size) ∧ D'.slots[fC.slot]? = some (.int 0) ∧ Arr .byte s.heap.size V u ∧ V.vm = .none ∧ u.vm.findClass "[B" = some V.cls ∧ V.slots.size = len ∧ (∀ j, j < len → V.slots[j]? = some (.int (lo8 (cv A (o + j))))) ∧ (∀ (y : Addr) (c : Cell), y ≠ a → s.heap[y]? = some c → u.heap[y]? = some c) ∧ u.heap.size = s.heap.size + 1
theorem Got.mv {a : Addr} {D A : Cell} {fV fC : Field} {o len : Nat} : ∀ r (U U' V V' : State), U'.heap = U.heap → V.vm.Alike V'.vm → V'.heap = V.heap → Got a D fV fC A o len r U V → Got a D fV fC A o len r U' V' :=
  fun r U U' V V' h1 hal h2 ⟨e0, D', X, a1, a2, a3, a4, a5, a6, a7, a8, a9, a10, a11⟩ => ⟨e0, D', X, a1.mv hal h2, a2, by rw [h1]; exact a3, a4, by rw [h1]; exact a5.mv hal h2, a6, by rw [hal.findClass]; exact a7, a8, a9, by rw [h1, h2]; exact a10, by rw [h1, h2]; exact a11⟩
namespace New4
def yN : MethodName := ⟨"java/lang/String", "<init>", "([CIILjava/lang/Void;)V"⟩
abbrev yB : ByteArray := jdk_42_method_149_code
theorem d0 : decode yB 0 = .ok (.aload_n 0, 1) := by decide +kernel
theorem d1 : decode yB 1 = .ok (.invokespecial 1, 3) := by decide +kernel
theorem d4 : decode yB 4 = .ok (.iload_n 3, 1) := by decide +kernel
theorem d5 : decode yB 5 = .ok (.ifCond (.ne) 22, 3) := by decide +kernel
theorem d27 : decode yB 27 = .ok (.getstatic 38, 3) := by decide +kernel
theorem d30 : decode yB 30 = .ok (.ifCond (.eq) 28, 3) := by decide +kernel
theorem d33 : decode yB 33 = .ok (.aload_n 1, 1) := by decide +kernel
theorem d34 : decode yB 34 = .ok (.iload_n 2, 1) := by decide +kernel
theorem d35 : decode yB 35 = .ok (.iload_n 3, 1) := by decide +kernel
theorem d36 : decode yB 36 = .ok (.invokestatic 177, 3) := by decide +kernel
theorem d39 : decode yB 39 = .ok (.astore 5, 2) := by decide +kernel
theorem d41 : decode yB 41 = .ok (.aload_n 0, 1) := by decide +kernel
theorem d42 : decode yB 42 = .ok (.aload 5, 2) := by decide +kernel
theorem d44 : decode yB 44 = .ok (.iload_n 3, 1) := by decide +kernel
theorem d45 : decode yB 45 = .ok (.invokestatic 47, 3) := by decide +kernel
theorem d48 : decode yB 48 = .ok (.putfield 15, 3) := by decide +kernel
theorem d51 : decode yB 51 = .ok (.aload_n 0, 1) := by decide +kernel
theorem d52 : decode yB 52 = .ok (.aload 5, 2) := by decide +kernel
theorem d54 : decode yB 54 = .ok (.putfield 9, 3) := by decide +kernel
theorem d57 : decode yB 57 = .ok (.return_, 1) := by decide +kernel
def site : List Cond := [.fieldLink "java/lang/String" 38 "java/lang/String" "COMPACT_STRINGS" "Z", Cmp3.tab, CodL.tab, .laysFinal "java/lang/String" "java/lang/String" "value" "[B", .fieldLink "java/lang/String" 9 "java/lang/String" "value" "[B", .laysFinal "java/lang/String" "java/lang/String" "coder" "B", .fieldLink "java/lang/String" 15 "java/lang/String" "coder" "B"] ++ objW "java/lang/String" 1 ++ staticW "java/lang/String" 177 Cmp3.yN ++ staticW "java/lang/String" 47 CodL.yN
def tab : Cond := tabOf yN yB 6 none site
def P (a : Addr) (D : Cell) (fV fC : Field) (b : Addr) (A : Cell) (z : Int32) (o len : Nat) (args : Array Value) (s : State) : Prop := args = #[.ref a, .ref b, .int (Int32.ofNat o), .int (Int32.ofNat len), .null] ∧ Blank "java/lang/String" a D s ∧ Found "java/lang/String" "value" "[B" fV s ∧ Found "java/lang/String" "coder" "B" fC s ∧ Ch b A s ∧ StaticIs s "java/lang/String" "COMPACT_STRINGS" "Z" (.int z) ∧ ¬ z = 0 ∧ 0 < len ∧ o + len ≤ A.slots.size ∧ len ≤ 536870912 ∧ ∀ i, i < len → ¬ 255 < cv A (o + i)
def E (a : Addr) (D : Cell) (fV fC : Field) (A : Cell) (o len : Nat) (r : Option Value) (s u : State) : Prop := Got a D fV fC A o len r s u
/-- len > 0, no char of the range above 255: a Latin-1 String of their low bytes -/
theorem law (l : Launch) (a : Addr) (D : Cell) (fV fC : Field) (b : Addr) (A : Cell) (z : Int32) (o len : Nat) : Law l yN 5 4 2 35 yB 6 none site (P a D fV fC b A z o len) (E a D fV fC A o len) [⟨a, fC.slot⟩, ⟨a, fV.slot⟩] 1 len := by
  refine Law.of_walk (plainFor_of_name (by decide +kernel)) (by decide +kernel) (by decide +kernel) (by decide) (fun _ _ h => by rw [h.1]; rfl) (fun _ U U' hal hh h => ⟨h.1, h.2.1.mv hal hh, h.2.2.1.al hal, h.2.2.2.1.al hal, h.2.2.2.2.1.mv hal hh, h.2.2.2.2.2.1.there hal hh, h.2.2.2.2.2.2⟩) (fun r U U' V V' h1 hal h2 h => Got.mv r U U' V V' h1 hal h2 h) ?_
  intro p e s m args below meth c s₁ X0 hexec hbytes hml hret hlk hnm hown hh0 W hP
  obtain ⟨rfl, hB, f1, f2, hA, s1, hz, l0, l1, l2, hp⟩ := hP
  have a31 := hA.1.2.2.2
  have c1 : Steps p.tables e below (s₁.setTop (entryFrame m #[.ref a, .ref b, .int (Int32.ofNat o), .int (Int32.ofNat len), .null] 6)) (s₁.setTop (mkF m 0 #[.val (.ref a), .val (.ref b), .val (.int (Int32.ofNat o)), .val (.int (Int32.ofNat len)), .val .null, .unset] [])) := entry rfl
  have c2 : Steps p.tables e below (s₁.setTop (entryFrame m #[.ref a, .ref b, .int (Int32.ofNat o), .int (Int32.ofNat len), .null] 6)) (s₁.setTop (mkF m 1 #[.val (.ref a), .val (.ref b), .val (.int (Int32.ofNat o)), .val (.int (Int32.ofNat len)), .val .null, .unset] [.ref a])) := c1.trans (by
    refine XS.aloadN X0.here hexec rfl (hb hbytes d0) rfl rfl ?_
    exact Steps.refl _)
  obtain ⟨T3, X3, q3, st3⟩ := X0.oinit hexec hown (wks W (objW "java/lang/String" 1)) (g := (mkF m 1 #[.val (.ref a), .val (.ref b), .val (.int (Int32.ofNat o)), .val (.int (Int32.ofNat len)), .val .null, .unset] [.ref a])) rfl (by rw [hml]; rfl) (rest := []) rfl (hb hbytes d1) (W := 0) (by show 2 * 0 + 0 ≤ _; decide) (Nat.le_of_ble_eq_true rfl) (Nat.le_of_ble_eq_true rfl)
  have hh3 := q3.trans hh0
  have c4 : Steps p.tables e below (s₁.setTop (entryFrame m #[.ref a, .ref b, .int (Int32.ofNat o), .int (Int32.ofNat len), .null] 6)) (T3.setTop (mkF m 27 #[.val (.ref a), .val (.ref b), .val (.int (Int32.ofNat o)), .val (.int (Int32.ofNat len)), .val .null, .unset] [])) := (c2.trans (st3 _ (Steps.refl _))).trans (by
    refine XS.iloadN X3.here hexec rfl (hb hbytes d4) rfl ?_
    refine XS.ifYes X3.here hexec rfl (pc0 := 5) rfl (hb hbytes d5) rfl (i0_ne_t (nz32 (by omega) l0)) (by decide) rfl ?_
    exact Steps.refl _)
  obtain ⟨T5, X5, q5, st5⟩ := X3.sget hexec hown (wk W (.fieldLink "java/lang/String" 38 "java/lang/String" "COMPACT_STRINGS" "Z")) s1 (fun _ _ h => by rw [hh3]; exact h) (g := (mkF m 27 #[.val (.ref a), .val (.ref b), .val (.int (Int32.ofNat o)), .val (.int (Int32.ofNat len)), .val .null, .unset] [])) rfl (hb hbytes d27)
  have hh5 := q5.trans hh3
  have c6 : Steps p.tables e below (s₁.setTop (entryFrame m #[.ref a, .ref b, .int (Int32.ofNat o), .int (Int32.ofNat len), .null] 6)) (T5.setTop (mkF m 30 #[.val (.ref a), .val (.ref b), .val (.int (Int32.ofNat o)), .val (.int (Int32.ofNat len)), .val .null, .unset] [.int z])) := c4.trans (st5 _ (Steps.refl _))
  have c7 : Steps p.tables e below (s₁.setTop (entryFrame m #[.ref a, .ref b, .int (Int32.ofNat o), .int (Int32.ofNat len), .null] 6)) (T5.setTop (mkF m 36 #[.val (.ref a), .val (.ref b), .val (.int (Int32.ofNat o)), .val (.int (Int32.ofNat len)), .val .null, .unset] [.int (Int32.ofNat len), .int (Int32.ofNat o), .ref b])) := c6.trans (by
    refine XS.ifNo X5.here hexec rfl (hb hbytes d30) rfl (i0_eq_f hz) ?_
    refine XS.aloadN X5.here hexec rfl (hb hbytes d33) rfl rfl ?_
    refine XS.iloadN X5.here hexec rfl (hb hbytes d34) rfl ?_
    refine XS.iloadN X5.here hexec rfl (hb hbytes d35) rfl ?_
    exact Steps.refl _)
  obtain ⟨v8, T8, X8, E8, g8⟩ := X5.callS hexec (Cmp3.law l b A o len) hown (wks W (staticW "java/lang/String" 177 Cmp3.yN)) (wk W Cmp3.tab) (W := 0) (Nat.le_of_ble_eq_true rfl) (Nat.le_of_ble_eq_true rfl) (Nat.le_refl _) (by show 0 + len ≤ len; omega) (g := (mkF m 36 #[.val (.ref a), .val (.ref b), .val (.int (Int32.ofNat o)), .val (.int (Int32.ofNat len)), .val .null, .unset] [.int (Int32.ofNat len), .int (Int32.ofNat o), .ref b])) rfl (by rw [hml]; rfl) c7 (argsL := [.ref b, .int (Int32.ofNat o), .int (Int32.ofNat len)]) (rest := []) rfl rfl (by show 2 * 0 + 0 ≤ _; decide) (hb hbytes d36) (⟨rfl, hA.mv X5.warmed.alike hh5, l1, l2, hp⟩)
  obtain ⟨e8, z8⟩ := E8
  obtain ⟨rfl, N, n1, n2, n3, n4, n5, n6⟩ := NewArr.mv _ T5 s _ _ hh5.symm (Vm.Alike.refl _) rfl e8
  rw [hh5] at z8
  have hB1 := hB.keep X8.warmed.alike (n6 _ _ hB.1)
  have hne : s.heap.size ≠ a := (Nat.ne_of_lt (Array.getElem?_eq_some_iff.mp hB.1).1).symm
  have c9 : Steps p.tables e below (s₁.setTop (entryFrame m #[.ref a, .ref b, .int (Int32.ofNat o), .int (Int32.ofNat len), .null] 6)) (T8.setTop (mkF m 39 #[.val (.ref a), .val (.ref b), .val (.int (Int32.ofNat o)), .val (.int (Int32.ofNat len)), .val .null, .unset] [.ref s.heap.size])) := g8
  have c10 : Steps p.tables e below (s₁.setTop (entryFrame m #[.ref a, .ref b, .int (Int32.ofNat o), .int (Int32.ofNat len), .null] 6)) (T8.setTop (mkF m 45 #[.val (.ref a), .val (.ref b), .val (.int (Int32.ofNat o)), .val (.int (Int32.ofNat len)), .val .null, .val (.ref s.heap.size)] [.int (Int32.ofNat N.slots.size), .ref s.heap.size, .ref a])) := by
    have hc : Steps p.tables e below (s₁.setTop (entryFrame m #[.ref a, .ref b, .int (Int32.ofNat o), .int (Int32.ofNat len), .null] 6)) (T8.setTop (mkF m 45 #[.val (.ref a), .val (.ref b), .val (.int (Int32.ofNat o)), .val (.int (Int32.ofNat len)), .val .null, .val (.ref s.heap.size)] [.int (Int32.ofNat len), .ref s.heap.size, .ref a])) := c9.trans (by
      refine XS.astore X8.here hexec rfl (hb hbytes d39) rfl rfl rfl ?_
      refine XS.aloadN X8.here hexec rfl (hb hbytes d41) rfl rfl ?_
      refine XS.aload X8.here hexec rfl (hb hbytes d42) rfl rfl ?_
      refine XS.iloadN X8.here hexec rfl (hb hbytes d44) rfl ?_
      exact Steps.refl _)
    rw [n4]; exact hc
  obtain ⟨v11, T11, X11, E11, g11⟩ := X8.callS hexec (CodL.law l s.heap.size N) hown (wks W (staticW "java/lang/String" 47 CodL.yN)) (wk W CodL.tab) (W := 1) (Nat.le_of_ble_eq_true rfl) (Nat.le_of_ble_eq_true rfl) (Nat.le_refl _) (by show 0 + len + 0 ≤ len; omega) (g := (mkF m 45 #[.val (.ref a), .val (.ref b), .val (.int (Int32.ofNat o)), .val (.int (Int32.ofNat len)), .val .null, .val (.ref s.heap.size)] [.int (Int32.ofNat N.slots.size), .ref s.heap.size, .ref a])) rfl (by rw [hml]; rfl) c10 (argsL := [.ref s.heap.size, .int (Int32.ofNat N.slots.size)]) (rest := [.ref a]) rfl rfl (by show 2 * 0 + (1 + 0) ≤ _; decide) (hb hbytes d45) (⟨rfl, n1⟩)
  obtain ⟨rfl, q11⟩ := E11
  have hB11 := hB1.mv (X8.warmed.alike.symm.trans X11.warmed.alike) q11
  have c12 : Steps p.tables e below (s₁.setTop (entryFrame m #[.ref a, .ref b, .int (Int32.ofNat o), .int (Int32.ofNat len), .null] 6)) (T11.setTop (mkF m 48 #[.val (.ref a), .val (.ref b), .val (.int (Int32.ofNat o)), .val (.int (Int32.ofNat len)), .val .null, .val (.ref s.heap.size)] [.int 0, .ref a])) := g11
  obtain ⟨T13, X13, p13, bl13, sl13, st13⟩ := X11.finit hexec hown (wk W (.fieldLink "java/lang/String" 15 "java/lang/String" "coder" "B")) (Or.inr ⟨_, (wk W (.laysFinal "java/lang/String" "java/lang/String" "coder" "B"))⟩) (Or.inl ⟨rfl, hnm⟩) f2 (Or.inl rfl) hB11 (t := .byte) (by decide +kernel) rfl (g := (mkF m 48 #[.val (.ref a), .val (.ref b), .val (.int (Int32.ofNat o)), .val (.int (Int32.ofNat len)), .val .null, .val (.ref s.heap.size)] [.int 0, .ref a])) rfl (rest := []) rfl (hb hbytes d48)
  have c14 : Steps p.tables e below (s₁.setTop (entryFrame m #[.ref a, .ref b, .int (Int32.ofNat o), .int (Int32.ofNat len), .null] 6)) (T13.setTop (mkF m 54 #[.val (.ref a), .val (.ref b), .val (.int (Int32.ofNat o)), .val (.int (Int32.ofNat len)), .val .null, .val (.ref s.heap.size)] [.ref s.heap.size, .ref a])) := (c12.trans (st13 _ (Steps.refl _))).trans (by
    refine XS.aloadN X13.here hexec rfl (hb hbytes d51) rfl rfl ?_
    refine XS.aload X13.here hexec rfl (hb hbytes d52) rfl rfl ?_
    exact Steps.refl _)
  obtain ⟨T15, X15, p15, bl15, sl15, st15⟩ := X13.finit hexec hown (wk W (.fieldLink "java/lang/String" 9 "java/lang/String" "value" "[B")) (Or.inr ⟨_, (wk W (.laysFinal "java/lang/String" "java/lang/String" "value" "[B"))⟩) (Or.inl ⟨rfl, hnm⟩) f1 (Or.inl rfl) bl13 (t := (.array .byte)) (by decide +kernel) rfl (g := (mkF m 54 #[.val (.ref a), .val (.ref b), .val (.int (Int32.ofNat o)), .val (.int (Int32.ofNat len)), .val .null, .val (.ref s.heap.size)] [.ref s.heap.size, .ref a])) rfl (rest := []) rfl (hb hbytes d54)
  have c16 : Steps p.tables e below (s₁.setTop (entryFrame m #[.ref a, .ref b, .int (Int32.ofNat o), .int (Int32.ofNat len), .null] 6)) (T15.setTop (mkF m 57 #[.val (.ref a), .val (.ref b), .val (.int (Int32.ofNat o)), .val (.int (Int32.ofNat len)), .val .null, .val (.ref s.heap.size)] [])) := c14.trans (st15 _ (Steps.refl _))
  have ap := apart (Or.inr ⟨_, (wk W (.laysFinal "java/lang/String" "java/lang/String" "value" "[B"))⟩) (Or.inr ⟨_, (wk W (.laysFinal "java/lang/String" "java/lang/String" "coder" "B"))⟩) f1 f2 (t₁ := .array .byte) (t₂ := .byte) (by decide +kernel) (by decide +kernel) (by decide)
  have al := X8.warmed.alike.symm.trans X15.warmed.alike
  have n7 : T11.heap[s.heap.size]? = some N := by rw [q11]; exact n1.1
  exact ⟨T15, none, _, _, _, X15, by simp, rfl, by omega, (fun _ => rfl), ⟨rfl, _, N, bl15, ((Same.refl D _).set _ (by simp)).set _ (by simp), sl15, (Cell.slots_setSlot_ne _ ap).trans sl13, n1.keep al (p15.other hne (p13.other hne n7)), n2, by rw [al.findClass]; exact n3, n4, n5, fun y c h1 h2 => p15.other h1 (p13.other h1 (by rw [q11]; exact n6 y c h2)), by rw [p15.2.2, p13.2.2, q11]; exact z8⟩, fun fs hl => c16.trans (X15.returnOut hexec hret (hb hbytes d57) hl)⟩
end New4
namespace New1
def yN : MethodName := ⟨"java/lang/String", "<init>", "([C)V"⟩
abbrev yB : ByteArray := jdk_42_method_3_code
theorem d0 : decode yB 0 = .ok (.aload_n 0, 1) := by decide +kernel
theorem d1 : decode yB 1 = .ok (.aload_n 1, 1) := by decide +kernel
theorem d2 : decode yB 2 = .ok (.iconst 0, 1) := by decide +kernel
theorem d3 : decode yB 3 = .ok (.aload_n 1, 1) := by decide +kernel
theorem d4 : decode yB 4 = .ok (.arraylength, 1) := by decide +kernel
theorem d5 : decode yB 5 = .ok (.aconst_null, 1) := by decide +kernel
theorem d6 : decode yB 6 = .ok (.invokespecial 27, 3) := by decide +kernel
theorem d9 : decode yB 9 = .ok (.return_, 1) := by decide +kernel
def site : List Cond := [New4.tab] ++ initW "java/lang/String" 27 New4.yN
def tab : Cond := tabOf yN yB 2 none site
def P (a : Addr) (D : Cell) (fV fC : Field) (b : Addr) (A : Cell) (z : Int32) (args : Array Value) (s : State) : Prop := args = #[.ref a, .ref b] ∧ Blank "java/lang/String" a D s ∧ Found "java/lang/String" "value" "[B" fV s ∧ Found "java/lang/String" "coder" "B" fC s ∧ Ch b A s ∧ StaticIs s "java/lang/String" "COMPACT_STRINGS" "Z" (.int z) ∧ ¬ z = 0 ∧ 0 < A.slots.size ∧ A.slots.size ≤ 536870912 ∧ ∀ i, i < A.slots.size → ¬ 255 < cv A i
def E (a : Addr) (D : Cell) (fV fC : Field) (A : Cell) (r : Option Value) (s u : State) : Prop := Got a D fV fC A 0 A.slots.size r s u
/-- new String(chars), not empty, no char above 255: a Latin-1 String of their low bytes -/
theorem law (l : Launch) (a : Addr) (D : Cell) (fV fC : Field) (b : Addr) (A : Cell) (z : Int32) : Law l yN 2 1 3 52 yB 2 none site (P a D fV fC b A z) (E a D fV fC A) [⟨a, fC.slot⟩, ⟨a, fV.slot⟩] 1 A.slots.size := by
  refine Law.of_walk (plainFor_of_name (by decide +kernel)) (by decide +kernel) (by decide +kernel) (by decide) (fun _ _ h => by rw [h.1]; rfl) (fun _ U U' hal hh h => ⟨h.1, h.2.1.mv hal hh, h.2.2.1.al hal, h.2.2.2.1.al hal, h.2.2.2.2.1.mv hal hh, h.2.2.2.2.2.1.there hal hh, h.2.2.2.2.2.2⟩) (fun r U U' V V' h1 hal h2 h => Got.mv r U U' V V' h1 hal h2 h) ?_
  intro p e s m args below meth c s₁ X0 hexec hbytes hml hret hlk hnm hown hh0 W hP
  obtain ⟨rfl, hB, f1, f2, hA, s1, hz, l0, l2, hp⟩ := hP
  have c1 : Steps p.tables e below (s₁.setTop (entryFrame m #[.ref a, .ref b] 2)) (s₁.setTop (mkF m 0 #[.val (.ref a), .val (.ref b)] [])) := entry rfl
  have c2 : Steps p.tables e below (s₁.setTop (entryFrame m #[.ref a, .ref b] 2)) (s₁.setTop (mkF m 6 #[.val (.ref a), .val (.ref b)] [.null, .int (Int32.ofNat A.slots.size), .int 0, .ref b, .ref a])) := c1.trans (by
    refine XS.aloadN X0.here hexec rfl (hb hbytes d0) rfl rfl ?_
    refine XS.aloadN X0.here hexec rfl (hb hbytes d1) rfl rfl ?_
    refine iconstV X0.here hexec rfl 0 (hb hbytes d2) (by decide) ?_
    refine XS.aloadN X0.here hexec rfl (hb hbytes d3) rfl rfl ?_
    refine X0.alen hexec (hA.1.mv X0.warmed.alike hh0) rfl rfl (hb hbytes d4) ?_
    refine XS.aconstNull X0.here hexec rfl (hb hbytes d5) ?_
    exact Steps.refl _)
  obtain ⟨v3, T3, X3, E3, g3⟩ := X0.callN hexec (New4.law l a D fV fC b A z 0 A.slots.size) rfl hown (wks W (initW "java/lang/String" 27 New4.yN)) (W New4.tab (by simp only [site, List.mem_cons, List.mem_append, true_or, or_true])) (W := 0) (Nat.le_of_ble_eq_true rfl) (Nat.le_of_ble_eq_true rfl) (Nat.le_refl _) (by show 0 + A.slots.size ≤ A.slots.size; omega) (g := (mkF m 6 #[.val (.ref a), .val (.ref b)] [.null, .int (Int32.ofNat A.slots.size), .int (Int32.ofNat 0), .ref b, .ref a])) rfl (by rw [hml]; rfl) c2 (argsL := [.ref b, .int (Int32.ofNat 0), .int (Int32.ofNat A.slots.size), .null]) (rest := []) rfl rfl (by show 2 * 0 + 0 ≤ _; decide) (hb hbytes d6) (⟨rfl, hB.mv X0.warmed.alike hh0, f1.al X0.warmed.alike, f2.al X0.warmed.alike, hA.mv X0.warmed.alike hh0, s1.there X0.warmed.alike hh0, hz, l0, by omega, l2, fun i hi => by rw [Nat.zero_add]; exact hp i hi⟩)
  have e0 := Got.mv _ s₁ s _ _ hh0.symm (Vm.Alike.refl _) rfl E3
  obtain rfl := e0.1
  have c4 : Steps p.tables e below (s₁.setTop (entryFrame m #[.ref a, .ref b] 2)) (T3.setTop (mkF m 9 #[.val (.ref a), .val (.ref b)] [])) := g3
  exact ⟨T3, none, _, _, _, X3, by simp, rfl, by omega, (fun _ => rfl), e0, fun fs hl => c4.trans (X3.returnOut hexec hret (hb hbytes d9) hl)⟩
theorem pays {l : Launch} {R : Room} {p : Program} {e : Env} {below : List Frame} {s : State} {sargs : Array Value} {len W : Nat} (a : Addr) (D : Cell) (fV fC : Field) (b : Addr) (A : Cell) (z : Int32) (htab : tab.before sargs s = true) (hfr : 4 ≤ R.frames) (hlo : W + 65 ≤ R.locals) :
    Back l R p e below s sargs yN len W (fun A₁ a₁ => A₁.cells + 1 ≤ R.cells ∧ A₁.slots + A.slots.size ≤ R.slots ∧ P a D fV fC b A z a₁ A₁.U) (fun A₁ _ v₁ B₁ => E a D fV fC A v₁ A₁.U B₁.U ∧ B₁.locs = A₁.locs ++ [⟨a, fC.slot⟩, ⟨a, fV.slot⟩] ∧ B₁.cells = A₁.cells + 1 ∧ B₁.slots = A₁.slots + A.slots.size) :=
  (law l a D fV fC b A z).pays htab hfr (by omega)
end New1
/-- the byte, read back as charAt reads it, is the char -/
theorem lo8_mask {x : Int32} (h0 : ¬ x < 0) (h1 : ¬ 255 < x) : lo8 x &&& 255 = x := by
  have t : ∀ k : Fin 256, lo8 (Int32.ofNat k.val) &&& 255 = Int32.ofNat k.val := by decide +kernel
  rw [Int32.lt_iff_toInt_lt] at h0 h1
  have e0 : (0 : Int32).toInt = 0 := rfl
  have e1 : (255 : Int32).toInt = 255 := rfl
  obtain ⟨k, hk⟩ : ∃ k : Nat, x.toInt = k := ⟨x.toInt.toNat, by omega⟩
  have hx : x = Int32.ofNat k := Int32.toInt_inj.mp (by rw [hk, Int32.toInt_ofNat_small (by omega)])
  rw [hx]
  exact t ⟨k, by omega⟩
end StrChars
namespace StrChars.Road
open Jvm Sem ClassFile Op Lib Jvm.Stand Jvm.Free Jvm.Free.XT
open Jvm.Lib.Cold (StaticIs)
abbrev ST : String := "java/lang/String"
/-- every table word that New1's law asks, flat -/
abbrev words : List Jvm.Cond := [.code New1.yN New1.yB 2 none, .initialized ST, .methodLink ST 27 New4.yN, .instanceMethod New4.yN,
  .code New4.yN New4.yB 6 none, .fieldLink ST 38 ST "COMPACT_STRINGS" "Z", .laysFinal ST ST "value" "[B", .fieldLink ST 9 ST "value" "[B", .laysFinal ST ST "coder" "B", .fieldLink ST 15 ST "coder" "B",
  .methodLink ST 1 Lib.objectInit, .instanceMethod Lib.objectInit, .code Lib.objectInit ⟨#[0xb1]⟩ 1 none, .methodLink ST 177 Cmp3.yN, .static Cmp3.yN, .methodLink ST 47 CodL.yN, .static CodL.yN,
  .code Cmp3.yN Cmp3.yB 6 (some (.array .byte)), .initialized U16, .arrayClass .byte, .methodLink U16 115 Cmp5.yN, .static Cmp5.yN, .code Cmp5.yN Cmp5.yB 7 (some .int), .code CodL.yN CodL.yB 2 (some .byte)]
theorem tab_of {a : Array Value} {s : State} (h : ∀ w ∈ words, w.before a s = true) : New1.tab.before a s = true := by
  have h5 : Cmp5.tab.before a s = true := unparts (wk h (.code Cmp5.yN Cmp5.yB 7 (some .int))) (wks h (.initialized Cmp5.yN.cls :: Cmp5.site))
  have hc : CodL.tab.before a s = true := unparts (wk h (.code CodL.yN CodL.yB 2 (some .byte))) (wks h (.initialized CodL.yN.cls :: CodL.site))
  have q5 : ∀ w ∈ Cmp5.tab :: words, w.before a s = true := fun w hw => (List.mem_cons.mp hw).elim (fun e => e ▸ h5) (h w)
  have h3 : Cmp3.tab.before a s = true := unparts (wk q5 (.code Cmp3.yN Cmp3.yB 6 (some (.array .byte)))) (wks q5 (.initialized Cmp3.yN.cls :: Cmp3.site))
  have q3 : ∀ w ∈ Cmp3.tab :: CodL.tab :: words, w.before a s = true := fun w hw => (List.mem_cons.mp hw).elim (fun e => e ▸ h3) fun hw => (List.mem_cons.mp hw).elim (fun e => e ▸ hc) (h w)
  have h4 : New4.tab.before a s = true := unparts (wk q3 (.code New4.yN New4.yB 6 none)) (wks q3 (.initialized New4.yN.cls :: New4.site))
  have q4 : ∀ w ∈ New4.tab :: words, w.before a s = true := fun w hw => (List.mem_cons.mp hw).elim (fun e => e ▸ h4) (h w)
  exact unparts (wk q4 (.code New1.yN New1.yB 2 none)) (wks q4 (.initialized New1.yN.cls :: New1.site))
/-- the words ride from the start Z to the walk's own state -/
theorem moved {Z s : State} {a0 args : Array Value} (hZ : Z.Warmed39 s.vm) (hw : ∀ d ∈ words, d.before a0 Z = true) : ∀ d ∈ words, d.before args s = true := fun d hd => by
  have q := hw d hd
  have t : ∀ d ∈ words, d = .arrayClass .byte ∨ (d.onTables && d.keepsFace) = true := by decide +kernel
  rcases t d hd with rfl | t
  · exact RoadKit.mvA hZ q
  · exact RoadKit.mv hZ q t
/-- WHAT COMES BACK, over the tables of the start Z: h the heap at the call, h' behind it -/
def Q (Z : State) (x : Addr) (A : Cell) (h : Heap) (v : Option Value) (h' : Heap) (L : List Loc) : Prop := v = none ∧ (∀ y ∈ L, y.base = x) ∧ RoadKit.Keep h h' [x] ∧ h'.size = h.size + 1 ∧ RoadKit.Exa Z h' x ST ∧ RoadKit.Fld Z h' x ST "value" "[B" (.ref h.size) ∧ RoadKit.Fld Z h' x ST "coder" "B" (.int 0) ∧
  (∃ V : Cell, RoadKit.Arr Z h' h.size V .byte ∧ V.vm = .none ∧ Z.vm.findClass "[B" = some V.cls ∧ V.slots.size = A.slots.size ∧ ∀ j, j < A.slots.size → V.slots[j]? = some (.int (lo8 (cv A j)))) ∧
  ∀ (O n d : String) (w : Value), RoadKit.Fld Z h x O n d w → RoadKit.slotOf Z O n d ≠ RoadKit.slotOf Z ST "value" "[B" → RoadKit.slotOf Z O n d ≠ RoadKit.slotOf Z ST "coder" "B" → RoadKit.Fld Z h' x O n d w
/-- **new String(chars) AT A CALL, IN THE ROAD'S FORM**: for specialBack behind newO: x the fresh String, b the char[] with the cell A -/
theorem back {p : Program} {l : Launch} {e : Env} {R : Room} {s : State} {args : Array Value} {below : List Frame} {len W : Nat} {Z : State} {a0 : Array Value} {h : Heap} (hZ : Z.Warmed39 s.vm) (hw : ∀ d ∈ words, d.before a0 Z = true) {kI : Nat} (wi : (Jvm.Cond.instantiable ST kI).before a0 Z = true)
    {x b : Addr} {A : Cell} {z : Int32} {v0 c0 : Value} (E : RoadKit.Exa Z h x ST) (V : RoadKit.Fld Z h x ST "value" "[B" v0) (C : RoadKit.Fld Z h x ST "coder" "B" c0) (K : RoadKit.Arr Z h b A .char) (hty : Typed .char A) (S : RoadKit.Sta Z h ST "COMPACT_STRINGS" "Z" (.int z)) (hz : ¬ z = 0)
    (l0 : 0 < A.slots.size) (l2 : A.slots.size ≤ 536870912) (hp : ∀ i, i < A.slots.size → ¬ 255 < cv A i) (hfr : 4 ≤ R.frames) (hlo : W + 65 ≤ R.locals) :
    Back l R p e below s args New1.yN len W (fun P a => a = #[.ref x, .ref b] ∧ P.U.heap = h ∧ P.cells + 1 ≤ R.cells ∧ P.slots + A.slots.size ≤ R.slots)
      (fun P _ v B => ∃ L, Q Z x A h v B.U.heap L ∧ B.locs = P.locs ++ L ∧ B.cells = P.cells + 1 ∧ B.slots = P.slots + A.slots.size) := by
  intro m meth c P g ig mk a X hg hsize hdg hW hn hp'
  obtain ⟨rfl, rfl, r1, r2⟩ := hp'
  have al : Z.vm.Alike P.U.vm := hZ.alike.trans X.warmed.alike
  obtain ⟨D, cfV, kV, iV, fV, hD, gV, stV, knV, obV, asV, slV⟩ := id V
  obtain ⟨D', cfC, kC, iC, fC, hD', gC, stC, -, -, asC, slC⟩ := id C
  cases hD.symm.trans hD'
  obtain ⟨D2, kD, e1, e2, e3, e4, e5⟩ := id E
  cases hD.symm.trans e1
  obtain ⟨c2, k2, i1, i2, i3, -⟩ := Cond.instantiable_spec wi
  cases e2.symm.trans i1
  cases e3.symm.trans i2
  obtain ⟨kU, u1, u2⟩ := al.2.2 _ _ e3
  have hB : Blank ST x D P.U := ⟨hD, ⟨knV, fun q hq => by rw [hq] at obV; cases obV⟩, by rw [al.findClass]; exact e2, kU, u1, by rw [u2]; exact i3, by rw [u2]; exact e5 i3⟩
  have F1 : Found ST "value" "[B" fV P.U := ⟨SBG.found_only al ⟨cfV, kV, iV, gV⟩, stV⟩
  have F2 : Found ST "coder" "B" fC P.U := ⟨SBG.found_only al ⟨cfC, kC, iC, gC⟩, stC⟩
  have hA : Ch b A P.U := ⟨⟨K.1, State.isArrayOf_alike al K.2.1, K.2.2, by omega⟩, hty⟩
  have hS : StaticIs P.U ST "COMPACT_STRINGS" "Z" (.int z) := by
    obtain ⟨cfS, iS, kS, fS, st, cS, t1, t2, t3, t4, t5, t6, t7⟩ := S
    exact StaticIs.there (s := { Z with heap := P.U.heap }) ⟨cfS, iS, kS, fS, st, cS, t1, t2, t3, t4, t5, (fun q => by rw [q] at t6; cases t6), t7⟩ al rfl
  obtain ⟨v, B, X', ⟨⟨hv, E', V', q1, q2, q3, q4, q5, q6, q7, q8, q9, q10, q11⟩, hl, hc, hs⟩, st⟩ := New1.pays x D fV fC b A z (tab_of (moved hZ hw)) hfr hlo m meth c P g ig mk _ X hg hsize hdg hW hn ⟨r1, r2, rfl, hB, F1, F2, hA, hS, hz, l0, l2, hp⟩
  have al' : Z.vm.Alike B.U.vm := hZ.alike.trans X'.warmed.alike
  have hsz : E'.slots.size = D.slots.size := by
    obtain ⟨-, -, -, kB, w1, w2, w3⟩ := q1
    obtain ⟨kB', y1, y2⟩ := al'.2.2 _ _ e3
    rw [q2.2.1] at w1
    cases w1.symm.trans y1
    rw [w3, e5 i3, y2]
  refine ⟨v, B, X', ⟨_, ⟨hv, ?_, ⟨by omega, fun y cy hy hn' => q10 y cy (by simpa using hn') hy, fun y cy hy => ?_⟩, q11, ⟨E', _, q1.1, by rw [q2.2.1]; exact e2, by rw [q2.2.1]; exact e3, by rw [q2.1]; exact obV, fun _ => by rw [hsz]; exact e5 i3⟩,
    ⟨E', cfV, kV, iV, fV, q1.1, gV, stV, by rw [q2.1]; exact knV, by rw [q2.1]; exact obV, by rw [q2.2.1]; exact asV, q3⟩, ⟨E', cfC, kC, iC, fC, q1.1, gC, stC, by rw [q2.1]; exact knV, by rw [q2.1]; exact obV, by rw [q2.2.1]; exact asC, q4⟩,
    ⟨V', ⟨q5.1, State.isArrayOf_alike al'.symm q5.2.1, q5.2.2.1⟩, q6, by rw [← al'.findClass]; exact q7, q8, fun j hj => by have := q9 j hj; rwa [Nat.zero_add] at this⟩, fun O n d w F n1 n2 => ?_⟩, hl, hc, hs⟩, st⟩
  · intro y hy
    simp only [List.mem_cons, List.not_mem_nil, or_false] at hy
    rcases hy with rfl | rfl <;> rfl
  · by_cases q : y = x
    · subst q
      cases hD.symm.trans hy
      exact ⟨E', q1.1, q2.2.1, q2.1, hsz⟩
    · exact ⟨cy, q10 y cy q hy, rfl, rfl, rfl⟩
  · obtain ⟨D3, cf, k, i, f, g1, g2, g3, g4, g5, g6, g7⟩ := F
    cases hD.symm.trans g1
    simp only [RoadKit.slotOf, g2, gV, gC, Option.map_some, Option.getD_some] at n1 n2
    exact ⟨E', cf, k, i, f, q1.1, g2, g3, by rw [q2.1]; exact g4, by rw [q2.1]; exact g5, by rw [q2.2.1]; exact g6, by rw [q2.2.2 f.slot (by simp [n1, n2])]; exact g7⟩
end StrChars.Road
namespace StrChars.Road
open Jvm Sem ClassFile Op Lib Jvm.Stand Jvm.Free Jvm.Free.XT
/-- WHAT COMES BACK, the byte[] as a list of values -/
def QA (Z : State) (x : Addr) (zn : Int32) (cs : List Int32) (h : Heap) (v : Option Value) (h' : Heap) (L : List Loc) : Prop := v = none ∧ (∀ y ∈ L, y.base = x) ∧ RoadKit.Keep h h' [x] ∧ h'.size = h.size + 1 ∧ RoadKit.Exa Z h' x ST ∧ RoadKit.Fld Z h' x ST "value" "[B" (.ref h.size) ∧ RoadKit.Fld Z h' x ST "coder" "B" (.int 0) ∧
  (∃ kb, Z.vm.findClass "[B" = some kb ∧ RoadKit.Arv Z h' h.size kb .byte zn (cs.map fun c => .int (lo8 c)) (.int 0)) ∧
  ∀ (O n d : String) (w : Value), RoadKit.Fld Z h x O n d w → RoadKit.slotOf Z O n d ≠ RoadKit.slotOf Z ST "value" "[B" → RoadKit.slotOf Z O n d ≠ RoadKit.slotOf Z ST "coder" "B" → RoadKit.Fld Z h' x O n d w
/-- **new String(chars) AT A CALL, THE ARRAYS AS LISTS**: the char[] at b holds cs, not empty, no char above 255 -/
theorem backArv {p : Program} {l : Launch} {e : Env} {R : Room} {s : State} {args : Array Value} {below : List Frame} {len W : Nat} {Z : State} {a0 : Array Value} {h : Heap} (hZ : Z.Warmed39 s.vm) (hw : ∀ d ∈ words, d.before a0 Z = true) {kI : Nat} (wi : (Jvm.Cond.instantiable ST kI).before a0 Z = true)
    {x b : Addr} {k : ClassId} {zn z : Int32} {cs : List Int32} {dv v0 c0 : Value} (E : RoadKit.Exa Z h x ST) (V : RoadKit.Fld Z h x ST "value" "[B" v0) (C : RoadKit.Fld Z h x ST "coder" "B" c0) (K : RoadKit.Arv Z h b k .char zn (cs.map Value.int) dv) (S : RoadKit.Sta Z h ST "COMPACT_STRINGS" "Z" (.int z)) (hz : ¬ z = 0)
    (hlen : zn.toNatClampNeg = cs.length) (h0 : 0 < cs.length) (hbig : cs.length ≤ 536870912) (hall : ∀ c ∈ cs, ¬ 255 < c) (hfr : 4 ≤ R.frames) (hlo : W + 65 ≤ R.locals) :
    Back l R p e below s args New1.yN len W (fun P a => a = #[.ref x, .ref b] ∧ P.U.heap = h ∧ P.cells + 1 ≤ R.cells ∧ P.slots + cs.length ≤ R.slots)
      (fun P _ v B => ∃ L, QA Z x zn cs h v B.U.heap L ∧ B.locs = P.locs ++ L ∧ B.cells = P.cells + 1 ∧ B.slots = P.slots + cs.length) := by
  obtain ⟨A, K1, K2, K3, K4, K5, K6⟩ := K
  have e : A.slots.size = cs.length := K3.trans hlen
  have hat : ∀ (i : Nat) (hi : i < cs.length), A.slots[i]? = some (.int cs[i]) := fun i hi => by rw [K5 i (by omega)]; simp [List.getD_eq_getElem?_getD, hi]
  have hcv : ∀ (i : Nat) (hi : i < cs.length), cv A i = cs[i] := fun i hi => by unfold cv; rw [hat i hi]
  have hty : Typed .char A := fun i v hv => by
    have hi : i < A.slots.size := (Array.getElem?_eq_some_iff.mp hv).1
    have q := K5 i hi
    rw [hv] at q
    rw [Option.some.inj q]
    exact K6 i hi
  refine Back.mono (back hZ hw wi E V C K1 hty S hz (by omega) (by omega) (fun i hi => by rw [hcv i (by omega)]; exact hall _ (List.getElem_mem _)) hfr hlo) (fun P a hp => ⟨hp.1, hp.2.1, hp.2.2.1, by rw [e]; exact hp.2.2.2⟩) (fun P a v B hp hq => ?_)
  obtain ⟨L, ⟨q1, q2, q3, q4, q5, q6, q7, ⟨V', v1, v2, v3, v4, v5⟩, q9⟩, hl, hc, hs⟩ := hq
  refine ⟨L, ⟨q1, q2, q3, q4, q5, q6, q7, ⟨V'.cls, v3, V', v1, rfl, by rw [v4, e, hlen], K4, fun i hi => ?_, fun i hi => ?_⟩, q9⟩, hl, hc, by rw [hs, e]⟩
  · have hi' : i < cs.length := by omega
    rw [v5 i (by omega), hcv i hi']; simp [List.getD_eq_getElem?_getD, hi']
  · have hi' : i < cs.length := by omega
    simp only [List.getD_eq_getElem?_getD, List.getElem?_map, List.getElem?_eq_getElem hi', Option.map_some, Option.getD_some]
    exact fits_lo8 _
end StrChars.Road
namespace StrChars.Road
open Jvm Sem ClassFile Op Lib Jvm.Stand Jvm.Free Jvm.Free.XT
/-- WHAT COMES BACK, in the writer's own shape -/
def QV (Z : State) (x : Addr) (N : Int32) (bs : List Int32) (h : Heap) (n0 : Nat) (v : Option Value) (h' : Heap) (L : List Loc) : Prop := v = none ∧ RoadKit.Fr n0 L ∧ RoadKit.Keep h h' [x] ∧ RoadKit.Exa Z h' x ST ∧ RoadKit.Fld Z h' x ST "coder" "B" (.int 0) ∧
  ∃ (t : Addr) (kb : ClassId), n0 ≤ t ∧ h.size ≤ t ∧ ¬ t = x ∧ RoadKit.Fld Z h' x ST "value" "[B" (.ref t) ∧ RoadKit.Arv Z h' t kb .byte N (bs.map Value.int) (.int 0)
/-- **new String(chars) AT A CALL, FOR THE WRITER**: a char[] of n known ints, each 0 to 255 -/
theorem backV {p : Program} {l : Launch} {e : Env} {R : Room} {s : State} {args : Array Value} {below : List Frame} {len W : Nat} {Z : State} {a0 : Array Value} {h : Heap} (hZ : Z.Warmed39 s.vm) (hw : ∀ d ∈ words, d.before a0 Z = true) {kI : Nat} (wi : (Jvm.Cond.instantiable ST kI).before a0 Z = true)
    {x b : Addr} {kC : ClassId} {cs bs : List Int32} {d v0 c0 : Value} {z N : Int32} {n n0 : Nat} (hx0 : n0 ≤ x) (hh0 : n0 ≤ h.size) (E : RoadKit.Exa Z h x ST) (V : RoadKit.Fld Z h x ST "value" "[B" v0) (C : RoadKit.Fld Z h x ST "coder" "B" c0) (K : RoadKit.Arv Z h b kC .char N (cs.map Value.int) d) (S : RoadKit.Sta Z h ST "COMPACT_STRINGS" "Z" (.int z)) (hz : ¬ z = 0)
    (hn : cs.length = n) (hN : N = Int32.ofNat n) (l0 : 0 < n) (l2 : n ≤ 4000) (hp : ∀ c ∈ cs, ¬ c < 0 ∧ ¬ (255 : Int32) < c) (hb : bs = cs.map (fun c => c.toInt8.toInt32)) (hfr : 4 ≤ R.frames) (hlo : W + 65 ≤ R.locals) :
    Back l R p e below s args (⟨"java/lang/String", "<init>", "([C)V"⟩ : MethodName) len W (fun P a => a = #[.ref x, .ref b] ∧ P.U.heap = h ∧ P.cells + 1 ≤ R.cells ∧ P.slots + n ≤ R.slots)
      (fun P _ v B => ∃ L, QV Z x N bs h n0 v B.U.heap L ∧ B.locs = P.locs ++ L ∧ B.cells = P.cells + 1 ∧ B.slots = P.slots + n) := by
  subst hn hN hb
  refine Back.mono (backArv hZ hw wi E V C K S hz (n32 (by omega)) l0 (by omega) (fun c hc => (hp c hc).2) hfr hlo) (fun P a hp => hp) (fun P a v B hp hq => ?_)
  obtain ⟨L, ⟨q1, q2, q3, q4, q5, q6, q7, ⟨kb, v1, v2⟩, q9⟩, hl, hc, hs⟩ := hq
  exact ⟨L, ⟨q1, fun y hy => by rw [q2 y hy]; exact hx0, q3, q5, q7, h.size, kb, hh0, Nat.le_refl _, Nat.ne_of_gt E.lt, q6, by rw [List.map_map]; exact v2⟩, hl, hc, hs⟩
end StrChars.Road
namespace StrChars
open Jvm Sem ClassFile Op Lib Jvm.Stand Jvm.Free.XT Jvm.Free.ALB Jvm.Free.JM Jvm.Free
open Jvm.Lib.Cold (StaticIs)
def hi8 (x : Int32) : Int32 := lo8 (x >>> ((8 : Int32) &&& 31))
/-- what StringUTF16.getChar makes of two bytes -/
def pairCh (u v : Int32) : Int32 := (((u &&& 255) <<< ((0 : Int32) &&& 31)) ||| ((v &&& 255) <<< ((8 : Int32) &&& 31))).toUInt32.toUInt16.toUInt32.toInt32
theorem shr0 (c : Int32) : c >>> ((0 : Int32) &&& 31) = c := by
  have e : ((0 : Int32) &&& 31) = 0 := by decide
  rw [e]
  apply Int32.toBitVec_inj.mp
  rw [Int32.toBitVec_shiftRight]
  have e1 : ((0 : Int32).toBitVec.smod 32) = 0#32 := by decide
  rw [e1, BitVec.sshiftRight_eq']
  exact BitVec.sshiftRight_zero
theorem lo8_and (x : Int32) : (lo8 x &&& 255).toBitVec.toNat = x.toBitVec.toNat % 256 := by
  have h : (lo8 x).toBitVec = (x.toBitVec.signExtend 8).signExtend 32 := by rw [lo8, Int8.toBitVec_toInt32, Int32.toBitVec_toInt8]
  rw [Int32.toBitVec_and, BitVec.toNat_and, h]
  have e : ((x.toBitVec.signExtend 8).signExtend 32).toNat % 256 = x.toBitVec.toNat % 256 := by
    rw [BitVec.toNat_signExtend]
    have hlt := x.toBitVec.isLt
    simp only [BitVec.toNat_setWidth, BitVec.toNat_signExtend]
    split <;> split <;> omega
  rw [← e]
  exact Nat.and_two_pow_sub_one_eq_mod _ 8
theorem pair_says {c : Int32} (h0 : ¬ c < 0) (h1 : ¬ 65535 < c) : pairCh (lo8 c) (hi8 c) = c := by
  rw [Int32.lt_iff_toInt_lt] at h0 h1
  have e0 : (0 : Int32).toInt = 0 := rfl
  have e1 : (65535 : Int32).toInt = 65535 := rfl
  have hc : c.toInt = c.toBitVec.toNat := by
    have := c.toBitVec.isLt
    have e : c.toInt = c.toBitVec.toInt := rfl
    rw [e] at h0 h1
    rw [e]
    rw [BitVec.toInt_eq_toNat_cond] at h0 h1 ⊢
    split at h0 <;> split <;> omega
  have hn : c.toBitVec.toNat < 65536 := by omega
  have a1 := lo8_and c
  have a2 : (hi8 c &&& 255).toBitVec.toNat = c.toBitVec.toNat / 256 := by
    rw [hi8, lo8_and]
    have e : ((8 : Int32) &&& 31) = 8 := by decide
    rw [e, Int32.toBitVec_shiftRight]
    have e2 : ((8 : Int32).toBitVec.smod 32) = 8#32 := by decide
    rw [e2, BitVec.sshiftRight_eq', BitVec.toNat_sshiftRight_of_msb_false (by rw [BitVec.msb_eq_false_iff_two_mul_lt]; omega)]
    show c.toBitVec.toNat >>> 8 % 256 = _
    rw [Nat.shiftRight_eq_div_pow]
    omega
  unfold pairCh
  apply Int32.toBitVec_inj.mp
  apply BitVec.eq_of_toNat_eq
  have f0 : ((0 : Int32) &&& 31) = 0 := by decide
  have f8 : ((8 : Int32) &&& 31) = 8 := by decide
  rw [f0, f8]
  have g : (((lo8 c &&& 255) <<< (0 : Int32)) ||| ((hi8 c &&& 255) <<< (8 : Int32))).toBitVec.toNat = c.toBitVec.toNat := by
    rw [Int32.toBitVec_or, Int32.toBitVec_shiftLeft, Int32.toBitVec_shiftLeft]
    have s0 : ((0 : Int32).toBitVec.smod 32) = 0#32 := by decide
    have s8 : ((8 : Int32).toBitVec.smod 32) = 8#32 := by decide
    rw [s0, s8, BitVec.toNat_or]
    simp only [BitVec.shiftLeft_eq', BitVec.toNat_shiftLeft, a1, a2]
    show (c.toBitVec.toNat % 256) <<< 0 % 2 ^ 32 ||| (c.toBitVec.toNat / 256) <<< 8 % 2 ^ 32 = _
    rw [Nat.shiftLeft_zero, Nat.mod_eq_of_lt (show c.toBitVec.toNat % 256 < 2 ^ 32 by omega), Nat.mod_eq_of_lt (show (c.toBitVec.toNat / 256) <<< 8 < 2 ^ 32 by rw [Nat.shiftLeft_eq]; omega), Nat.or_comm, ← Nat.shiftLeft_add_eq_or_of_lt (by omega), Nat.shiftLeft_eq]
    omega
  show BitVec.toNat (((((lo8 c &&& 255) <<< (0 : Int32)) ||| ((hi8 c &&& 255) <<< (8 : Int32))).toBitVec.setWidth 16).setWidth 32) = _
  rw [BitVec.toNat_setWidth, BitVec.toNat_setWidth, g]
  omega
end StrChars
namespace StrChars
open Jvm Sem ClassFile Op Lib Jvm.Stand Jvm.Free.XT Jvm.Free.ALB Jvm.Free.JM Jvm.Free
open Jvm.Lib.Cold (StaticIs)
theorem shr1 {n : Nat} (h : 2 * n < 2 ^ 31) : Int32.ofNat (2 * n) >>> ((1 : Int32) &&& 31) = Int32.ofNat n := by
  have e : ((1 : Int32) &&& 31) = 1 := by decide
  rw [e]
  apply Int32.toBitVec_inj.mp
  rw [Int32.toBitVec_shiftRight]
  have e1 : ((1 : Int32).toBitVec.smod 32) = 1#32 := by decide
  have hm : (BitVec.ofNat 32 (2 * n)).toNat = 2 * n := by rw [BitVec.toNat_ofNat, Nat.mod_eq_of_lt (by omega)]
  rw [e1, BitVec.sshiftRight_eq']
  apply BitVec.eq_of_toNat_eq
  show ((BitVec.ofNat 32 (2 * n)).sshiftRight 1).toNat = (BitVec.ofNat 32 n).toNat
  rw [BitVec.toNat_sshiftRight_of_msb_false (by rw [BitVec.msb_eq_false_iff_two_mul_lt, hm]; omega), hm, BitVec.toNat_ofNat, Nat.shiftRight_eq_div_pow]
  omega
/-- charAt's cast of a byte read back -/
def chr8 (u : Int32) : Int32 := (u &&& 255).toUInt32.toUInt16.toUInt32.toInt32
theorem chr8_lo8 {c : Int32} (h0 : ¬ c < 0) (h1 : ¬ 255 < c) : chr8 (lo8 c) = c := by
  have t : ∀ k : Fin 256, (Int32.ofNat k.val).toUInt32.toUInt16.toUInt32.toInt32 = Int32.ofNat k.val := by decide +kernel
  unfold chr8
  rw [lo8_mask h0 h1]
  rw [Int32.lt_iff_toInt_lt] at h0 h1
  have e0 : (0 : Int32).toInt = 0 := rfl
  have e1 : (255 : Int32).toInt = 255 := rfl
  obtain ⟨k, hk⟩ : ∃ k : Nat, c.toInt = k := ⟨c.toInt.toNat, by omega⟩
  have hx : c = Int32.ofNat k := Int32.toInt_inj.mp (by rw [hk, Int32.toInt_ofNat_small (by omega)])
  rw [hx]
  exact t ⟨k, by omega⟩
theorem narrow_ch {c : Int32} (h0 : ¬ c < 0) (h1 : ¬ 65535 < c) : narrow .char (.int c) = .int c := by
  have q : narrow .char (.int (pairCh (lo8 c) (hi8 c))) = .int (pairCh (lo8 c) (hi8 c)) := narrow_c _
  rwa [pair_says h0 h1] at q
/-- the array's cell V codes the n chars f 0 .. f (n - 1) by the coder cd, as the JDK does: coder 1 just where some char is above 255 -/
def Cod (cd : Int32) (n : Nat) (f : Nat → Int32) (V : Cell) : Prop := (cd = 0 ∧ V.slots.size = n ∧ ∀ j, j < n → V.slots[j]? = some (.int (lo8 (f j))) ∧ ¬ 255 < f j) ∨ (cd = 1 ∧ V.slots.size = 2 * n ∧ (∀ j, j < n → V.slots[2 * j]? = some (.int (lo8 (f j))) ∧ V.slots[2 * j + 1]? = some (.int (hi8 (f j)))) ∧ ∃ j, j < n ∧ 255 < f j)
theorem Cod.cd {cd : Int32} {n : Nat} {f : Nat → Int32} {V : Cell} (h : Cod cd n f V) : cd = 0 ∨ cd = 1 := h.imp (fun q => q.1) fun q => q.1
theorem Cod.len {cd : Int32} {n : Nat} {f : Nat → Int32} {V : Cell} (h : Cod cd n f V) (hs : V.slots.size < 2 ^ 31) : Int32.ofNat V.slots.size >>> (cd &&& 31) = Int32.ofNat n := by
  rcases h with ⟨rfl, h, -⟩ | ⟨rfl, h, -⟩
  · rw [shr0, h]
  · rw [h, shr1 (by omega)]
/-- **x is a String of the n chars f 0 .. f (n - 1)**, Latin-1 or UTF-16; its array at t has the cell V -/
def Txt (x t : Addr) (V : Cell) (cd : Int32) (n : Nat) (f : Nat → Int32) (U : State) : Prop := Exact "java/lang/String" x U ∧ Has x "java/lang/String" "value" "[B" (.ref t) U ∧ Has x "java/lang/String" "coder" "B" (.int cd) U ∧ XT.Arr .byte t V U ∧ Cod cd n f V ∧ ∀ j, j < n → ¬ f j < 0 ∧ ¬ 65535 < f j
theorem Txt.mv {x t : Addr} {V : Cell} {cd : Int32} {n : Nat} {f : Nat → Int32} {U U' : State} (h : Txt x t V cd n f U) (hal : U.vm.Alike U'.vm) (hh : U'.heap = U.heap) : Txt x t V cd n f U' := ⟨h.1.mv hal hh, h.2.1.mv hal hh, h.2.2.1.mv hal hh, h.2.2.2.1.mv hal hh, h.2.2.2.2⟩
namespace Cdr
def yN : MethodName := ⟨"java/lang/String", "coder", "()B"⟩
abbrev yB : ByteArray := jdk_42_method_152_code
theorem d0 : decode yB 0 = .ok (.getstatic 38, 3) := by decide +kernel
theorem d3 : decode yB 3 = .ok (.ifCond (.eq) 10, 3) := by decide +kernel
theorem d6 : decode yB 6 = .ok (.aload_n 0, 1) := by decide +kernel
theorem d7 : decode yB 7 = .ok (.getfield 15, 3) := by decide +kernel
theorem d10 : decode yB 10 = .ok (.goto 4, 3) := by decide +kernel
theorem d14 : decode yB 14 = .ok (.ireturn, 1) := by decide +kernel
def site : List Cond := [.fieldLink "java/lang/String" 38 "java/lang/String" "COMPACT_STRINGS" "Z", .fieldLink "java/lang/String" 15 "java/lang/String" "coder" "B"]
def tab : Cond := tabOf yN yB 1 (some .byte) site
def P (x : Addr) (cd z : Int32) (args : Array Value) (s : State) : Prop := args = #[.ref x] ∧ Has x "java/lang/String" "coder" "B" (.int cd) s ∧ (cd = 0 ∨ cd = 1) ∧ StaticIs s "java/lang/String" "COMPACT_STRINGS" "Z" (.int z) ∧ ¬ z = 0
def E (cd : Int32) (r : Option Value) (s u : State) : Prop := XT.PureE (some (.int cd)) r s u
theorem law (l : Launch) (x : Addr) (cd z : Int32) : Law l yN 1 0 0 0 yB 1 (some .byte) site (P x cd z) (E cd) [] 0 0 := by
  refine Law.of_walk (plainFor_of_name (by decide +kernel)) (by decide +kernel) (by decide +kernel) (by decide) (fun _ _ h => by rw [h.1]; rfl) (fun _ U U' hal hh h => ⟨h.1, h.2.1.mv hal hh, h.2.2.1, h.2.2.2.1.there hal hh, h.2.2.2.2⟩) (fun r U U' V V' h1 hal h2 h => XT.PureE.mv r U U' V V' h1 hal h2 h) ?_
  intro p e s m args below meth c s₁ X0 hexec hbytes hml hret hlk hnm hown hh0 W hP
  obtain ⟨rfl, hx, hc, s1, hz⟩ := hP
  have c1 : Steps p.tables e below (s₁.setTop (entryFrame m #[.ref x] 1)) (s₁.setTop (mkF m 0 #[.val (.ref x)] [])) := entry rfl
  obtain ⟨T2, X2, q2, st2⟩ := X0.sget hexec hown (wk W (.fieldLink "java/lang/String" 38 "java/lang/String" "COMPACT_STRINGS" "Z")) s1 (fun _ _ h => by rw [hh0]; exact h) (g := (mkF m 0 #[.val (.ref x)] [])) rfl (hb hbytes d0)
  have hh2 := q2.trans hh0
  have c3 : Steps p.tables e below (s₁.setTop (entryFrame m #[.ref x] 1)) (T2.setTop (mkF m 7 #[.val (.ref x)] [.ref x])) := (c1.trans (st2 _ (Steps.refl _))).trans (by
    refine XS.ifNo X2.here hexec rfl (hb hbytes d3) rfl (i0_eq_f hz) ?_
    refine XS.aloadN X2.here hexec rfl (hb hbytes d6) rfl rfl ?_
    exact Steps.refl _)
  obtain ⟨T4, X4, q4, st4⟩ := X2.hget hexec hown (wk W (.fieldLink "java/lang/String" 15 "java/lang/String" "coder" "B")) (hx.mv X2.warmed.alike hh2) (g := (mkF m 7 #[.val (.ref x)] [.ref x])) rfl (rest := []) rfl (hb hbytes d7)
  have c5 : Steps p.tables e below (s₁.setTop (entryFrame m #[.ref x] 1)) (T4.setTop (mkF m 14 #[.val (.ref x)] [.int cd])) := (c3.trans (st4 _ (Steps.refl _))).trans (by
    refine XS.goto X4.here hexec rfl (pc0 := 10) rfl (hb hbytes d10) (by decide) rfl ?_
    exact Steps.refl _)
  exact ⟨T4, some (.int cd), _, _, _, X4, rfl, rfl, rfl, (fun h => by cases h), ⟨rfl, q4.trans hh2⟩, fun fs hl => c5.trans (X4.ireturnOut hexec hret (by rcases hc with rfl | rfl <;> rfl) (Or.inr (Or.inr (Or.inl rfl))) (hb hbytes d14) hl)⟩
end Cdr
namespace Len
def yN : MethodName := ⟨"java/lang/String", "length", "()I"⟩
abbrev yB : ByteArray := jdk_42_method_54_code
theorem d0 : decode yB 0 = .ok (.aload_n 0, 1) := by decide +kernel
theorem d1 : decode yB 1 = .ok (.getfield 9, 3) := by decide +kernel
theorem d4 : decode yB 4 = .ok (.arraylength, 1) := by decide +kernel
theorem d5 : decode yB 5 = .ok (.aload_n 0, 1) := by decide +kernel
theorem d6 : decode yB 6 = .ok (.invokevirtual 335, 3) := by decide +kernel
theorem d9 : decode yB 9 = .ok (.ishr, 1) := by decide +kernel
theorem d10 : decode yB 10 = .ok (.ireturn, 1) := by decide +kernel
def site : List Cond := [.fieldLink "java/lang/String" 9 "java/lang/String" "value" "[B", Cdr.tab] ++ virtW "java/lang/String" 335 "java/lang/String" Cdr.yN Cdr.yN
def tab : Cond := tabOf yN yB 1 (some .int) site
def P (x t : Addr) (V : Cell) (cd : Int32) (n : Nat) (f : Nat → Int32) (z : Int32) (args : Array Value) (s : State) : Prop := args = #[.ref x] ∧ Txt x t V cd n f s ∧ StaticIs s "java/lang/String" "COMPACT_STRINGS" "Z" (.int z) ∧ ¬ z = 0
def E (n : Nat) (r : Option Value) (s u : State) : Prop := XT.PureE (some (.int (Int32.ofNat n))) r s u
/-- length() of a String of n chars, in either coding -/
theorem law (l : Launch) (x t : Addr) (V : Cell) (cd : Int32) (n : Nat) (f : Nat → Int32) (z : Int32) : Law l yN 1 0 1 13 yB 1 (some .int) site (P x t V cd n f z) (E n) [] 0 0 := by
  refine Law.of_walk (plainFor_of_name (by decide +kernel)) (by decide +kernel) (by decide +kernel) (by decide) (fun _ _ h => by rw [h.1]; rfl) (fun _ U U' hal hh h => ⟨h.1, h.2.1.mv hal hh, h.2.2.1.there hal hh, h.2.2.2⟩) (fun r U U' V V' h1 hal h2 h => XT.PureE.mv r U U' V V' h1 hal h2 h) ?_
  intro p e s m args below meth c s₁ X0 hexec hbytes hml hret hlk hnm hown hh0 W hP
  obtain ⟨rfl, hx, s1, hz⟩ := hP
  have v31 := hx.2.2.2.1.2.2.2
  have c1 : Steps p.tables e below (s₁.setTop (entryFrame m #[.ref x] 1)) (s₁.setTop (mkF m 1 #[.val (.ref x)] [.ref x])) := Steps.trans (entry rfl) (by
    show Steps p.tables e below (s₁.setTop (mkF m 0 #[.val (.ref x)] [])) _
    refine XS.aloadN X0.here hexec rfl (hb hbytes d0) rfl rfl ?_
    exact Steps.refl _)
  obtain ⟨T2, X2, q2, st2⟩ := X0.hget hexec hown (wk W (.fieldLink "java/lang/String" 9 "java/lang/String" "value" "[B")) (hx.mv X0.warmed.alike hh0).2.1 (g := (mkF m 1 #[.val (.ref x)] [.ref x])) rfl (rest := []) rfl (hb hbytes d1)
  have hh2 := q2.trans hh0
  have hx2 := hx.mv X2.warmed.alike hh2
  have c3 : Steps p.tables e below (s₁.setTop (entryFrame m #[.ref x] 1)) (T2.setTop (mkF m 6 #[.val (.ref x)] [.ref x, .int (Int32.ofNat V.slots.size)])) := (c1.trans (st2 _ (Steps.refl _))).trans (by
    refine X2.alen hexec hx2.2.2.2.1 rfl rfl (hb hbytes d4) ?_
    refine XS.aloadN X2.here hexec rfl (hb hbytes d5) rfl rfl ?_
    exact Steps.refl _)
  obtain ⟨v4, T4, X4, E4, g4⟩ := X2.callV hexec (Cdr.law l x cd z) hown (wks W (virtW "java/lang/String" 335 "java/lang/String" Cdr.yN Cdr.yN)) rfl (by decide) (wk W Cdr.tab) (W := 1) (Nat.le_of_ble_eq_true rfl) (Nat.le_of_ble_eq_true rfl) (Nat.le_refl _) (Nat.le_refl _) (hx2.1.fc X2.warmed.alike) hx2.1.is (g := (mkF m 6 #[.val (.ref x)] [.ref x, .int (Int32.ofNat V.slots.size)])) rfl (by rw [hml]; rfl) c3 (argsL := []) (rest := [.int (Int32.ofNat V.slots.size)]) rfl rfl (by show 2 * 0 + (1 + 0) ≤ _; decide) (hb hbytes d6) (⟨rfl, hx2.2.2.1, hx.2.2.2.2.1.cd, s1.there X2.warmed.alike hh2, hz⟩)
  obtain ⟨rfl, q4⟩ := E4
  have c5 : Steps p.tables e below (s₁.setTop (entryFrame m #[.ref x] 1)) (T4.setTop (mkF m 10 #[.val (.ref x)] [.int (Int32.ofNat V.slots.size >>> (cd &&& 31))])) := Steps.trans g4 (by
    refine ishr X4.here hexec rfl (hb hbytes d9) rfl ?_
    exact Steps.refl _)
  rw [hx.2.2.2.2.1.len v31] at c5
  exact ⟨T4, some (.int (Int32.ofNat n)), _, _, _, X4, rfl, rfl, rfl, (fun h => by cases h), ⟨rfl, q4.trans hh2⟩, fun fs hl => c5.trans (X4.ireturnOut hexec hret rfl (Or.inl rfl) (hb hbytes d10) hl)⟩
theorem pays {l : Launch} {R : Room} {p : Program} {e : Env} {below : List Frame} {s : State} {sargs : Array Value} {len W : Nat} (x t : Addr) (V : Cell) (cd : Int32) (n : Nat) (f : Nat → Int32) (z : Int32) (htab : tab.before sargs s = true) (hfr : 2 ≤ R.frames) (hlo : W + 25 ≤ R.locals) :
    Back l R p e below s sargs yN len W (fun A₁ a₁ => A₁.cells + 0 ≤ R.cells ∧ A₁.slots + 0 ≤ R.slots ∧ P x t V cd n f z a₁ A₁.U) (fun A₁ _ v₁ B₁ => E n v₁ A₁.U B₁.U ∧ B₁.locs = A₁.locs ++ [] ∧ B₁.cells = A₁.cells + 0 ∧ B₁.slots = A₁.slots + 0) :=
  (law l x t V cd n f z).pays htab hfr (by omega)
end Len
namespace IsL
def yN : MethodName := ⟨"java/lang/String", "isLatin1", "()Z"⟩
abbrev yB : ByteArray := jdk_42_method_154_code
theorem d0 : decode yB 0 = .ok (.getstatic 38, 3) := by decide +kernel
theorem d3 : decode yB 3 = .ok (.ifCond (.eq) 14, 3) := by decide +kernel
theorem d6 : decode yB 6 = .ok (.aload_n 0, 1) := by decide +kernel
theorem d7 : decode yB 7 = .ok (.getfield 15, 3) := by decide +kernel
theorem d10 : decode yB 10 = .ok (.ifCond (.ne) 7, 3) := by decide +kernel
theorem d13 : decode yB 13 = .ok (.iconst 1, 1) := by decide +kernel
theorem d14 : decode yB 14 = .ok (.goto 4, 3) := by decide +kernel
theorem d17 : decode yB 17 = .ok (.iconst 0, 1) := by decide +kernel
theorem d18 : decode yB 18 = .ok (.ireturn, 1) := by decide +kernel
def site : List Cond := [.fieldLink "java/lang/String" 38 "java/lang/String" "COMPACT_STRINGS" "Z", .fieldLink "java/lang/String" 15 "java/lang/String" "coder" "B"]
def tab : Cond := tabOf yN yB 1 (some .boolean) site
def P (x : Addr) (cd z : Int32) (args : Array Value) (s : State) : Prop := args = #[.ref x] ∧ Has x "java/lang/String" "coder" "B" (.int cd) s ∧ (cd = 0 ∨ cd = 1) ∧ StaticIs s "java/lang/String" "COMPACT_STRINGS" "Z" (.int z) ∧ ¬ z = 0
def E (cd : Int32) (r : Option Value) (s u : State) : Prop := XT.PureE (some (.int (1 - cd))) r s u
theorem law (l : Launch) (x : Addr) (cd z : Int32) : Law l yN 1 0 0 0 yB 1 (some .boolean) site (P x cd z) (E cd) [] 0 0 := by
  refine Law.of_walk (plainFor_of_name (by decide +kernel)) (by decide +kernel) (by decide +kernel) (by decide) (fun _ _ h => by rw [h.1]; rfl) (fun _ U U' hal hh h => ⟨h.1, h.2.1.mv hal hh, h.2.2.1, h.2.2.2.1.there hal hh, h.2.2.2.2⟩) (fun r U U' V V' h1 hal h2 h => XT.PureE.mv r U U' V V' h1 hal h2 h) ?_
  intro p e s m args below meth c s₁ X0 hexec hbytes hml hret hlk hnm hown hh0 W hP
  obtain ⟨rfl, hx, hc, s1, hz⟩ := hP
  have c1 : Steps p.tables e below (s₁.setTop (entryFrame m #[.ref x] 1)) (s₁.setTop (mkF m 0 #[.val (.ref x)] [])) := entry rfl
  obtain ⟨T2, X2, q2, st2⟩ := X0.sget hexec hown (wk W (.fieldLink "java/lang/String" 38 "java/lang/String" "COMPACT_STRINGS" "Z")) s1 (fun _ _ h => by rw [hh0]; exact h) (g := (mkF m 0 #[.val (.ref x)] [])) rfl (hb hbytes d0)
  have hh2 := q2.trans hh0
  have c3 : Steps p.tables e below (s₁.setTop (entryFrame m #[.ref x] 1)) (T2.setTop (mkF m 7 #[.val (.ref x)] [.ref x])) := (c1.trans (st2 _ (Steps.refl _))).trans (by
    refine XS.ifNo X2.here hexec rfl (hb hbytes d3) rfl (i0_eq_f hz) ?_
    refine XS.aloadN X2.here hexec rfl (hb hbytes d6) rfl rfl ?_
    exact Steps.refl _)
  obtain ⟨T4, X4, q4, st4⟩ := X2.hget hexec hown (wk W (.fieldLink "java/lang/String" 15 "java/lang/String" "coder" "B")) (hx.mv X2.warmed.alike hh2) (g := (mkF m 7 #[.val (.ref x)] [.ref x])) rfl (rest := []) rfl (hb hbytes d7)
  have c5 : Steps p.tables e below (s₁.setTop (entryFrame m #[.ref x] 1)) (T4.setTop (mkF m 10 #[.val (.ref x)] [.int cd])) := c3.trans (st4 _ (Steps.refl _))
  have c6 : Steps p.tables e below (s₁.setTop (entryFrame m #[.ref x] 1)) (T4.setTop (mkF m 18 #[.val (.ref x)] [.int (1 - cd)])) := by
    rcases hc with rfl | rfl
    · exact c5.trans (by
        refine XS.ifNo X4.here hexec rfl (hb hbytes d10) rfl (i0_ne_f rfl) ?_
        refine iconstV X4.here hexec rfl 1 (hb hbytes d13) (by decide) ?_
        refine XS.goto X4.here hexec rfl (pc0 := 14) rfl (hb hbytes d14) (by decide) rfl ?_
        exact Steps.refl _)
    · exact c5.trans (by
        refine XS.ifYes X4.here hexec rfl (pc0 := 10) rfl (hb hbytes d10) rfl (i0_ne_t (by decide)) (by decide) rfl ?_
        refine iconstV X4.here hexec rfl 0 (hb hbytes d17) (by decide) ?_
        exact Steps.refl _)
  exact ⟨T4, some (.int (1 - cd)), _, _, _, X4, rfl, rfl, rfl, (fun h => by cases h), ⟨rfl, q4.trans hh2⟩, fun fs hl => c6.trans (X4.ireturnOut hexec hret (by rcases hc with rfl | rfl <;> rfl) (Or.inr (Or.inl rfl)) (hb hbytes d18) hl)⟩
end IsL
namespace LChA
def yN : MethodName := ⟨"java/lang/StringLatin1", "charAt", "([BI)C"⟩
abbrev yB : ByteArray := jdk_43_method_2_code
theorem d0 : decode yB 0 = .ok (.iload_n 1, 1) := by decide +kernel
theorem d1 : decode yB 1 = .ok (.aload_n 0, 1) := by decide +kernel
theorem d2 : decode yB 2 = .ok (.arraylength, 1) := by decide +kernel
theorem d3 : decode yB 3 = .ok (.invokestatic 9, 3) := by decide +kernel
theorem d6 : decode yB 6 = .ok (.aload_n 0, 1) := by decide +kernel
theorem d7 : decode yB 7 = .ok (.iload_n 1, 1) := by decide +kernel
theorem d8 : decode yB 8 = .ok (.baload, 1) := by decide +kernel
theorem d9 : decode yB 9 = .ok (.sipush 255, 3) := by decide +kernel
theorem d12 : decode yB 12 = .ok (.iand, 1) := by decide +kernel
theorem d13 : decode yB 13 = .ok (.i2c, 1) := by decide +kernel
theorem d14 : decode yB 14 = .ok (.ireturn, 1) := by decide +kernel
def site : List Cond := [JO.Str_checkIndex.tab] ++ staticW "java/lang/StringLatin1" 9 JO.Str_checkIndex.yN
def tab : Cond := tabOf yN yB 2 (some .char) site
def P (t : Addr) (V : Cell) (i : Nat) (u : Int32) (fm : Value) (args : Array Value) (s : State) : Prop := args = #[.ref t, .int (Int32.ofNat i)] ∧ XT.Arr .byte t V s ∧ V.slots[i]? = some (.int u) ∧ (StaticIs s "jdk/internal/util/Preconditions" "SIOOBE_FORMATTER" "Ljava/util/function/BiFunction;" fm ∧ fm.isRef = true)
def E (u : Int32) (r : Option Value) (s w : State) : Prop := XT.PureE (some (.int (chr8 u))) r s w
theorem law (l : Launch) (t : Addr) (V : Cell) (i : Nat) (u : Int32) (fm : Value) : Law l yN 2 2 2 27 yB 2 (some .char) site (P t V i u fm) (E u) [] 0 0 := by
  refine Law.of_walk (plainFor_of_name (by decide +kernel)) (by decide +kernel) (by decide +kernel) (by decide) (fun _ _ h => by rw [h.1]; rfl) (fun _ U U' hal hh h => ⟨h.1, h.2.1.mv hal hh, h.2.2.1, h.2.2.2.1.there hal hh, h.2.2.2.2⟩) (fun r U U' V V' h1 hal h2 h => XT.PureE.mv r U U' V V' h1 hal h2 h) ?_
  intro p e s m args below meth c s₁ X0 hexec hbytes hml hret hlk hnm hown hh0 W hP
  obtain ⟨rfl, hV, hu, s1, rf⟩ := hP
  have v31 := hV.2.2.2
  have hi : i < V.slots.size := (Array.getElem?_eq_some_iff.mp hu).1
  have c1 : Steps p.tables e below (s₁.setTop (entryFrame m #[.ref t, .int (Int32.ofNat i)] 2)) (s₁.setTop (mkF m 0 #[.val (.ref t), .val (.int (Int32.ofNat i))] [])) := entry rfl
  have c2 : Steps p.tables e below (s₁.setTop (entryFrame m #[.ref t, .int (Int32.ofNat i)] 2)) (s₁.setTop (mkF m 3 #[.val (.ref t), .val (.int (Int32.ofNat i))] [.int (Int32.ofNat V.slots.size), .int (Int32.ofNat i)])) := c1.trans (by
    refine XS.iloadN X0.here hexec rfl (hb hbytes d0) rfl ?_
    refine XS.aloadN X0.here hexec rfl (hb hbytes d1) rfl rfl ?_
    refine X0.alen hexec (hV.mv X0.warmed.alike hh0) rfl rfl (hb hbytes d2) ?_
    exact Steps.refl _)
  obtain ⟨v3, T3, X3, E3, g3⟩ := X0.callS hexec (JO.Str_checkIndex.law l (Int32.ofNat i) (Int32.ofNat V.slots.size) fm) hown (wks W (staticW "java/lang/StringLatin1" 9 JO.Str_checkIndex.yN)) (wk W JO.Str_checkIndex.tab) (W := 0) (Nat.le_of_ble_eq_true rfl) (Nat.le_of_ble_eq_true rfl) (Nat.le_refl _) (Nat.le_refl _) (g := (mkF m 3 #[.val (.ref t), .val (.int (Int32.ofNat i))] [.int (Int32.ofNat V.slots.size), .int (Int32.ofNat i)])) rfl (by rw [hml]; rfl) c2 (argsL := [.int (Int32.ofNat i), .int (Int32.ofNat V.slots.size)]) (rest := []) rfl rfl (by show 2 * 0 + 0 ≤ _; decide) (hb hbytes d3) (⟨rfl, rf, s1.there X0.warmed.alike hh0, Int32.ofNat_not_neg (by omega), lt32 v31 hi⟩)
  obtain ⟨rfl, q3⟩ := E3
  have hh3 := q3.trans hh0
  have c4 : Steps p.tables e below (s₁.setTop (entryFrame m #[.ref t, .int (Int32.ofNat i)] 2)) (T3.setTop (mkF m 14 #[.val (.ref t), .val (.int (Int32.ofNat i))] [.int (chr8 u)])) := Steps.trans g3 (by
    refine XS.aloadN X3.here hexec rfl (hb hbytes d6) rfl rfl ?_
    refine XS.iloadN X3.here hexec rfl (hb hbytes d7) rfl ?_
    refine X3.aget hexec (hV.mv X3.warmed.alike hh3) rfl hu rfl rfl (hb hbytes d8) ?_
    refine sipushV X3.here hexec rfl 255 (hb hbytes d9) (by decide) ?_
    refine XS.iand X3.here hexec rfl (hb hbytes d12) rfl ?_
    refine i2c X3.here hexec rfl (hb hbytes d13) rfl ?_
    exact Steps.refl _)
  exact ⟨T3, some (.int (chr8 u)), _, _, _, X3, rfl, rfl, rfl, (fun h => by cases h), ⟨rfl, hh3⟩, fun fs hl => c4.trans (X3.ireturnOut hexec hret (narrow_c _) (Or.inr (Or.inr (Or.inr (Or.inl rfl)))) (hb hbytes d14) hl)⟩
end LChA
end StrChars
namespace StrChars.Road
open Jvm Sem ClassFile Op Lib Jvm.Stand Jvm.Free Jvm.Free.XT
open Jvm.Lib.Cold (StaticIs)
theorem consq {a : Array Value} {s : State} {c : Jvm.Cond} {L : List Jvm.Cond} (h0 : c.before a s = true) (h : ∀ w ∈ L, w.before a s = true) : ∀ w ∈ c :: L, w.before a s = true := fun w hw => (List.mem_cons.mp hw).elim (fun e => e ▸ h0) (h w)
/-- the words of String.length(), either coding -/
abbrev wordsLen : List Jvm.Cond := [.code Len.yN Len.yB 1 (some .int), .initialized ST, .fieldLink ST 9 ST "value" "[B", .fieldLink ST 38 ST "COMPACT_STRINGS" "Z", .fieldLink ST 15 ST "coder" "B", .code Cdr.yN Cdr.yB 1 (some .byte), .methodLink ST 335 Cdr.yN, .declares Cdr.yN, .selects ST Cdr.yN Cdr.yN, .instanceMethod Cdr.yN]
theorem tabLen_of {a : Array Value} {s : State} (h : ∀ w ∈ wordsLen, w.before a s = true) : Len.tab.before a s = true := by
  have hc : Cdr.tab.before a s = true := unparts (wk h (.code Cdr.yN Cdr.yB 1 (some .byte))) (wks h (.initialized Cdr.yN.cls :: Cdr.site))
  have q := consq hc h
  exact unparts (wk q (.code Len.yN Len.yB 1 (some .int))) (wks q (.initialized Len.yN.cls :: Len.site))
theorem movedLen {Z s : State} {a0 args : Array Value} (hZ : Z.Warmed39 s.vm) (hw : ∀ d ∈ wordsLen, d.before a0 Z = true) : ∀ d ∈ wordsLen, d.before args s = true := fun d hd => by
  have q := hw d hd
  have t : ∀ d ∈ wordsLen, d = .arrayClass .byte ∨ (d.onTables && d.keepsFace) = true := by decide +kernel
  rcases t d hd with rfl | t
  · exact RoadKit.mvA hZ q
  · exact RoadKit.mv hZ q t
/-- the bytes of the chars cs, low before high -/
def wideBytes : List Int32 → List Value
  | [] => []
  | c :: cs => .int (lo8 c) :: .int (hi8 c) :: wideBytes cs
theorem wide_lo (d : Value) : ∀ (cs : List Int32) (j : Nat), j < cs.length → (wideBytes cs).getD (2 * j) d = .int (lo8 (cs.getD j 0))
  | [], j, h => absurd h (Nat.not_lt_zero j)
  | c :: cs, 0, _ => rfl
  | c :: cs, j + 1, h => by
    have q := wide_lo d cs j (by simpa using h)
    rw [show 2 * (j + 1) = 2 * j + 1 + 1 from by omega]
    simpa [wideBytes] using q
theorem wide_hi (d : Value) : ∀ (cs : List Int32) (j : Nat), j < cs.length → (wideBytes cs).getD (2 * j + 1) d = .int (hi8 (cs.getD j 0))
  | [], j, h => absurd h (Nat.not_lt_zero j)
  | c :: cs, 0, _ => rfl
  | c :: cs, j + 1, h => by
    have q := wide_hi d cs j (by simpa using h)
    rw [show 2 * (j + 1) + 1 = 2 * j + 1 + 1 + 1 from by omega]
    simpa [wideBytes] using q
theorem low_at (d : Value) (cs : List Int32) (j : Nat) (h : j < cs.length) : (cs.map fun c => Value.int (lo8 c)).getD j d = .int (lo8 (cs.getD j 0)) := by
  simp [List.getD_eq_getElem?_getD, h]
/-- an array of N2 bytes vs codes the chars cs by the coder cd -/
def CodA (cs : List Int32) (cd N2 : Int32) (vs : List Value) : Prop := (cd = 0 ∧ N2 = Int32.ofNat cs.length ∧ vs = (cs.map fun c => Value.int (lo8 c)) ∧ ∀ c ∈ cs, ¬ 255 < c) ∨ (cd = 1 ∧ N2 = Int32.ofNat (2 * cs.length) ∧ vs = wideBytes cs ∧ ∃ c ∈ cs, 255 < c)
theorem CodA.cod {cs : List Int32} {cd N2 : Int32} {vs : List Value} {V : Cell} (h : CodA cs cd N2 vs) (hn : 2 * cs.length < 2 ^ 31) (hs : V.slots.size = N2.toNatClampNeg) (hv : RoadKit.Has V vs (.int 0)) : Cod cd cs.length (fun j => cs.getD j 0) V := by
  rcases h with ⟨rfl, rfl, rfl, h⟩ | ⟨rfl, rfl, rfl, c, hc, hw⟩
  · rw [n32 (by omega)] at hs
    exact Or.inl ⟨rfl, hs, fun j hj => ⟨by rw [hv j (by omega), low_at _ _ _ hj], by
      have e : cs.getD j 0 = cs[j] := by simp [List.getD_eq_getElem?_getD, hj]
      show ¬ 255 < cs.getD j 0
      rw [e]; exact h _ (List.getElem_mem _)⟩⟩
  · rw [n32 (by omega)] at hs
    obtain ⟨j, hj, rfl⟩ := List.getElem_of_mem hc
    exact Or.inr ⟨rfl, hs, fun j hj => ⟨by rw [hv _ (by omega), wide_lo _ _ _ hj], by rw [hv _ (by omega), wide_hi _ _ _ hj]⟩, j, hj, by
      have e : cs.getD j 0 = cs[j] := by simp [List.getD_eq_getElem?_getD, hj]
      show 255 < cs.getD j 0
      rw [e]; exact hw⟩
/-- an object of exactly java/lang/String, its two fields found: as the laws ask it -/
theorem strObj {Z U : State} {a0 : Array Value} {kI : Nat} (wi : (Jvm.Cond.instantiable ST kI).before a0 Z = true) (al : Z.vm.Alike U.vm) {x : Addr} {v0 c0 : Value} (E : RoadKit.Exa Z U.heap x ST) (V : RoadKit.Fld Z U.heap x ST "value" "[B" v0) (C : RoadKit.Fld Z U.heap x ST "coder" "B" c0) :
    ∃ (D : Cell) (fV fC : Field), Blank ST x D U ∧ Found ST "value" "[B" fV U ∧ Found ST "coder" "B" fC U ∧ D.slots[fV.slot]? = some v0 ∧ D.slots[fC.slot]? = some c0 ∧ RoadKit.slotOf Z ST "value" "[B" = fV.slot ∧ RoadKit.slotOf Z ST "coder" "B" = fC.slot := by
  obtain ⟨D, cfV, kV, iV, fV, hD, gV, stV, knV, obV, asV, slV⟩ := V
  obtain ⟨D', cfC, kC, iC, fC, hD', gC, stC, -, -, asC, slC⟩ := C
  cases hD.symm.trans hD'
  obtain ⟨D2, kD, e1, e2, e3, e4, e5⟩ := E
  cases hD.symm.trans e1
  obtain ⟨c2, k2, i1, i2, i3, -⟩ := Cond.instantiable_spec wi
  cases e2.symm.trans i1
  cases e3.symm.trans i2
  obtain ⟨kU, u1, u2⟩ := al.2.2 _ _ e3
  exact ⟨D, fV, fC, ⟨hD, ⟨knV, fun q hq => by rw [hq] at obV; cases obV⟩, by rw [al.findClass]; exact e2, kU, u1, by rw [u2]; exact i3, by rw [u2]; exact e5 i3⟩, ⟨SBG.found_only al ⟨cfV, kV, iV, gV⟩, stV⟩, ⟨SBG.found_only al ⟨cfC, kC, iC, gC⟩, stC⟩, slV, slC, by simp [RoadKit.slotOf, gV], by simp [RoadKit.slotOf, gC]⟩
theorem sta_is {Z U : State} (al : Z.vm.Alike U.vm) {C n d : String} {v : Value} (S : RoadKit.Sta Z U.heap C n d v) : StaticIs U C n d v := by
  obtain ⟨cfS, iS, kS, fS, st, cS, t1, t2, t3, t4, t5, t6, t7⟩ := S
  exact StaticIs.there (s := { Z with heap := U.heap }) ⟨cfS, iS, kS, fS, st, cS, t1, t2, t3, t4, t5, (fun q => by rw [q] at t6; cases t6), t7⟩ al rfl
/-- **length() OF SUCH A STRING** -/
theorem lenW {p : Program} {l : Launch} {e : Env} {R : Room} {s : State} {args : Array Value} {below : List Frame} {len W : Nat} {Z : State} {a0 : Array Value} {h : Heap} (hZ : Z.Warmed39 s.vm) (hw : ∀ d ∈ wordsLen, d.before a0 Z = true) {kI : Nat} (wi : (Jvm.Cond.instantiable ST kI).before a0 Z = true)
    {x t : Addr} {kb : ClassId} {cs : List Int32} {cd N2 z : Int32} {vs : List Value} (E : RoadKit.Exa Z h x ST) (V : RoadKit.Fld Z h x ST "value" "[B" (.ref t)) (C : RoadKit.Fld Z h x ST "coder" "B" (.int cd)) (K : RoadKit.Arv Z h t kb .byte N2 vs (.int 0)) (hc : CodA cs cd N2 vs) (hb : ∀ c ∈ cs, ¬ c < 0 ∧ ¬ (65535 : Int32) < c)
    (S : RoadKit.Sta Z h ST "COMPACT_STRINGS" "Z" (.int z)) (hz : ¬ z = 0) (l2 : cs.length ≤ 4000) (hfr : 2 ≤ R.frames) (hlo : W + 25 ≤ R.locals) :
    Back l R p e below s args (⟨"java/lang/String", "length", "()I"⟩ : MethodName) len W (fun P a => a = #[.ref x] ∧ P.U.heap = h ∧ P.cells + 0 ≤ R.cells ∧ P.slots + 0 ≤ R.slots)
      (fun P _ v B => ∃ L, (v = some (.int (Int32.ofNat cs.length)) ∧ L = [] ∧ B.U.heap = h) ∧ B.locs = P.locs ++ L ∧ B.cells = P.cells + 0 ∧ B.slots = P.slots + 0) := by
  obtain ⟨A, K1, K2, K3, K4, K5, K6⟩ := K
  have hcod := hc.cod (by omega) K3 K5
  intro m meth c P g ig mk a X hg hsize hdg hW hn hp'
  obtain ⟨rfl, rfl, r1, r2⟩ := hp'
  have al : Z.vm.Alike P.U.vm := hZ.alike.trans X.warmed.alike
  obtain ⟨D, fV, fC, hB, F1, F2, g1, g2, -, -⟩ := strObj wi al E V C
  have hx : Txt x t A cd cs.length (fun j => cs.getD j 0) P.U := ⟨⟨_, hB.2.2.1, D, hB.1, rfl, by cases q : D.vm <;> first | rfl | exact absurd q (hB.2.1.2 _)⟩, Has.of hB F1 g1, Has.of hB F2 g2, ⟨K1.1, State.isArrayOf_alike al K1.2.1, K1.2.2, by rcases hcod with ⟨-, q, -⟩ | ⟨-, q, -⟩ <;> omega⟩, hcod, fun j hj => by
    have e : cs.getD j 0 = cs[j] := by simp [List.getD_eq_getElem?_getD, hj]
    show ¬ cs.getD j 0 < 0 ∧ ¬ 65535 < cs.getD j 0
    rw [e]; exact hb _ (List.getElem_mem _)⟩
  obtain ⟨v, B, X', ⟨⟨hv, hh⟩, hl, hk, hs⟩, st⟩ := Len.pays x t A cd cs.length (fun j => cs.getD j 0) z (tabLen_of (movedLen hZ hw)) hfr hlo m meth c P g ig mk _ X hg hsize hdg hW hn ⟨r1, r2, rfl, hx, sta_is al S, hz⟩
  exact ⟨v, B, X', ⟨[], ⟨hv, rfl, hh⟩, hl, hk, hs⟩, st⟩
end StrChars.Road
namespace StrChars
open Jvm Sem ClassFile Op Lib Jvm.Stand Jvm.Free.XT Jvm.Free.ALB Jvm.Free.JM Jvm.Free
open Jvm.Lib.Cold (StaticIs)
theorem lo8_inj {x y : Int32} (h0 : ¬ x < 0) (h1 : ¬ 255 < x) (k0 : ¬ y < 0) (k1 : ¬ 255 < y) (h : lo8 x = lo8 y) : x = y := by
  rw [← lo8_mask h0 h1, ← lo8_mask k0 k1, h]
end StrChars
namespace StrChars.Road
open Jvm Sem ClassFile Op Lib Jvm.Stand Jvm.Free Jvm.Free.XT
open Jvm.Lib.Cold (StaticIs)
/-- the road's facts of a String, as the laws ask it -/
theorem txt_of {Z U : State} {a0 : Array Value} {kI : Nat} (wi : (Jvm.Cond.instantiable ST kI).before a0 Z = true) (al : Z.vm.Alike U.vm) {x t : Addr} {kb : ClassId} {cs : List Int32} {cd N2 : Int32} {vs : List Value} (E : RoadKit.Exa Z U.heap x ST) (V : RoadKit.Fld Z U.heap x ST "value" "[B" (.ref t)) (C : RoadKit.Fld Z U.heap x ST "coder" "B" (.int cd)) (K : RoadKit.Arv Z U.heap t kb .byte N2 vs (.int 0)) (hc : CodA cs cd N2 vs) (hb : ∀ c ∈ cs, ¬ c < 0 ∧ ¬ (65535 : Int32) < c) (l2 : cs.length ≤ 4000) :
    ∃ A, Txt x t A cd cs.length (fun j => cs.getD j 0) U := by
  obtain ⟨A, K1, K2, K3, K4, K5, K6⟩ := K
  have hcod := hc.cod (by omega) K3 K5
  obtain ⟨D, fV, fC, hB, F1, F2, g1, g2, -, -⟩ := strObj wi al E V C
  exact ⟨A, ⟨_, hB.2.2.1, D, hB.1, rfl, by cases q : D.vm <;> first | rfl | exact absurd q (hB.2.1.2 _)⟩, Has.of hB F1 g1, Has.of hB F2 g2, ⟨K1.1, State.isArrayOf_alike al K1.2.1, K1.2.2, by rcases hcod with ⟨-, q, -⟩ | ⟨-, q, -⟩ <;> omega⟩, hcod, fun j hj => by
    have e : cs.getD j 0 = cs[j] := by simp [List.getD_eq_getElem?_getD, hj]
    show ¬ cs.getD j 0 < 0 ∧ ¬ 65535 < cs.getD j 0
    rw [e]; exact hb _ (List.getElem_mem _)⟩
end StrChars.Road
namespace StrChars
open Jvm Sem ClassFile Op Lib Jvm.Stand Jvm.Free.XT Jvm.Free.ALB Jvm.Free.JM Jvm.Free
open Jvm.Lib.Cold (StaticIs)
namespace ChN
def yN : MethodName := ⟨"java/lang/String", "charAt", "(I)C"⟩
abbrev yB : ByteArray := jdk_42_method_56_code
theorem d0 : decode yB 0 = .ok (.aload_n 0, 1) := by decide +kernel
theorem d1 : decode yB 1 = .ok (.invokevirtual 492, 3) := by decide +kernel
theorem d4 : decode yB 4 = .ok (.ifCond (.eq) 12, 3) := by decide +kernel
theorem d7 : decode yB 7 = .ok (.aload_n 0, 1) := by decide +kernel
theorem d8 : decode yB 8 = .ok (.getfield 9, 3) := by decide +kernel
theorem d11 : decode yB 11 = .ok (.iload_n 1, 1) := by decide +kernel
theorem d12 : decode yB 12 = .ok (.invokestatic 495, 3) := by decide +kernel
theorem d15 : decode yB 15 = .ok (.ireturn, 1) := by decide +kernel
def site : List Cond := [.fieldLink "java/lang/String" 9 "java/lang/String" "value" "[B", IsL.tab, LChA.tab] ++ virtW "java/lang/String" 492 "java/lang/String" IsL.yN IsL.yN ++ staticW "java/lang/String" 495 LChA.yN
def tab : Cond := tabOf yN yB 2 (some .char) site
def P (x t : Addr) (V : Cell) (n : Nat) (f : Nat → Int32) (z : Int32) (fm : Value) (i : Nat) (args : Array Value) (s : State) : Prop := args = #[.ref x, .int (Int32.ofNat i)] ∧ Txt x t V 0 n f s ∧ i < n ∧ StaticIs s "java/lang/String" "COMPACT_STRINGS" "Z" (.int z) ∧ ¬ z = 0 ∧ StaticIs s "jdk/internal/util/Preconditions" "SIOOBE_FORMATTER" "Ljava/util/function/BiFunction;" fm ∧ fm.isRef = true
def E (f : Nat → Int32) (i : Nat) (r : Option Value) (s u : State) : Prop := XT.PureE (some (.int (f i))) r s u
/-- charAt(i) of a Latin-1 String of n chars, i < n: f i -/
theorem law (l : Launch) (x t : Addr) (V : Cell) (n : Nat) (f : Nat → Int32) (z : Int32) (fm : Value) (i : Nat) : Law l yN 2 1 3 40 yB 2 (some .char) site (P x t V n f z fm i) (E f i) [] 0 0 := by
  refine Law.of_walk (plainFor_of_name (by decide +kernel)) (by decide +kernel) (by decide +kernel) (by decide) (fun _ _ h => by rw [h.1]; rfl) (fun _ U U' hal hh h => ⟨h.1, h.2.1.mv hal hh, h.2.2.1, h.2.2.2.1.there hal hh, h.2.2.2.2.1, h.2.2.2.2.2.1.there hal hh, h.2.2.2.2.2.2⟩) (fun r U U' V V' h1 hal h2 h => XT.PureE.mv r U U' V V' h1 hal h2 h) ?_
  intro p e s m args below meth c s₁ X0 hexec hbytes hml hret hlk hnm hown hh0 W hP
  obtain ⟨rfl, hx, hi, s1, hz, s3, rf⟩ := hP
  have v31 := hx.2.2.2.1.2.2.2
  have hr := hx.2.2.2.2.2 i hi
  have hx0 := hx.mv X0.warmed.alike hh0
  have c1 : Steps p.tables e below (s₁.setTop (entryFrame m #[.ref x, .int (Int32.ofNat i)] 2)) (s₁.setTop (mkF m 1 #[.val (.ref x), .val (.int (Int32.ofNat i))] [.ref x])) := Steps.trans (entry rfl) (by
    show Steps p.tables e below (s₁.setTop (mkF m 0 #[.val (.ref x), .val (.int (Int32.ofNat i))] [])) _
    refine XS.aloadN X0.here hexec rfl (hb hbytes d0) rfl rfl ?_
    exact Steps.refl _)
  obtain ⟨v2, T2, X2, E2, g2⟩ := X0.callV hexec (IsL.law l x 0 z) hown (wks W (virtW "java/lang/String" 492 "java/lang/String" IsL.yN IsL.yN)) rfl (by decide) (wk W IsL.tab) (W := 0) (Nat.le_of_ble_eq_true rfl) (Nat.le_of_ble_eq_true rfl) (Nat.le_refl _) (Nat.le_refl _) (hx0.1.fc X0.warmed.alike) hx0.1.is (g := (mkF m 1 #[.val (.ref x), .val (.int (Int32.ofNat i))] [.ref x])) rfl (by rw [hml]; rfl) c1 (argsL := []) (rest := []) rfl rfl (by show 2 * 0 + 0 ≤ _; decide) (hb hbytes d1) (⟨rfl, hx0.2.2.1, hx.2.2.2.2.1.cd, s1.there X0.warmed.alike hh0, hz⟩)
  obtain ⟨rfl, q2⟩ := E2
  have hh2 := q2.trans hh0
  have hx2 := hx.mv X2.warmed.alike hh2
  obtain ⟨-, k1, k2⟩ | ⟨k0, -⟩ := hx.2.2.2.2.1
  · have c3 : Steps p.tables e below (s₁.setTop (entryFrame m #[.ref x, .int (Int32.ofNat i)] 2)) (T2.setTop (mkF m 8 #[.val (.ref x), .val (.int (Int32.ofNat i))] [.ref x])) := Steps.trans g2 (by
      refine XS.ifNo X2.here hexec rfl (hb hbytes d4) rfl (i0_eq_f (by decide)) ?_
      refine XS.aloadN X2.here hexec rfl (hb hbytes d7) rfl rfl ?_
      exact Steps.refl _)
    obtain ⟨T4, X4, q4, st4⟩ := X2.hget hexec hown (wk W (.fieldLink "java/lang/String" 9 "java/lang/String" "value" "[B")) hx2.2.1 (g := (mkF m 8 #[.val (.ref x), .val (.int (Int32.ofNat i))] [.ref x])) rfl (rest := []) rfl (hb hbytes d8)
    have hh4 := q4.trans hh2
    have c5 : Steps p.tables e below (s₁.setTop (entryFrame m #[.ref x, .int (Int32.ofNat i)] 2)) (T4.setTop (mkF m 12 #[.val (.ref x), .val (.int (Int32.ofNat i))] [.int (Int32.ofNat i), .ref t])) := (c3.trans (st4 _ (Steps.refl _))).trans (by
      refine XS.iloadN X4.here hexec rfl (hb hbytes d11) rfl ?_
      exact Steps.refl _)
    obtain ⟨v6, T6, X6, E6, g6⟩ := X4.callS hexec (LChA.law l t V i (lo8 (f i)) fm) hown (wks W (staticW "java/lang/String" 495 LChA.yN)) (wk W LChA.tab) (W := 0) (Nat.le_of_ble_eq_true rfl) (Nat.le_of_ble_eq_true rfl) (Nat.le_refl _) (Nat.le_refl _) (g := (mkF m 12 #[.val (.ref x), .val (.int (Int32.ofNat i))] [.int (Int32.ofNat i), .ref t])) rfl (by rw [hml]; rfl) c5 (argsL := [.ref t, .int (Int32.ofNat i)]) (rest := []) rfl rfl (by show 2 * 0 + 0 ≤ _; decide) (hb hbytes d12) (⟨rfl, hx.2.2.2.1.mv X4.warmed.alike hh4, (k2 i hi).1, s3.there X4.warmed.alike hh4, rf⟩)
    obtain ⟨rfl, q6⟩ := E6
    rw [chr8_lo8 hr.1 (k2 i hi).2] at g6
    exact ⟨T6, some (.int (f i)), _, _, _, X6, rfl, rfl, rfl, (fun h => by cases h), ⟨rfl, q6.trans hh4⟩, fun fs hl => Steps.trans g6 (X6.ireturnOut hexec hret (narrow_ch hr.1 hr.2) (Or.inr (Or.inr (Or.inr (Or.inl rfl)))) (hb hbytes d15) hl)⟩
  · exact absurd k0 (by decide)
theorem pays {l : Launch} {R : Room} {p : Program} {e : Env} {below : List Frame} {s : State} {sargs : Array Value} {len W : Nat} (x t : Addr) (V : Cell) (n : Nat) (f : Nat → Int32) (z : Int32) (fm : Value) (i : Nat) (htab : tab.before sargs s = true) (hfr : 4 ≤ R.frames) (hlo : W + 53 ≤ R.locals) :
    Back l R p e below s sargs yN len W (fun A₁ a₁ => A₁.cells + 0 ≤ R.cells ∧ A₁.slots + 0 ≤ R.slots ∧ P x t V n f z fm i a₁ A₁.U) (fun A₁ _ v₁ B₁ => E f i v₁ A₁.U B₁.U ∧ B₁.locs = A₁.locs ++ [] ∧ B₁.cells = A₁.cells + 0 ∧ B₁.slots = A₁.slots + 0) :=
  (law l x t V n f z fm i).pays htab hfr (by omega)
end ChN
end StrChars
namespace StrChars.Road
open Jvm Sem ClassFile Op Lib Jvm.Stand Jvm.Free Jvm.Free.XT
open Jvm.Lib.Cold (StaticIs)
/-- the words of String.charAt(int), the Latin-1 road alone -/
abbrev wordsChN : List Jvm.Cond := [.code ChN.yN ChN.yB 2 (some .char), .initialized ST, .fieldLink ST 9 ST "value" "[B", .fieldLink ST 38 ST "COMPACT_STRINGS" "Z", .fieldLink ST 15 ST "coder" "B", .code IsL.yN IsL.yB 1 (some .boolean), .methodLink ST 492 IsL.yN, .declares IsL.yN, .selects ST IsL.yN IsL.yN, .instanceMethod IsL.yN,
  .methodLink ST 495 LChA.yN, .static LChA.yN, .code LChA.yN LChA.yB 2 (some .char), .initialized "java/lang/StringLatin1", .methodLink "java/lang/StringLatin1" 9 JO.Str_checkIndex.yN, .static JO.Str_checkIndex.yN, .code JO.Str_checkIndex.yN JO.Str_checkIndex.yB 2 none,
  .fieldLink ST 1053 "jdk/internal/util/Preconditions" "SIOOBE_FORMATTER" "Ljava/util/function/BiFunction;", .methodLink ST 1059 JC.PreCheck.yN, .static JC.PreCheck.yN, .code JC.PreCheck.yN JC.PreCheck.yB 3 (some .int), .initialized "jdk/internal/util/Preconditions"]
theorem tabChN_of {a : Array Value} {s : State} (h : ∀ w ∈ wordsChN, w.before a s = true) : ChN.tab.before a s = true := by
  have hp : JC.PreCheck.tab.before a s = true := unparts (wk h (.code JC.PreCheck.yN JC.PreCheck.yB 3 (some .int))) (wks h (.initialized JC.PreCheck.yN.cls :: JC.PreCheck.site))
  have qk := consq hp h
  have hk : JO.Str_checkIndex.tab.before a s = true := unparts (wk qk (.code JO.Str_checkIndex.yN JO.Str_checkIndex.yB 2 none)) (wks qk (.initialized JO.Str_checkIndex.yN.cls :: JO.Str_checkIndex.site))
  have ql := consq hk h
  have hl : LChA.tab.before a s = true := unparts (wk ql (.code LChA.yN LChA.yB 2 (some .char))) (wks ql (.initialized LChA.yN.cls :: LChA.site))
  have hi : IsL.tab.before a s = true := unparts (wk h (.code IsL.yN IsL.yB 1 (some .boolean))) (wks h (.initialized IsL.yN.cls :: IsL.site))
  have q := consq hi (consq hl h)
  exact unparts (wk q (.code ChN.yN ChN.yB 2 (some .char))) (wks q (.initialized ChN.yN.cls :: ChN.site))
theorem movedChN {Z s : State} {a0 args : Array Value} (hZ : Z.Warmed39 s.vm) (hw : ∀ d ∈ wordsChN, d.before a0 Z = true) : ∀ d ∈ wordsChN, d.before args s = true := fun d hd => by
  have t : ∀ d ∈ wordsChN, (d.onTables && d.keepsFace) = true := by decide +kernel
  exact RoadKit.mv hZ (hw d hd) (t d hd)
/-- **charAt(i) OF A LATIN-1 STRING**, i < n: the char -/
theorem chN {p : Program} {l : Launch} {e : Env} {R : Room} {s : State} {args : Array Value} {below : List Frame} {len W : Nat} {Z : State} {a0 : Array Value} {h : Heap} (hZ : Z.Warmed39 s.vm) (hw : ∀ d ∈ wordsChN, d.before a0 Z = true) {kI : Nat} (wi : (Jvm.Cond.instantiable ST kI).before a0 Z = true)
    {x t : Addr} {kb : ClassId} {cs : List Int32} {N2 z : Int32} {vs : List Value} {fm : Value} {i : Nat} {j : Int32} (E : RoadKit.Exa Z h x ST) (V : RoadKit.Fld Z h x ST "value" "[B" (.ref t)) (C : RoadKit.Fld Z h x ST "coder" "B" (.int 0)) (K : RoadKit.Arv Z h t kb .byte N2 vs (.int 0)) (hc : CodA cs 0 N2 vs) (hb : ∀ c ∈ cs, ¬ c < 0 ∧ ¬ (65535 : Int32) < c)
    (S : RoadKit.Sta Z h ST "COMPACT_STRINGS" "Z" (.int z)) (hz : ¬ z = 0) (F : RoadKit.Sta Z h "jdk/internal/util/Preconditions" "SIOOBE_FORMATTER" "Ljava/util/function/BiFunction;" fm) (rf : fm.isRef = true) (l2 : cs.length ≤ 4000) (hi : i < cs.length) (hj : j = Int32.ofNat i) (hfr : 4 ≤ R.frames) (hlo : W + 53 ≤ R.locals) :
    Back l R p e below s args (⟨"java/lang/String", "charAt", "(I)C"⟩ : MethodName) len W (fun P a => a = #[.ref x, .int j] ∧ P.U.heap = h ∧ P.cells + 0 ≤ R.cells ∧ P.slots + 0 ≤ R.slots)
      (fun P _ v B => ∃ L, (v = some (.int (cs.getD i 0)) ∧ L = [] ∧ B.U.heap = h) ∧ B.locs = P.locs ++ L ∧ B.cells = P.cells + 0 ∧ B.slots = P.slots + 0) := by
  subst hj
  intro m meth c P g ig mk a X hg hsize hdg hW hn hp'
  obtain ⟨rfl, rfl, r1, r2⟩ := hp'
  have al : Z.vm.Alike P.U.vm := hZ.alike.trans X.warmed.alike
  obtain ⟨A, hx⟩ := txt_of wi al E V C K hc hb l2
  obtain ⟨v, B, X', ⟨⟨hv, hh⟩, hl, hk, hs⟩, st⟩ := ChN.pays x t A cs.length (fun j => cs.getD j 0) z fm i (tabChN_of (movedChN hZ hw)) hfr hlo m meth c P g ig mk _ X hg hsize hdg hW hn ⟨r1, r2, rfl, hx, hi, sta_is al S, hz, sta_is al F, rf⟩
  exact ⟨v, B, X', ⟨[], ⟨hv, rfl, hh⟩, hl, hk, hs⟩, st⟩
/-- what backV says of its String, as the contracts of this text ask it: cs's low bytes, coder 0 -/
theorem codOf {cs : List Int32} {n : Nat} (hn : cs.length = n) (hb : ∀ c ∈ cs, ¬ 255 < c) : CodA cs 0 (Int32.ofNat n) ((cs.map lo8).map Value.int) := Or.inl ⟨rfl, by rw [hn], by simp [List.map_map, Function.comp_def], hb⟩
end StrChars.Road
end Jvm.Pilot.@@N@@


namespace Jvm.Pilot.@@N@@
open Jvm Jvm.ClassFile Sem Op Lib Jvm.Free Jvm.Stand Jvm.LawKit Jvm.RoadKit Bundle Jvm.Pilot.@@N@@.Jvm.D
def own_Go (tb : Tables) (e : Env) (below : List Frame) (P : Outcome → State → Prop) (U : State) : Prop := ∃ s₂ o, Steps tb e below U s₂ ∧ s₂.status = .running ∧ Ended s₂ below o ∧ P o s₂
theorem own_Go.st {tb : Tables} {e : Env} {below : List Frame} {P : Outcome → State → Prop} {U U' : State} (h : ∀ t, Steps tb e below U' t → Steps tb e below U t) (k : own_Go tb e below P U') : own_Go tb e below P U := by
  obtain ⟨t, o, a, r⟩ := k
  exact ⟨t, o, h t a, r⟩
theorem own_Go.tr {tb : Tables} {e : Env} {below : List Frame} {P : Outcome → State → Prop} {U U' : State} (h : Steps tb e below U U') (k : own_Go tb e below P U') : own_Go tb e below P U := own_Go.st (fun _ a => h.trans a) k
section OwnRet
variable {p : Program} {l : Launch} {e : Env} {R : Room} {s : State} {m : MethodId} {args : Array Value} {below : List Frame} {meth : Method} {c : Code} {T : State} {locs : List Loc} {cells slots : Nat}
theorem own_retI (X : Stand p l e R s m args below meth c T locs cells slots) (hx : p.tables.exec = Jvm.exec) {pc : Nat} {Ls : Array Slot} {z : Int32} {rest : List Value} (hret : meth.sig.returnType = some .int) (hd : decode c.code pc = .ok (.ireturn, 1)) {fs : List Frame}
    (hl : ∀ (f : JFrame) (acts : List Action), f.method = m → f.locked = none → f.entered = [] → (doReturn e (T.setTop f) acts (some (.int z))).1 = T.setFrames fs) : Steps p.tables e below (T.setTop (mkF m pc Ls (.int z :: rest))) (T.setFrames fs) :=
  retOut X hx hret rfl (Or.inl ⟨rfl, Or.inl rfl, z, rfl⟩) hd hl
theorem own_retL (X : Stand p l e R s m args below meth c T locs cells slots) (hx : p.tables.exec = Jvm.exec) {pc : Nat} {Ls : Array Slot} {z : Int64} {rest : List Value} (hret : meth.sig.returnType = some .long) (hd : decode c.code pc = .ok (.lreturn, 1)) {fs : List Frame}
    (hl : ∀ (f : JFrame) (acts : List Action), f.method = m → f.locked = none → f.entered = [] → (doReturn e (T.setTop f) acts (some (.long z))).1 = T.setFrames fs) : Steps p.tables e below (T.setTop (mkF m pc Ls (.long z :: rest))) (T.setFrames fs) :=
  retOut X hx hret rfl (Or.inr (Or.inl ⟨rfl, rfl, z, rfl⟩)) hd hl
theorem own_narRef {t : FieldType} {w : Value} (ht : t.isReference = true) (hw : w.isRef = true) : narrow t w = w := by
  cases t <;> first | rfl | (simp [FieldType.isReference] at ht; done) | (cases w <;> first | rfl | simp [Value.isRef] at hw)
theorem own_retA (X : Stand p l e R s m args below meth c T locs cells slots) (hx : p.tables.exec = Jvm.exec) {pc : Nat} {Ls : Array Slot} {w : Value} {t : FieldType} {rest : List Value} (hret : meth.sig.returnType = some t) (ht : t.isReference = true) (hw : w.isRef = true) (hd : decode c.code pc = .ok (.areturn, 1)) {fs : List Frame}
    (hl : ∀ (f : JFrame) (acts : List Action), f.method = m → f.locked = none → f.entered = [] → (doReturn e (T.setTop f) acts (some w)).1 = T.setFrames fs) : Steps p.tables e below (T.setTop (mkF m pc Ls (w :: rest))) (T.setFrames fs) :=
  retOut X hx hret (own_narRef ht hw) (Or.inr (Or.inr (Or.inr (Or.inr ⟨rfl, ht, hw⟩)))) hd hl
end OwnRet
theorem own_selP {s : State} {args : Array Value} {C : String} {y : MethodName} (h : (Jvm.Cond.selects C y y).before args s = true) (hp : s.PrivateAt y) (hi : (Jvm.Cond.instanceMethod y).before args s = true) (hy : y.cls ≠ "java/lang/invoke/MethodHandle" ∧ y.cls ≠ "java/lang/invoke/VarHandle") : (Jvm.Cond.selects y.cls y y).before args s = true := by
  obtain ⟨c, r, m, -, -, q3, -, mk, k1, k2⟩ := Cond.selects_spec h
  exact Jvm.Stand.selects_self_of_private (findClass_of_methodNamed q3) k1 k2 hp hi hy
theorem own_nf {s : State} {args : Array Value} {C : String} {y y2 : MethodName} (h : (Jvm.Cond.selects C y2 y2).before args s = true) (he : y2.cls = y.cls) : NotFace s y := fun r0 h0 => by
  obtain ⟨c, r, m, -, -, q3, -, mk, k1, k2⟩ := Cond.selects_spec h
  have e1 := findClass_of_methodNamed q3
  have e2 := findClass_of_methodNamed h0
  rw [he] at e1
  have e3 : m.cls = r0.cls := Option.some.inj (e1.symm.trans e2)
  exact ⟨mk, e3 ▸ k1, k2⟩
theorem own_sameP {s : State} {args : Array Value} {C : String} {y y2 : MethodName} (hd : (Jvm.Cond.declares y).before args s = true) (h : (Jvm.Cond.selects C y2 y2).before args s = true) (he : y2.cls = y.cls) (hy : y.cls ≠ "java/lang/invoke/MethodHandle" ∧ y.cls ≠ "java/lang/invoke/VarHandle") : (Jvm.Cond.sameMethod y.cls y.cls y.name y.desc).before args s = true := by
  obtain ⟨c, r, m, -, -, q3, -, mk, k1, k2⟩ := Cond.selects_spec h
  have e1 := findClass_of_methodNamed q3
  rw [he] at e1
  cases hm : s.methodNamed? y with
  | none => simp [Cond.before, Cond.holds, Cond.value, hm] at hd
  | some mm =>
    have hf : s.methodFound? y.cls y.name y.desc = some mm := State.methodFound?_of_named hm hy
    have hm' : s.methodNamed? ⟨y.cls, y.name, y.desc⟩ = some mm := hm
    simp [Cond.before, Cond.holds, Cond.value, e1, hf, hm', k1, k2]
theorem own_rwE {T h : Heap} {a : Addr} {c : Option Cell} (e : T = h) (q : h[a]? = c) : T[a]? = c := by rw [e]; exact q
theorem own_nar {x : Int32} (h : ¬ x < 0 ∧ ¬ (65535 : Int32) < x) : nar .char x = x := by
  have q := c_i2c x
  have h1 := h.1; have h2 := h.2
  rw [Int32.lt_iff_toInt_lt] at h1 h2
  have e1 : (0 : Int32).toInt = 0 := by decide
  have e2 : (65535 : Int32).toInt = 65535 := by decide
  rw [e1] at h1; rw [e2] at h2
  show x.toUInt32.toUInt16.toUInt32.toInt32 = x
  apply Int32.toInt_inj.mp
  omega
theorem own_up {x : Int32} (h : ¬ x < 0 ∧ ¬ (255 : Int32) < x) : ¬ x < 0 ∧ ¬ (65535 : Int32) < x := by
  refine ⟨h.1, fun q => h.2 ?_⟩
  rw [Int32.lt_iff_toInt_lt] at q ⊢
  have e1 : (255 : Int32).toInt = 255 := by decide
  have e2 : (65535 : Int32).toInt = 65535 := by decide
  omega
theorem own_arvTy {Z : State} {h : Heap} {a b : Addr} {k k' : ClassId} {ty ty' : FieldType} {n n' : Int32} {vs vs' : List Value} {d d' : Value} (A : Arv Z h a k ty n vs d) (B : Arv Z h b k' ty' n' vs' d') (ht : ty ≠ ty') : a ≠ b := fun q => by
  subst q
  obtain ⟨c, C, -⟩ := A
  obtain ⟨c', C', -⟩ := B
  cases C.1.symm.trans C'.1
  obtain ⟨-, k1, j1, cp1, j2⟩ := C.2.1
  obtain ⟨-, k2, i1, cp2, i2⟩ := C'.2.1
  cases j1.symm.trans i1
  rw [j2] at i2
  cases i2
  exact ht rfl


def own_Str (Z : State) (h : Heap) (x t : Addr) (cs : List Int32) : Prop := ∃ (kb : ClassId) (cd N2 : Int32) (vs : List Value), Exa Z h x "java/lang/String" ∧ Fld Z h x "java/lang/String" "value" "[B" (.ref t) ∧ Fld Z h x "java/lang/String" "coder" "B" (.int cd) ∧ Arv Z h t kb .byte N2 vs (.int 0) ∧ StrChars.Road.CodA cs cd N2 vs ∧ (∀ c ∈ cs, ¬ c < 0 ∧ ¬ (65535 : Int32) < c) ∧ cs.length ≤ 4000
section OwnStr
variable {Z : State} {h h' : Heap} {x t a : Addr} {cs : List Int32} {sl : Nat} {v : Value} {ws : List Addr}
theorem own_Str.ext (F : own_Str Z h x t cs) (E : Ext h h') : own_Str Z h' x t cs := by
  obtain ⟨kb, cd, N2, vs, h1, h2, h3, h4, r⟩ := F
  exact ⟨kb, cd, N2, vs, h1.ext E, h2.ext E, h3.ext E, h4.ext E, r⟩
theorem own_Str.other (F : own_Str Z h x t cs) (W : Wr h h' a sl v) (n1 : x ≠ a) (n2 : t ≠ a) : own_Str Z h' x t cs := by
  obtain ⟨kb, cd, N2, vs, h1, h2, h3, h4, r⟩ := F
  exact ⟨kb, cd, N2, vs, h1.wr W, h2.other W (Or.inl n1), h3.other W (Or.inl n1), h4.other W n2, r⟩
theorem own_Str.keep (F : own_Str Z h x t cs) (K : Keep h h' ws) (n1 : x ∉ ws) (n2 : t ∉ ws) : own_Str Z h' x t cs := by
  obtain ⟨kb, cd, N2, vs, h1, h2, h3, h4, r⟩ := F
  exact ⟨kb, cd, N2, vs, h1.keep K, h2.keep K n1, h3.keep K n1, h4.keep K n2, r⟩
theorem own_Str.exa (F : own_Str Z h x t cs) : Exa Z h x "java/lang/String" := by obtain ⟨kb, cd, N2, vs, h1, -⟩ := F; exact h1
theorem own_Str.lt (F : own_Str Z h x t cs) : x < h.size := F.exa.lt
theorem own_Str.ltv (F : own_Str Z h x t cs) : t < h.size := by obtain ⟨kb, cd, N2, vs, -, -, -, h4, -⟩ := F; exact h4.lt
theorem own_Str.le (F : own_Str Z h x t cs) : cs.length ≤ 4000 := by obtain ⟨kb, cd, N2, vs, -, -, -, -, -, -, h⟩ := F; exact h
theorem own_Str.rng (F : own_Str Z h x t cs) : ∀ c ∈ cs, ¬ c < 0 ∧ ¬ (65535 : Int32) < c := by obtain ⟨kb, cd, N2, vs, -, -, -, -, -, h, -⟩ := F; exact h
theorem own_Str.neArv {b : Addr} {k : ClassId} {ty : FieldType} {n : Int32} {us : List Value} {d : Value} {a0 : Array Value} {kI : Nat} (F : own_Str Z h x t cs) (B : Arv Z h b k ty n us d) (wi : (Jvm.Cond.instantiable "java/lang/String" kI).before a0 Z = true) : x ≠ b := F.exa.neArv B wi
theorem own_Str.neV {b : Addr} {C : String} {a0 : Array Value} {kI : Nat} (F : own_Str Z h x t cs) (E : Exa Z h b C) (wi : (Jvm.Cond.instantiable C kI).before a0 Z = true) : b ≠ t := by
  obtain ⟨kb, cd, N2, vs, -, -, -, h4, -⟩ := F
  exact E.neArv h4 wi
theorem own_Str.neTy {b : Addr} {k : ClassId} {ty : FieldType} {n : Int32} {us : List Value} {d : Value} (F : own_Str Z h x t cs) (B : Arv Z h b k ty n us d) (ht : .byte ≠ ty) : t ≠ b := by
  obtain ⟨kb, cd, N2, vs, -, -, -, h4, -⟩ := F
  exact own_arvTy h4 B ht
end OwnStr


theorem own_a0 {P : Int32 → Prop} : ∀ c ∈ ([] : List Int32), P c := fun _ q => nomatch q
theorem own_aS {P : Int32 → Prop} {x : Int32} {L : List Int32} (h : P x) (r : ∀ c ∈ L, P c) : ∀ c ∈ x :: L, P c := fun c q => (List.mem_cons.mp q).elim (fun u => u ▸ h) (r c)
theorem own_upL {cs : List Int32} (h : ∀ c ∈ cs, ¬ c < 0 ∧ ¬ (255 : Int32) < c) : ∀ c ∈ cs, ¬ c < 0 ∧ ¬ (65535 : Int32) < c := fun c q => own_up (h c q)


theorem own_Str.lat {Z : State} {h : Heap} {x t : Addr} {cs : List Int32} (F : own_Str Z h x t cs) (hl : ∀ c ∈ cs, ¬ (255 : Int32) < c) : ∃ (kb : ClassId) (N2 : Int32) (vs : List Value), Exa Z h x "java/lang/String" ∧ Fld Z h x "java/lang/String" "value" "[B" (.ref t) ∧ Fld Z h x "java/lang/String" "coder" "B" (.int 0) ∧ Arv Z h t kb .byte N2 vs (.int 0) ∧ StrChars.Road.CodA cs 0 N2 vs := by
  obtain ⟨kb, cd, N2, vs, h1, h2, h3, h4, h5, -⟩ := F
  rcases h5 with ⟨rfl, a, b, c⟩ | ⟨-, -, -, c, hc, q⟩
  · exact ⟨kb, N2, vs, h1, h2, h3, h4, Or.inl ⟨rfl, a, b, c⟩⟩
  · exact absurd q (hl c hc)


theorem own_eqv {v : Option Value} {A : Prop} (h : (v = some (.int 1) ∧ A) ∨ (v = some (.int 0) ∧ ¬ A)) : ∃ r : Int32, v = some (.int r) ∧ ((r = 1 ∧ A) ∨ (r = 0 ∧ ¬ A)) := by
  rcases h with ⟨a, b⟩ | ⟨a, b⟩
  · exact ⟨1, a, Or.inl ⟨rfl, b⟩⟩
  · exact ⟨0, a, Or.inr ⟨rfl, b⟩⟩

theorem own_hws {a0 : Array Value} {Z : State} (hw : ∀ d ∈ tables_1, d.before a0 Z = true) : ∀ d ∈ StrChars.Road.words, d.before a0 Z = true := fun d hd => hw d ((by decide +kernel : ∀ d ∈ StrChars.Road.words, d ∈ tables_1) d hd)
theorem own_hln {a0 : Array Value} {Z : State} (hw : ∀ d ∈ tables_1, d.before a0 Z = true) : ∀ d ∈ StrChars.Road.wordsLen, d.before a0 Z = true := fun d hd => hw d ((by decide +kernel : ∀ d ∈ StrChars.Road.wordsLen, d ∈ tables_1) d hd)
theorem own_hch {a0 : Array Value} {Z : State} (hw : ∀ d ∈ tables_1, d.before a0 Z = true) : ∀ d ∈ StrChars.Road.wordsChN, d.before a0 Z = true := fun d hd => hw d ((by decide +kernel : ∀ d ∈ StrChars.Road.wordsChN, d ∈ tables_1) d hd)

theorem own_wS {a0 : Array Value} {Z : State} (hw : ∀ d ∈ tables_1, d.before a0 Z = true) : ∀ d ∈ Bundle.stringAtoms, d.before a0 Z = true := fun d hd => hw d ((by decide +kernel : ∀ d ∈ Bundle.stringAtoms, d ∈ tables_1) d hd)
theorem own_safeNull {Z : State} {EL : List (String × Nat)} {vm : Vm} {h : Heap} {x : Addr} (hal : Z.vm.Alike vm) (E : Exa Z h x "java/lang/String") (F : Fld Z h x "java/lang/String" "value" "[B" .null) : Safe Z EL vm h x := fun B => by
  obtain ⟨p, -, u, a, -, q, -, G, hx | hx⟩ := B
  · obtain ⟨cS, ⟨S1, -, -⟩, -⟩ := G
    obtain ⟨g1, -, -, ⟨c', k', i', g2, -⟩, -, -, -, g3, -⟩ := S1
    obtain ⟨cell, cf, k, i, f, e1, e2, -, -, -, -, e3⟩ := F
    obtain ⟨k2, g4⟩ := ff_back (U := Wst Z vm h) hal g2
    rw [hx] at e1
    have e4 : cell = q.sC := Option.some.inj (e1.symm.trans g1)
    have e5 : f = q.fSV := by
      have e6 := Option.some.inj (e2.symm.trans g4)
      simp only [Prod.mk.injEq] at e6
      exact e6.2.2.2
    rw [e4, e5, g3] at e3
    cases e3
  · have hd := G.hd
    obtain ⟨cS, -, -, f, -⟩ := G
    obtain ⟨cell, k, e1, e2, -⟩ := E
    rw [hx] at e1
    have e4 : cell = q.SA := Option.some.inj (e1.symm.trans hd)
    have f' : Z.vm.findClass "[B" = some q.SA.cls := by rw [← hal.findClass]; exact f
    rw [e4] at e2
    obtain ⟨k1, q1, q2⟩ := Vm.findClass_spec f'
    obtain ⟨k2, q3, q4⟩ := Vm.findClass_spec e2
    cases q1.symm.trans q3
    exact absurd (q2.symm.trans q4) (by decide)


theorem own_of {i : Nat} (h : i < 2147483648) : (Int32.ofNat i).toInt = i := Int32.toInt_ofNat_small h
theorem own_ofn {i : Nat} (h : i < 2147483648) : (Int32.ofNat i).toNatClampNeg = i := by
  have := own_of h
  simp only [Int32.toNatClampNeg, this]
  omega
theorem own_of0 {i : Nat} (h : i < 2147483648) : ¬ (Int32.ofNat i) < 0 := by
  have := own_of h
  have e0 : (0 : Int32).toInt = 0 := by decide
  rw [Int32.lt_iff_toInt_lt, this, e0]
  omega
theorem own_oflt {i j : Nat} (hi : i < 2147483648) (hj : j < 2147483648) : (Int32.ofNat i) < (Int32.ofNat j) ↔ i < j := by
  rw [Int32.lt_iff_toInt_lt, own_of hi, own_of hj]
  omega
theorem own_ofS {i : Nat} (h : i < 1073741823) : Int32.ofNat i + (1 : Int32) = Int32.ofNat (i + 1) := by
  apply Int32.toInt_inj.mp
  have a := c_iadd (Int32.ofNat i) 1
  have b := own_of (i := i) (by omega)
  have c := own_of (i := i + 1) (by omega)
  have r := rng32 (Int32.ofNat i + 1)
  have e1 : (1 : Int32).toInt = 1 := by decide
  omega
theorem own_getD {cs : List Int32} {i : Nat} (hi : i < cs.length) (hl : cs.length ≤ 4000) (d : Value) : (cs.map Value.int).getD (Int32.ofNat i).toNatClampNeg d = .int (cs.getD i 0) := by
  rw [own_ofn (by omega)]
  simp [List.getD_eq_getElem?_getD, hi]
theorem own_arvAny {Z : State} {h h' : Heap} {a : Addr} {k : ClassId} {ty : FieldType} {n j : Int32} {vs : List Value} {d v : Value} (F : Arv Z h a k ty n vs d) (hv : fits ty v = true) (hj : ¬ j < 0 ∧ j < n) (W : Wr h h' a j.toNatClampNeg v) : ∃ vs', Arv Z h' a k ty n vs' d := by
  have F' := F.pad (pad_rep vs d (j.toNatClampNeg + 1))
  obtain ⟨c, A, q1, S, q3, H, G⟩ := F'
  exact ⟨_, Arv.set A q1 S q3 H G hv W j.toNatClampNeg rfl (by simp only [List.length_append, List.length_replicate]; omega)⟩


theorem own_Str.latF {Z : State} {h : Heap} {x t : Addr} {cs : List Int32} (F : own_Str Z h x t cs) (hl : ∀ c ∈ cs, ¬ (255 : Int32) < c) : ∃ (kb : ClassId), Exa Z h x "java/lang/String" ∧ Fld Z h x "java/lang/String" "value" "[B" (.ref t) ∧ Fld Z h x "java/lang/String" "coder" "B" (.int (0 : Int32)) ∧ Arv Z h t kb .byte (Int32.ofNat cs.length) (cs.map fun c => Value.int (StrChars.lo8 c)) (.int (0 : Int32)) := by
  obtain ⟨kb, N2, vs, h1, h2, h3, h4, h5⟩ := F.lat hl
  rcases h5 with ⟨-, hN, hv, -⟩ | ⟨q, -⟩
  · subst hN hv; exact ⟨kb, h1, h2, h3, h4⟩
  · exact absurd q (by decide)
theorem own_Str.mkL {Z : State} {h : Heap} {x t : Addr} {cs : List Int32} {kb : ClassId} (h1 : Exa Z h x "java/lang/String") (h2 : Fld Z h x "java/lang/String" "value" "[B" (.ref t)) (h3 : Fld Z h x "java/lang/String" "coder" "B" (.int (0 : Int32))) (h4 : Arv Z h t kb .byte (Int32.ofNat cs.length) (cs.map fun c => Value.int (StrChars.lo8 c)) (.int (0 : Int32))) (hl : ∀ c ∈ cs, ¬ c < 0 ∧ ¬ (255 : Int32) < c) (hn : cs.length ≤ 4000) : own_Str Z h x t cs :=
  ⟨kb, 0, _, _, h1, h2, h3, h4, Or.inl ⟨rfl, rfl, rfl, fun c q => (hl c q).2⟩, own_upL hl, hn⟩
theorem own_shl0 (x : Int32) : x <<< ((0 : Int32) &&& 31) = x := by
  apply Int32.toInt_inj.mp
  have a := c_ishl x 0 0 (by decide)
  have r := rng32 x
  have r2 := rng32 (x <<< ((0 : Int32) &&& 31))
  omega
theorem own_shr0 (x : Int32) : x >>> ((0 : Int32) &&& 31) = x := by
  apply Int32.toInt_inj.mp
  have a := c_ishr x 0 0 (by decide)
  omega
theorem own_ofA {i j : Nat} (h : i + j < 1073741823) : Int32.ofNat i + Int32.ofNat j = Int32.ofNat (i + j) := by
  apply Int32.toInt_inj.mp
  have a := c_iadd (Int32.ofNat i) (Int32.ofNat j)
  have b := own_of (i := i) (by omega)
  have c := own_of (i := j) (by omega)
  have d := own_of (i := i + j) (by omega)
  have r := rng32 (Int32.ofNat i + Int32.ofNat j)
  omega
theorem own_ofB {i j : Nat} (h : i < 1073741823) (hj : j ≤ i) : Int32.ofNat i - Int32.ofNat j = Int32.ofNat (i - j) := by
  apply Int32.toInt_inj.mp
  have a := c_isub (Int32.ofNat i) (Int32.ofNat j)
  have b := own_of (i := i) (by omega)
  have c := own_of (i := j) (by omega)
  have d := own_of (i := i - j) (by omega)
  have r := rng32 (Int32.ofNat i - Int32.ofNat j)
  omega
theorem own_ofBle {i j : Nat} (h : i < 1073741823) (hj : j < 1073741823) : (0 : Int32) < Int32.ofNat i - Int32.ofNat j ↔ j < i := by
  have a := c_isub (Int32.ofNat i) (Int32.ofNat j)
  have b := own_of (i := i) (by omega)
  have c := own_of (i := j) (by omega)
  have r := rng32 (Int32.ofNat i - Int32.ofNat j)
  have e0 : (0 : Int32).toInt = 0 := by decide
  rw [Int32.lt_iff_toInt_lt, e0]
  omega
theorem own_ofE {i j : Nat} (hi : i < 2147483648) (hj : j < 2147483648) : Int32.ofNat i = Int32.ofNat j ↔ i = j := ⟨fun q => by
    have q2 := congrArg Int32.toInt q
    rw [own_of hi, own_of hj] at q2
    omega, fun q => by rw [q]⟩
abbrev own_low (cs : List Int32) : List Value := cs.map fun c => Value.int (StrChars.lo8 c)
theorem own_lowG (cs : List Int32) (i : Nat) (d : Value) : (own_low cs).getD i d = if i < cs.length then .int (StrChars.lo8 (cs.getD i 0)) else d := by
  by_cases h : i < cs.length
  · simp [own_low, List.getD_eq_getElem?_getD, h]
  · simp [own_low, List.getD_eq_getElem?_getD, h, List.getElem?_eq_none (Nat.le_of_not_lt h)]
theorem own_appG (cs ds : List Int32) (i : Nat) : (cs ++ ds).getD i 0 = if i < cs.length then cs.getD i 0 else ds.getD (i - cs.length) 0 := by
  by_cases h : i < cs.length
  · rw [if_pos h]; simp [List.getD_eq_getElem?_getD, List.getElem?_append_left h]
  · rw [if_neg h]; simp [List.getD_eq_getElem?_getD, List.getElem?_append_right (Nat.le_of_not_lt h)]
theorem own_us (ds : List Int32) (hn : ds.length < 2147483648) : own_low ds = (List.range (Int32.ofNat ds.length).toNatClampNeg).map fun i => (own_low ds).getD ((0 : Int32).toNatClampNeg + i) (.int (0 : Int32)) := by
  rw [own_ofn hn]
  have e0 : (0 : Int32).toNatClampNeg = 0 := by decide
  rw [e0]
  apply List.ext_getElem
  · simp [own_low]
  · intro i h1 h2
    simp [own_low, List.getD_eq_getElem?_getD] at h1 ⊢
    simp [h1]
theorem own_appV {Z : State} {h : Heap} {a : Addr} {k : ClassId} {n : Int32} {cs ds : List Int32} {m : Nat} (F : Arv Z h a k .byte n (((own_low cs ++ List.replicate m (Value.int (0 : Int32))).take (Int32.ofNat cs.length).toNatClampNeg) ++ own_low ds ++ ((own_low cs ++ List.replicate m (Value.int (0 : Int32))).drop ((Int32.ofNat cs.length).toNatClampNeg + (Int32.ofNat ds.length).toNatClampNeg))) (.int (0 : Int32))) (h1 : cs.length < 100000) (h2 : ds.length < 100000) : Arv Z h a k .byte n (own_low (cs ++ ds)) (.int (0 : Int32)) := by
  refine F.pad (fun i => ?_)
  rw [own_ofn (by omega), own_ofn (by omega)]
  have e1 : (own_low cs ++ List.replicate m (Value.int (0 : Int32))).take cs.length = own_low cs := by
    rw [List.take_append_of_le_length (by simp [own_low]), List.take_of_length_le (by simp [own_low])]
  have e2 : (own_low cs ++ List.replicate m (Value.int (0 : Int32))).drop (cs.length + ds.length) = List.replicate (m - ds.length) (Value.int (0 : Int32)) := by
    rw [List.drop_append, List.drop_of_length_le (by simp [own_low]), List.drop_replicate, List.nil_append]
    congr 1
    simp [own_low]
  rw [e1, e2, show own_low (cs ++ ds) = own_low cs ++ own_low ds by simp [own_low]]
  exact (pad_rep (own_low cs ++ own_low ds) _ _ i).symm
theorem own_latT {cs : List Int32} {i m : Nat} (h : ∀ c ∈ cs, ¬ c < 0 ∧ ¬ (255 : Int32) < c) : ∀ c ∈ (cs.drop i).take m, ¬ c < 0 ∧ ¬ (255 : Int32) < c := fun c hc => h c (List.mem_of_mem_drop (List.mem_of_mem_take hc))
theorem own_latA {a b : List Int32} (h1 : ∀ c ∈ a, ¬ c < 0 ∧ ¬ (255 : Int32) < c) (h2 : ∀ c ∈ b, ¬ c < 0 ∧ ¬ (255 : Int32) < c) : ∀ c ∈ a ++ b, ¬ c < 0 ∧ ¬ (255 : Int32) < c := fun c hc => (List.mem_append.mp hc).elim (h1 c) (h2 c)
theorem own_subl {cs : List Int32} {i m : Nat} (h : i + m ≤ cs.length) : ((cs.drop i).take m).length = m := by simp; omega


theorem own_standW {p : Program} {l : Launch} {e : Env} {R : Room} {s : State} {m : MethodId} {args : Array Value} {below : List Frame} {meth : Method} {c : Code} {T : State} {locs : List Loc} {cells slots c2 s2 : Nat} (X : Stand p l e R s m args below meth c T locs cells slots) (h1 : cells ≤ c2) (h2 : slots ≤ s2) : Stand p l e R s m args below meth c T locs c2 s2 := { X with same := X.same.mono h1 h2 }

theorem pn_0 : plainName "java/lang/String" = true := by first | (simp [plainName, overriddenIn]; done) | decide +kernel
theorem ef_1 (m : MethodId) (x0 : Nat) (x1 : Nat) (x2 : Int32) (x3 : Int32) : entryFrame m #[(.ref x0), (.ref x1), (.int x2), (.int x3), .null] 6 = mkF m 0 #[.val (.ref x0), .val (.ref x1), .val (.int x2), .val (.int x3), .val .null, .unset] [] := by first | (simp [entryFrame, mkF, argsToLocals, Value.category]; done) | rfl
theorem d_jdk_42_method_149_0 : decode jdk_42_method_149_code 0 = .ok (.aload_n 0, 1) := by decide +kernel
theorem d_jdk_42_method_149_1 : decode jdk_42_method_149_code 1 = .ok (.invokespecial 1, 3) := by decide +kernel
theorem d_jdk_42_method_149_4 : decode jdk_42_method_149_code 4 = .ok (.iload_n 3, 1) := by decide +kernel
theorem d_jdk_42_method_149_5 : decode jdk_42_method_149_code 5 = .ok (.ifCond .ne 22, 3) := by decide +kernel
theorem d_jdk_42_method_149_8 : decode jdk_42_method_149_code 8 = .ok (.aload_n 0, 1) := by decide +kernel
theorem d_jdk_42_method_149_9 : decode jdk_42_method_149_code 9 = .ok (.ldc 7, 2) := by decide +kernel
theorem d_jdk_42_method_149_11 : decode jdk_42_method_149_code 11 = .ok (.getfield 9, 3) := by decide +kernel
theorem d_jdk_42_method_149_14 : decode jdk_42_method_149_code 14 = .ok (.putfield 9, 3) := by decide +kernel
theorem d_jdk_42_method_149_17 : decode jdk_42_method_149_code 17 = .ok (.aload_n 0, 1) := by decide +kernel
theorem d_jdk_42_method_149_18 : decode jdk_42_method_149_code 18 = .ok (.ldc 7, 2) := by decide +kernel
theorem d_jdk_42_method_149_20 : decode jdk_42_method_149_code 20 = .ok (.getfield 15, 3) := by decide +kernel
theorem d_jdk_42_method_149_23 : decode jdk_42_method_149_code 23 = .ok (.putfield 15, 3) := by decide +kernel
theorem d_jdk_42_method_149_26 : decode jdk_42_method_149_code 26 = .ok (.return_, 1) := by decide +kernel
def Q_init4e (Z : State) (a1 : Nat) (a2 : Nat) (h0 : Heap) (v : Option Value) (h : Heap) (L : List Loc) : Prop := ∃ (t : Nat), v = none ∧ Fr Z.heap.size L ∧ Keep h0 h [a1] ∧ own_Str Z h a1 t []
set_option maxRecDepth 65536 in
set_option maxHeartbeats 40000000 in
theorem rm_init4e (l : Launch) (Z : State) (a0 : Array Value) (hw : ∀ d ∈ tables_1, d.before a0 Z = true) (ws : List Jvm.Cond) (a1 : Nat) (a2 : Nat) (h0 : Heap) (hEL : EW Z a0 consts_1) (OL : Old Z Z.heap.size h0) (p0_ : Exa Z h0 a1 "java/lang/String") (p1_ : Fld Z h0 a1 "java/lang/String" "value" "[B" .null) (p2_ : Fld Z h0 a1 "java/lang/String" "coder" "B" (.int (0 : Int32))) (hn0 : Z.heap.size ≤ a1) :
    MetFree l (⟨"java/lang/String", "<init>", "([CIILjava/lang/Void;)V"⟩ : MethodName) (head1 (Jvm.Cond.code (⟨"java/lang/String", "<init>", "([CIILjava/lang/Void;)V"⟩ : MethodName) jdk_42_method_149_code 6 none :: ws) ({ frames := 1, cells := 4, slots := 8, locals := 12 } : Room)) (fun a U => a = #[(.ref a1), (.ref a2), (.int (0 : Int32)), (.int (0 : Int32)), .null] ∧ Z.Warmed39 U.vm ∧ U.heap = h0 ∧ CHv Z consts_1 U.vm h0) (fun _ _ _ _ _ => True) (fun _ U o U' => ∃ v L, o = .returned v ∧ Q_init4e Z a1 a2 h0 v U'.heap L ∧ CHr Z consts_1 U.vm U.heap U'.vm U'.heap ∧ ReturnedEndW U o U' L ({ frames := 1, cells := 4, slots := 8, locals := 12 } : Room).cells ({ frames := 1, cells := 4, slots := 8, locals := 12 } : Room).slots) := by
  refine MetFree.of_bodySF (plainFor_of_name pn_0) hisR ?_
  intro p e s m args below meth c s₁ Bd hml0 hP hK
  obtain ⟨rfl, hZ, hh, hC0⟩ := hP
  have hx := Bd.exec
  have hby := Bd.bytes
  have hml : c.maxLocals = 6 := hml0
  have hown : s.vm.findClass "java/lang/String" = some m.cls := findClass_of_methodNamed Bd.named
  have hnm := (name_of_methodNamed Bd.named Bd.method).1
  have X0 : Stand p l e ({ frames := 1, cells := 4, slots := 8, locals := 12 } : Room) (s.setVm s.vm) m #[(.ref a1), (.ref a2), (.int (0 : Int32)), (.int (0 : Int32)), .null] below meth c s₁ [] 0 0 := Stand.of_body Bd
  have e0 : s₁.heap = h0 := by rw [← hh, Bd.state]; rfl
  have N0 := Fr.nil Z.heap.size
  have Z0 : Z.heap.size ≤ h0.size := OL.2.1
  have hS0 : s.Since s.vm h0.size := (State.WarmedH.refl s).since _
  have wS := own_wS hw
  have R0 : CHr Z consts_1 s.vm h0 s.vm h0 := CHr.refl hC0
  have lt_0 : @LT.lt Nat _ a1 h0.size := p0_.lt
  have lt_1 : @LT.lt Nat _ a1 h0.size := p1_.lt
  have lt_2 : @LT.lt Nat _ a1 h0.size := p2_.lt
  obtain ⟨PP, hPP⟩ : ∃ PP : Outcome → State → Prop, PP = (fun o tE => ∃ v L, o = .returned v ∧ Q_init4e Z a1 a2 h0 v tE.heap L ∧ CHr Z consts_1 s.vm s.heap tE.vm tE.heap ∧ ReturnedEndW s o tE L ({ frames := 1, cells := 4, slots := 8, locals := 12 } : Room).cells ({ frames := 1, cells := 4, slots := 8, locals := 12 } : Room).slots) := ⟨_, rfl⟩
  show own_Go p.tables e below (fun o tE => ∃ v L, o = .returned v ∧ Q_init4e Z a1 a2 h0 v tE.heap L ∧ CHr Z consts_1 s.vm s.heap tE.vm tE.heap ∧ ReturnedEndW s o tE L ({ frames := 1, cells := 4, slots := 8, locals := 12 } : Room).cells ({ frames := 1, cells := 4, slots := 8, locals := 12 } : Room).slots) (s₁.setTop (entryFrame m #[(.ref a1), (.ref a2), (.int (0 : Int32)), (.int (0 : Int32)), .null] 6))
  rw [← hPP]
  refine own_Go.st (fun t k => castTop (ef_1 m a1 a2 (0 : Int32) (0 : Int32)) k) ?_
  show own_Go _ _ _ _ (s₁.setTop (mkF m 0 #[.val (.ref a1), .val (.ref a2), .val (.int (0 : Int32)), .val (.int (0 : Int32)), .val .null, .unset] []))
  refine own_Go.st (fun _ k => XS.aloadN X0.here hx rfl (hb hby d_jdk_42_method_149_0) rfl rfl k) ?_
  show own_Go _ _ _ _ (s₁.setTop (mkF m 1 #[.val (.ref a1), .val (.ref a2), .val (.int (0 : Int32)), .val (.int (0 : Int32)), .val .null, .unset] [(.ref a1)]))
  obtain ⟨T101, X101, e101, st101⟩ := initO X0 hx hZ hown (hw _ (List.mem_of_getElem? (i := 19) rfl)) (hw _ (List.mem_of_getElem? (i := 20) rfl)) (hw _ (List.mem_of_getElem? (i := 21) rfl)) e0 (g := (mkF m 1 #[.val (.ref a1), .val (.ref a2), .val (.int (0 : Int32)), .val (.int (0 : Int32)), .val .null, .unset] [(.ref a1)])) rfl (by rw [hml]; rfl) rfl (hb hby d_jdk_42_method_149_1) (by decide) (W := 0) (by show 2 * 0 + _ ≤ _; exact Nat.le_of_eq rfl) (by decide)
  refine own_Go.st st101 ?_
  show own_Go _ _ _ _ (T101.setTop (mkF m 4 #[.val (.ref a1), .val (.ref a2), .val (.int (0 : Int32)), .val (.int (0 : Int32)), .val .null, .unset] []))
  refine own_Go.st (fun _ k => XS.iloadN X101.here hx rfl (hb hby d_jdk_42_method_149_4) rfl k) ?_
  show own_Go _ _ _ _ (T101.setTop (mkF m 5 #[.val (.ref a1), .val (.ref a2), .val (.int (0 : Int32)), .val (.int (0 : Int32)), .val .null, .unset] [(.int (0 : Int32))]))
  refine own_Go.st (fun _ k => XS.ifNo X101.here hx rfl (hb hby d_jdk_42_method_149_5) rfl ((if0 _ _).trans (teq (rfl : (0 : Int32) = (0 : Int32))).2) k) ?_
  show own_Go _ _ _ _ (T101.setTop (mkF m 8 #[.val (.ref a1), .val (.ref a2), .val (.int (0 : Int32)), .val (.int (0 : Int32)), .val .null, .unset] []))
  refine own_Go.st (fun _ k => XS.aloadN X101.here hx rfl (hb hby d_jdk_42_method_149_8) rfl rfl k) ?_
  show own_Go _ _ _ _ (T101.setTop (mkF m 9 #[.val (.ref a1), .val (.ref a2), .val (.int (0 : Int32)), .val (.int (0 : Int32)), .val .null, .unset] [(.ref a1)]))
  obtain ⟨a102, T102, h102, kk102, t102, kb102, X102, e102, E102, hS102, hk102, hZ102, hown102, A102, C102, V102, B102, la102, lb102, ch102, Li102, sf102, st102⟩ := ldcCH X101 hx hZ hown (hw _ (List.mem_of_getElem? (i := 22) rfl)) wS e101 hS0 (by omega) hEL (by decide) R0.1 (vs := []) (z := (0 : Int32)) (by decide) (by decide) (by decide) (g := (mkF m 9 #[.val (.ref a1), .val (.ref a2), .val (.int (0 : Int32)), .val (.int (0 : Int32)), .val .null, .unset] [(.ref a1)])) rfl (hb hby d_jdk_42_method_149_9) (n := 0) (by decide) (by decide) (by decide) (by decide)
  refine own_Go.st st102 ?_
  have z102 : h0.size ≤ h102.size := E102.1
  have la102' : @LT.lt Nat _ a102 h102.size := la102
  have lb102' : @LT.lt Nat _ t102 h102.size := lb102
  have R102 : CHr Z consts_1 s.vm h0 T102.vm h102 := R0.trans ch102
  have fT102 : own_Str Z h102 a102 t102 ([] : List Int32) := ⟨kb102, 0, (0 : Int32), [], A102, V102, C102, B102, Or.inl ⟨rfl, rfl, rfl, (by decide)⟩, (by decide), (by decide)⟩
  show own_Go _ _ _ _ (T102.setTop (mkF m 11 #[.val (.ref a1), .val (.ref a2), .val (.int (0 : Int32)), .val (.int (0 : Int32)), .val .null, .unset] [(.ref a102), (.ref a1)]))
  obtain ⟨T103, X103, e103, st103⟩ := getF X102 hx hZ102 hown102 (host := "") (Or.inl (hw _ (List.mem_of_getElem? (i := 28) rfl))) Via.refl e102 V102 (g := (mkF m 11 #[.val (.ref a1), .val (.ref a2), .val (.int (0 : Int32)), .val (.int (0 : Int32)), .val .null, .unset] [(.ref a102), (.ref a1)])) rfl rfl (hb hby d_jdk_42_method_149_11)
  refine own_Go.st st103 ?_
  show own_Go _ _ _ _ (T103.setTop (mkF m 14 #[.val (.ref a1), .val (.ref a2), .val (.int (0 : Int32)), .val (.int (0 : Int32)), .val .null, .unset] [(.ref t102), (.ref a1)]))
  have f104 : Fld Z h102 a1 "java/lang/String" "value" "[B" .null := p1_.ext E102
  have f105 : Exa Z h102 a1 "java/lang/String" := p0_.ext E102
  obtain ⟨T106, h106, X106, e106, W106, st106⟩ := putF X103 hx hZ102 hown102 (host := "") (Or.inl (hw _ (List.mem_of_getElem? (i := 28) rfl))) Via.refl e103 f104 f105 (Or.inr ⟨(hw _ (List.mem_of_getElem? (i := 24) rfl)), rfl, hnm⟩) (hw _ (List.mem_of_getElem? (i := 10) rfl)) (ty := (.array .byte)) (by decide) rfl rfl (g := (mkF m 14 #[.val (.ref a1), .val (.ref a2), .val (.int (0 : Int32)), .val (.int (0 : Int32)), .val .null, .unset] [(.ref t102), (.ref a1)])) rfl rfl (hb hby d_jdk_42_method_149_14)
  refine own_Go.st st106 ?_
  have N106 := Fr.snoc X106 N0 (by omega)
  have Sf108 : Safe Z consts_1 T102.vm h102 a1 := own_safeNull hZ102.alike f105 f104
  have z106 : h102.size ≤ h106.size := Nat.le_of_eq W106.size.symm
  have f107 : Fld Z h106 a1 "java/lang/String" "value" "[B" (.ref t102) := f104.same W106
  have R106 : CHr Z consts_1 s.vm h0 T102.vm h106 := R102.trans (CHr.wr W106 Sf108 R102.1)
  have Sf109 : Safe Z consts_1 T102.vm h106 a1 := Safe.wr W106 Sf108 R102.1 Sf108
  show own_Go _ _ _ _ (T106.setTop (mkF m 17 #[.val (.ref a1), .val (.ref a2), .val (.int (0 : Int32)), .val (.int (0 : Int32)), .val .null, .unset] []))
  refine own_Go.st (fun _ k => XS.aloadN X106.here hx rfl (hb hby d_jdk_42_method_149_17) rfl rfl k) ?_
  show own_Go _ _ _ _ (T106.setTop (mkF m 18 #[.val (.ref a1), .val (.ref a2), .val (.int (0 : Int32)), .val (.int (0 : Int32)), .val .null, .unset] [(.ref a1)]))
  obtain ⟨a110, T110, h110, kk110, t110, kb110, X110, e110, E110, hS110, hk110, hZ110, hown110, A110, C110, V110, B110, la110, lb110, ch110, Li110, sf110, st110⟩ := ldcCH X106 hx hZ102 hown102 (hw _ (List.mem_of_getElem? (i := 22) rfl)) wS e106 hS102 (by omega) hEL (by decide) R106.1 (vs := []) (z := (0 : Int32)) (by decide) (by decide) (by decide) (g := (mkF m 18 #[.val (.ref a1), .val (.ref a2), .val (.int (0 : Int32)), .val (.int (0 : Int32)), .val .null, .unset] [(.ref a1)])) rfl (hb hby d_jdk_42_method_149_18) (n := 0) (by decide) (by decide) (by decide) (by decide)
  refine own_Go.st st110 ?_
  have z110 : h106.size ≤ h110.size := E110.1
  have la110' : @LT.lt Nat _ a110 h110.size := la110
  have lb110' : @LT.lt Nat _ t110 h110.size := lb110
  have R110 : CHr Z consts_1 s.vm h0 T110.vm h110 := R106.trans ch110
  have Sf111 : Safe Z consts_1 T110.vm h110 a1 := ch110.safe (by show @LT.lt Nat _ a1 _; omega) Sf109
  have fT110 : own_Str Z h110 a110 t110 ([] : List Int32) := ⟨kb110, 0, (0 : Int32), [], A110, V110, C110, B110, Or.inl ⟨rfl, rfl, rfl, (by decide)⟩, (by decide), (by decide)⟩
  have nl112 := sf110 a1 Sf111
  have nl112a : @Ne Nat a1 a110 := nl112.1
  have nl112b : @Ne Nat a1 t110 := nl112.2
  show own_Go _ _ _ _ (T110.setTop (mkF m 20 #[.val (.ref a1), .val (.ref a2), .val (.int (0 : Int32)), .val (.int (0 : Int32)), .val .null, .unset] [(.ref a110), (.ref a1)]))
  obtain ⟨T113, X113, e113, st113⟩ := getF X110 hx hZ110 hown110 (host := "") (Or.inl (hw _ (List.mem_of_getElem? (i := 29) rfl))) Via.refl e110 C110 (g := (mkF m 20 #[.val (.ref a1), .val (.ref a2), .val (.int (0 : Int32)), .val (.int (0 : Int32)), .val .null, .unset] [(.ref a110), (.ref a1)])) rfl rfl (hb hby d_jdk_42_method_149_20)
  refine own_Go.st st113 ?_
  show own_Go _ _ _ _ (T113.setTop (mkF m 23 #[.val (.ref a1), .val (.ref a2), .val (.int (0 : Int32)), .val (.int (0 : Int32)), .val .null, .unset] [(.int 0), (.ref a1)]))
  have f114 : Fld Z h102 a1 "java/lang/String" "coder" "B" (.int (0 : Int32)) := p2_.ext E102
  have f115 : Fld Z h106 a1 "java/lang/String" "coder" "B" (.int (0 : Int32)) := f114.other W106 (Or.inr (slot_ne (Or.inr (hw _ (List.mem_of_getElem? (i := 25) rfl))) (Or.inr (hw _ (List.mem_of_getElem? (i := 24) rfl))) (by decide) (t := .byte) (t' := (.array .byte)) (by decide) (by decide)))
  have f116 : Fld Z h110 a1 "java/lang/String" "coder" "B" (.int (0 : Int32)) := f115.ext E110
  have f117 : Exa Z h106 a1 "java/lang/String" := f105.wr W106
  have f118 : Exa Z h110 a1 "java/lang/String" := f117.ext E110
  obtain ⟨T119, h119, X119, e119, W119, st119⟩ := putF X113 hx hZ110 hown110 (host := "") (Or.inl (hw _ (List.mem_of_getElem? (i := 29) rfl))) Via.refl e113 f116 f118 (Or.inr ⟨(hw _ (List.mem_of_getElem? (i := 25) rfl)), rfl, hnm⟩) (hw _ (List.mem_of_getElem? (i := 10) rfl)) (ty := .byte) (by decide) rfl (by decide) (g := (mkF m 23 #[.val (.ref a1), .val (.ref a2), .val (.int (0 : Int32)), .val (.int (0 : Int32)), .val .null, .unset] [(.int 0), (.ref a1)])) rfl rfl (hb hby d_jdk_42_method_149_23)
  refine own_Go.st st119 ?_
  have N119 := Fr.snoc X119 N106 (by omega)
  have z119 : h110.size ≤ h119.size := Nat.le_of_eq W119.size.symm
  have f120 : Fld Z h119 a1 "java/lang/String" "coder" "B" (.int 0) := f116.same W119
  have R119 : CHr Z consts_1 s.vm h0 T110.vm h119 := R110.trans (CHr.wr W119 Sf111 R110.1)
  have Sf121 : Safe Z consts_1 T110.vm h119 a1 := Safe.wr W119 Sf111 R110.1 Sf111
  show own_Go _ _ _ _ (T119.setTop (mkF m 26 #[.val (.ref a1), .val (.ref a2), .val (.int (0 : Int32)), .val (.int (0 : Int32)), .val .null, .unset] []))
  obtain ⟨fs122, hr122, hrun122, hend122, hret122⟩ := X119.leaveW hS110 (by rw [e119]; exact (by omega)) (v := none) (fun _ => rfl)
  have f123 : Fld Z h110 a1 "java/lang/String" "value" "[B" (.ref t102) := f107.ext E110
  have f124 : Fld Z h119 a1 "java/lang/String" "value" "[B" (.ref t102) := f123.other W119 (Or.inr (slot_ne (Or.inr (hw _ (List.mem_of_getElem? (i := 24) rfl))) (Or.inr (hw _ (List.mem_of_getElem? (i := 25) rfl))) (by decide) (t := (.array .byte)) (t' := .byte) (by decide) (by decide)))
  have f125 : Exa Z h119 a1 "java/lang/String" := f118.wr W119
  have ne126 : @Ne Nat a1 t102 := Exa.neArv f105 B102 (hw _ (List.mem_of_getElem? (i := 10) rfl))
  have f127 : Arv Z h106 t102 kb102 .byte (0 : Int32) [] (.int 0) := B102.other W106 (Ne.symm ne126)
  have f128 : Arv Z h110 t102 kb102 .byte (0 : Int32) [] (.int 0) := f127.ext E110
  have f129 : Arv Z h119 t102 kb102 .byte (0 : Int32) [] (.int 0) := f128.other W119 (Ne.symm ne126)
  have K130 : Keep h0 h102 [a1] := (Keep.refl h0 [a1]).ext E102
  have K131 : Keep h0 h106 [a1] := K130.wr W106 (Or.inl (List.mem_of_getElem? (i := 0) rfl))
  have K132 : Keep h0 h110 [a1] := K131.ext E110
  have K133 : Keep h0 h119 [a1] := K132.wr W119 (Or.inl (List.mem_of_getElem? (i := 0) rfl))
  subst hPP
  refine ⟨_, _, X119.returnOut hx Bd.returns (hb hby d_jdk_42_method_149_26) hr122, hrun122, hend122, _, _, rfl, ?_, ?_, hret122.1, hret122.2.1, hret122.2.2.1, hret122.2.2.2.mono (by decide) (by decide)⟩
  · show Q_init4e Z _ _ h0 _ T119.heap _
    rw [e119]
    exact ⟨t102, rfl, N119, K133, ⟨kb102, 0, 0, [], f125, f124, f120, f129, Or.inl ⟨rfl, rfl, rfl, own_a0⟩, own_a0, by decide⟩⟩
  · have hfin := R119.trans (CHv.at X119 hZ110 hEL R119.1)
    rw [← hh] at hfin
    show CHr Z consts_1 s.vm s.heap T119.vm T119.heap
    rw [e119]
    exact hfin
theorem ef_15 (m : MethodId) (x0 : Nat) (x1 : Nat) : entryFrame m #[(.ref x0), (.ref x1)] 2 = mkF m 0 #[.val (.ref x0), .val (.ref x1)] [] := by first | (simp [entryFrame, mkF, argsToLocals, Value.category]; done) | rfl
theorem d_jdk_42_method_3_0 : decode jdk_42_method_3_code 0 = .ok (.aload_n 0, 1) := by decide +kernel
theorem d_jdk_42_method_3_1 : decode jdk_42_method_3_code 1 = .ok (.aload_n 1, 1) := by decide +kernel
theorem d_jdk_42_method_3_2 : decode jdk_42_method_3_code 2 = .ok (.iconst 0, 1) := by decide +kernel
theorem d_jdk_42_method_3_3 : decode jdk_42_method_3_code 3 = .ok (.aload_n 1, 1) := by decide +kernel
theorem d_jdk_42_method_3_4 : decode jdk_42_method_3_code 4 = .ok (.arraylength, 1) := by decide +kernel
theorem d_jdk_42_method_3_5 : decode jdk_42_method_3_code 5 = .ok (.aconst_null, 1) := by decide +kernel
theorem pd_22 : parseMethodDescriptor "([CIILjava/lang/Void;)V" = some ⟨[(.array .char), .int, .int, (.object "java/lang/Void")], none⟩ := by decide +kernel
theorem d_jdk_42_method_3_6 : decode jdk_42_method_3_code 6 = .ok (.invokespecial 27, 3) := by decide +kernel
theorem d_jdk_42_method_3_9 : decode jdk_42_method_3_code 9 = .ok (.return_, 1) := by decide +kernel
def Q_init1e (Z : State) (a1 : Nat) (a2 : Nat) (k : ClassId) (vs : List Value) (d : Value) (h0 : Heap) (v : Option Value) (h : Heap) (L : List Loc) : Prop := ∃ (t : Nat), v = none ∧ Fr Z.heap.size L ∧ Keep h0 h [a1] ∧ own_Str Z h a1 t []
set_option maxRecDepth 65536 in
set_option maxHeartbeats 40000000 in
theorem rm_init1e (l : Launch) (Z : State) (a0 : Array Value) (hw : ∀ d ∈ tables_1, d.before a0 Z = true) (ws : List Jvm.Cond) (a1 : Nat) (a2 : Nat) (k : ClassId) (vs : List Value) (d : Value) (h0 : Heap) (hEL : EW Z a0 consts_1) (OL : Old Z Z.heap.size h0) (p0_ : Exa Z h0 a1 "java/lang/String") (p1_ : Fld Z h0 a1 "java/lang/String" "value" "[B" .null) (p2_ : Fld Z h0 a1 "java/lang/String" "coder" "B" (.int (0 : Int32))) (p3_ : Arv Z h0 a2 k .char (0 : Int32) vs d) (hn0 : Z.heap.size ≤ a1) :
    MetFree l (⟨"java/lang/String", "<init>", "([C)V"⟩ : MethodName) (head1 (Jvm.Cond.code (⟨"java/lang/String", "<init>", "([C)V"⟩ : MethodName) jdk_42_method_3_code 2 none :: ws) ({ frames := 2, cells := 4, slots := 8, locals := 29 } : Room)) (fun a U => a = #[(.ref a1), (.ref a2)] ∧ Z.Warmed39 U.vm ∧ U.heap = h0 ∧ CHv Z consts_1 U.vm h0) (fun _ _ _ _ _ => True) (fun _ U o U' => ∃ v L, o = .returned v ∧ Q_init1e Z a1 a2 k vs d h0 v U'.heap L ∧ CHr Z consts_1 U.vm U.heap U'.vm U'.heap ∧ ReturnedEndW U o U' L ({ frames := 2, cells := 4, slots := 8, locals := 29 } : Room).cells ({ frames := 2, cells := 4, slots := 8, locals := 29 } : Room).slots) := by
  refine MetFree.of_bodySF (plainFor_of_name pn_0) hisR ?_
  intro p e s m args below meth c s₁ Bd hml0 hP hK
  obtain ⟨rfl, hZ, hh, hC0⟩ := hP
  have hx := Bd.exec
  have hby := Bd.bytes
  have hml : c.maxLocals = 2 := hml0
  have hown : s.vm.findClass "java/lang/String" = some m.cls := findClass_of_methodNamed Bd.named
  have hnm := (name_of_methodNamed Bd.named Bd.method).1
  have X0 : Stand p l e ({ frames := 2, cells := 4, slots := 8, locals := 29 } : Room) (s.setVm s.vm) m #[(.ref a1), (.ref a2)] below meth c s₁ [] 0 0 := Stand.of_body Bd
  have e0 : s₁.heap = h0 := by rw [← hh, Bd.state]; rfl
  have N0 := Fr.nil Z.heap.size
  have Z0 : Z.heap.size ≤ h0.size := OL.2.1
  have hS0 : s.Since s.vm h0.size := (State.WarmedH.refl s).since _
  have wS := own_wS hw
  have R0 : CHr Z consts_1 s.vm h0 s.vm h0 := CHr.refl hC0
  have lt_0 : @LT.lt Nat _ a1 h0.size := p0_.lt
  have lt_1 : @LT.lt Nat _ a1 h0.size := p1_.lt
  have lt_2 : @LT.lt Nat _ a1 h0.size := p2_.lt
  have lt_3 : @LT.lt Nat _ a2 h0.size := p3_.lt
  obtain ⟨PP, hPP⟩ : ∃ PP : Outcome → State → Prop, PP = (fun o tE => ∃ v L, o = .returned v ∧ Q_init1e Z a1 a2 k vs d h0 v tE.heap L ∧ CHr Z consts_1 s.vm s.heap tE.vm tE.heap ∧ ReturnedEndW s o tE L ({ frames := 2, cells := 4, slots := 8, locals := 29 } : Room).cells ({ frames := 2, cells := 4, slots := 8, locals := 29 } : Room).slots) := ⟨_, rfl⟩
  show own_Go p.tables e below (fun o tE => ∃ v L, o = .returned v ∧ Q_init1e Z a1 a2 k vs d h0 v tE.heap L ∧ CHr Z consts_1 s.vm s.heap tE.vm tE.heap ∧ ReturnedEndW s o tE L ({ frames := 2, cells := 4, slots := 8, locals := 29 } : Room).cells ({ frames := 2, cells := 4, slots := 8, locals := 29 } : Room).slots) (s₁.setTop (entryFrame m #[(.ref a1), (.ref a2)] 2))
  rw [← hPP]
  refine own_Go.st (fun t k => castTop (ef_15 m a1 a2) k) ?_
  show own_Go _ _ _ _ (s₁.setTop (mkF m 0 #[.val (.ref a1), .val (.ref a2)] []))
  refine own_Go.st (fun _ k => XS.aloadN X0.here hx rfl (hb hby d_jdk_42_method_3_0) rfl rfl k) ?_
  show own_Go _ _ _ _ (s₁.setTop (mkF m 1 #[.val (.ref a1), .val (.ref a2)] [(.ref a1)]))
  refine own_Go.st (fun _ k => XS.aloadN X0.here hx rfl (hb hby d_jdk_42_method_3_1) rfl rfl k) ?_
  show own_Go _ _ _ _ (s₁.setTop (mkF m 2 #[.val (.ref a1), .val (.ref a2)] [(.ref a2), (.ref a1)]))
  refine own_Go.st (fun _ k => XS.iconst X0.here hx rfl (hb hby d_jdk_42_method_3_2) k) ?_
  show own_Go _ _ _ _ (s₁.setTop (mkF m 3 #[.val (.ref a1), .val (.ref a2)] [(.int (0 : Int32)), (.ref a2), (.ref a1)]))
  refine own_Go.st (fun _ k => XS.aloadN X0.here hx rfl (hb hby d_jdk_42_method_3_3) rfl rfl k) ?_
  show own_Go _ _ _ _ (s₁.setTop (mkF m 4 #[.val (.ref a1), .val (.ref a2)] [(.ref a2), (.int (0 : Int32)), (.ref a2), (.ref a1)]))
  obtain ⟨c134, Ar134, q134, S134, Nn134, H134, G134⟩ := id p3_
  refine own_Go.st (X0.arraylength hx (own_rwE e0 Ar134.1) (State.isArrayOf_alike hZ.alike Ar134.2.1) (g := (mkF m 4 #[.val (.ref a1), .val (.ref a2)] [(.ref a2), (.int (0 : Int32)), (.ref a2), (.ref a1)])) rfl rfl (hb hby d_jdk_42_method_3_4)) ?_
  rw [len_of S134 Nn134]
  show own_Go _ _ _ _ (s₁.setTop (mkF m 5 #[.val (.ref a1), .val (.ref a2)] [(.int (0 : Int32)), (.int (0 : Int32)), (.ref a2), (.ref a1)]))
  refine own_Go.st (fun _ k => XS.aconstNull X0.here hx rfl (hb hby d_jdk_42_method_3_5) k) ?_
  show own_Go _ _ _ _ (s₁.setTop (mkF m 6 #[.val (.ref a1), .val (.ref a2)] [.null, (.int (0 : Int32)), (.int (0 : Int32)), (.ref a2), (.ref a1)]))
  obtain ⟨_, _, ⟨T135, L135, k135, n135⟩, -, X135, hs135, hg135, ⟨Lc135, hQ135, l135, y135, z135, ch135⟩, st135⟩ := X0.specialBackS hx (y := (⟨"java/lang/String", "<init>", "([CIILjava/lang/Void;)V"⟩ : MethodName)) rfl hown (mvT hZ (hw _ (List.mem_of_getElem? (i := 15) rfl))) (mvT hZ (hw _ (List.mem_of_getElem? (i := 16) rfl))) (mvT hZ (hw _ (List.mem_of_getElem? (i := 18) rfl))) (by decide) (backOfSH (s := s) (vm0 := s.vm) (W := 0) (rm_init4e l Z a0 hw [] a1 a2 h0 hEL OL p0_ p1_ p2_ (by first | assumption | decide)) hZ (hw _ (List.mem_of_getElem? (i := 18) rfl)) (hw _ (List.mem_of_getElem? (i := 11) rfl)) (by decide) (by decide) hEL R0.1) (g := (mkF m 6 #[.val (.ref a1), .val (.ref a2)] [.null, (.int (0 : Int32)), (.int (0 : Int32)), (.ref a2), (.ref a1)])) rfl (by rw [hml]; rfl) (Steps.refl _) (a := a1) (argsL := [(.ref a2), (.int (0 : Int32)), (.int (0 : Int32)), .null]) (rest := []) (lenOf pd_22 rfl) rfl (by show 2 * 0 + _ ≤ _; exact Nat.le_of_eq rfl) (hb hby d_jdk_42_method_3_6) (fun _ _ => ⟨rfl, e0, (by decide : 0 + 4 ≤ _), (by decide : 0 + 8 ≤ _)⟩)
  dsimp only [Pt.U, Pt.locs, Pt.cells, Pt.slots] at X135 l135 y135 z135 st135 hQ135 hs135 hg135 ch135
  subst l135 y135 z135
  obtain ⟨t_135, rfl, N135q, K135, f135_0⟩ := hQ135
  have N135 := Fr.app N0 N135q
  obtain ⟨Y135, hS135, hZ135, hown135⟩ := rebS hS0 (n1 := h0.size) (by omega) X135 hs135 (by have := hg135; first | exact this | (rw [← e0]; exact this)) hZ hown
  have z135 : h0.size ≤ T135.heap.size := K135.1
  have R135 : CHr Z consts_1 s.vm h0 T135.vm T135.heap := R0.trans ch135
  have lt135_0 : @LT.lt Nat _ a1 T135.heap.size := f135_0.lt
  have ltv135_0 : @LT.lt Nat _ t_135 T135.heap.size := f135_0.ltv
  refine own_Go.tr st135 ?_
  show own_Go _ _ _ _ (T135.setTop (mkF m 9 #[.val (.ref a1), .val (.ref a2)] []))
  obtain ⟨fs136, hr136, hrun136, hend136, hret136⟩ := Y135.leaveW hS135 (by omega) (v := none) (fun _ => rfl)
  have K137 : Keep h0 T135.heap [a1] := (Keep.refl h0 [a1]).trans K135 (allS (Or.inl (List.mem_of_getElem? (i := 0) rfl)) all0)
  subst hPP
  refine ⟨_, _, Y135.returnOut hx Bd.returns (hb hby d_jdk_42_method_3_9) hr136, hrun136, hend136, _, _, rfl, ?_, ?_, hret136.1, hret136.2.1, hret136.2.2.1, hret136.2.2.2.mono (by decide) (by decide)⟩
  · show Q_init1e Z _ _ _ _ _ h0 _ T135.heap _
    exact ⟨t_135, rfl, N135, K137, f135_0⟩
  · have hfin := R135.trans (CHv.at Y135 hZ135 hEL R135.1)
    rw [← hh] at hfin
    show CHr Z consts_1 s.vm s.heap T135.vm T135.heap
    exact hfin
theorem ef_25 (m : MethodId) (x0 : Int32) (x1 : Int32) : entryFrame m #[(.int x0), (.int x1)] 2 = mkF m 0 #[.val (.int x0), .val (.int x1)] [] := by first | (simp [entryFrame, mkF, argsToLocals, Value.category]; done) | rfl
theorem d_jdk_29_method_69_0 : decode jdk_29_method_69_code 0 = .ok (.iload_n 0, 1) := by decide +kernel
theorem d_jdk_29_method_69_1 : decode jdk_29_method_69_code 1 = .ok (.iload_n 1, 1) := by decide +kernel
theorem d_jdk_29_method_69_2 : decode jdk_29_method_69_code 2 = .ok (.if_icmp .gt 7, 3) := by decide +kernel
theorem d_jdk_29_method_69_9 : decode jdk_29_method_69_code 9 = .ok (.iload_n 1, 1) := by decide +kernel
theorem d_jdk_29_method_69_10 : decode jdk_29_method_69_code 10 = .ok (.ireturn, 1) := by decide +kernel
theorem d_jdk_29_method_69_5 : decode jdk_29_method_69_code 5 = .ok (.iload_n 0, 1) := by decide +kernel
theorem d_jdk_29_method_69_6 : decode jdk_29_method_69_code 6 = .ok (.goto 4, 3) := by decide +kernel
def Q_mmin (Z : State) (p1 : Int32) (p2 : Int32) (h0 : Heap) (v : Option Value) (h : Heap) (L : List Loc) : Prop := v = some (.int (if p2 < p1 then p2 else p1)) ∧ Fr Z.heap.size L ∧ h = h0
set_option maxRecDepth 65536 in
set_option maxHeartbeats 40000000 in
theorem rm_mmin (l : Launch) (Z : State) (a0 : Array Value) (hw : ∀ d ∈ tables_1, d.before a0 Z = true) (ws : List Jvm.Cond) (p1 : Int32) (p2 : Int32) (h0 : Heap) (OL : Old Z Z.heap.size h0) :
    MetFree l (⟨"java/lang/Math", "min", "(II)I"⟩ : MethodName) (head1 (Jvm.Cond.code (⟨"java/lang/Math", "min", "(II)I"⟩ : MethodName) jdk_29_method_69_code 2 (some .int) :: ws) ({ frames := 0, cells := 0, slots := 0, locals := 0 } : Room)) (fun a U => a = #[(.int p1), (.int p2)] ∧ Z.Warmed39 U.vm ∧ U.heap = h0) (fun _ _ _ _ _ => True) (fun _ U o U' => ∃ v L, o = .returned v ∧ Q_mmin Z p1 p2 h0 v U'.heap L ∧ FrameEnd U o U' L ({ frames := 0, cells := 0, slots := 0, locals := 0 } : Room).cells ({ frames := 0, cells := 0, slots := 0, locals := 0 } : Room).slots) := by
  refine MetFree.of_bodySF (by decide +kernel) hisR ?_
  intro p e s m args below meth c s₁ Bd hml0 hP hK
  obtain ⟨rfl, hZ, hh⟩ := hP
  have hx := Bd.exec
  have hby := Bd.bytes
  have hml : c.maxLocals = 2 := hml0
  have hown : s.vm.findClass "java/lang/Math" = some m.cls := findClass_of_methodNamed Bd.named
  have hnm := (name_of_methodNamed Bd.named Bd.method).1
  have X0 : Stand p l e ({ frames := 0, cells := 0, slots := 0, locals := 0 } : Room) s m #[(.int p1), (.int p2)] below meth c s₁ [] 0 0 := Stand.of_body Bd
  have e0 : s₁.heap = h0 := by rw [← hh, Bd.state]; rfl
  have N0 := Fr.nil Z.heap.size
  have Z0 : Z.heap.size ≤ h0.size := OL.2.1
  obtain ⟨PP, hPP⟩ : ∃ PP : Outcome → State → Prop, PP = (fun o tE => ∃ v L, o = .returned v ∧ Q_mmin Z p1 p2 h0 v tE.heap L ∧ FrameEnd s o tE L ({ frames := 0, cells := 0, slots := 0, locals := 0 } : Room).cells ({ frames := 0, cells := 0, slots := 0, locals := 0 } : Room).slots) := ⟨_, rfl⟩
  show own_Go p.tables e below (fun o tE => ∃ v L, o = .returned v ∧ Q_mmin Z p1 p2 h0 v tE.heap L ∧ FrameEnd s o tE L ({ frames := 0, cells := 0, slots := 0, locals := 0 } : Room).cells ({ frames := 0, cells := 0, slots := 0, locals := 0 } : Room).slots) (s₁.setTop (entryFrame m #[(.int p1), (.int p2)] 2))
  rw [← hPP]
  refine own_Go.st (fun t k => castTop (ef_25 m p1 p2) k) ?_
  show own_Go _ _ _ _ (s₁.setTop (mkF m 0 #[.val (.int p1), .val (.int p2)] []))
  refine own_Go.st (fun _ k => XS.iloadN X0.here hx rfl (hb hby d_jdk_29_method_69_0) rfl k) ?_
  show own_Go _ _ _ _ (s₁.setTop (mkF m 1 #[.val (.int p1), .val (.int p2)] [(.int p1)]))
  refine own_Go.st (fun _ k => XS.iloadN X0.here hx rfl (hb hby d_jdk_29_method_69_1) rfl k) ?_
  show own_Go _ _ _ _ (s₁.setTop (mkF m 2 #[.val (.int p1), .val (.int p2)] [(.int p2), (.int p1)]))
  by_cases hc138 : p2 < p1
  ·
    refine own_Go.st (fun _ k => XS.icmpYes X0.here hx rfl (pc0 := 2) (pc' := 9) rfl (hb hby d_jdk_29_method_69_2) rfl (tlt hc138).2.2.1 (by decide) (by decide) k) ?_
    show own_Go _ _ _ _ (s₁.setTop (mkF m 9 #[.val (.int p1), .val (.int p2)] []))
    refine own_Go.st (fun _ k => XS.iloadN X0.here hx rfl (hb hby d_jdk_29_method_69_9) rfl k) ?_
    show own_Go _ _ _ _ (s₁.setTop (mkF m 10 #[.val (.int p1), .val (.int p2)] [(.int p2)]))
    obtain ⟨fs139, hr139, hrun139, hend139, hW139, hsm139⟩ := X0.leave (v := some (.int p2)) (fun h => by rw [Bd.returns] at h; cases h)
    subst hPP
    refine ⟨_, _, own_retI X0 hx Bd.returns (hb hby d_jdk_29_method_69_10) hr139, hrun139, hend139, _, _, rfl, ?_, ⟨_, rfl⟩, hW139, hsm139.mono (by decide) (by decide)⟩
    · show Q_mmin Z _ _ h0 _ s₁.heap _
      rw [e0]
      exact ⟨(by rw [if_pos hc138]), N0, rfl⟩
  ·
    refine own_Go.st (fun _ k => XS.icmpNo X0.here hx rfl (hb hby d_jdk_29_method_69_2) rfl (flt hc138).2.2.1 k) ?_
    show own_Go _ _ _ _ (s₁.setTop (mkF m 5 #[.val (.int p1), .val (.int p2)] []))
    refine own_Go.st (fun _ k => XS.iloadN X0.here hx rfl (hb hby d_jdk_29_method_69_5) rfl k) ?_
    show own_Go _ _ _ _ (s₁.setTop (mkF m 6 #[.val (.int p1), .val (.int p2)] [(.int p1)]))
    refine own_Go.st (fun _ k => XS.goto X0.here hx rfl (pc0 := 6) (pc' := 10) rfl (hb hby d_jdk_29_method_69_6) (by decide) (by decide) k) ?_
    show own_Go _ _ _ _ (s₁.setTop (mkF m 10 #[.val (.int p1), .val (.int p2)] [(.int p1)]))
    obtain ⟨fs140, hr140, hrun140, hend140, hW140, hsm140⟩ := X0.leave (v := some (.int p1)) (fun h => by rw [Bd.returns] at h; cases h)
    subst hPP
    refine ⟨_, _, own_retI X0 hx Bd.returns (hb hby d_jdk_29_method_69_10) hr140, hrun140, hend140, _, _, rfl, ?_, ⟨_, rfl⟩, hW140, hsm140.mono (by decide) (by decide)⟩
    · show Q_mmin Z _ _ h0 _ s₁.heap _
      rw [e0]
      exact ⟨(by rw [if_neg hc138]), N0, rfl⟩
theorem pn_33 : plainName "java/util/Arrays" = true := by first | (simp [plainName, overriddenIn]; done) | decide +kernel
theorem d_jdk_65_method_131_0 : decode jdk_65_method_131_code 0 = .ok (.iload_n 1, 1) := by decide +kernel
theorem d_jdk_65_method_131_1 : decode jdk_65_method_131_code 1 = .ok (.iload_n 0, 1) := by decide +kernel
theorem d_jdk_65_method_131_2 : decode jdk_65_method_131_code 2 = .ok (.if_icmp .ge 35, 3) := by decide +kernel
theorem d_jdk_65_method_131_37 : decode jdk_65_method_131_code 37 = .ok (.return_, 1) := by decide +kernel
def Q_cklen (Z : State) (p1 : Int32) (p2 : Int32) (h0 : Heap) (v : Option Value) (h : Heap) (L : List Loc) : Prop := v = none ∧ Fr Z.heap.size L ∧ h = h0
set_option maxRecDepth 65536 in
set_option maxHeartbeats 40000000 in
theorem rm_cklen (l : Launch) (Z : State) (a0 : Array Value) (hw : ∀ d ∈ tables_1, d.before a0 Z = true) (ws : List Jvm.Cond) (p1 : Int32) (p2 : Int32) (h0 : Heap) (OL : Old Z Z.heap.size h0) (h : ¬ p2 < p1) :
    MetFree l (⟨"java/util/Arrays", "checkLength", "(II)V"⟩ : MethodName) (head1 (Jvm.Cond.code (⟨"java/util/Arrays", "checkLength", "(II)V"⟩ : MethodName) jdk_65_method_131_code 2 none :: ws) ({ frames := 0, cells := 0, slots := 0, locals := 0 } : Room)) (fun a U => a = #[(.int p1), (.int p2)] ∧ Z.Warmed39 U.vm ∧ U.heap = h0) (fun _ _ _ _ _ => True) (fun _ U o U' => ∃ v L, o = .returned v ∧ Q_cklen Z p1 p2 h0 v U'.heap L ∧ FrameEnd U o U' L ({ frames := 0, cells := 0, slots := 0, locals := 0 } : Room).cells ({ frames := 0, cells := 0, slots := 0, locals := 0 } : Room).slots) := by
  refine MetFree.of_bodySF (plainFor_of_name pn_33) hisR ?_
  intro p e s m args below meth c s₁ Bd hml0 hP hK
  obtain ⟨rfl, hZ, hh⟩ := hP
  have hx := Bd.exec
  have hby := Bd.bytes
  have hml : c.maxLocals = 2 := hml0
  have hown : s.vm.findClass "java/util/Arrays" = some m.cls := findClass_of_methodNamed Bd.named
  have hnm := (name_of_methodNamed Bd.named Bd.method).1
  have X0 : Stand p l e ({ frames := 0, cells := 0, slots := 0, locals := 0 } : Room) s m #[(.int p1), (.int p2)] below meth c s₁ [] 0 0 := Stand.of_body Bd
  have e0 : s₁.heap = h0 := by rw [← hh, Bd.state]; rfl
  have N0 := Fr.nil Z.heap.size
  have Z0 : Z.heap.size ≤ h0.size := OL.2.1
  obtain ⟨PP, hPP⟩ : ∃ PP : Outcome → State → Prop, PP = (fun o tE => ∃ v L, o = .returned v ∧ Q_cklen Z p1 p2 h0 v tE.heap L ∧ FrameEnd s o tE L ({ frames := 0, cells := 0, slots := 0, locals := 0 } : Room).cells ({ frames := 0, cells := 0, slots := 0, locals := 0 } : Room).slots) := ⟨_, rfl⟩
  show own_Go p.tables e below (fun o tE => ∃ v L, o = .returned v ∧ Q_cklen Z p1 p2 h0 v tE.heap L ∧ FrameEnd s o tE L ({ frames := 0, cells := 0, slots := 0, locals := 0 } : Room).cells ({ frames := 0, cells := 0, slots := 0, locals := 0 } : Room).slots) (s₁.setTop (entryFrame m #[(.int p1), (.int p2)] 2))
  rw [← hPP]
  refine own_Go.st (fun t k => castTop (ef_25 m p1 p2) k) ?_
  show own_Go _ _ _ _ (s₁.setTop (mkF m 0 #[.val (.int p1), .val (.int p2)] []))
  refine own_Go.st (fun _ k => XS.iloadN X0.here hx rfl (hb hby d_jdk_65_method_131_0) rfl k) ?_
  show own_Go _ _ _ _ (s₁.setTop (mkF m 1 #[.val (.int p1), .val (.int p2)] [(.int p2)]))
  refine own_Go.st (fun _ k => XS.iloadN X0.here hx rfl (hb hby d_jdk_65_method_131_1) rfl k) ?_
  show own_Go _ _ _ _ (s₁.setTop (mkF m 2 #[.val (.int p1), .val (.int p2)] [(.int p1), (.int p2)]))
  have hc141 : ¬ (p2 < p1) := h
  refine own_Go.st (fun _ k => XS.icmpYes X0.here hx rfl (pc0 := 2) (pc' := 37) rfl (hb hby d_jdk_65_method_131_2) rfl (flt hc141).2.1 (by decide) (by decide) k) ?_
  show own_Go _ _ _ _ (s₁.setTop (mkF m 37 #[.val (.int p1), .val (.int p2)] []))
  obtain ⟨fs142, hr142, hrun142, hend142, hW142, hsm142⟩ := X0.leave (v := none) (fun _ => rfl)
  subst hPP
  refine ⟨_, _, X0.returnOut hx Bd.returns (hb hby d_jdk_65_method_131_37) hr142, hrun142, hend142, _, _, rfl, ?_, ⟨_, rfl⟩, hW142, hsm142.mono (by decide) (by decide)⟩
  · show Q_cklen Z _ _ h0 _ s₁.heap _
    rw [e0]
    exact ⟨rfl, N0, rfl⟩

theorem own_usR (cs : List Int32) {i j : Nat} (hij : i ≤ j) (hj : j ≤ cs.length) (hn : cs.length < 100000) : own_low ((cs.drop i).take (j - i)) = (List.range (Int32.ofNat (j - i)).toNatClampNeg).map fun x => (own_low cs).getD ((Int32.ofNat i).toNatClampNeg + x) (.int (0 : Int32)) := by
  rw [own_ofn (by omega), own_ofn (by omega)]
  apply List.ext_getElem
  · simp [own_low]; omega
  · intro x h1 h2
    have hx : i + x < cs.length := by simp [own_low] at h1; omega
    simp [own_low, List.getD_eq_getElem?_getD, hx]
theorem own_takeV {Z : State} {h : Heap} {a : Addr} {k : ClassId} {n : Int32} {us : List Value} {m : Nat} (F : Arv Z h a k .byte n ((List.replicate m (Value.int (0 : Int32))).take (0 : Int32).toNatClampNeg ++ us ++ (List.replicate m (Value.int (0 : Int32))).drop ((0 : Int32).toNatClampNeg + (Int32.ofNat m).toNatClampNeg)) (.int (0 : Int32))) (hm : m < 100000) : Arv Z h a k .byte n us (.int (0 : Int32)) := by
  have e0 : (0 : Int32).toNatClampNeg = 0 := by decide
  rw [e0, own_ofn (by omega)] at F
  simpa using F
theorem own_min {i j : Nat} (hi : i < 100000) (hj : j ≤ i) : (if Int32.ofNat j < Int32.ofNat i then Int32.ofNat j else Int32.ofNat i) = Int32.ofNat j := by
  by_cases q : Int32.ofNat j < Int32.ofNat i
  · rw [if_pos q]
  · rw [if_neg q]
    rw [own_oflt (by omega) (by omega)] at q
    rw [show i = j by omega]

theorem ef_38 (m : MethodId) (x0 : Nat) (x1 : Int32) (x2 : Int32) : entryFrame m #[(.ref x0), (.int x1), (.int x2)] 5 = mkF m 0 #[.val (.ref x0), .val (.int x1), .val (.int x2), .unset, .unset] [] := by first | (simp [entryFrame, mkF, argsToLocals, Value.category]; done) | rfl
theorem d_jdk_65_method_133_0 : decode jdk_65_method_133_code 0 = .ok (.iload_n 1, 1) := by decide +kernel
theorem d_jdk_65_method_133_1 : decode jdk_65_method_133_code 1 = .ok (.iload_n 2, 1) := by decide +kernel
theorem pd_41 : parseMethodDescriptor "(II)V" = some ⟨[.int, .int], none⟩ := by decide +kernel
theorem d_jdk_65_method_133_2 : decode jdk_65_method_133_code 2 = .ok (.invokestatic 343, 3) := by decide +kernel
theorem d_jdk_65_method_133_5 : decode jdk_65_method_133_code 5 = .ok (.iload_n 2, 1) := by decide +kernel
theorem d_jdk_65_method_133_6 : decode jdk_65_method_133_code 6 = .ok (.iload_n 1, 1) := by decide +kernel
theorem d_jdk_65_method_133_7 : decode jdk_65_method_133_code 7 = .ok (.isub, 1) := by decide +kernel
theorem d_jdk_65_method_133_8 : decode jdk_65_method_133_code 8 = .ok (.istore_n 3, 1) := by decide +kernel
theorem d_jdk_65_method_133_9 : decode jdk_65_method_133_code 9 = .ok (.iload_n 3, 1) := by decide +kernel
theorem d_jdk_65_method_133_10 : decode jdk_65_method_133_code 10 = .ok (.newarray .byte, 2) := by decide +kernel
theorem d_jdk_65_method_133_12 : decode jdk_65_method_133_code 12 = .ok (.astore 4, 2) := by decide +kernel
theorem d_jdk_65_method_133_14 : decode jdk_65_method_133_code 14 = .ok (.aload_n 0, 1) := by decide +kernel
theorem d_jdk_65_method_133_15 : decode jdk_65_method_133_code 15 = .ok (.iload_n 1, 1) := by decide +kernel
theorem d_jdk_65_method_133_16 : decode jdk_65_method_133_code 16 = .ok (.aload 4, 2) := by decide +kernel
theorem d_jdk_65_method_133_18 : decode jdk_65_method_133_code 18 = .ok (.iconst 0, 1) := by decide +kernel
theorem d_jdk_65_method_133_19 : decode jdk_65_method_133_code 19 = .ok (.aload_n 0, 1) := by decide +kernel
theorem d_jdk_65_method_133_20 : decode jdk_65_method_133_code 20 = .ok (.arraylength, 1) := by decide +kernel
theorem d_jdk_65_method_133_21 : decode jdk_65_method_133_code 21 = .ok (.iload_n 1, 1) := by decide +kernel
theorem d_jdk_65_method_133_22 : decode jdk_65_method_133_code 22 = .ok (.isub, 1) := by decide +kernel
theorem d_jdk_65_method_133_23 : decode jdk_65_method_133_code 23 = .ok (.iload_n 3, 1) := by decide +kernel
theorem pd_59 : parseMethodDescriptor "(II)I" = some ⟨[.int, .int], some .int⟩ := by decide +kernel
theorem d_jdk_65_method_133_24 : decode jdk_65_method_133_code 24 = .ok (.invokestatic 304, 3) := by decide +kernel
theorem d_jdk_65_method_133_27 : decode jdk_65_method_133_code 27 = .ok (.invokestatic 150, 3) := by decide +kernel
theorem d_jdk_65_method_133_30 : decode jdk_65_method_133_code 30 = .ok (.aload 4, 2) := by decide +kernel
theorem d_jdk_65_method_133_32 : decode jdk_65_method_133_code 32 = .ok (.areturn, 1) := by decide +kernel
def Q_corb (Z : State) (a1 : Nat) (p2 : Int32) (p3 : Int32) (i : Nat) (j : Nat) (cs : List Int32) (cap : Nat) (k : ClassId) (h0 : Heap) (v : Option Value) (h : Heap) (L : List Loc) : Prop := ∃ (x : Nat), ∃ (kx : ClassId), v = some (.ref x) ∧ Fr Z.heap.size L ∧ Keep h0 h [] ∧ Arv Z h x kx .byte (Int32.ofNat (j - i)) (own_low ((cs.drop i).take (j - i))) (.int (0 : Int32)) ∧ (h0.size ≤ x)
set_option maxRecDepth 65536 in
set_option maxHeartbeats 40000000 in
theorem rm_corb (l : Launch) (Z : State) (a0 : Array Value) (hw : ∀ d ∈ tables_1, d.before a0 Z = true) (ws : List Jvm.Cond) (a1 : Nat) (p2 : Int32) (p3 : Int32) (i : Nat) (j : Nat) (cs : List Int32) (cap : Nat) (k : ClassId) (h0 : Heap) (OL : Old Z Z.heap.size h0) (p0_ : Arv Z h0 a1 k .byte (Int32.ofNat cap) (own_low cs) (.int (0 : Int32))) (hp2 : p2 = Int32.ofNat i) (hp3 : p3 = Int32.ofNat j) (hij : i ≤ j) (hj : j ≤ cs.length) (hcs : cs.length ≤ cap) (hcap : cap ≤ 100) (hmx : j - i ≤ 8) :
    MetFree l (⟨"java/util/Arrays", "copyOfRangeByte", "([BII)[B"⟩ : MethodName) (head1 (Jvm.Cond.code (⟨"java/util/Arrays", "copyOfRangeByte", "([BII)[B"⟩ : MethodName) jdk_65_method_133_code 5 (some (.array .byte)) :: ws) ({ frames := 1, cells := 1, slots := 8, locals := 40 } : Room)) (fun a U => a = #[(.ref a1), (.int p2), (.int p3)] ∧ Z.Warmed39 U.vm ∧ U.heap = h0) (fun _ _ _ _ _ => True) (fun _ U o U' => ∃ v L, o = .returned v ∧ Q_corb Z a1 p2 p3 i j cs cap k h0 v U'.heap L ∧ FrameEnd U o U' L ({ frames := 1, cells := 1, slots := 8, locals := 40 } : Room).cells ({ frames := 1, cells := 1, slots := 8, locals := 40 } : Room).slots) := by
  refine MetFree.of_bodySF (plainFor_of_name pn_33) hisR ?_
  intro p e s m args below meth c s₁ Bd hml0 hP hK
  obtain ⟨rfl, hZ, hh⟩ := hP
  have hx := Bd.exec
  have hby := Bd.bytes
  have hml : c.maxLocals = 5 := hml0
  have hown : s.vm.findClass "java/util/Arrays" = some m.cls := findClass_of_methodNamed Bd.named
  have hnm := (name_of_methodNamed Bd.named Bd.method).1
  have X0 : Stand p l e ({ frames := 1, cells := 1, slots := 8, locals := 40 } : Room) s m #[(.ref a1), (.int p2), (.int p3)] below meth c s₁ [] 0 0 := Stand.of_body Bd
  have e0 : s₁.heap = h0 := by rw [← hh, Bd.state]; rfl
  have N0 := Fr.nil Z.heap.size
  have Z0 : Z.heap.size ≤ h0.size := OL.2.1
  have lt_0 : @LT.lt Nat _ a1 h0.size := p0_.lt
  obtain ⟨PP, hPP⟩ : ∃ PP : Outcome → State → Prop, PP = (fun o tE => ∃ v L, o = .returned v ∧ Q_corb Z a1 p2 p3 i j cs cap k h0 v tE.heap L ∧ FrameEnd s o tE L ({ frames := 1, cells := 1, slots := 8, locals := 40 } : Room).cells ({ frames := 1, cells := 1, slots := 8, locals := 40 } : Room).slots) := ⟨_, rfl⟩
  show own_Go p.tables e below (fun o tE => ∃ v L, o = .returned v ∧ Q_corb Z a1 p2 p3 i j cs cap k h0 v tE.heap L ∧ FrameEnd s o tE L ({ frames := 1, cells := 1, slots := 8, locals := 40 } : Room).cells ({ frames := 1, cells := 1, slots := 8, locals := 40 } : Room).slots) (s₁.setTop (entryFrame m #[(.ref a1), (.int p2), (.int p3)] 5))
  rw [← hPP]
  refine own_Go.st (fun t k => castTop (ef_38 m a1 p2 p3) k) ?_
  subst hp2 hp3
  show own_Go _ _ _ _ (s₁.setTop (mkF m 0 #[.val (.ref a1), .val (.int (Int32.ofNat i)), .val (.int (Int32.ofNat j)), .unset, .unset] []))
  refine own_Go.st (fun _ k => XS.iloadN X0.here hx rfl (hb hby d_jdk_65_method_133_0) rfl k) ?_
  show own_Go _ _ _ _ (s₁.setTop (mkF m 1 #[.val (.ref a1), .val (.int (Int32.ofNat i)), .val (.int (Int32.ofNat j)), .unset, .unset] [(.int (Int32.ofNat i))]))
  refine own_Go.st (fun _ k => XS.iloadN X0.here hx rfl (hb hby d_jdk_65_method_133_1) rfl k) ?_
  show own_Go _ _ _ _ (s₁.setTop (mkF m 2 #[.val (.ref a1), .val (.int (Int32.ofNat i)), .val (.int (Int32.ofNat j)), .unset, .unset] [(.int (Int32.ofNat j)), (.int (Int32.ofNat i))]))
  obtain ⟨_, _, ⟨T143, L143, k143, n143⟩, -, X143, ⟨Lc143, hQ143, l143, y143, z143⟩, st143⟩ := Jvm.LawKit.callS X0 hx (y := (⟨"java/util/Arrays", "checkLength", "(II)V"⟩ : MethodName)) hown (mvT hZ (hw _ (List.mem_of_getElem? (i := 140) rfl))) (mvT hZ (hw _ (List.mem_of_getElem? (i := 141) rfl))) (mvT hZ (hw _ (List.mem_of_getElem? (i := 135) rfl))) (mvT hZ (hw _ (List.mem_of_getElem? (i := 142) rfl))) (by decide) (backOf (W := 0) (rm_cklen l Z a0 hw [] (Int32.ofNat i) (Int32.ofNat j) h0 OL (by rw [own_oflt (by omega) (by omega)]; omega)) hZ (hw _ (List.mem_of_getElem? (i := 142) rfl)) (hw _ (List.mem_of_getElem? (i := 135) rfl)) (by decide) (by decide)) (g := (mkF m 2 #[.val (.ref a1), .val (.int (Int32.ofNat i)), .val (.int (Int32.ofNat j)), .unset, .unset] [(.int (Int32.ofNat j)), (.int (Int32.ofNat i))])) rfl (by rw [hml]; rfl) (argsL := [(.int (Int32.ofNat i)), (.int (Int32.ofNat j))]) (rest := []) (lenOf pd_41 rfl) rfl (by show 2 * 0 + _ ≤ _; exact Nat.le_of_eq rfl) (hb hby d_jdk_65_method_133_2) (fun _ _ => ⟨rfl, e0, (by decide : 0 + 0 ≤ _), (by decide : 0 + 0 ≤ _)⟩)
  dsimp only [Pt.U, Pt.locs, Pt.cells, Pt.slots] at X143 l143 y143 z143 st143 hQ143
  subst l143 y143 z143
  obtain ⟨rfl, N143q, K143⟩ := hQ143
  have N143 := Fr.app N0 N143q
  refine own_Go.st st143 ?_
  show own_Go _ _ _ _ (T143.setTop (mkF m 5 #[.val (.ref a1), .val (.int (Int32.ofNat i)), .val (.int (Int32.ofNat j)), .unset, .unset] []))
  refine own_Go.st (fun _ k => XS.iloadN X143.here hx rfl (hb hby d_jdk_65_method_133_5) rfl k) ?_
  show own_Go _ _ _ _ (T143.setTop (mkF m 6 #[.val (.ref a1), .val (.int (Int32.ofNat i)), .val (.int (Int32.ofNat j)), .unset, .unset] [(.int (Int32.ofNat j))]))
  refine own_Go.st (fun _ k => XS.iloadN X143.here hx rfl (hb hby d_jdk_65_method_133_6) rfl k) ?_
  show own_Go _ _ _ _ (T143.setTop (mkF m 7 #[.val (.ref a1), .val (.int (Int32.ofNat i)), .val (.int (Int32.ofNat j)), .unset, .unset] [(.int (Int32.ofNat i)), (.int (Int32.ofNat j))]))
  refine own_Go.st (fun _ k => XS.isub X143.here hx rfl (hb hby d_jdk_65_method_133_7) rfl k) ?_
  show own_Go _ _ _ _ (T143.setTop (mkF m 8 #[.val (.ref a1), .val (.int (Int32.ofNat i)), .val (.int (Int32.ofNat j)), .unset, .unset] [(.int ((Int32.ofNat j) - (Int32.ofNat i)))]))
  rw [own_ofB (by omega) hij]
  show own_Go _ _ _ _ (T143.setTop (mkF m 8 #[.val (.ref a1), .val (.int (Int32.ofNat i)), .val (.int (Int32.ofNat j)), .unset, .unset] [(.int (Int32.ofNat (j - i)))]))
  refine own_Go.st (fun _ k => XS.istoreN X143.here hx rfl (hb hby d_jdk_65_method_133_8) rfl (l' := #[.val (.ref a1), .val (.int (Int32.ofNat i)), .val (.int (Int32.ofNat j)), .val (.int (Int32.ofNat (j - i))), .unset]) rfl k) ?_
  show own_Go _ _ _ _ (T143.setTop (mkF m 9 #[.val (.ref a1), .val (.int (Int32.ofNat i)), .val (.int (Int32.ofNat j)), .val (.int (Int32.ofNat (j - i))), .unset] []))
  refine own_Go.st (fun _ k => XS.iloadN X143.here hx rfl (hb hby d_jdk_65_method_133_9) rfl k) ?_
  show own_Go _ _ _ _ (T143.setTop (mkF m 10 #[.val (.ref a1), .val (.int (Int32.ofNat i)), .val (.int (Int32.ofNat j)), .val (.int (Int32.ofNat (j - i))), .unset] [(.int (Int32.ofNat (j - i)))]))
  obtain ⟨T144, h144, k144, X144, e144, E144, A144, st144⟩ := newP X143 hx hZ (hw _ (List.mem_of_getElem? (i := 23) rfl)) K143 (g := (mkF m 10 #[.val (.ref a1), .val (.int (Int32.ofNat i)), .val (.int (Int32.ofNat j)), .val (.int (Int32.ofNat (j - i))), .unset] [(.int (Int32.ofNat (j - i)))])) rfl (hb hby d_jdk_65_method_133_10) rfl (own_of0 (by omega)) (cap := 8) (by rw [own_ofn (by omega)]; exact hmx) (by decide) (by decide) (by decide)
  obtain ⟨b144, g144⟩ : ∃ z, z = h0.size := ⟨_, rfl⟩
  rw [← g144] at A144 st144
  refine own_Go.st st144 ?_
  have z144 : h0.size ≤ h144.size := E144.1
  have f145 : Arv Z h144 b144 k144 .byte (Int32.ofNat (j - i)) [] (.int (0 : Int32)) := Arv.new A144 (own_of0 (by omega))
  have lt_b144 : @LT.lt Nat _ b144 h144.size := f145.lt
  show own_Go _ _ _ _ (T144.setTop (mkF m 12 #[.val (.ref a1), .val (.int (Int32.ofNat i)), .val (.int (Int32.ofNat j)), .val (.int (Int32.ofNat (j - i))), .unset] [(.ref b144)]))
  refine own_Go.st (fun _ k => XS.astore X144.here hx rfl (hb hby d_jdk_65_method_133_12) rfl rfl (l' := #[.val (.ref a1), .val (.int (Int32.ofNat i)), .val (.int (Int32.ofNat j)), .val (.int (Int32.ofNat (j - i))), .val (.ref b144)]) rfl k) ?_
  show own_Go _ _ _ _ (T144.setTop (mkF m 14 #[.val (.ref a1), .val (.int (Int32.ofNat i)), .val (.int (Int32.ofNat j)), .val (.int (Int32.ofNat (j - i))), .val (.ref b144)] []))
  refine own_Go.st (fun _ k => XS.aloadN X144.here hx rfl (hb hby d_jdk_65_method_133_14) rfl rfl k) ?_
  show own_Go _ _ _ _ (T144.setTop (mkF m 15 #[.val (.ref a1), .val (.int (Int32.ofNat i)), .val (.int (Int32.ofNat j)), .val (.int (Int32.ofNat (j - i))), .val (.ref b144)] [(.ref a1)]))
  refine own_Go.st (fun _ k => XS.iloadN X144.here hx rfl (hb hby d_jdk_65_method_133_15) rfl k) ?_
  show own_Go _ _ _ _ (T144.setTop (mkF m 16 #[.val (.ref a1), .val (.int (Int32.ofNat i)), .val (.int (Int32.ofNat j)), .val (.int (Int32.ofNat (j - i))), .val (.ref b144)] [(.int (Int32.ofNat i)), (.ref a1)]))
  refine own_Go.st (fun _ k => XS.aload X144.here hx rfl (hb hby d_jdk_65_method_133_16) rfl rfl k) ?_
  show own_Go _ _ _ _ (T144.setTop (mkF m 18 #[.val (.ref a1), .val (.int (Int32.ofNat i)), .val (.int (Int32.ofNat j)), .val (.int (Int32.ofNat (j - i))), .val (.ref b144)] [(.ref b144), (.int (Int32.ofNat i)), (.ref a1)]))
  refine own_Go.st (fun _ k => XS.iconst X144.here hx rfl (hb hby d_jdk_65_method_133_18) k) ?_
  show own_Go _ _ _ _ (T144.setTop (mkF m 19 #[.val (.ref a1), .val (.int (Int32.ofNat i)), .val (.int (Int32.ofNat j)), .val (.int (Int32.ofNat (j - i))), .val (.ref b144)] [(.int (0 : Int32)), (.ref b144), (.int (Int32.ofNat i)), (.ref a1)]))
  refine own_Go.st (fun _ k => XS.aloadN X144.here hx rfl (hb hby d_jdk_65_method_133_19) rfl rfl k) ?_
  show own_Go _ _ _ _ (T144.setTop (mkF m 20 #[.val (.ref a1), .val (.int (Int32.ofNat i)), .val (.int (Int32.ofNat j)), .val (.int (Int32.ofNat (j - i))), .val (.ref b144)] [(.ref a1), (.int (0 : Int32)), (.ref b144), (.int (Int32.ofNat i)), (.ref a1)]))
  have f146 : Arv Z h144 a1 k .byte (Int32.ofNat cap) (own_low cs) (.int (0 : Int32)) := p0_.ext E144
  obtain ⟨c147, Ar147, q147, S147, Nn147, H147, G147⟩ := id f146
  refine own_Go.st (X144.arraylength hx (own_rwE e144 Ar147.1) (State.isArrayOf_alike hZ.alike Ar147.2.1) (g := (mkF m 20 #[.val (.ref a1), .val (.int (Int32.ofNat i)), .val (.int (Int32.ofNat j)), .val (.int (Int32.ofNat (j - i))), .val (.ref b144)] [(.ref a1), (.int (0 : Int32)), (.ref b144), (.int (Int32.ofNat i)), (.ref a1)])) rfl rfl (hb hby d_jdk_65_method_133_20)) ?_
  rw [len_of S147 Nn147]
  show own_Go _ _ _ _ (T144.setTop (mkF m 21 #[.val (.ref a1), .val (.int (Int32.ofNat i)), .val (.int (Int32.ofNat j)), .val (.int (Int32.ofNat (j - i))), .val (.ref b144)] [(.int (Int32.ofNat cap)), (.int (0 : Int32)), (.ref b144), (.int (Int32.ofNat i)), (.ref a1)]))
  refine own_Go.st (fun _ k => XS.iloadN X144.here hx rfl (hb hby d_jdk_65_method_133_21) rfl k) ?_
  show own_Go _ _ _ _ (T144.setTop (mkF m 22 #[.val (.ref a1), .val (.int (Int32.ofNat i)), .val (.int (Int32.ofNat j)), .val (.int (Int32.ofNat (j - i))), .val (.ref b144)] [(.int (Int32.ofNat i)), (.int (Int32.ofNat cap)), (.int (0 : Int32)), (.ref b144), (.int (Int32.ofNat i)), (.ref a1)]))
  refine own_Go.st (fun _ k => XS.isub X144.here hx rfl (hb hby d_jdk_65_method_133_22) rfl k) ?_
  show own_Go _ _ _ _ (T144.setTop (mkF m 23 #[.val (.ref a1), .val (.int (Int32.ofNat i)), .val (.int (Int32.ofNat j)), .val (.int (Int32.ofNat (j - i))), .val (.ref b144)] [(.int ((Int32.ofNat cap) - (Int32.ofNat i))), (.int (0 : Int32)), (.ref b144), (.int (Int32.ofNat i)), (.ref a1)]))
  rw [own_ofB (by omega) (by omega)]
  show own_Go _ _ _ _ (T144.setTop (mkF m 23 #[.val (.ref a1), .val (.int (Int32.ofNat i)), .val (.int (Int32.ofNat j)), .val (.int (Int32.ofNat (j - i))), .val (.ref b144)] [(.int (Int32.ofNat (cap - i))), (.int (0 : Int32)), (.ref b144), (.int (Int32.ofNat i)), (.ref a1)]))
  refine own_Go.st (fun _ k => XS.iloadN X144.here hx rfl (hb hby d_jdk_65_method_133_23) rfl k) ?_
  show own_Go _ _ _ _ (T144.setTop (mkF m 24 #[.val (.ref a1), .val (.int (Int32.ofNat i)), .val (.int (Int32.ofNat j)), .val (.int (Int32.ofNat (j - i))), .val (.ref b144)] [(.int (Int32.ofNat (j - i))), (.int (Int32.ofNat (cap - i))), (.int (0 : Int32)), (.ref b144), (.int (Int32.ofNat i)), (.ref a1)]))
  have f149 : Old Z Z.heap.size h144 := OL.ext E144
  obtain ⟨_, _, ⟨T148, L148, k148, n148⟩, -, X148, ⟨Lc148, hQ148, l148, y148, z148⟩, st148⟩ := Jvm.LawKit.callS X144 hx (y := (⟨"java/lang/Math", "min", "(II)I"⟩ : MethodName)) hown (mvT hZ (hw _ (List.mem_of_getElem? (i := 143) rfl))) (mvT hZ (hw _ (List.mem_of_getElem? (i := 68) rfl))) (mvT hZ (hw _ (List.mem_of_getElem? (i := 69) rfl))) (mvT hZ (hw _ (List.mem_of_getElem? (i := 70) rfl))) (by decide) (backOf (W := 4) (rm_mmin l Z a0 hw [] (Int32.ofNat (cap - i)) (Int32.ofNat (j - i)) h144 f149 ) hZ (hw _ (List.mem_of_getElem? (i := 70) rfl)) (hw _ (List.mem_of_getElem? (i := 69) rfl)) (by decide) (by decide)) (g := (mkF m 24 #[.val (.ref a1), .val (.int (Int32.ofNat i)), .val (.int (Int32.ofNat j)), .val (.int (Int32.ofNat (j - i))), .val (.ref b144)] [(.int (Int32.ofNat (j - i))), (.int (Int32.ofNat (cap - i))), (.int (0 : Int32)), (.ref b144), (.int (Int32.ofNat i)), (.ref a1)])) rfl (by rw [hml]; rfl) (argsL := [(.int (Int32.ofNat (cap - i))), (.int (Int32.ofNat (j - i)))]) (rest := [(.int (0 : Int32)), (.ref b144), (.int (Int32.ofNat i)), (.ref a1)]) (lenOf pd_59 rfl) rfl (by show 2 * 0 + _ ≤ _; exact Nat.le_of_eq rfl) (hb hby d_jdk_65_method_133_24) (fun _ _ => ⟨rfl, e144, (by decide : 1 + 0 ≤ _), (by decide : 8 + 0 ≤ _)⟩)
  dsimp only [Pt.U, Pt.locs, Pt.cells, Pt.slots] at X148 l148 y148 z148 st148 hQ148
  subst l148 y148 z148
  obtain ⟨rfl, N148q, K148⟩ := hQ148
  have N148 := Fr.app N143 N148q
  refine own_Go.st st148 ?_
  show own_Go _ _ _ _ (T148.setTop (mkF m 27 #[.val (.ref a1), .val (.int (Int32.ofNat i)), .val (.int (Int32.ofNat j)), .val (.int (Int32.ofNat (j - i))), .val (.ref b144)] [(.int (if (Int32.ofNat (j - i)) < (Int32.ofNat (cap - i)) then (Int32.ofNat (j - i)) else (Int32.ofNat (cap - i)))), (.int (0 : Int32)), (.ref b144), (.int (Int32.ofNat i)), (.ref a1)]))
  rw [own_min (by omega) (by omega)]
  show own_Go _ _ _ _ (T148.setTop (mkF m 27 #[.val (.ref a1), .val (.int (Int32.ofNat i)), .val (.int (Int32.ofNat j)), .val (.int (Int32.ofNat (j - i))), .val (.ref b144)] [(.int (Int32.ofNat (j - i))), (.int (0 : Int32)), (.ref b144), (.int (Int32.ofNat i)), (.ref a1)]))
  have f150 : Arv Z h144 b144 k144 .byte (Int32.ofNat (j - i)) (List.replicate (j - i) (Value.int (0 : Int32))) (.int (0 : Int32)) := f145.pad (pad_rep [] _ _)
  obtain ⟨T151, h151, L151, X151, e151, N151, K151, V151, st151⟩ := cpA (us := (own_low ((cs.drop i).take (j - i)))) X148 hx hZ hown (hw _ (List.mem_of_getElem? (i := 144) rfl)) (hw _ (List.mem_of_getElem? (i := 147) rfl)) (hw _ (List.mem_of_getElem? (i := 145) rfl)) (hw _ (List.mem_of_getElem? (i := 146) rfl)) K148 f146 f150 (Or.inl ⟨rfl, rfl⟩) (own_of0 (by omega)) (by decide) (own_of0 (by omega)) (by rw [own_ofn (by omega), own_ofn (by omega), own_ofn (by omega)]; omega) (by rw [own_ofn (by omega)]; have : (0 : Int32).toNatClampNeg = 0 := (by decide); omega) (own_usR cs hij hj (by omega)) (by rw [own_ofn (by omega)]; have : (0 : Int32).toNatClampNeg = 0 := (by decide); rw [List.length_replicate]; omega) N148 (by omega) (g := (mkF m 27 #[.val (.ref a1), .val (.int (Int32.ofNat i)), .val (.int (Int32.ofNat j)), .val (.int (Int32.ofNat (j - i))), .val (.ref b144)] [(.int (Int32.ofNat (j - i))), (.int (0 : Int32)), (.ref b144), (.int (Int32.ofNat i)), (.ref a1)])) rfl (by rw [hml]; rfl) rfl (hb hby d_jdk_65_method_133_27) (by decide) (W := 0) (by show 2 * 0 + _ ≤ _; exact Nat.le_of_eq rfl) (by decide)
  refine own_Go.st st151 ?_
  have z151 : h144.size ≤ h151.size := K151.1
  have f152 : Arv Z h151 b144 k144 .byte (Int32.ofNat (j - i)) (own_low ((cs.drop i).take (j - i))) (.int (0 : Int32)) := own_takeV V151 (by omega)
  show own_Go _ _ _ _ (T151.setTop (mkF m 30 #[.val (.ref a1), .val (.int (Int32.ofNat i)), .val (.int (Int32.ofNat j)), .val (.int (Int32.ofNat (j - i))), .val (.ref b144)] []))
  refine own_Go.st (fun _ k => XS.aload X151.here hx rfl (hb hby d_jdk_65_method_133_30) rfl rfl k) ?_
  show own_Go _ _ _ _ (T151.setTop (mkF m 32 #[.val (.ref a1), .val (.int (Int32.ofNat i)), .val (.int (Int32.ofNat j)), .val (.int (Int32.ofNat (j - i))), .val (.ref b144)] [(.ref b144)]))
  obtain ⟨fs153, hr153, hrun153, hend153, hW153, hsm153⟩ := X151.leave (v := some (.ref b144)) (fun h => by rw [Bd.returns] at h; cases h)
  have K154 : Keep h0 h144 [] := (Keep.refl h0 []).ext E144
  have K155 : Keep h0 h151 [] := K154.trans K151 (allS (Or.inr (by omega)) all0)
  subst hPP
  refine ⟨_, _, own_retA X151 hx Bd.returns rfl rfl (hb hby d_jdk_65_method_133_32) hr153, hrun153, hend153, _, _, rfl, ?_, ⟨_, rfl⟩, hW153, hsm153.mono (by decide) (by decide)⟩
  · show Q_corb Z _ _ _ _ _ _ _ _ h0 _ T151.heap _
    rw [e151]
    exact ⟨b144, k144, rfl, N151, K155, f152, (by omega)⟩
theorem ef_64 (m : MethodId) (x0 : Nat) (x1 : Int32) (x2 : Int32) : entryFrame m #[(.ref x0), (.int x1), (.int x2)] 3 = mkF m 0 #[.val (.ref x0), .val (.int x1), .val (.int x2)] [] := by first | (simp [entryFrame, mkF, argsToLocals, Value.category]; done) | rfl
theorem d_jdk_65_method_132_0 : decode jdk_65_method_132_code 0 = .ok (.iload_n 1, 1) := by decide +kernel
theorem d_jdk_65_method_132_1 : decode jdk_65_method_132_code 1 = .ok (.ifCond .ne 9, 3) := by decide +kernel
theorem d_jdk_65_method_132_4 : decode jdk_65_method_132_code 4 = .ok (.iload_n 2, 1) := by decide +kernel
theorem d_jdk_65_method_132_5 : decode jdk_65_method_132_code 5 = .ok (.aload_n 0, 1) := by decide +kernel
theorem d_jdk_65_method_132_6 : decode jdk_65_method_132_code 6 = .ok (.arraylength, 1) := by decide +kernel
theorem d_jdk_65_method_132_7 : decode jdk_65_method_132_code 7 = .ok (.if_icmp .eq 10, 3) := by decide +kernel
theorem d_jdk_65_method_132_10 : decode jdk_65_method_132_code 10 = .ok (.aload_n 0, 1) := by decide +kernel
theorem d_jdk_65_method_132_11 : decode jdk_65_method_132_code 11 = .ok (.iload_n 1, 1) := by decide +kernel
theorem d_jdk_65_method_132_12 : decode jdk_65_method_132_code 12 = .ok (.iload_n 2, 1) := by decide +kernel
theorem pd_74 : parseMethodDescriptor "([BII)[B" = some ⟨[(.array .byte), .int, .int], some (.array .byte)⟩ := by decide +kernel
theorem d_jdk_65_method_132_13 : decode jdk_65_method_132_code 13 = .ok (.invokestatic 339, 3) := by decide +kernel
theorem d_jdk_65_method_132_16 : decode jdk_65_method_132_code 16 = .ok (.areturn, 1) := by decide +kernel
def Q_cor (Z : State) (a1 : Nat) (p2 : Int32) (p3 : Int32) (i : Nat) (j : Nat) (cs : List Int32) (cap : Nat) (k : ClassId) (h0 : Heap) (v : Option Value) (h : Heap) (L : List Loc) : Prop := ∃ (x : Nat), ∃ (kx : ClassId), v = some (.ref x) ∧ Fr Z.heap.size L ∧ Keep h0 h [] ∧ Arv Z h x kx .byte (Int32.ofNat (j - i)) (own_low ((cs.drop i).take (j - i))) (.int (0 : Int32)) ∧ (h0.size ≤ x)
set_option maxRecDepth 65536 in
set_option maxHeartbeats 40000000 in
theorem rm_cor (l : Launch) (Z : State) (a0 : Array Value) (hw : ∀ d ∈ tables_1, d.before a0 Z = true) (ws : List Jvm.Cond) (a1 : Nat) (p2 : Int32) (p3 : Int32) (i : Nat) (j : Nat) (cs : List Int32) (cap : Nat) (k : ClassId) (h0 : Heap) (OL : Old Z Z.heap.size h0) (p0_ : Arv Z h0 a1 k .byte (Int32.ofNat cap) (own_low cs) (.int (0 : Int32))) (hp2 : p2 = Int32.ofNat i) (hp3 : p3 = Int32.ofNat j) (hij : i ≤ j) (hj : j ≤ cs.length) (hcs : cs.length ≤ cap) (hcap : cap ≤ 100) (hmx : j - i ≤ 8) (hnw : ¬ (i = 0 ∧ j = cap)) :
    MetFree l (⟨"java/util/Arrays", "copyOfRange", "([BII)[B"⟩ : MethodName) (head1 (Jvm.Cond.code (⟨"java/util/Arrays", "copyOfRange", "([BII)[B"⟩ : MethodName) jdk_65_method_132_code 3 (some (.array .byte)) :: ws) ({ frames := 2, cells := 1, slots := 8, locals := 56 } : Room)) (fun a U => a = #[(.ref a1), (.int p2), (.int p3)] ∧ Z.Warmed39 U.vm ∧ U.heap = h0) (fun _ _ _ _ _ => True) (fun _ U o U' => ∃ v L, o = .returned v ∧ Q_cor Z a1 p2 p3 i j cs cap k h0 v U'.heap L ∧ FrameEnd U o U' L ({ frames := 2, cells := 1, slots := 8, locals := 56 } : Room).cells ({ frames := 2, cells := 1, slots := 8, locals := 56 } : Room).slots) := by
  refine MetFree.of_bodySF (plainFor_of_name pn_33) hisR ?_
  intro p e s m args below meth c s₁ Bd hml0 hP hK
  obtain ⟨rfl, hZ, hh⟩ := hP
  have hx := Bd.exec
  have hby := Bd.bytes
  have hml : c.maxLocals = 3 := hml0
  have hown : s.vm.findClass "java/util/Arrays" = some m.cls := findClass_of_methodNamed Bd.named
  have hnm := (name_of_methodNamed Bd.named Bd.method).1
  have X0 : Stand p l e ({ frames := 2, cells := 1, slots := 8, locals := 56 } : Room) s m #[(.ref a1), (.int p2), (.int p3)] below meth c s₁ [] 0 0 := Stand.of_body Bd
  have e0 : s₁.heap = h0 := by rw [← hh, Bd.state]; rfl
  have N0 := Fr.nil Z.heap.size
  have Z0 : Z.heap.size ≤ h0.size := OL.2.1
  have lt_0 : @LT.lt Nat _ a1 h0.size := p0_.lt
  obtain ⟨PP, hPP⟩ : ∃ PP : Outcome → State → Prop, PP = (fun o tE => ∃ v L, o = .returned v ∧ Q_cor Z a1 p2 p3 i j cs cap k h0 v tE.heap L ∧ FrameEnd s o tE L ({ frames := 2, cells := 1, slots := 8, locals := 56 } : Room).cells ({ frames := 2, cells := 1, slots := 8, locals := 56 } : Room).slots) := ⟨_, rfl⟩
  show own_Go p.tables e below (fun o tE => ∃ v L, o = .returned v ∧ Q_cor Z a1 p2 p3 i j cs cap k h0 v tE.heap L ∧ FrameEnd s o tE L ({ frames := 2, cells := 1, slots := 8, locals := 56 } : Room).cells ({ frames := 2, cells := 1, slots := 8, locals := 56 } : Room).slots) (s₁.setTop (entryFrame m #[(.ref a1), (.int p2), (.int p3)] 3))
  rw [← hPP]
  refine own_Go.st (fun t k => castTop (ef_64 m a1 p2 p3) k) ?_
  subst hp2 hp3
  show own_Go _ _ _ _ (s₁.setTop (mkF m 0 #[.val (.ref a1), .val (.int (Int32.ofNat i)), .val (.int (Int32.ofNat j))] []))
  refine own_Go.st (fun _ k => XS.iloadN X0.here hx rfl (hb hby d_jdk_65_method_132_0) rfl k) ?_
  show own_Go _ _ _ _ (s₁.setTop (mkF m 1 #[.val (.ref a1), .val (.int (Int32.ofNat i)), .val (.int (Int32.ofNat j))] [(.int (Int32.ofNat i))]))
  by_cases h1 : (Int32.ofNat i) = (0 : Int32)
  ·
    refine own_Go.st (fun _ k => XS.ifNo X0.here hx rfl (hb hby d_jdk_65_method_132_1) rfl ((if0 _ _).trans (teq h1).2) k) ?_
    show own_Go _ _ _ _ (s₁.setTop (mkF m 4 #[.val (.ref a1), .val (.int (Int32.ofNat i)), .val (.int (Int32.ofNat j))] []))
    refine own_Go.st (fun _ k => XS.iloadN X0.here hx rfl (hb hby d_jdk_65_method_132_4) rfl k) ?_
    show own_Go _ _ _ _ (s₁.setTop (mkF m 5 #[.val (.ref a1), .val (.int (Int32.ofNat i)), .val (.int (Int32.ofNat j))] [(.int (Int32.ofNat j))]))
    refine own_Go.st (fun _ k => XS.aloadN X0.here hx rfl (hb hby d_jdk_65_method_132_5) rfl rfl k) ?_
    show own_Go _ _ _ _ (s₁.setTop (mkF m 6 #[.val (.ref a1), .val (.int (Int32.ofNat i)), .val (.int (Int32.ofNat j))] [(.ref a1), (.int (Int32.ofNat j))]))
    obtain ⟨c156, Ar156, q156, S156, Nn156, H156, G156⟩ := id p0_
    refine own_Go.st (X0.arraylength hx (own_rwE e0 Ar156.1) (State.isArrayOf_alike hZ.alike Ar156.2.1) (g := (mkF m 6 #[.val (.ref a1), .val (.int (Int32.ofNat i)), .val (.int (Int32.ofNat j))] [(.ref a1), (.int (Int32.ofNat j))])) rfl rfl (hb hby d_jdk_65_method_132_6)) ?_
    rw [len_of S156 Nn156]
    show own_Go _ _ _ _ (s₁.setTop (mkF m 7 #[.val (.ref a1), .val (.int (Int32.ofNat i)), .val (.int (Int32.ofNat j))] [(.int (Int32.ofNat cap)), (.int (Int32.ofNat j))]))
    have hc157 : ¬ ((Int32.ofNat j) = (Int32.ofNat cap)) := fun q => hnw ⟨(own_ofE (by omega) (by omega)).mp h1, (own_ofE (by omega) (by omega)).mp q⟩
    refine own_Go.st (fun _ k => XS.icmpNo X0.here hx rfl (hb hby d_jdk_65_method_132_7) rfl (feq hc157).1 k) ?_
    show own_Go _ _ _ _ (s₁.setTop (mkF m 10 #[.val (.ref a1), .val (.int (Int32.ofNat i)), .val (.int (Int32.ofNat j))] []))
    refine own_Go.st (fun _ k => XS.aloadN X0.here hx rfl (hb hby d_jdk_65_method_132_10) rfl rfl k) ?_
    show own_Go _ _ _ _ (s₁.setTop (mkF m 11 #[.val (.ref a1), .val (.int (Int32.ofNat i)), .val (.int (Int32.ofNat j))] [(.ref a1)]))
    refine own_Go.st (fun _ k => XS.iloadN X0.here hx rfl (hb hby d_jdk_65_method_132_11) rfl k) ?_
    show own_Go _ _ _ _ (s₁.setTop (mkF m 12 #[.val (.ref a1), .val (.int (Int32.ofNat i)), .val (.int (Int32.ofNat j))] [(.int (Int32.ofNat i)), (.ref a1)]))
    refine own_Go.st (fun _ k => XS.iloadN X0.here hx rfl (hb hby d_jdk_65_method_132_12) rfl k) ?_
    show own_Go _ _ _ _ (s₁.setTop (mkF m 13 #[.val (.ref a1), .val (.int (Int32.ofNat i)), .val (.int (Int32.ofNat j))] [(.int (Int32.ofNat j)), (.int (Int32.ofNat i)), (.ref a1)]))
    obtain ⟨_, _, ⟨T158, L158, k158, n158⟩, -, X158, ⟨Lc158, hQ158, l158, y158, z158⟩, st158⟩ := Jvm.LawKit.callS X0 hx (y := (⟨"java/util/Arrays", "copyOfRangeByte", "([BII)[B"⟩ : MethodName)) hown (mvT hZ (hw _ (List.mem_of_getElem? (i := 137) rfl))) (mvT hZ (hw _ (List.mem_of_getElem? (i := 138) rfl))) (mvT hZ (hw _ (List.mem_of_getElem? (i := 135) rfl))) (mvT hZ (hw _ (List.mem_of_getElem? (i := 139) rfl))) (by decide) (backOf (W := 0) (rm_corb l Z a0 hw [] a1 (Int32.ofNat i) (Int32.ofNat j) i j cs cap k h0 OL p0_ rfl rfl (by first | assumption | decide) (by first | assumption | decide) (by first | assumption | decide) (by first | assumption | decide) (by first | assumption | decide)) hZ (hw _ (List.mem_of_getElem? (i := 139) rfl)) (hw _ (List.mem_of_getElem? (i := 135) rfl)) (by decide) (by decide)) (g := (mkF m 13 #[.val (.ref a1), .val (.int (Int32.ofNat i)), .val (.int (Int32.ofNat j))] [(.int (Int32.ofNat j)), (.int (Int32.ofNat i)), (.ref a1)])) rfl (by rw [hml]; rfl) (argsL := [(.ref a1), (.int (Int32.ofNat i)), (.int (Int32.ofNat j))]) (rest := []) (lenOf pd_74 rfl) rfl (by show 2 * 0 + _ ≤ _; exact Nat.le_of_eq rfl) (hb hby d_jdk_65_method_132_13) (fun _ _ => ⟨rfl, e0, (by decide : 0 + 1 ≤ _), (by decide : 0 + 8 ≤ _)⟩)
    dsimp only [Pt.U, Pt.locs, Pt.cells, Pt.slots] at X158 l158 y158 z158 st158 hQ158
    subst l158 y158 z158
    obtain ⟨x_158, kx_158, rfl, N158q, K158, f158_0, pr158_0⟩ := hQ158
    have N158 := Fr.app N0 N158q
    have z158 : h0.size ≤ T158.heap.size := K158.1
    have lt158_0 : @LT.lt Nat _ x_158 T158.heap.size := f158_0.lt
    refine own_Go.st st158 ?_
    show own_Go _ _ _ _ (T158.setTop (mkF m 16 #[.val (.ref a1), .val (.int (Int32.ofNat i)), .val (.int (Int32.ofNat j))] [(.ref x_158)]))
    obtain ⟨fs159, hr159, hrun159, hend159, hW159, hsm159⟩ := X158.leave (v := some (.ref x_158)) (fun h => by rw [Bd.returns] at h; cases h)
    have K160 : Keep h0 T158.heap [] := (Keep.refl h0 []).trans K158 all0
    subst hPP
    refine ⟨_, _, own_retA X158 hx Bd.returns rfl rfl (hb hby d_jdk_65_method_132_16) hr159, hrun159, hend159, _, _, rfl, ?_, ⟨_, rfl⟩, hW159, hsm159.mono (by decide) (by decide)⟩
    · show Q_cor Z _ _ _ _ _ _ _ _ h0 _ T158.heap _
      exact ⟨x_158, kx_158, rfl, N158, K160, f158_0, (by omega)⟩
  ·
    refine own_Go.st (fun _ k => XS.ifYes X0.here hx rfl (pc0 := 1) (pc' := 10) rfl (hb hby d_jdk_65_method_132_1) rfl ((if0 _ _).trans (feq h1).2) (by decide) (by decide) k) ?_
    show own_Go _ _ _ _ (s₁.setTop (mkF m 10 #[.val (.ref a1), .val (.int (Int32.ofNat i)), .val (.int (Int32.ofNat j))] []))
    refine own_Go.st (fun _ k => XS.aloadN X0.here hx rfl (hb hby d_jdk_65_method_132_10) rfl rfl k) ?_
    show own_Go _ _ _ _ (s₁.setTop (mkF m 11 #[.val (.ref a1), .val (.int (Int32.ofNat i)), .val (.int (Int32.ofNat j))] [(.ref a1)]))
    refine own_Go.st (fun _ k => XS.iloadN X0.here hx rfl (hb hby d_jdk_65_method_132_11) rfl k) ?_
    show own_Go _ _ _ _ (s₁.setTop (mkF m 12 #[.val (.ref a1), .val (.int (Int32.ofNat i)), .val (.int (Int32.ofNat j))] [(.int (Int32.ofNat i)), (.ref a1)]))
    refine own_Go.st (fun _ k => XS.iloadN X0.here hx rfl (hb hby d_jdk_65_method_132_12) rfl k) ?_
    show own_Go _ _ _ _ (s₁.setTop (mkF m 13 #[.val (.ref a1), .val (.int (Int32.ofNat i)), .val (.int (Int32.ofNat j))] [(.int (Int32.ofNat j)), (.int (Int32.ofNat i)), (.ref a1)]))
    obtain ⟨_, _, ⟨T161, L161, k161, n161⟩, -, X161, ⟨Lc161, hQ161, l161, y161, z161⟩, st161⟩ := Jvm.LawKit.callS X0 hx (y := (⟨"java/util/Arrays", "copyOfRangeByte", "([BII)[B"⟩ : MethodName)) hown (mvT hZ (hw _ (List.mem_of_getElem? (i := 137) rfl))) (mvT hZ (hw _ (List.mem_of_getElem? (i := 138) rfl))) (mvT hZ (hw _ (List.mem_of_getElem? (i := 135) rfl))) (mvT hZ (hw _ (List.mem_of_getElem? (i := 139) rfl))) (by decide) (backOf (W := 0) (rm_corb l Z a0 hw [] a1 (Int32.ofNat i) (Int32.ofNat j) i j cs cap k h0 OL p0_ rfl rfl (by first | assumption | decide) (by first | assumption | decide) (by first | assumption | decide) (by first | assumption | decide) (by first | assumption | decide)) hZ (hw _ (List.mem_of_getElem? (i := 139) rfl)) (hw _ (List.mem_of_getElem? (i := 135) rfl)) (by decide) (by decide)) (g := (mkF m 13 #[.val (.ref a1), .val (.int (Int32.ofNat i)), .val (.int (Int32.ofNat j))] [(.int (Int32.ofNat j)), (.int (Int32.ofNat i)), (.ref a1)])) rfl (by rw [hml]; rfl) (argsL := [(.ref a1), (.int (Int32.ofNat i)), (.int (Int32.ofNat j))]) (rest := []) (lenOf pd_74 rfl) rfl (by show 2 * 0 + _ ≤ _; exact Nat.le_of_eq rfl) (hb hby d_jdk_65_method_132_13) (fun _ _ => ⟨rfl, e0, (by decide : 0 + 1 ≤ _), (by decide : 0 + 8 ≤ _)⟩)
    dsimp only [Pt.U, Pt.locs, Pt.cells, Pt.slots] at X161 l161 y161 z161 st161 hQ161
    subst l161 y161 z161
    obtain ⟨x_161, kx_161, rfl, N161q, K161, f161_0, pr161_0⟩ := hQ161
    have N161 := Fr.app N0 N161q
    have z161 : h0.size ≤ T161.heap.size := K161.1
    have lt161_0 : @LT.lt Nat _ x_161 T161.heap.size := f161_0.lt
    refine own_Go.st st161 ?_
    show own_Go _ _ _ _ (T161.setTop (mkF m 16 #[.val (.ref a1), .val (.int (Int32.ofNat i)), .val (.int (Int32.ofNat j))] [(.ref x_161)]))
    obtain ⟨fs162, hr162, hrun162, hend162, hW162, hsm162⟩ := X161.leave (v := some (.ref x_161)) (fun h => by rw [Bd.returns] at h; cases h)
    have K163 : Keep h0 T161.heap [] := (Keep.refl h0 []).trans K161 all0
    subst hPP
    refine ⟨_, _, own_retA X161 hx Bd.returns rfl rfl (hb hby d_jdk_65_method_132_16) hr162, hrun162, hend162, _, _, rfl, ?_, ⟨_, rfl⟩, hW162, hsm162.mono (by decide) (by decide)⟩
    · show Q_cor Z _ _ _ _ _ _ _ _ h0 _ T161.heap _
      exact ⟨x_161, kx_161, rfl, N161, K163, f161_0, (by omega)⟩
theorem ef_77 (m : MethodId) (x0 : Nat) : entryFrame m #[(.ref x0)] 1 = mkF m 0 #[.val (.ref x0)] [] := by first | (simp [entryFrame, mkF, argsToLocals, Value.category]; done) | rfl
theorem d_jdk_42_method_154_0 : decode jdk_42_method_154_code 0 = .ok (.getstatic 38, 3) := by decide +kernel
theorem d_jdk_42_method_154_3 : decode jdk_42_method_154_code 3 = .ok (.ifCond .eq 14, 3) := by decide +kernel
theorem d_jdk_42_method_154_6 : decode jdk_42_method_154_code 6 = .ok (.aload_n 0, 1) := by decide +kernel
theorem d_jdk_42_method_154_7 : decode jdk_42_method_154_code 7 = .ok (.getfield 15, 3) := by decide +kernel
theorem d_jdk_42_method_154_10 : decode jdk_42_method_154_code 10 = .ok (.ifCond .ne 7, 3) := by decide +kernel
theorem d_jdk_42_method_154_13 : decode jdk_42_method_154_code 13 = .ok (.iconst 1, 1) := by decide +kernel
theorem d_jdk_42_method_154_14 : decode jdk_42_method_154_code 14 = .ok (.goto 4, 3) := by decide +kernel
theorem d_jdk_42_method_154_18 : decode jdk_42_method_154_code 18 = .ok (.ireturn, 1) := by decide +kernel
theorem d_jdk_42_method_154_17 : decode jdk_42_method_154_code 17 = .ok (.iconst 0, 1) := by decide +kernel
def Q_isl1 (Z : State) (a1 : Nat) (cd : Int32) (zc : Int32) (h0 : Heap) (v : Option Value) (h : Heap) (L : List Loc) : Prop := v = some (.int (if cd = 0 then (1 : Int32) else 0)) ∧ Fr Z.heap.size L ∧ h = h0
set_option maxRecDepth 65536 in
set_option maxHeartbeats 40000000 in
theorem rm_isl1 (l : Launch) (Z : State) (a0 : Array Value) (hw : ∀ d ∈ tables_1, d.before a0 Z = true) (ws : List Jvm.Cond) (a1 : Nat) (cd : Int32) (zc : Int32) (h0 : Heap) (OL : Old Z Z.heap.size h0) (p0_ : Fld Z h0 a1 "java/lang/String" "coder" "B" (.int cd)) (st_COMPACT_STRINGS : Sta Z Z.heap "java/lang/String" "COMPACT_STRINGS" "Z" (.int zc)) (hzc : ¬ zc = 0) :
    MetFree l (⟨"java/lang/String", "isLatin1", "()Z"⟩ : MethodName) (head1 (Jvm.Cond.code (⟨"java/lang/String", "isLatin1", "()Z"⟩ : MethodName) jdk_42_method_154_code 1 (some .boolean) :: ws) ({ frames := 0, cells := 0, slots := 0, locals := 0 } : Room)) (fun a U => a = #[(.ref a1)] ∧ Z.Warmed39 U.vm ∧ U.heap = h0) (fun _ _ _ _ _ => True) (fun _ U o U' => ∃ v L, o = .returned v ∧ Q_isl1 Z a1 cd zc h0 v U'.heap L ∧ FrameEnd U o U' L ({ frames := 0, cells := 0, slots := 0, locals := 0 } : Room).cells ({ frames := 0, cells := 0, slots := 0, locals := 0 } : Room).slots) := by
  refine MetFree.of_bodySF (plainFor_of_name pn_0) hisR ?_
  intro p e s m args below meth c s₁ Bd hml0 hP hK
  obtain ⟨rfl, hZ, hh⟩ := hP
  have hx := Bd.exec
  have hby := Bd.bytes
  have hml : c.maxLocals = 1 := hml0
  have hown : s.vm.findClass "java/lang/String" = some m.cls := findClass_of_methodNamed Bd.named
  have hnm := (name_of_methodNamed Bd.named Bd.method).1
  have X0 : Stand p l e ({ frames := 0, cells := 0, slots := 0, locals := 0 } : Room) s m #[(.ref a1)] below meth c s₁ [] 0 0 := Stand.of_body Bd
  have e0 : s₁.heap = h0 := by rw [← hh, Bd.state]; rfl
  have N0 := Fr.nil Z.heap.size
  have Z0 : Z.heap.size ≤ h0.size := OL.2.1
  have lt_0 : @LT.lt Nat _ a1 h0.size := p0_.lt
  obtain ⟨PP, hPP⟩ : ∃ PP : Outcome → State → Prop, PP = (fun o tE => ∃ v L, o = .returned v ∧ Q_isl1 Z a1 cd zc h0 v tE.heap L ∧ FrameEnd s o tE L ({ frames := 0, cells := 0, slots := 0, locals := 0 } : Room).cells ({ frames := 0, cells := 0, slots := 0, locals := 0 } : Room).slots) := ⟨_, rfl⟩
  show own_Go p.tables e below (fun o tE => ∃ v L, o = .returned v ∧ Q_isl1 Z a1 cd zc h0 v tE.heap L ∧ FrameEnd s o tE L ({ frames := 0, cells := 0, slots := 0, locals := 0 } : Room).cells ({ frames := 0, cells := 0, slots := 0, locals := 0 } : Room).slots) (s₁.setTop (entryFrame m #[(.ref a1)] 1))
  rw [← hPP]
  refine own_Go.st (fun t k => castTop (ef_77 m a1) k) ?_
  show own_Go _ _ _ _ (s₁.setTop (mkF m 0 #[.val (.ref a1)] []))
  obtain ⟨T164, X164, e164, st164⟩ := getS2 X0 hx hZ hown (host := "") (Or.inl (hw _ (List.mem_of_getElem? (i := 49) rfl))) Via.refl e0 (st_COMPACT_STRINGS.ext OL.2) (g := (mkF m 0 #[.val (.ref a1)] [])) rfl (hb hby d_jdk_42_method_154_0)
  refine own_Go.st st164 ?_
  show own_Go _ _ _ _ (T164.setTop (mkF m 3 #[.val (.ref a1)] [(.int zc)]))
  have hc165 : ¬ (zc = (0 : Int32)) := hzc
  refine own_Go.st (fun _ k => XS.ifNo X164.here hx rfl (hb hby d_jdk_42_method_154_3) rfl ((if0 _ _).trans (feq hc165).1) k) ?_
  show own_Go _ _ _ _ (T164.setTop (mkF m 6 #[.val (.ref a1)] []))
  refine own_Go.st (fun _ k => XS.aloadN X164.here hx rfl (hb hby d_jdk_42_method_154_6) rfl rfl k) ?_
  show own_Go _ _ _ _ (T164.setTop (mkF m 7 #[.val (.ref a1)] [(.ref a1)]))
  obtain ⟨T166, X166, e166, st166⟩ := getF X164 hx hZ hown (host := "") (Or.inl (hw _ (List.mem_of_getElem? (i := 29) rfl))) Via.refl e164 p0_ (g := (mkF m 7 #[.val (.ref a1)] [(.ref a1)])) rfl rfl (hb hby d_jdk_42_method_154_7)
  refine own_Go.st st166 ?_
  show own_Go _ _ _ _ (T166.setTop (mkF m 10 #[.val (.ref a1)] [(.int cd)]))
  by_cases hc167 : cd = (0 : Int32)
  ·
    refine own_Go.st (fun _ k => XS.ifNo X166.here hx rfl (hb hby d_jdk_42_method_154_10) rfl ((if0 _ _).trans (teq hc167).2) k) ?_
    show own_Go _ _ _ _ (T166.setTop (mkF m 13 #[.val (.ref a1)] []))
    refine own_Go.st (fun _ k => XS.iconst X166.here hx rfl (hb hby d_jdk_42_method_154_13) k) ?_
    show own_Go _ _ _ _ (T166.setTop (mkF m 14 #[.val (.ref a1)] [(.int (1 : Int32))]))
    refine own_Go.st (fun _ k => XS.goto X166.here hx rfl (pc0 := 14) (pc' := 18) rfl (hb hby d_jdk_42_method_154_14) (by decide) (by decide) k) ?_
    show own_Go _ _ _ _ (T166.setTop (mkF m 18 #[.val (.ref a1)] [(.int (1 : Int32))]))
    obtain ⟨fs168, hr168, hrun168, hend168, hW168, hsm168⟩ := X166.leave (v := some (.int (nar .boolean (1 : Int32)))) (fun h => by rw [Bd.returns] at h; cases h)
    subst hPP
    refine ⟨_, _, retN X166 hx (t := .boolean) Bd.returns (by simp) (hb hby d_jdk_42_method_154_18) hr168, hrun168, hend168, _, _, rfl, ?_, ⟨_, rfl⟩, hW168, hsm168.mono (by decide) (by decide)⟩
    · show Q_isl1 Z _ _ _ h0 _ T166.heap _
      rw [e166]
      exact ⟨(by rw [if_pos hc167]; rfl), N0, rfl⟩
  ·
    refine own_Go.st (fun _ k => XS.ifYes X166.here hx rfl (pc0 := 10) (pc' := 17) rfl (hb hby d_jdk_42_method_154_10) rfl ((if0 _ _).trans (feq hc167).2) (by decide) (by decide) k) ?_
    show own_Go _ _ _ _ (T166.setTop (mkF m 17 #[.val (.ref a1)] []))
    refine own_Go.st (fun _ k => XS.iconst X166.here hx rfl (hb hby d_jdk_42_method_154_17) k) ?_
    show own_Go _ _ _ _ (T166.setTop (mkF m 18 #[.val (.ref a1)] [(.int (0 : Int32))]))
    obtain ⟨fs169, hr169, hrun169, hend169, hW169, hsm169⟩ := X166.leave (v := some (.int (nar .boolean (0 : Int32)))) (fun h => by rw [Bd.returns] at h; cases h)
    subst hPP
    refine ⟨_, _, retN X166 hx (t := .boolean) Bd.returns (by simp) (hb hby d_jdk_42_method_154_18) hr169, hrun169, hend169, _, _, rfl, ?_, ⟨_, rfl⟩, hW169, hsm169.mono (by decide) (by decide)⟩
    · show Q_isl1 Z _ _ _ h0 _ T166.heap _
      rw [e166]
      exact ⟨(by rw [if_neg hc167]; rfl), N0, rfl⟩
theorem pn_87 : plainName "jdk/internal/util/Preconditions" = true := by first | (simp [plainName, overriddenIn]; done) | decide +kernel
theorem ef_88 (m : MethodId) (x0 : Int32) (x1 : Int32) (x2 : Int32) (x3 : Value) (hx3 : x3.isRef = true) : entryFrame m #[(.int x0), (.int x1), (.int x2), x3] 4 = mkF m 0 #[.val (.int x0), .val (.int x1), .val (.int x2), .val x3] [] := by rcases ref_cases hx3 with rfl | ⟨_, rfl⟩ <;> first | (simp [entryFrame, mkF, argsToLocals, Value.category]; done) | rfl
theorem d_jdk_41_method_12_0 : decode jdk_41_method_12_code 0 = .ok (.iload_n 0, 1) := by decide +kernel
theorem d_jdk_41_method_12_1 : decode jdk_41_method_12_code 1 = .ok (.ifCond .lt 13, 3) := by decide +kernel
theorem d_jdk_41_method_12_4 : decode jdk_41_method_12_code 4 = .ok (.iload_n 0, 1) := by decide +kernel
theorem d_jdk_41_method_12_5 : decode jdk_41_method_12_code 5 = .ok (.iload_n 1, 1) := by decide +kernel
theorem d_jdk_41_method_12_6 : decode jdk_41_method_12_code 6 = .ok (.if_icmp .gt 8, 3) := by decide +kernel
theorem d_jdk_41_method_12_9 : decode jdk_41_method_12_code 9 = .ok (.iload_n 1, 1) := by decide +kernel
theorem d_jdk_41_method_12_10 : decode jdk_41_method_12_code 10 = .ok (.iload_n 2, 1) := by decide +kernel
theorem d_jdk_41_method_12_11 : decode jdk_41_method_12_code 11 = .ok (.if_icmp .le 11, 3) := by decide +kernel
theorem d_jdk_41_method_12_22 : decode jdk_41_method_12_code 22 = .ok (.iload_n 0, 1) := by decide +kernel
theorem d_jdk_41_method_12_23 : decode jdk_41_method_12_code 23 = .ok (.ireturn, 1) := by decide +kernel
def Q_pcft (Z : State) (p1 : Int32) (p2 : Int32) (p3 : Int32) (fm : Value) (h0 : Heap) (v : Option Value) (h : Heap) (L : List Loc) : Prop := v = some (.int p1) ∧ Fr Z.heap.size L ∧ h = h0
set_option maxRecDepth 65536 in
set_option maxHeartbeats 40000000 in
theorem rm_pcft (l : Launch) (Z : State) (a0 : Array Value) (hw : ∀ d ∈ tables_1, d.before a0 Z = true) (ws : List Jvm.Cond) (p1 : Int32) (p2 : Int32) (p3 : Int32) (fm : Value) (h0 : Heap) (OL : Old Z Z.heap.size h0) (h1 : ¬ p1 < 0) (h2 : ¬ p2 < p1) (h3 : ¬ p3 < p2) (hfm : fm.isRef = true) :
    MetFree l (⟨"jdk/internal/util/Preconditions", "checkFromToIndex", "(IIILjava/util/function/BiFunction;)I"⟩ : MethodName) (head1 (Jvm.Cond.code (⟨"jdk/internal/util/Preconditions", "checkFromToIndex", "(IIILjava/util/function/BiFunction;)I"⟩ : MethodName) jdk_41_method_12_code 4 (some .int) :: ws) ({ frames := 0, cells := 0, slots := 0, locals := 0 } : Room)) (fun a U => a = #[(.int p1), (.int p2), (.int p3), fm] ∧ Z.Warmed39 U.vm ∧ U.heap = h0) (fun _ _ _ _ _ => True) (fun _ U o U' => ∃ v L, o = .returned v ∧ Q_pcft Z p1 p2 p3 fm h0 v U'.heap L ∧ FrameEnd U o U' L ({ frames := 0, cells := 0, slots := 0, locals := 0 } : Room).cells ({ frames := 0, cells := 0, slots := 0, locals := 0 } : Room).slots) := by
  refine MetFree.of_bodySF (plainFor_of_name pn_87) hisR ?_
  intro p e s m args below meth c s₁ Bd hml0 hP hK
  obtain ⟨rfl, hZ, hh⟩ := hP
  have hx := Bd.exec
  have hby := Bd.bytes
  have hml : c.maxLocals = 4 := hml0
  have hown : s.vm.findClass "jdk/internal/util/Preconditions" = some m.cls := findClass_of_methodNamed Bd.named
  have hnm := (name_of_methodNamed Bd.named Bd.method).1
  have X0 : Stand p l e ({ frames := 0, cells := 0, slots := 0, locals := 0 } : Room) s m #[(.int p1), (.int p2), (.int p3), fm] below meth c s₁ [] 0 0 := Stand.of_body Bd
  have e0 : s₁.heap = h0 := by rw [← hh, Bd.state]; rfl
  have N0 := Fr.nil Z.heap.size
  have Z0 : Z.heap.size ≤ h0.size := OL.2.1
  obtain ⟨PP, hPP⟩ : ∃ PP : Outcome → State → Prop, PP = (fun o tE => ∃ v L, o = .returned v ∧ Q_pcft Z p1 p2 p3 fm h0 v tE.heap L ∧ FrameEnd s o tE L ({ frames := 0, cells := 0, slots := 0, locals := 0 } : Room).cells ({ frames := 0, cells := 0, slots := 0, locals := 0 } : Room).slots) := ⟨_, rfl⟩
  show own_Go p.tables e below (fun o tE => ∃ v L, o = .returned v ∧ Q_pcft Z p1 p2 p3 fm h0 v tE.heap L ∧ FrameEnd s o tE L ({ frames := 0, cells := 0, slots := 0, locals := 0 } : Room).cells ({ frames := 0, cells := 0, slots := 0, locals := 0 } : Room).slots) (s₁.setTop (entryFrame m #[(.int p1), (.int p2), (.int p3), fm] 4))
  rw [← hPP]
  refine own_Go.st (fun t k => castTop (ef_88 m p1 p2 p3 fm hfm) k) ?_
  show own_Go _ _ _ _ (s₁.setTop (mkF m 0 #[.val (.int p1), .val (.int p2), .val (.int p3), .val fm] []))
  refine own_Go.st (fun _ k => XS.iloadN X0.here hx rfl (hb hby d_jdk_41_method_12_0) rfl k) ?_
  show own_Go _ _ _ _ (s₁.setTop (mkF m 1 #[.val (.int p1), .val (.int p2), .val (.int p3), .val fm] [(.int p1)]))
  have hc170 : ¬ (p1 < (0 : Int32)) := h1
  refine own_Go.st (fun _ k => XS.ifNo X0.here hx rfl (hb hby d_jdk_41_method_12_1) rfl ((if0 _ _).trans (flt hc170).1) k) ?_
  show own_Go _ _ _ _ (s₁.setTop (mkF m 4 #[.val (.int p1), .val (.int p2), .val (.int p3), .val fm] []))
  refine own_Go.st (fun _ k => XS.iloadN X0.here hx rfl (hb hby d_jdk_41_method_12_4) rfl k) ?_
  show own_Go _ _ _ _ (s₁.setTop (mkF m 5 #[.val (.int p1), .val (.int p2), .val (.int p3), .val fm] [(.int p1)]))
  refine own_Go.st (fun _ k => XS.iloadN X0.here hx rfl (hb hby d_jdk_41_method_12_5) rfl k) ?_
  show own_Go _ _ _ _ (s₁.setTop (mkF m 6 #[.val (.int p1), .val (.int p2), .val (.int p3), .val fm] [(.int p2), (.int p1)]))
  have hc171 : ¬ (p2 < p1) := h2
  refine own_Go.st (fun _ k => XS.icmpNo X0.here hx rfl (hb hby d_jdk_41_method_12_6) rfl (flt hc171).2.2.1 k) ?_
  show own_Go _ _ _ _ (s₁.setTop (mkF m 9 #[.val (.int p1), .val (.int p2), .val (.int p3), .val fm] []))
  refine own_Go.st (fun _ k => XS.iloadN X0.here hx rfl (hb hby d_jdk_41_method_12_9) rfl k) ?_
  show own_Go _ _ _ _ (s₁.setTop (mkF m 10 #[.val (.int p1), .val (.int p2), .val (.int p3), .val fm] [(.int p2)]))
  refine own_Go.st (fun _ k => XS.iloadN X0.here hx rfl (hb hby d_jdk_41_method_12_10) rfl k) ?_
  show own_Go _ _ _ _ (s₁.setTop (mkF m 11 #[.val (.int p1), .val (.int p2), .val (.int p3), .val fm] [(.int p3), (.int p2)]))
  have hc172 : ¬ (p3 < p2) := h3
  refine own_Go.st (fun _ k => XS.icmpYes X0.here hx rfl (pc0 := 11) (pc' := 22) rfl (hb hby d_jdk_41_method_12_11) rfl (flt hc172).2.2.2 (by decide) (by decide) k) ?_
  show own_Go _ _ _ _ (s₁.setTop (mkF m 22 #[.val (.int p1), .val (.int p2), .val (.int p3), .val fm] []))
  refine own_Go.st (fun _ k => XS.iloadN X0.here hx rfl (hb hby d_jdk_41_method_12_22) rfl k) ?_
  show own_Go _ _ _ _ (s₁.setTop (mkF m 23 #[.val (.int p1), .val (.int p2), .val (.int p3), .val fm] [(.int p1)]))
  obtain ⟨fs173, hr173, hrun173, hend173, hW173, hsm173⟩ := X0.leave (v := some (.int p1)) (fun h => by rw [Bd.returns] at h; cases h)
  subst hPP
  refine ⟨_, _, own_retI X0 hx Bd.returns (hb hby d_jdk_41_method_12_23) hr173, hrun173, hend173, _, _, rfl, ?_, ⟨_, rfl⟩, hW173, hsm173.mono (by decide) (by decide)⟩
  · show Q_pcft Z _ _ _ _ h0 _ s₁.heap _
    rw [e0]
    exact ⟨rfl, N0, rfl⟩
theorem ef_99 (m : MethodId) (x0 : Int32) (x1 : Int32) (x2 : Int32) : entryFrame m #[(.int x0), (.int x1), (.int x2)] 3 = mkF m 0 #[.val (.int x0), .val (.int x1), .val (.int x2)] [] := by first | (simp [entryFrame, mkF, argsToLocals, Value.category]; done) | rfl
theorem d_jdk_42_method_158_0 : decode jdk_42_method_158_code 0 = .ok (.iload_n 0, 1) := by decide +kernel
theorem d_jdk_42_method_158_1 : decode jdk_42_method_158_code 1 = .ok (.iload_n 1, 1) := by decide +kernel
theorem d_jdk_42_method_158_2 : decode jdk_42_method_158_code 2 = .ok (.iload_n 2, 1) := by decide +kernel
theorem d_jdk_42_method_158_3 : decode jdk_42_method_158_code 3 = .ok (.getstatic 1053, 3) := by decide +kernel
theorem pd_104 : parseMethodDescriptor "(IIILjava/util/function/BiFunction;)I" = some ⟨[.int, .int, .int, (.object "java/util/function/BiFunction")], some .int⟩ := by decide +kernel
theorem d_jdk_42_method_158_6 : decode jdk_42_method_158_code 6 = .ok (.invokestatic 1062, 3) := by decide +kernel
theorem d_jdk_42_method_158_9 : decode jdk_42_method_158_code 9 = .ok (.pop, 1) := by decide +kernel
theorem d_jdk_42_method_158_10 : decode jdk_42_method_158_code 10 = .ok (.return_, 1) := by decide +kernel
def Q_cbbe (Z : State) (p1 : Int32) (p2 : Int32) (p3 : Int32) (fm : Value) (h0 : Heap) (v : Option Value) (h : Heap) (L : List Loc) : Prop := v = none ∧ Fr Z.heap.size L ∧ h = h0
set_option maxRecDepth 65536 in
set_option maxHeartbeats 40000000 in
theorem rm_cbbe (l : Launch) (Z : State) (a0 : Array Value) (hw : ∀ d ∈ tables_1, d.before a0 Z = true) (ws : List Jvm.Cond) (p1 : Int32) (p2 : Int32) (p3 : Int32) (fm : Value) (h0 : Heap) (OL : Old Z Z.heap.size h0) (st_SIOOBE_FORMATTER : Sta Z Z.heap "jdk/internal/util/Preconditions" "SIOOBE_FORMATTER" "Ljava/util/function/BiFunction;" fm) (h1 : ¬ p1 < 0) (h2 : ¬ p2 < p1) (h3 : ¬ p3 < p2) (hfm : fm.isRef = true) :
    MetFree l (⟨"java/lang/String", "checkBoundsBeginEnd", "(III)V"⟩ : MethodName) (head1 (Jvm.Cond.code (⟨"java/lang/String", "checkBoundsBeginEnd", "(III)V"⟩ : MethodName) jdk_42_method_158_code 3 none :: ws) ({ frames := 1, cells := 0, slots := 0, locals := 15 } : Room)) (fun a U => a = #[(.int p1), (.int p2), (.int p3)] ∧ Z.Warmed39 U.vm ∧ U.heap = h0) (fun _ _ _ _ _ => True) (fun _ U o U' => ∃ v L, o = .returned v ∧ Q_cbbe Z p1 p2 p3 fm h0 v U'.heap L ∧ FrameEnd U o U' L ({ frames := 1, cells := 0, slots := 0, locals := 15 } : Room).cells ({ frames := 1, cells := 0, slots := 0, locals := 15 } : Room).slots) := by
  refine MetFree.of_bodySF (plainFor_of_name pn_0) hisR ?_
  intro p e s m args below meth c s₁ Bd hml0 hP hK
  obtain ⟨rfl, hZ, hh⟩ := hP
  have hx := Bd.exec
  have hby := Bd.bytes
  have hml : c.maxLocals = 3 := hml0
  have hown : s.vm.findClass "java/lang/String" = some m.cls := findClass_of_methodNamed Bd.named
  have hnm := (name_of_methodNamed Bd.named Bd.method).1
  have X0 : Stand p l e ({ frames := 1, cells := 0, slots := 0, locals := 15 } : Room) s m #[(.int p1), (.int p2), (.int p3)] below meth c s₁ [] 0 0 := Stand.of_body Bd
  have e0 : s₁.heap = h0 := by rw [← hh, Bd.state]; rfl
  have N0 := Fr.nil Z.heap.size
  have Z0 : Z.heap.size ≤ h0.size := OL.2.1
  obtain ⟨PP, hPP⟩ : ∃ PP : Outcome → State → Prop, PP = (fun o tE => ∃ v L, o = .returned v ∧ Q_cbbe Z p1 p2 p3 fm h0 v tE.heap L ∧ FrameEnd s o tE L ({ frames := 1, cells := 0, slots := 0, locals := 15 } : Room).cells ({ frames := 1, cells := 0, slots := 0, locals := 15 } : Room).slots) := ⟨_, rfl⟩
  show own_Go p.tables e below (fun o tE => ∃ v L, o = .returned v ∧ Q_cbbe Z p1 p2 p3 fm h0 v tE.heap L ∧ FrameEnd s o tE L ({ frames := 1, cells := 0, slots := 0, locals := 15 } : Room).cells ({ frames := 1, cells := 0, slots := 0, locals := 15 } : Room).slots) (s₁.setTop (entryFrame m #[(.int p1), (.int p2), (.int p3)] 3))
  rw [← hPP]
  refine own_Go.st (fun t k => castTop (ef_99 m p1 p2 p3) k) ?_
  show own_Go _ _ _ _ (s₁.setTop (mkF m 0 #[.val (.int p1), .val (.int p2), .val (.int p3)] []))
  refine own_Go.st (fun _ k => XS.iloadN X0.here hx rfl (hb hby d_jdk_42_method_158_0) rfl k) ?_
  show own_Go _ _ _ _ (s₁.setTop (mkF m 1 #[.val (.int p1), .val (.int p2), .val (.int p3)] [(.int p1)]))
  refine own_Go.st (fun _ k => XS.iloadN X0.here hx rfl (hb hby d_jdk_42_method_158_1) rfl k) ?_
  show own_Go _ _ _ _ (s₁.setTop (mkF m 2 #[.val (.int p1), .val (.int p2), .val (.int p3)] [(.int p2), (.int p1)]))
  refine own_Go.st (fun _ k => XS.iloadN X0.here hx rfl (hb hby d_jdk_42_method_158_2) rfl k) ?_
  show own_Go _ _ _ _ (s₁.setTop (mkF m 3 #[.val (.int p1), .val (.int p2), .val (.int p3)] [(.int p3), (.int p2), (.int p1)]))
  obtain ⟨T174, X174, e174, st174⟩ := getS2 X0 hx hZ hown (host := "") (Or.inl (hw _ (List.mem_of_getElem? (i := 110) rfl))) Via.refl e0 (st_SIOOBE_FORMATTER.ext OL.2) (g := (mkF m 3 #[.val (.int p1), .val (.int p2), .val (.int p3)] [(.int p3), (.int p2), (.int p1)])) rfl (hb hby d_jdk_42_method_158_3)
  refine own_Go.st st174 ?_
  show own_Go _ _ _ _ (T174.setTop (mkF m 6 #[.val (.int p1), .val (.int p2), .val (.int p3)] [fm, (.int p3), (.int p2), (.int p1)]))
  obtain ⟨_, _, ⟨T175, L175, k175, n175⟩, -, X175, ⟨Lc175, hQ175, l175, y175, z175⟩, st175⟩ := Jvm.LawKit.callS X174 hx (y := (⟨"jdk/internal/util/Preconditions", "checkFromToIndex", "(IIILjava/util/function/BiFunction;)I"⟩ : MethodName)) hown (mvT hZ (hw _ (List.mem_of_getElem? (i := 126) rfl))) (mvT hZ (hw _ (List.mem_of_getElem? (i := 127) rfl))) (mvT hZ (hw _ (List.mem_of_getElem? (i := 111) rfl))) (mvT hZ (hw _ (List.mem_of_getElem? (i := 128) rfl))) (by decide) (backOf (W := 0) (rm_pcft l Z a0 hw [] p1 p2 p3 fm h0 OL (by first | assumption | decide) (by first | assumption | decide) (by first | assumption | decide) (by first | assumption | decide)) hZ (hw _ (List.mem_of_getElem? (i := 128) rfl)) (hw _ (List.mem_of_getElem? (i := 111) rfl)) (by decide) (by decide)) (g := (mkF m 6 #[.val (.int p1), .val (.int p2), .val (.int p3)] [fm, (.int p3), (.int p2), (.int p1)])) rfl (by rw [hml]; rfl) (argsL := [(.int p1), (.int p2), (.int p3), fm]) (rest := []) (lenOf pd_104 rfl) rfl (by show 2 * 0 + _ ≤ _; exact Nat.le_of_eq rfl) (hb hby d_jdk_42_method_158_6) (fun _ _ => ⟨rfl, e174, (by decide : 0 + 0 ≤ _), (by decide : 0 + 0 ≤ _)⟩)
  dsimp only [Pt.U, Pt.locs, Pt.cells, Pt.slots] at X175 l175 y175 z175 st175 hQ175
  subst l175 y175 z175
  obtain ⟨rfl, N175q, K175⟩ := hQ175
  have N175 := Fr.app N0 N175q
  refine own_Go.st st175 ?_
  show own_Go _ _ _ _ (T175.setTop (mkF m 9 #[.val (.int p1), .val (.int p2), .val (.int p3)] [(.int p1)]))
  refine own_Go.st (fun _ k => XS.pop X175.here hx rfl (hb hby d_jdk_42_method_158_9) rfl rfl k) ?_
  show own_Go _ _ _ _ (T175.setTop (mkF m 10 #[.val (.int p1), .val (.int p2), .val (.int p3)] []))
  obtain ⟨fs176, hr176, hrun176, hend176, hW176, hsm176⟩ := X175.leave (v := none) (fun _ => rfl)
  subst hPP
  refine ⟨_, _, X175.returnOut hx Bd.returns (hb hby d_jdk_42_method_158_10) hr176, hrun176, hend176, _, _, rfl, ?_, ⟨_, rfl⟩, hW176, hsm176.mono (by decide) (by decide)⟩
  · show Q_cbbe Z _ _ _ _ h0 _ T175.heap _
    rw [K175]
    exact ⟨rfl, N175, rfl⟩
theorem ef_108 (m : MethodId) (x0 : Nat) (x1 : Nat) (x2 : Int32) : entryFrame m #[(.ref x0), (.ref x1), (.int x2)] 3 = mkF m 0 #[.val (.ref x0), .val (.ref x1), .val (.int x2)] [] := by first | (simp [entryFrame, mkF, argsToLocals, Value.category]; done) | rfl
theorem d_jdk_42_method_151_0 : decode jdk_42_method_151_code 0 = .ok (.aload_n 0, 1) := by decide +kernel
theorem d_jdk_42_method_151_1 : decode jdk_42_method_151_code 1 = .ok (.invokespecial 1, 3) := by decide +kernel
theorem d_jdk_42_method_151_4 : decode jdk_42_method_151_code 4 = .ok (.aload_n 0, 1) := by decide +kernel
theorem d_jdk_42_method_151_5 : decode jdk_42_method_151_code 5 = .ok (.aload_n 1, 1) := by decide +kernel
theorem d_jdk_42_method_151_6 : decode jdk_42_method_151_code 6 = .ok (.putfield 9, 3) := by decide +kernel
theorem d_jdk_42_method_151_9 : decode jdk_42_method_151_code 9 = .ok (.aload_n 0, 1) := by decide +kernel
theorem d_jdk_42_method_151_10 : decode jdk_42_method_151_code 10 = .ok (.iload_n 2, 1) := by decide +kernel
theorem d_jdk_42_method_151_11 : decode jdk_42_method_151_code 11 = .ok (.putfield 15, 3) := by decide +kernel
theorem d_jdk_42_method_151_14 : decode jdk_42_method_151_code 14 = .ok (.return_, 1) := by decide +kernel
def Q_sinitBB (Z : State) (a1 : Nat) (a2 : Nat) (h0 : Heap) (v : Option Value) (h : Heap) (L : List Loc) : Prop := v = none ∧ Fr Z.heap.size L ∧ Keep h0 h [a1] ∧ Exa Z h a1 "java/lang/String" ∧ Fld Z h a1 "java/lang/String" "value" "[B" (.ref a2) ∧ Fld Z h a1 "java/lang/String" "coder" "B" (.int (0 : Int32))
set_option maxRecDepth 65536 in
set_option maxHeartbeats 40000000 in
theorem rm_sinitBB (l : Launch) (Z : State) (a0 : Array Value) (hw : ∀ d ∈ tables_1, d.before a0 Z = true) (ws : List Jvm.Cond) (a1 : Nat) (a2 : Nat) (h0 : Heap) (OL : Old Z Z.heap.size h0) (p0_ : Exa Z h0 a1 "java/lang/String") (p1_ : Fld Z h0 a1 "java/lang/String" "value" "[B" .null) (p2_ : Fld Z h0 a1 "java/lang/String" "coder" "B" (.int (0 : Int32))) (hn0 : Z.heap.size ≤ a1) :
    MetFree l (⟨"java/lang/String", "<init>", "([BB)V"⟩ : MethodName) (head1 (Jvm.Cond.code (⟨"java/lang/String", "<init>", "([BB)V"⟩ : MethodName) jdk_42_method_151_code 3 none :: ws) ({ frames := 1, cells := 0, slots := 0, locals := 12 } : Room)) (fun a U => a = #[(.ref a1), (.ref a2), (.int (0 : Int32))] ∧ Z.Warmed39 U.vm ∧ U.heap = h0) (fun _ _ _ _ _ => True) (fun _ U o U' => ∃ v L, o = .returned v ∧ Q_sinitBB Z a1 a2 h0 v U'.heap L ∧ FrameEnd U o U' L ({ frames := 1, cells := 0, slots := 0, locals := 12 } : Room).cells ({ frames := 1, cells := 0, slots := 0, locals := 12 } : Room).slots) := by
  refine MetFree.of_bodySF (plainFor_of_name pn_0) hisR ?_
  intro p e s m args below meth c s₁ Bd hml0 hP hK
  obtain ⟨rfl, hZ, hh⟩ := hP
  have hx := Bd.exec
  have hby := Bd.bytes
  have hml : c.maxLocals = 3 := hml0
  have hown : s.vm.findClass "java/lang/String" = some m.cls := findClass_of_methodNamed Bd.named
  have hnm := (name_of_methodNamed Bd.named Bd.method).1
  have X0 : Stand p l e ({ frames := 1, cells := 0, slots := 0, locals := 12 } : Room) s m #[(.ref a1), (.ref a2), (.int (0 : Int32))] below meth c s₁ [] 0 0 := Stand.of_body Bd
  have e0 : s₁.heap = h0 := by rw [← hh, Bd.state]; rfl
  have N0 := Fr.nil Z.heap.size
  have Z0 : Z.heap.size ≤ h0.size := OL.2.1
  have lt_0 : @LT.lt Nat _ a1 h0.size := p0_.lt
  have lt_1 : @LT.lt Nat _ a1 h0.size := p1_.lt
  have lt_2 : @LT.lt Nat _ a1 h0.size := p2_.lt
  obtain ⟨PP, hPP⟩ : ∃ PP : Outcome → State → Prop, PP = (fun o tE => ∃ v L, o = .returned v ∧ Q_sinitBB Z a1 a2 h0 v tE.heap L ∧ FrameEnd s o tE L ({ frames := 1, cells := 0, slots := 0, locals := 12 } : Room).cells ({ frames := 1, cells := 0, slots := 0, locals := 12 } : Room).slots) := ⟨_, rfl⟩
  show own_Go p.tables e below (fun o tE => ∃ v L, o = .returned v ∧ Q_sinitBB Z a1 a2 h0 v tE.heap L ∧ FrameEnd s o tE L ({ frames := 1, cells := 0, slots := 0, locals := 12 } : Room).cells ({ frames := 1, cells := 0, slots := 0, locals := 12 } : Room).slots) (s₁.setTop (entryFrame m #[(.ref a1), (.ref a2), (.int (0 : Int32))] 3))
  rw [← hPP]
  refine own_Go.st (fun t k => castTop (ef_108 m a1 a2 (0 : Int32)) k) ?_
  show own_Go _ _ _ _ (s₁.setTop (mkF m 0 #[.val (.ref a1), .val (.ref a2), .val (.int (0 : Int32))] []))
  refine own_Go.st (fun _ k => XS.aloadN X0.here hx rfl (hb hby d_jdk_42_method_151_0) rfl rfl k) ?_
  show own_Go _ _ _ _ (s₁.setTop (mkF m 1 #[.val (.ref a1), .val (.ref a2), .val (.int (0 : Int32))] [(.ref a1)]))
  obtain ⟨T177, X177, e177, st177⟩ := initO X0 hx hZ hown (hw _ (List.mem_of_getElem? (i := 19) rfl)) (hw _ (List.mem_of_getElem? (i := 20) rfl)) (hw _ (List.mem_of_getElem? (i := 21) rfl)) e0 (g := (mkF m 1 #[.val (.ref a1), .val (.ref a2), .val (.int (0 : Int32))] [(.ref a1)])) rfl (by rw [hml]; rfl) rfl (hb hby d_jdk_42_method_151_1) (by decide) (W := 0) (by show 2 * 0 + _ ≤ _; exact Nat.le_of_eq rfl) (by decide)
  refine own_Go.st st177 ?_
  show own_Go _ _ _ _ (T177.setTop (mkF m 4 #[.val (.ref a1), .val (.ref a2), .val (.int (0 : Int32))] []))
  refine own_Go.st (fun _ k => XS.aloadN X177.here hx rfl (hb hby d_jdk_42_method_151_4) rfl rfl k) ?_
  show own_Go _ _ _ _ (T177.setTop (mkF m 5 #[.val (.ref a1), .val (.ref a2), .val (.int (0 : Int32))] [(.ref a1)]))
  refine own_Go.st (fun _ k => XS.aloadN X177.here hx rfl (hb hby d_jdk_42_method_151_5) rfl rfl k) ?_
  show own_Go _ _ _ _ (T177.setTop (mkF m 6 #[.val (.ref a1), .val (.ref a2), .val (.int (0 : Int32))] [(.ref a2), (.ref a1)]))
  obtain ⟨T178, h178, X178, e178, W178, st178⟩ := putF X177 hx hZ hown (host := "") (Or.inl (hw _ (List.mem_of_getElem? (i := 28) rfl))) Via.refl e177 p1_ p0_ (Or.inr ⟨(hw _ (List.mem_of_getElem? (i := 24) rfl)), rfl, hnm⟩) (hw _ (List.mem_of_getElem? (i := 10) rfl)) (ty := (.array .byte)) (by decide) rfl rfl (g := (mkF m 6 #[.val (.ref a1), .val (.ref a2), .val (.int (0 : Int32))] [(.ref a2), (.ref a1)])) rfl rfl (hb hby d_jdk_42_method_151_6)
  refine own_Go.st st178 ?_
  have N178 := Fr.snoc X178 N0 (by omega)
  have z178 : h0.size ≤ h178.size := Nat.le_of_eq W178.size.symm
  have f179 : Fld Z h178 a1 "java/lang/String" "value" "[B" (.ref a2) := p1_.same W178
  show own_Go _ _ _ _ (T178.setTop (mkF m 9 #[.val (.ref a1), .val (.ref a2), .val (.int (0 : Int32))] []))
  refine own_Go.st (fun _ k => XS.aloadN X178.here hx rfl (hb hby d_jdk_42_method_151_9) rfl rfl k) ?_
  show own_Go _ _ _ _ (T178.setTop (mkF m 10 #[.val (.ref a1), .val (.ref a2), .val (.int (0 : Int32))] [(.ref a1)]))
  refine own_Go.st (fun _ k => XS.iloadN X178.here hx rfl (hb hby d_jdk_42_method_151_10) rfl k) ?_
  show own_Go _ _ _ _ (T178.setTop (mkF m 11 #[.val (.ref a1), .val (.ref a2), .val (.int (0 : Int32))] [(.int (0 : Int32)), (.ref a1)]))
  have f180 : Fld Z h178 a1 "java/lang/String" "coder" "B" (.int (0 : Int32)) := p2_.other W178 (Or.inr (slot_ne (Or.inr (hw _ (List.mem_of_getElem? (i := 25) rfl))) (Or.inr (hw _ (List.mem_of_getElem? (i := 24) rfl))) (by decide) (t := .byte) (t' := (.array .byte)) (by decide) (by decide)))
  have f181 : Exa Z h178 a1 "java/lang/String" := p0_.wr W178
  obtain ⟨T182, h182, X182, e182, W182, st182⟩ := putF X178 hx hZ hown (host := "") (Or.inl (hw _ (List.mem_of_getElem? (i := 29) rfl))) Via.refl e178 f180 f181 (Or.inr ⟨(hw _ (List.mem_of_getElem? (i := 25) rfl)), rfl, hnm⟩) (hw _ (List.mem_of_getElem? (i := 10) rfl)) (ty := .byte) (by decide) rfl (by decide) (g := (mkF m 11 #[.val (.ref a1), .val (.ref a2), .val (.int (0 : Int32))] [(.int (0 : Int32)), (.ref a1)])) rfl rfl (hb hby d_jdk_42_method_151_11)
  refine own_Go.st st182 ?_
  have N182 := Fr.snoc X182 N178 (by omega)
  have z182 : h178.size ≤ h182.size := Nat.le_of_eq W182.size.symm
  have f183 : Fld Z h182 a1 "java/lang/String" "coder" "B" (.int (0 : Int32)) := f180.same W182
  show own_Go _ _ _ _ (T182.setTop (mkF m 14 #[.val (.ref a1), .val (.ref a2), .val (.int (0 : Int32))] []))
  obtain ⟨fs184, hr184, hrun184, hend184, hW184, hsm184⟩ := X182.leave (v := none) (fun _ => rfl)
  have K185 : Keep h0 h178 [a1] := (Keep.refl h0 [a1]).wr W178 (Or.inl (List.mem_of_getElem? (i := 0) rfl))
  have K186 : Keep h0 h182 [a1] := K185.wr W182 (Or.inl (List.mem_of_getElem? (i := 0) rfl))
  have f187 : Exa Z h182 a1 "java/lang/String" := f181.wr W182
  have f188 : Fld Z h182 a1 "java/lang/String" "value" "[B" (.ref a2) := f179.other W182 (Or.inr (slot_ne (Or.inr (hw _ (List.mem_of_getElem? (i := 24) rfl))) (Or.inr (hw _ (List.mem_of_getElem? (i := 25) rfl))) (by decide) (t := (.array .byte)) (t' := .byte) (by decide) (by decide)))
  subst hPP
  refine ⟨_, _, X182.returnOut hx Bd.returns (hb hby d_jdk_42_method_151_14) hr184, hrun184, hend184, _, _, rfl, ?_, ⟨_, rfl⟩, hW184, hsm184.mono (by decide) (by decide)⟩
  · show Q_sinitBB Z _ _ h0 _ T182.heap _
    rw [e182]
    exact ⟨rfl, N182, K186, f187, f188, f183⟩
theorem pn_118 : plainName "java/lang/StringLatin1" = true := by first | (simp [plainName, overriddenIn]; done) | decide +kernel
theorem d_jdk_43_method_47_0 : decode jdk_43_method_47_code 0 = .ok (.iload_n 2, 1) := by decide +kernel
theorem d_jdk_43_method_47_1 : decode jdk_43_method_47_code 1 = .ok (.ifCond .ne 6, 3) := by decide +kernel
theorem d_jdk_43_method_47_7 : decode jdk_43_method_47_code 7 = .ok (.new 1, 3) := by decide +kernel
theorem d_jdk_43_method_47_10 : decode jdk_43_method_47_code 10 = .ok (.dup, 1) := by decide +kernel
theorem d_jdk_43_method_47_11 : decode jdk_43_method_47_code 11 = .ok (.aload_n 0, 1) := by decide +kernel
theorem d_jdk_43_method_47_12 : decode jdk_43_method_47_code 12 = .ok (.iload_n 1, 1) := by decide +kernel
theorem d_jdk_43_method_47_13 : decode jdk_43_method_47_code 13 = .ok (.iload_n 1, 1) := by decide +kernel
theorem d_jdk_43_method_47_14 : decode jdk_43_method_47_code 14 = .ok (.iload_n 2, 1) := by decide +kernel
theorem d_jdk_43_method_47_15 : decode jdk_43_method_47_code 15 = .ok (.iadd, 1) := by decide +kernel
theorem d_jdk_43_method_47_16 : decode jdk_43_method_47_code 16 = .ok (.invokestatic 232, 3) := by decide +kernel
theorem d_jdk_43_method_47_19 : decode jdk_43_method_47_code 19 = .ok (.iconst 0, 1) := by decide +kernel
theorem pd_130 : parseMethodDescriptor "([BB)V" = some ⟨[(.array .byte), .byte], none⟩ := by decide +kernel
theorem d_jdk_43_method_47_20 : decode jdk_43_method_47_code 20 = .ok (.invokespecial 112, 3) := by decide +kernel
theorem d_jdk_43_method_47_23 : decode jdk_43_method_47_code 23 = .ok (.areturn, 1) := by decide +kernel
def Q_newStr (Z : State) (a1 : Nat) (p2 : Int32) (p3 : Int32) (i : Nat) (mm : Nat) (cs : List Int32) (k : ClassId) (h0 : Heap) (v : Option Value) (h : Heap) (L : List Loc) : Prop := ∃ (x : Nat), ∃ (t : Nat), v = some (.ref x) ∧ Fr Z.heap.size L ∧ Keep h0 h [] ∧ own_Str Z h x t ((cs.drop i).take mm) ∧ (h0.size ≤ x) ∧ (h0.size ≤ t)
set_option maxRecDepth 65536 in
set_option maxHeartbeats 40000000 in
theorem rm_newStr (l : Launch) (Z : State) (a0 : Array Value) (hw : ∀ d ∈ tables_1, d.before a0 Z = true) (ws : List Jvm.Cond) (a1 : Nat) (p2 : Int32) (p3 : Int32) (i : Nat) (mm : Nat) (cs : List Int32) (k : ClassId) (h0 : Heap) (OL : Old Z Z.heap.size h0) (p0_ : Arv Z h0 a1 k .byte (Int32.ofNat cs.length) (own_low cs) (.int (0 : Int32))) (hp2 : p2 = Int32.ofNat i) (hp3 : p3 = Int32.ofNat mm) (hm : 0 < mm) (him : i + mm ≤ cs.length) (hnw : ¬ (i = 0 ∧ i + mm = cs.length)) (hcs : cs.length ≤ 100) (hmx : mm ≤ 8) (hlc : ∀ c ∈ cs, ¬ c < 0 ∧ ¬ (255 : Int32) < c) :
    MetFree l (⟨"java/lang/StringLatin1", "newString", "([BII)Ljava/lang/String;"⟩ : MethodName) (head1 (Jvm.Cond.code (⟨"java/lang/StringLatin1", "newString", "([BII)Ljava/lang/String;"⟩ : MethodName) jdk_43_method_47_code 3 (some (.object "java/lang/String")) :: ws) ({ frames := 3, cells := 2, slots := 12, locals := 72 } : Room)) (fun a U => a = #[(.ref a1), (.int p2), (.int p3)] ∧ Z.Warmed39 U.vm ∧ U.heap = h0) (fun _ _ _ _ _ => True) (fun _ U o U' => ∃ v L, o = .returned v ∧ Q_newStr Z a1 p2 p3 i mm cs k h0 v U'.heap L ∧ FrameEnd U o U' L ({ frames := 3, cells := 2, slots := 12, locals := 72 } : Room).cells ({ frames := 3, cells := 2, slots := 12, locals := 72 } : Room).slots) := by
  refine MetFree.of_bodySF (plainFor_of_name pn_118) hisR ?_
  intro p e s m args below meth c s₁ Bd hml0 hP hK
  obtain ⟨rfl, hZ, hh⟩ := hP
  have hx := Bd.exec
  have hby := Bd.bytes
  have hml : c.maxLocals = 3 := hml0
  have hown : s.vm.findClass "java/lang/StringLatin1" = some m.cls := findClass_of_methodNamed Bd.named
  have hnm := (name_of_methodNamed Bd.named Bd.method).1
  have X0 : Stand p l e ({ frames := 3, cells := 2, slots := 12, locals := 72 } : Room) s m #[(.ref a1), (.int p2), (.int p3)] below meth c s₁ [] 0 0 := Stand.of_body Bd
  have e0 : s₁.heap = h0 := by rw [← hh, Bd.state]; rfl
  have N0 := Fr.nil Z.heap.size
  have Z0 : Z.heap.size ≤ h0.size := OL.2.1
  have lt_0 : @LT.lt Nat _ a1 h0.size := p0_.lt
  obtain ⟨PP, hPP⟩ : ∃ PP : Outcome → State → Prop, PP = (fun o tE => ∃ v L, o = .returned v ∧ Q_newStr Z a1 p2 p3 i mm cs k h0 v tE.heap L ∧ FrameEnd s o tE L ({ frames := 3, cells := 2, slots := 12, locals := 72 } : Room).cells ({ frames := 3, cells := 2, slots := 12, locals := 72 } : Room).slots) := ⟨_, rfl⟩
  show own_Go p.tables e below (fun o tE => ∃ v L, o = .returned v ∧ Q_newStr Z a1 p2 p3 i mm cs k h0 v tE.heap L ∧ FrameEnd s o tE L ({ frames := 3, cells := 2, slots := 12, locals := 72 } : Room).cells ({ frames := 3, cells := 2, slots := 12, locals := 72 } : Room).slots) (s₁.setTop (entryFrame m #[(.ref a1), (.int p2), (.int p3)] 3))
  rw [← hPP]
  refine own_Go.st (fun t k => castTop (ef_64 m a1 p2 p3) k) ?_
  subst hp2 hp3
  show own_Go _ _ _ _ (s₁.setTop (mkF m 0 #[.val (.ref a1), .val (.int (Int32.ofNat i)), .val (.int (Int32.ofNat mm))] []))
  refine own_Go.st (fun _ k => XS.iloadN X0.here hx rfl (hb hby d_jdk_43_method_47_0) rfl k) ?_
  show own_Go _ _ _ _ (s₁.setTop (mkF m 1 #[.val (.ref a1), .val (.int (Int32.ofNat i)), .val (.int (Int32.ofNat mm))] [(.int (Int32.ofNat mm))]))
  have hc189 : ¬ ((Int32.ofNat mm) = (0 : Int32)) := fun q => by have := (own_ofE (j := 0) (by omega) (by omega)).mp q; omega
  refine own_Go.st (fun _ k => XS.ifYes X0.here hx rfl (pc0 := 1) (pc' := 7) rfl (hb hby d_jdk_43_method_47_1) rfl ((if0 _ _).trans (feq hc189).2) (by decide) (by decide) k) ?_
  show own_Go _ _ _ _ (s₁.setTop (mkF m 7 #[.val (.ref a1), .val (.int (Int32.ofNat i)), .val (.int (Int32.ofNat mm))] []))
  obtain ⟨T190, h190, X190, e190, E190, A190, D190, U190, st190⟩ := newO X0 hx hZ hown (hw _ (List.mem_of_getElem? (i := 132) rfl)) (hw _ (List.mem_of_getElem? (i := 10) rfl)) (hw _ (List.mem_of_getElem? (i := 11) rfl)) e0 (g := (mkF m 7 #[.val (.ref a1), .val (.int (Int32.ofNat i)), .val (.int (Int32.ofNat mm))] [])) rfl (hb hby d_jdk_43_method_47_7) (by decide) (by decide)
  obtain ⟨b190, g190⟩ : ∃ z, z = h0.size := ⟨_, rfl⟩
  rw [← g190] at A190 D190 U190 st190
  refine own_Go.st st190 ?_
  have z190 : h0.size ≤ h190.size := E190.1
  have lt_b190 : @LT.lt Nat _ b190 h190.size := A190.lt
  have f191 : Fld Z h190 b190 "java/lang/String" "value" "[B" .null := D190 (Or.inr (hw _ (List.mem_of_getElem? (i := 24) rfl))) (ty := (.array .byte)) (by decide)
  have f192 : Fld Z h190 b190 "java/lang/String" "coder" "B" (.int (0 : Int32)) := D190 (Or.inr (hw _ (List.mem_of_getElem? (i := 25) rfl))) (ty := .byte) (by decide)
  show own_Go _ _ _ _ (T190.setTop (mkF m 10 #[.val (.ref a1), .val (.int (Int32.ofNat i)), .val (.int (Int32.ofNat mm))] [(.ref b190)]))
  refine own_Go.st (fun _ k => XS.dup X190.here hx rfl (hb hby d_jdk_43_method_47_10) rfl rfl k) ?_
  show own_Go _ _ _ _ (T190.setTop (mkF m 11 #[.val (.ref a1), .val (.int (Int32.ofNat i)), .val (.int (Int32.ofNat mm))] [(.ref b190), (.ref b190)]))
  refine own_Go.st (fun _ k => XS.aloadN X190.here hx rfl (hb hby d_jdk_43_method_47_11) rfl rfl k) ?_
  show own_Go _ _ _ _ (T190.setTop (mkF m 12 #[.val (.ref a1), .val (.int (Int32.ofNat i)), .val (.int (Int32.ofNat mm))] [(.ref a1), (.ref b190), (.ref b190)]))
  refine own_Go.st (fun _ k => XS.iloadN X190.here hx rfl (hb hby d_jdk_43_method_47_12) rfl k) ?_
  show own_Go _ _ _ _ (T190.setTop (mkF m 13 #[.val (.ref a1), .val (.int (Int32.ofNat i)), .val (.int (Int32.ofNat mm))] [(.int (Int32.ofNat i)), (.ref a1), (.ref b190), (.ref b190)]))
  refine own_Go.st (fun _ k => XS.iloadN X190.here hx rfl (hb hby d_jdk_43_method_47_13) rfl k) ?_
  show own_Go _ _ _ _ (T190.setTop (mkF m 14 #[.val (.ref a1), .val (.int (Int32.ofNat i)), .val (.int (Int32.ofNat mm))] [(.int (Int32.ofNat i)), (.int (Int32.ofNat i)), (.ref a1), (.ref b190), (.ref b190)]))
  refine own_Go.st (fun _ k => XS.iloadN X190.here hx rfl (hb hby d_jdk_43_method_47_14) rfl k) ?_
  show own_Go _ _ _ _ (T190.setTop (mkF m 15 #[.val (.ref a1), .val (.int (Int32.ofNat i)), .val (.int (Int32.ofNat mm))] [(.int (Int32.ofNat mm)), (.int (Int32.ofNat i)), (.int (Int32.ofNat i)), (.ref a1), (.ref b190), (.ref b190)]))
  refine own_Go.st (fun _ k => XS.iadd X190.here hx rfl (hb hby d_jdk_43_method_47_15) rfl k) ?_
  show own_Go _ _ _ _ (T190.setTop (mkF m 16 #[.val (.ref a1), .val (.int (Int32.ofNat i)), .val (.int (Int32.ofNat mm))] [(.int ((Int32.ofNat i) + (Int32.ofNat mm))), (.int (Int32.ofNat i)), (.ref a1), (.ref b190), (.ref b190)]))
  rw [own_ofA (by omega)]
  show own_Go _ _ _ _ (T190.setTop (mkF m 16 #[.val (.ref a1), .val (.int (Int32.ofNat i)), .val (.int (Int32.ofNat mm))] [(.int (Int32.ofNat (i + mm))), (.int (Int32.ofNat i)), (.ref a1), (.ref b190), (.ref b190)]))
  have f194 : Arv Z h190 a1 k .byte (Int32.ofNat cs.length) (own_low cs) (.int (0 : Int32)) := p0_.ext E190
  have f195 : Old Z Z.heap.size h190 := OL.ext E190
  obtain ⟨_, _, ⟨T193, L193, k193, n193⟩, -, X193, ⟨Lc193, hQ193, l193, y193, z193⟩, st193⟩ := Jvm.LawKit.callS X190 hx (y := (⟨"java/util/Arrays", "copyOfRange", "([BII)[B"⟩ : MethodName)) hown (mvT hZ (hw _ (List.mem_of_getElem? (i := 133) rfl))) (mvT hZ (hw _ (List.mem_of_getElem? (i := 134) rfl))) (mvT hZ (hw _ (List.mem_of_getElem? (i := 135) rfl))) (mvT hZ (hw _ (List.mem_of_getElem? (i := 136) rfl))) (by decide) (backOf (W := 2) (rm_cor l Z a0 hw [] a1 (Int32.ofNat i) (Int32.ofNat (i + mm)) i (i + mm) cs cs.length k h190 f195 f194 rfl rfl (by omega) him (Nat.le_refl _) hcs (by omega) hnw) hZ (hw _ (List.mem_of_getElem? (i := 136) rfl)) (hw _ (List.mem_of_getElem? (i := 135) rfl)) (by decide) (by decide)) (g := (mkF m 16 #[.val (.ref a1), .val (.int (Int32.ofNat i)), .val (.int (Int32.ofNat mm))] [(.int (Int32.ofNat (i + mm))), (.int (Int32.ofNat i)), (.ref a1), (.ref b190), (.ref b190)])) rfl (by rw [hml]; rfl) (argsL := [(.ref a1), (.int (Int32.ofNat i)), (.int (Int32.ofNat (i + mm)))]) (rest := [(.ref b190), (.ref b190)]) (lenOf pd_74 rfl) rfl (by show 2 * 0 + _ ≤ _; exact Nat.le_of_eq rfl) (hb hby d_jdk_43_method_47_16) (fun _ _ => ⟨rfl, e190, (by decide : 1 + 1 ≤ _), (by decide : 4 + 8 ≤ _)⟩)
  dsimp only [Pt.U, Pt.locs, Pt.cells, Pt.slots] at X193 l193 y193 z193 st193 hQ193
  subst l193 y193 z193
  obtain ⟨x_193, kx_193, rfl, N193q, K193, f193_0, pr193_0⟩ := hQ193
  have N193 := Fr.app N0 N193q
  have z193 : h190.size ≤ T193.heap.size := K193.1
  have lt193_0 : @LT.lt Nat _ x_193 T193.heap.size := f193_0.lt
  have f196 : Arv Z T193.heap x_193 kx_193 .byte (Int32.ofNat ((cs.drop i).take mm).length) (own_low ((cs.drop i).take mm)) (.int (0 : Int32)) := by
    have q := f193_0
    rw [show i + mm - i = mm by omega] at q
    rw [own_subl him]
    exact q
  refine own_Go.st st193 ?_
  show own_Go _ _ _ _ (T193.setTop (mkF m 19 #[.val (.ref a1), .val (.int (Int32.ofNat i)), .val (.int (Int32.ofNat mm))] [(.ref x_193), (.ref b190), (.ref b190)]))
  refine own_Go.st (fun _ k => XS.iconst X193.here hx rfl (hb hby d_jdk_43_method_47_19) k) ?_
  show own_Go _ _ _ _ (T193.setTop (mkF m 20 #[.val (.ref a1), .val (.int (Int32.ofNat i)), .val (.int (Int32.ofNat mm))] [(.int (0 : Int32)), (.ref x_193), (.ref b190), (.ref b190)]))
  have f198 : Exa Z T193.heap b190 "java/lang/String" := A190.keep K193
  have f199 : Fld Z T193.heap b190 "java/lang/String" "value" "[B" .null := f191.keep K193 nin0
  have f200 : Fld Z T193.heap b190 "java/lang/String" "coder" "B" (.int (0 : Int32)) := f192.keep K193 nin0
  have f201 : Old Z Z.heap.size T193.heap := f195.keep K193 all0
  obtain ⟨_, _, ⟨T197, L197, k197, n197⟩, -, X197, ⟨Lc197, hQ197, l197, y197, z197⟩, st197⟩ := X193.specialBack hx (y := (⟨"java/lang/String", "<init>", "([BB)V"⟩ : MethodName)) rfl hown (mvT hZ (hw _ (List.mem_of_getElem? (i := 148) rfl))) (mvT hZ (hw _ (List.mem_of_getElem? (i := 149) rfl))) (mvT hZ (hw _ (List.mem_of_getElem? (i := 150) rfl))) (by decide) (backOf (W := 1) (rm_sinitBB l Z a0 hw [] b190 x_193 T193.heap f201 f198 f199 f200 (by omega)) hZ (hw _ (List.mem_of_getElem? (i := 150) rfl)) (hw _ (List.mem_of_getElem? (i := 11) rfl)) (by decide) (by decide)) (g := (mkF m 20 #[.val (.ref a1), .val (.int (Int32.ofNat i)), .val (.int (Int32.ofNat mm))] [(.int (0 : Int32)), (.ref x_193), (.ref b190), (.ref b190)])) rfl (by rw [hml]; rfl) (Steps.refl _) (a := b190) (argsL := [(.ref x_193), (.int (0 : Int32))]) (rest := [(.ref b190)]) (lenOf pd_130 rfl) rfl (by show 2 * 0 + _ ≤ _; exact Nat.le_of_eq rfl) (hb hby d_jdk_43_method_47_20) (fun _ _ => ⟨rfl, rfl, (by decide : 2 + 0 ≤ _), (by decide : 12 + 0 ≤ _)⟩)
  dsimp only [Pt.U, Pt.locs, Pt.cells, Pt.slots] at X197 l197 y197 z197 st197 hQ197
  subst l197 y197 z197
  obtain ⟨rfl, N197q, K197, f197_0, f197_1, f197_2⟩ := hQ197
  have N197 := Fr.app N193 N197q
  have z197 : T193.heap.size ≤ T197.heap.size := K197.1
  have lt197_0 : @LT.lt Nat _ b190 T197.heap.size := f197_0.lt
  have lt197_1 : @LT.lt Nat _ b190 T197.heap.size := f197_1.lt
  have lt197_2 : @LT.lt Nat _ b190 T197.heap.size := f197_2.lt
  refine own_Go.tr st197 ?_
  show own_Go _ _ _ _ (T197.setTop (mkF m 23 #[.val (.ref a1), .val (.int (Int32.ofNat i)), .val (.int (Int32.ofNat mm))] [(.ref b190)]))
  obtain ⟨fs202, hr202, hrun202, hend202, hW202, hsm202⟩ := X197.leave (v := some (.ref b190)) (fun h => by rw [Bd.returns] at h; cases h)
  have ne203 : @Ne Nat b190 x_193 := Exa.neArv f198 f196 (hw _ (List.mem_of_getElem? (i := 10) rfl))
  have f204 : Arv Z T197.heap x_193 kx_193 .byte (Int32.ofNat ((cs.drop i).take mm).length) (own_low ((cs.drop i).take mm)) (.int (0 : Int32)) := f196.keep K197 (ninS (Ne.symm ne203) nin0)
  have K205 : Keep h0 h190 [] := (Keep.refl h0 []).ext E190
  have K206 : Keep h0 T193.heap [] := K205.trans K193 all0
  have K207 : Keep h0 T197.heap [] := K206.trans K197 (allS (Or.inr (by omega)) all0)
  subst hPP
  refine ⟨_, _, own_retA X197 hx Bd.returns rfl rfl (hb hby d_jdk_43_method_47_23) hr202, hrun202, hend202, _, _, rfl, ?_, ⟨_, rfl⟩, hW202, hsm202.mono (by decide) (by decide)⟩
  · show Q_newStr Z _ _ _ _ _ _ _ h0 _ T197.heap _
    exact ⟨b190, x_193, rfl, N197, K207, (own_Str.mkL f197_0 f197_1 f197_2 f204 (own_latT hlc) (by rw [own_subl him]; omega)), (by omega), (by omega)⟩
theorem d_jdk_42_method_92_0 : decode jdk_42_method_92_code 0 = .ok (.aload_n 0, 1) := by decide +kernel
theorem pd_134 : parseMethodDescriptor "()I" = some ⟨[], some .int⟩ := by decide +kernel
theorem d_jdk_42_method_92_1 : decode jdk_42_method_92_code 1 = .ok (.invokevirtual 505, 3) := by decide +kernel
theorem d_jdk_42_method_92_4 : decode jdk_42_method_92_code 4 = .ok (.istore_n 3, 1) := by decide +kernel
theorem d_jdk_42_method_92_5 : decode jdk_42_method_92_code 5 = .ok (.iload_n 1, 1) := by decide +kernel
theorem d_jdk_42_method_92_6 : decode jdk_42_method_92_code 6 = .ok (.iload_n 2, 1) := by decide +kernel
theorem d_jdk_42_method_92_7 : decode jdk_42_method_92_code 7 = .ok (.iload_n 3, 1) := by decide +kernel
theorem pd_140 : parseMethodDescriptor "(III)V" = some ⟨[.int, .int, .int], none⟩ := by decide +kernel
theorem d_jdk_42_method_92_8 : decode jdk_42_method_92_code 8 = .ok (.invokestatic 521, 3) := by decide +kernel
theorem d_jdk_42_method_92_11 : decode jdk_42_method_92_code 11 = .ok (.iload_n 1, 1) := by decide +kernel
theorem d_jdk_42_method_92_12 : decode jdk_42_method_92_code 12 = .ok (.ifCond .ne 10, 3) := by decide +kernel
theorem d_jdk_42_method_92_15 : decode jdk_42_method_92_code 15 = .ok (.iload_n 2, 1) := by decide +kernel
theorem d_jdk_42_method_92_16 : decode jdk_42_method_92_code 16 = .ok (.iload_n 3, 1) := by decide +kernel
theorem d_jdk_42_method_92_17 : decode jdk_42_method_92_code 17 = .ok (.if_icmp .ne 5, 3) := by decide +kernel
theorem d_jdk_42_method_92_22 : decode jdk_42_method_92_code 22 = .ok (.iload_n 2, 1) := by decide +kernel
theorem d_jdk_42_method_92_23 : decode jdk_42_method_92_code 23 = .ok (.iload_n 1, 1) := by decide +kernel
theorem d_jdk_42_method_92_24 : decode jdk_42_method_92_code 24 = .ok (.isub, 1) := by decide +kernel
theorem d_jdk_42_method_92_25 : decode jdk_42_method_92_code 25 = .ok (.istore 4, 2) := by decide +kernel
theorem d_jdk_42_method_92_27 : decode jdk_42_method_92_code 27 = .ok (.aload_n 0, 1) := by decide +kernel
theorem pd_152 : parseMethodDescriptor "()Z" = some ⟨[], some .boolean⟩ := by decide +kernel
theorem d_jdk_42_method_92_28 : decode jdk_42_method_92_code 28 = .ok (.invokevirtual 492, 3) := by decide +kernel
theorem d_jdk_42_method_92_31 : decode jdk_42_method_92_code 31 = .ok (.ifCond .eq 16, 3) := by decide +kernel
theorem d_jdk_42_method_92_34 : decode jdk_42_method_92_code 34 = .ok (.aload_n 0, 1) := by decide +kernel
theorem d_jdk_42_method_92_35 : decode jdk_42_method_92_code 35 = .ok (.getfield 9, 3) := by decide +kernel
theorem d_jdk_42_method_92_38 : decode jdk_42_method_92_code 38 = .ok (.iload_n 1, 1) := by decide +kernel
theorem d_jdk_42_method_92_39 : decode jdk_42_method_92_code 39 = .ok (.iload 4, 2) := by decide +kernel
theorem pd_159 : parseMethodDescriptor "([BII)Ljava/lang/String;" = some ⟨[(.array .byte), .int, .int], some (.object "java/lang/String")⟩ := by decide +kernel
theorem d_jdk_42_method_92_41 : decode jdk_42_method_92_code 41 = .ok (.invokestatic 685, 3) := by decide +kernel
theorem d_jdk_42_method_92_44 : decode jdk_42_method_92_code 44 = .ok (.goto 13, 3) := by decide +kernel
theorem d_jdk_42_method_92_57 : decode jdk_42_method_92_code 57 = .ok (.areturn, 1) := by decide +kernel
def Q_substr (Z : State) (a1 : Nat) (p2 : Int32) (p3 : Int32) (i : Nat) (j : Nat) (t1 : Nat) (cs : List Int32) (zc : Int32) (fm : Value) (h0 : Heap) (v : Option Value) (h : Heap) (L : List Loc) : Prop := ∃ (x : Nat), ∃ (t : Nat), v = some (.ref x) ∧ Fr Z.heap.size L ∧ Keep h0 h [] ∧ own_Str Z h x t ((cs.drop i).take (j - i)) ∧ (h0.size ≤ x) ∧ (h0.size ≤ t)
set_option maxRecDepth 65536 in
set_option maxHeartbeats 40000000 in
theorem rm_substr (l : Launch) (Z : State) (a0 : Array Value) (hw : ∀ d ∈ tables_1, d.before a0 Z = true) (ws : List Jvm.Cond) (a1 : Nat) (p2 : Int32) (p3 : Int32) (i : Nat) (j : Nat) (t1 : Nat) (cs : List Int32) (zc : Int32) (fm : Value) (h0 : Heap) (OL : Old Z Z.heap.size h0) (p0_ : own_Str Z h0 a1 t1 cs) (st_COMPACT_STRINGS : Sta Z Z.heap "java/lang/String" "COMPACT_STRINGS" "Z" (.int zc)) (st_SIOOBE_FORMATTER : Sta Z Z.heap "jdk/internal/util/Preconditions" "SIOOBE_FORMATTER" "Ljava/util/function/BiFunction;" fm) (hzc : ¬ zc = 0) (hfm : fm.isRef = true) (hp2 : p2 = Int32.ofNat i) (hp3 : p3 = Int32.ofNat j) (hij : i < j) (hj : j ≤ cs.length) (hnw : ¬ (i = 0 ∧ j = cs.length)) (hcs : cs.length ≤ 100) (hmx : j - i ≤ 8) (hlc : ∀ c ∈ cs, ¬ c < 0 ∧ ¬ (255 : Int32) < c) :
    MetFree l (⟨"java/lang/String", "substring", "(II)Ljava/lang/String;"⟩ : MethodName) (head1 (Jvm.Cond.code (⟨"java/lang/String", "substring", "(II)Ljava/lang/String;"⟩ : MethodName) jdk_42_method_92_code 5 (some (.object "java/lang/String")) :: ws) ({ frames := 4, cells := 2, slots := 12, locals := 88 } : Room)) (fun a U => a = #[(.ref a1), (.int p2), (.int p3)] ∧ Z.Warmed39 U.vm ∧ U.heap = h0) (fun _ _ _ _ _ => True) (fun _ U o U' => ∃ v L, o = .returned v ∧ Q_substr Z a1 p2 p3 i j t1 cs zc fm h0 v U'.heap L ∧ FrameEnd U o U' L ({ frames := 4, cells := 2, slots := 12, locals := 88 } : Room).cells ({ frames := 4, cells := 2, slots := 12, locals := 88 } : Room).slots) := by
  refine MetFree.of_bodySF (plainFor_of_name pn_0) hisR ?_
  intro p e s m args below meth c s₁ Bd hml0 hP hK
  obtain ⟨rfl, hZ, hh⟩ := hP
  have hx := Bd.exec
  have hby := Bd.bytes
  have hml : c.maxLocals = 5 := hml0
  have hown : s.vm.findClass "java/lang/String" = some m.cls := findClass_of_methodNamed Bd.named
  have hnm := (name_of_methodNamed Bd.named Bd.method).1
  have X0 : Stand p l e ({ frames := 4, cells := 2, slots := 12, locals := 88 } : Room) s m #[(.ref a1), (.int p2), (.int p3)] below meth c s₁ [] 0 0 := Stand.of_body Bd
  have e0 : s₁.heap = h0 := by rw [← hh, Bd.state]; rfl
  have N0 := Fr.nil Z.heap.size
  have Z0 : Z.heap.size ≤ h0.size := OL.2.1
  have lt_0 : @LT.lt Nat _ a1 h0.size := p0_.lt
  have ltv_0 : @LT.lt Nat _ t1 h0.size := p0_.ltv
  obtain ⟨PP, hPP⟩ : ∃ PP : Outcome → State → Prop, PP = (fun o tE => ∃ v L, o = .returned v ∧ Q_substr Z a1 p2 p3 i j t1 cs zc fm h0 v tE.heap L ∧ FrameEnd s o tE L ({ frames := 4, cells := 2, slots := 12, locals := 88 } : Room).cells ({ frames := 4, cells := 2, slots := 12, locals := 88 } : Room).slots) := ⟨_, rfl⟩
  show own_Go p.tables e below (fun o tE => ∃ v L, o = .returned v ∧ Q_substr Z a1 p2 p3 i j t1 cs zc fm h0 v tE.heap L ∧ FrameEnd s o tE L ({ frames := 4, cells := 2, slots := 12, locals := 88 } : Room).cells ({ frames := 4, cells := 2, slots := 12, locals := 88 } : Room).slots) (s₁.setTop (entryFrame m #[(.ref a1), (.int p2), (.int p3)] 5))
  rw [← hPP]
  refine own_Go.st (fun t k => castTop (ef_38 m a1 p2 p3) k) ?_
  subst hp2 hp3
  obtain ⟨kb208, s1208, s2208, s3208, s4208⟩ := own_Str.latF p0_ (fun c q => (hlc c q).2)
  show own_Go _ _ _ _ (s₁.setTop (mkF m 0 #[.val (.ref a1), .val (.int (Int32.ofNat i)), .val (.int (Int32.ofNat j)), .unset, .unset] []))
  refine own_Go.st (fun _ k => XS.aloadN X0.here hx rfl (hb hby d_jdk_42_method_92_0) rfl rfl k) ?_
  show own_Go _ _ _ _ (s₁.setTop (mkF m 1 #[.val (.ref a1), .val (.int (Int32.ofNat i)), .val (.int (Int32.ofNat j)), .unset, .unset] [(.ref a1)]))
  obtain ⟨kb210, cd210, N210_, vs210, s1210, s2210, s3210, s4210, s5210, s6210, s7210⟩ := id p0_
  obtain ⟨cq209, kq209, q209a, q209b, q209c⟩ := isOf hZ e0 s1208
  obtain ⟨_, _, ⟨T209, L209, k209, n209⟩, -, X209, ⟨Lc209, hQ209, l209, y209, z209⟩, st209⟩ := X0.virtualBack hx (y := (⟨"java/lang/String", "length", "()I"⟩ : MethodName)) (z := (⟨"java/lang/String", "length", "()I"⟩ : MethodName)) hown (mvT hZ (hw _ (List.mem_of_getElem? (i := 39) rfl))) (mvT hZ (hw _ (List.mem_of_getElem? (i := 40) rfl))) (notFace_of_selects (args := #[]) (mvT hZ (hw _ (List.mem_of_getElem? (i := 42) rfl)))) (mvT hZ (hw _ (List.mem_of_getElem? (i := 42) rfl))) (mvT hZ (hw _ (List.mem_of_getElem? (i := 41) rfl))) (by decide) (StrChars.Road.lenW (W := 0) hZ (own_hln hw) (kI := 4) (hw _ (List.mem_of_getElem? (i := 10) rfl)) s1210 s2210 s3210 s4210 s5210 s6210 (st_COMPACT_STRINGS.ext OL.2) hzc s7210 (by decide) (by decide)) q209a q209c (g := (mkF m 1 #[.val (.ref a1), .val (.int (Int32.ofNat i)), .val (.int (Int32.ofNat j)), .unset, .unset] [(.ref a1)])) rfl (by rw [hml]; rfl) (Steps.refl _) (argsL := []) (rest := []) (lenOf pd_134 rfl) rfl (by show 2 * 0 + _ ≤ _; exact Nat.le_of_eq rfl) (hb hby d_jdk_42_method_92_1) (fun _ _ => ⟨rfl, e0, (by decide : 0 + 0 ≤ _), (by decide : 0 + 0 ≤ _)⟩)
  dsimp only [Pt.U, Pt.locs, Pt.cells, Pt.slots] at X209 l209 y209 z209 st209 hQ209
  subst l209 y209 z209
  obtain ⟨rfl, rfl, K209⟩ := hQ209
  have N209 := Fr.app N0 (Fr.nil Z.heap.size)
  refine own_Go.tr st209 ?_
  show own_Go _ _ _ _ (T209.setTop (mkF m 4 #[.val (.ref a1), .val (.int (Int32.ofNat i)), .val (.int (Int32.ofNat j)), .unset, .unset] [(.int (Int32.ofNat cs.length))]))
  refine own_Go.st (fun _ k => XS.istoreN X209.here hx rfl (hb hby d_jdk_42_method_92_4) rfl (l' := #[.val (.ref a1), .val (.int (Int32.ofNat i)), .val (.int (Int32.ofNat j)), .val (.int (Int32.ofNat cs.length)), .unset]) rfl k) ?_
  show own_Go _ _ _ _ (T209.setTop (mkF m 5 #[.val (.ref a1), .val (.int (Int32.ofNat i)), .val (.int (Int32.ofNat j)), .val (.int (Int32.ofNat cs.length)), .unset] []))
  refine own_Go.st (fun _ k => XS.iloadN X209.here hx rfl (hb hby d_jdk_42_method_92_5) rfl k) ?_
  show own_Go _ _ _ _ (T209.setTop (mkF m 6 #[.val (.ref a1), .val (.int (Int32.ofNat i)), .val (.int (Int32.ofNat j)), .val (.int (Int32.ofNat cs.length)), .unset] [(.int (Int32.ofNat i))]))
  refine own_Go.st (fun _ k => XS.iloadN X209.here hx rfl (hb hby d_jdk_42_method_92_6) rfl k) ?_
  show own_Go _ _ _ _ (T209.setTop (mkF m 7 #[.val (.ref a1), .val (.int (Int32.ofNat i)), .val (.int (Int32.ofNat j)), .val (.int (Int32.ofNat cs.length)), .unset] [(.int (Int32.ofNat j)), (.int (Int32.ofNat i))]))
  refine own_Go.st (fun _ k => XS.iloadN X209.here hx rfl (hb hby d_jdk_42_method_92_7) rfl k) ?_
  show own_Go _ _ _ _ (T209.setTop (mkF m 8 #[.val (.ref a1), .val (.int (Int32.ofNat i)), .val (.int (Int32.ofNat j)), .val (.int (Int32.ofNat cs.length)), .unset] [(.int (Int32.ofNat cs.length)), (.int (Int32.ofNat j)), (.int (Int32.ofNat i))]))
  obtain ⟨_, _, ⟨T211, L211, k211, n211⟩, -, X211, ⟨Lc211, hQ211, l211, y211, z211⟩, st211⟩ := Jvm.LawKit.callS X209 hx (y := (⟨"java/lang/String", "checkBoundsBeginEnd", "(III)V"⟩ : MethodName)) hown (mvT hZ (hw _ (List.mem_of_getElem? (i := 123) rfl))) (mvT hZ (hw _ (List.mem_of_getElem? (i := 124) rfl))) (mvT hZ (hw _ (List.mem_of_getElem? (i := 11) rfl))) (mvT hZ (hw _ (List.mem_of_getElem? (i := 125) rfl))) (by decide) (backOf (W := 0) (rm_cbbe l Z a0 hw [] (Int32.ofNat i) (Int32.ofNat j) (Int32.ofNat cs.length) fm h0 OL st_SIOOBE_FORMATTER (own_of0 (by omega)) (by rw [own_oflt (by omega) (by omega)]; omega) (by rw [own_oflt (by omega) (by omega)]; omega) (by first | assumption | decide)) hZ (hw _ (List.mem_of_getElem? (i := 125) rfl)) (hw _ (List.mem_of_getElem? (i := 11) rfl)) (by decide) (by decide)) (g := (mkF m 8 #[.val (.ref a1), .val (.int (Int32.ofNat i)), .val (.int (Int32.ofNat j)), .val (.int (Int32.ofNat cs.length)), .unset] [(.int (Int32.ofNat cs.length)), (.int (Int32.ofNat j)), (.int (Int32.ofNat i))])) rfl (by rw [hml]; rfl) (argsL := [(.int (Int32.ofNat i)), (.int (Int32.ofNat j)), (.int (Int32.ofNat cs.length))]) (rest := []) (lenOf pd_140 rfl) rfl (by show 2 * 0 + _ ≤ _; exact Nat.le_of_eq rfl) (hb hby d_jdk_42_method_92_8) (fun _ _ => ⟨rfl, K209, (by decide : 0 + 0 ≤ _), (by decide : 0 + 0 ≤ _)⟩)
  dsimp only [Pt.U, Pt.locs, Pt.cells, Pt.slots] at X211 l211 y211 z211 st211 hQ211
  subst l211 y211 z211
  obtain ⟨rfl, N211q, K211⟩ := hQ211
  have N211 := Fr.app N209 N211q
  refine own_Go.st st211 ?_
  show own_Go _ _ _ _ (T211.setTop (mkF m 11 #[.val (.ref a1), .val (.int (Int32.ofNat i)), .val (.int (Int32.ofNat j)), .val (.int (Int32.ofNat cs.length)), .unset] []))
  refine own_Go.st (fun _ k => XS.iloadN X211.here hx rfl (hb hby d_jdk_42_method_92_11) rfl k) ?_
  show own_Go _ _ _ _ (T211.setTop (mkF m 12 #[.val (.ref a1), .val (.int (Int32.ofNat i)), .val (.int (Int32.ofNat j)), .val (.int (Int32.ofNat cs.length)), .unset] [(.int (Int32.ofNat i))]))
  by_cases h12 : (Int32.ofNat i) = (0 : Int32)
  ·
    refine own_Go.st (fun _ k => XS.ifNo X211.here hx rfl (hb hby d_jdk_42_method_92_12) rfl ((if0 _ _).trans (teq h12).2) k) ?_
    show own_Go _ _ _ _ (T211.setTop (mkF m 15 #[.val (.ref a1), .val (.int (Int32.ofNat i)), .val (.int (Int32.ofNat j)), .val (.int (Int32.ofNat cs.length)), .unset] []))
    refine own_Go.st (fun _ k => XS.iloadN X211.here hx rfl (hb hby d_jdk_42_method_92_15) rfl k) ?_
    show own_Go _ _ _ _ (T211.setTop (mkF m 16 #[.val (.ref a1), .val (.int (Int32.ofNat i)), .val (.int (Int32.ofNat j)), .val (.int (Int32.ofNat cs.length)), .unset] [(.int (Int32.ofNat j))]))
    refine own_Go.st (fun _ k => XS.iloadN X211.here hx rfl (hb hby d_jdk_42_method_92_16) rfl k) ?_
    show own_Go _ _ _ _ (T211.setTop (mkF m 17 #[.val (.ref a1), .val (.int (Int32.ofNat i)), .val (.int (Int32.ofNat j)), .val (.int (Int32.ofNat cs.length)), .unset] [(.int (Int32.ofNat cs.length)), (.int (Int32.ofNat j))]))
    have hc212 : ¬ ((Int32.ofNat j) = (Int32.ofNat cs.length)) := fun q => hnw ⟨(own_ofE (by omega) (by omega)).mp h12, (own_ofE (by omega) (by omega)).mp q⟩
    refine own_Go.st (fun _ k => XS.icmpYes X211.here hx rfl (pc0 := 17) (pc' := 22) rfl (hb hby d_jdk_42_method_92_17) rfl (feq hc212).2 (by decide) (by decide) k) ?_
    show own_Go _ _ _ _ (T211.setTop (mkF m 22 #[.val (.ref a1), .val (.int (Int32.ofNat i)), .val (.int (Int32.ofNat j)), .val (.int (Int32.ofNat cs.length)), .unset] []))
    refine own_Go.st (fun _ k => XS.iloadN X211.here hx rfl (hb hby d_jdk_42_method_92_22) rfl k) ?_
    show own_Go _ _ _ _ (T211.setTop (mkF m 23 #[.val (.ref a1), .val (.int (Int32.ofNat i)), .val (.int (Int32.ofNat j)), .val (.int (Int32.ofNat cs.length)), .unset] [(.int (Int32.ofNat j))]))
    refine own_Go.st (fun _ k => XS.iloadN X211.here hx rfl (hb hby d_jdk_42_method_92_23) rfl k) ?_
    show own_Go _ _ _ _ (T211.setTop (mkF m 24 #[.val (.ref a1), .val (.int (Int32.ofNat i)), .val (.int (Int32.ofNat j)), .val (.int (Int32.ofNat cs.length)), .unset] [(.int (Int32.ofNat i)), (.int (Int32.ofNat j))]))
    refine own_Go.st (fun _ k => XS.isub X211.here hx rfl (hb hby d_jdk_42_method_92_24) rfl k) ?_
    show own_Go _ _ _ _ (T211.setTop (mkF m 25 #[.val (.ref a1), .val (.int (Int32.ofNat i)), .val (.int (Int32.ofNat j)), .val (.int (Int32.ofNat cs.length)), .unset] [(.int ((Int32.ofNat j) - (Int32.ofNat i)))]))
    rw [own_ofB (by omega) (by omega)]
    show own_Go _ _ _ _ (T211.setTop (mkF m 25 #[.val (.ref a1), .val (.int (Int32.ofNat i)), .val (.int (Int32.ofNat j)), .val (.int (Int32.ofNat cs.length)), .unset] [(.int (Int32.ofNat (j - i)))]))
    refine own_Go.st (fun _ k => XS.istore X211.here hx rfl (hb hby d_jdk_42_method_92_25) rfl (l' := #[.val (.ref a1), .val (.int (Int32.ofNat i)), .val (.int (Int32.ofNat j)), .val (.int (Int32.ofNat cs.length)), .val (.int (Int32.ofNat (j - i)))]) rfl k) ?_
    show own_Go _ _ _ _ (T211.setTop (mkF m 27 #[.val (.ref a1), .val (.int (Int32.ofNat i)), .val (.int (Int32.ofNat j)), .val (.int (Int32.ofNat cs.length)), .val (.int (Int32.ofNat (j - i)))] []))
    refine own_Go.st (fun _ k => XS.aloadN X211.here hx rfl (hb hby d_jdk_42_method_92_27) rfl rfl k) ?_
    show own_Go _ _ _ _ (T211.setTop (mkF m 28 #[.val (.ref a1), .val (.int (Int32.ofNat i)), .val (.int (Int32.ofNat j)), .val (.int (Int32.ofNat cs.length)), .val (.int (Int32.ofNat (j - i)))] [(.ref a1)]))
    obtain ⟨cq213, kq213, q213a, q213b, q213c⟩ := isOf hZ K211 s1208
    obtain ⟨_, _, ⟨T213, L213, k213, n213⟩, -, X213, ⟨Lc213, hQ213, l213, y213, z213⟩, st213⟩ := X211.virtualBack hx (y := (⟨"java/lang/String", "isLatin1", "()Z"⟩ : MethodName)) (z := (⟨"java/lang/String", "isLatin1", "()Z"⟩ : MethodName)) hown (mvT hZ (hw _ (List.mem_of_getElem? (i := 55) rfl))) (mvT hZ (hw _ (List.mem_of_getElem? (i := 56) rfl))) (notFace_of_selects (args := #[]) (mvT hZ (hw _ (List.mem_of_getElem? (i := 58) rfl)))) (mvT hZ (hw _ (List.mem_of_getElem? (i := 58) rfl))) (mvT hZ (hw _ (List.mem_of_getElem? (i := 57) rfl))) (by decide) (backOf (W := 0) (rm_isl1 l Z a0 hw [] a1 (0 : Int32) zc h0 OL s3208 st_COMPACT_STRINGS (by first | assumption | decide)) hZ (hw _ (List.mem_of_getElem? (i := 59) rfl)) (hw _ (List.mem_of_getElem? (i := 11) rfl)) (by decide) (by decide)) q213a q213c (g := (mkF m 28 #[.val (.ref a1), .val (.int (Int32.ofNat i)), .val (.int (Int32.ofNat j)), .val (.int (Int32.ofNat cs.length)), .val (.int (Int32.ofNat (j - i)))] [(.ref a1)])) rfl (by rw [hml]; rfl) (Steps.refl _) (argsL := []) (rest := []) (lenOf pd_152 rfl) rfl (by show 2 * 0 + _ ≤ _; exact Nat.le_of_eq rfl) (hb hby d_jdk_42_method_92_28) (fun _ _ => ⟨rfl, K211, (by decide : 0 + 0 ≤ _), (by decide : 0 + 0 ≤ _)⟩)
    dsimp only [Pt.U, Pt.locs, Pt.cells, Pt.slots] at X213 l213 y213 z213 st213 hQ213
    subst l213 y213 z213
    obtain ⟨rfl, N213q, K213⟩ := hQ213
    have N213 := Fr.app N211 N213q
    refine own_Go.tr st213 ?_
    show own_Go _ _ _ _ (T213.setTop (mkF m 31 #[.val (.ref a1), .val (.int (Int32.ofNat i)), .val (.int (Int32.ofNat j)), .val (.int (Int32.ofNat cs.length)), .val (.int (Int32.ofNat (j - i)))] [(.int (if (0 : Int32) = 0 then (1 : Int32) else 0))]))
    have hc214 : ¬ ((if (0 : Int32) = 0 then (1 : Int32) else 0) = (0 : Int32)) := by decide
    refine own_Go.st (fun _ k => XS.ifNo X213.here hx rfl (hb hby d_jdk_42_method_92_31) rfl ((if0 _ _).trans (feq hc214).1) k) ?_
    show own_Go _ _ _ _ (T213.setTop (mkF m 34 #[.val (.ref a1), .val (.int (Int32.ofNat i)), .val (.int (Int32.ofNat j)), .val (.int (Int32.ofNat cs.length)), .val (.int (Int32.ofNat (j - i)))] []))
    refine own_Go.st (fun _ k => XS.aloadN X213.here hx rfl (hb hby d_jdk_42_method_92_34) rfl rfl k) ?_
    show own_Go _ _ _ _ (T213.setTop (mkF m 35 #[.val (.ref a1), .val (.int (Int32.ofNat i)), .val (.int (Int32.ofNat j)), .val (.int (Int32.ofNat cs.length)), .val (.int (Int32.ofNat (j - i)))] [(.ref a1)]))
    obtain ⟨T215, X215, e215, st215⟩ := getF X213 hx hZ hown (host := "") (Or.inl (hw _ (List.mem_of_getElem? (i := 28) rfl))) Via.refl K213 s2208 (g := (mkF m 35 #[.val (.ref a1), .val (.int (Int32.ofNat i)), .val (.int (Int32.ofNat j)), .val (.int (Int32.ofNat cs.length)), .val (.int (Int32.ofNat (j - i)))] [(.ref a1)])) rfl rfl (hb hby d_jdk_42_method_92_35)
    refine own_Go.st st215 ?_
    show own_Go _ _ _ _ (T215.setTop (mkF m 38 #[.val (.ref a1), .val (.int (Int32.ofNat i)), .val (.int (Int32.ofNat j)), .val (.int (Int32.ofNat cs.length)), .val (.int (Int32.ofNat (j - i)))] [(.ref t1)]))
    refine own_Go.st (fun _ k => XS.iloadN X215.here hx rfl (hb hby d_jdk_42_method_92_38) rfl k) ?_
    show own_Go _ _ _ _ (T215.setTop (mkF m 39 #[.val (.ref a1), .val (.int (Int32.ofNat i)), .val (.int (Int32.ofNat j)), .val (.int (Int32.ofNat cs.length)), .val (.int (Int32.ofNat (j - i)))] [(.int (Int32.ofNat i)), (.ref t1)]))
    refine own_Go.st (fun _ k => XS.iload X215.here hx rfl (hb hby d_jdk_42_method_92_39) rfl k) ?_
    show own_Go _ _ _ _ (T215.setTop (mkF m 41 #[.val (.ref a1), .val (.int (Int32.ofNat i)), .val (.int (Int32.ofNat j)), .val (.int (Int32.ofNat cs.length)), .val (.int (Int32.ofNat (j - i)))] [(.int (Int32.ofNat (j - i))), (.int (Int32.ofNat i)), (.ref t1)]))
    obtain ⟨_, _, ⟨T216, L216, k216, n216⟩, -, X216, ⟨Lc216, hQ216, l216, y216, z216⟩, st216⟩ := Jvm.LawKit.callS X215 hx (y := (⟨"java/lang/StringLatin1", "newString", "([BII)Ljava/lang/String;"⟩ : MethodName)) hown (mvT hZ (hw _ (List.mem_of_getElem? (i := 129) rfl))) (mvT hZ (hw _ (List.mem_of_getElem? (i := 130) rfl))) (mvT hZ (hw _ (List.mem_of_getElem? (i := 62) rfl))) (mvT hZ (hw _ (List.mem_of_getElem? (i := 131) rfl))) (by decide) (backOf (W := 0) (rm_newStr l Z a0 hw [] t1 (Int32.ofNat i) (Int32.ofNat (j - i)) i (j - i) cs kb208 h0 OL s4208 rfl rfl (by omega) (by omega) (fun q => hnw ⟨q.1, by omega⟩) (by first | assumption | decide) (by first | assumption | decide) (by first | assumption | decide)) hZ (hw _ (List.mem_of_getElem? (i := 131) rfl)) (hw _ (List.mem_of_getElem? (i := 62) rfl)) (by decide) (by decide)) (g := (mkF m 41 #[.val (.ref a1), .val (.int (Int32.ofNat i)), .val (.int (Int32.ofNat j)), .val (.int (Int32.ofNat cs.length)), .val (.int (Int32.ofNat (j - i)))] [(.int (Int32.ofNat (j - i))), (.int (Int32.ofNat i)), (.ref t1)])) rfl (by rw [hml]; rfl) (argsL := [(.ref t1), (.int (Int32.ofNat i)), (.int (Int32.ofNat (j - i)))]) (rest := []) (lenOf pd_159 rfl) rfl (by show 2 * 0 + _ ≤ _; exact Nat.le_of_eq rfl) (hb hby d_jdk_42_method_92_41) (fun _ _ => ⟨rfl, e215, (by decide : 0 + 2 ≤ _), (by decide : 0 + 12 ≤ _)⟩)
    dsimp only [Pt.U, Pt.locs, Pt.cells, Pt.slots] at X216 l216 y216 z216 st216 hQ216
    subst l216 y216 z216
    obtain ⟨x_216, t_216, rfl, N216q, K216, f216_0, pr216_0, pr216_1⟩ := hQ216
    have N216 := Fr.app N213 N216q
    have z216 : h0.size ≤ T216.heap.size := K216.1
    have lt216_0 : @LT.lt Nat _ x_216 T216.heap.size := f216_0.lt
    have ltv216_0 : @LT.lt Nat _ t_216 T216.heap.size := f216_0.ltv
    refine own_Go.st st216 ?_
    show own_Go _ _ _ _ (T216.setTop (mkF m 44 #[.val (.ref a1), .val (.int (Int32.ofNat i)), .val (.int (Int32.ofNat j)), .val (.int (Int32.ofNat cs.length)), .val (.int (Int32.ofNat (j - i)))] [(.ref x_216)]))
    refine own_Go.st (fun _ k => XS.goto X216.here hx rfl (pc0 := 44) (pc' := 57) rfl (hb hby d_jdk_42_method_92_44) (by decide) (by decide) k) ?_
    show own_Go _ _ _ _ (T216.setTop (mkF m 57 #[.val (.ref a1), .val (.int (Int32.ofNat i)), .val (.int (Int32.ofNat j)), .val (.int (Int32.ofNat cs.length)), .val (.int (Int32.ofNat (j - i)))] [(.ref x_216)]))
    obtain ⟨fs217, hr217, hrun217, hend217, hW217, hsm217⟩ := X216.leave (v := some (.ref x_216)) (fun h => by rw [Bd.returns] at h; cases h)
    have K218 : Keep h0 T216.heap [] := (Keep.refl h0 []).trans K216 all0
    subst hPP
    refine ⟨_, _, own_retA X216 hx Bd.returns rfl rfl (hb hby d_jdk_42_method_92_57) hr217, hrun217, hend217, _, _, rfl, ?_, ⟨_, rfl⟩, hW217, hsm217.mono (by decide) (by decide)⟩
    · show Q_substr Z _ _ _ _ _ _ _ _ _ h0 _ T216.heap _
      exact ⟨x_216, t_216, rfl, N216, K218, f216_0, (by omega), (by omega)⟩
  ·
    refine own_Go.st (fun _ k => XS.ifYes X211.here hx rfl (pc0 := 12) (pc' := 22) rfl (hb hby d_jdk_42_method_92_12) rfl ((if0 _ _).trans (feq h12).2) (by decide) (by decide) k) ?_
    show own_Go _ _ _ _ (T211.setTop (mkF m 22 #[.val (.ref a1), .val (.int (Int32.ofNat i)), .val (.int (Int32.ofNat j)), .val (.int (Int32.ofNat cs.length)), .unset] []))
    refine own_Go.st (fun _ k => XS.iloadN X211.here hx rfl (hb hby d_jdk_42_method_92_22) rfl k) ?_
    show own_Go _ _ _ _ (T211.setTop (mkF m 23 #[.val (.ref a1), .val (.int (Int32.ofNat i)), .val (.int (Int32.ofNat j)), .val (.int (Int32.ofNat cs.length)), .unset] [(.int (Int32.ofNat j))]))
    refine own_Go.st (fun _ k => XS.iloadN X211.here hx rfl (hb hby d_jdk_42_method_92_23) rfl k) ?_
    show own_Go _ _ _ _ (T211.setTop (mkF m 24 #[.val (.ref a1), .val (.int (Int32.ofNat i)), .val (.int (Int32.ofNat j)), .val (.int (Int32.ofNat cs.length)), .unset] [(.int (Int32.ofNat i)), (.int (Int32.ofNat j))]))
    refine own_Go.st (fun _ k => XS.isub X211.here hx rfl (hb hby d_jdk_42_method_92_24) rfl k) ?_
    show own_Go _ _ _ _ (T211.setTop (mkF m 25 #[.val (.ref a1), .val (.int (Int32.ofNat i)), .val (.int (Int32.ofNat j)), .val (.int (Int32.ofNat cs.length)), .unset] [(.int ((Int32.ofNat j) - (Int32.ofNat i)))]))
    rw [own_ofB (by omega) (by omega)]
    show own_Go _ _ _ _ (T211.setTop (mkF m 25 #[.val (.ref a1), .val (.int (Int32.ofNat i)), .val (.int (Int32.ofNat j)), .val (.int (Int32.ofNat cs.length)), .unset] [(.int (Int32.ofNat (j - i)))]))
    refine own_Go.st (fun _ k => XS.istore X211.here hx rfl (hb hby d_jdk_42_method_92_25) rfl (l' := #[.val (.ref a1), .val (.int (Int32.ofNat i)), .val (.int (Int32.ofNat j)), .val (.int (Int32.ofNat cs.length)), .val (.int (Int32.ofNat (j - i)))]) rfl k) ?_
    show own_Go _ _ _ _ (T211.setTop (mkF m 27 #[.val (.ref a1), .val (.int (Int32.ofNat i)), .val (.int (Int32.ofNat j)), .val (.int (Int32.ofNat cs.length)), .val (.int (Int32.ofNat (j - i)))] []))
    refine own_Go.st (fun _ k => XS.aloadN X211.here hx rfl (hb hby d_jdk_42_method_92_27) rfl rfl k) ?_
    show own_Go _ _ _ _ (T211.setTop (mkF m 28 #[.val (.ref a1), .val (.int (Int32.ofNat i)), .val (.int (Int32.ofNat j)), .val (.int (Int32.ofNat cs.length)), .val (.int (Int32.ofNat (j - i)))] [(.ref a1)]))
    obtain ⟨cq219, kq219, q219a, q219b, q219c⟩ := isOf hZ K211 s1208
    obtain ⟨_, _, ⟨T219, L219, k219, n219⟩, -, X219, ⟨Lc219, hQ219, l219, y219, z219⟩, st219⟩ := X211.virtualBack hx (y := (⟨"java/lang/String", "isLatin1", "()Z"⟩ : MethodName)) (z := (⟨"java/lang/String", "isLatin1", "()Z"⟩ : MethodName)) hown (mvT hZ (hw _ (List.mem_of_getElem? (i := 55) rfl))) (mvT hZ (hw _ (List.mem_of_getElem? (i := 56) rfl))) (notFace_of_selects (args := #[]) (mvT hZ (hw _ (List.mem_of_getElem? (i := 58) rfl)))) (mvT hZ (hw _ (List.mem_of_getElem? (i := 58) rfl))) (mvT hZ (hw _ (List.mem_of_getElem? (i := 57) rfl))) (by decide) (backOf (W := 0) (rm_isl1 l Z a0 hw [] a1 (0 : Int32) zc h0 OL s3208 st_COMPACT_STRINGS (by first | assumption | decide)) hZ (hw _ (List.mem_of_getElem? (i := 59) rfl)) (hw _ (List.mem_of_getElem? (i := 11) rfl)) (by decide) (by decide)) q219a q219c (g := (mkF m 28 #[.val (.ref a1), .val (.int (Int32.ofNat i)), .val (.int (Int32.ofNat j)), .val (.int (Int32.ofNat cs.length)), .val (.int (Int32.ofNat (j - i)))] [(.ref a1)])) rfl (by rw [hml]; rfl) (Steps.refl _) (argsL := []) (rest := []) (lenOf pd_152 rfl) rfl (by show 2 * 0 + _ ≤ _; exact Nat.le_of_eq rfl) (hb hby d_jdk_42_method_92_28) (fun _ _ => ⟨rfl, K211, (by decide : 0 + 0 ≤ _), (by decide : 0 + 0 ≤ _)⟩)
    dsimp only [Pt.U, Pt.locs, Pt.cells, Pt.slots] at X219 l219 y219 z219 st219 hQ219
    subst l219 y219 z219
    obtain ⟨rfl, N219q, K219⟩ := hQ219
    have N219 := Fr.app N211 N219q
    refine own_Go.tr st219 ?_
    show own_Go _ _ _ _ (T219.setTop (mkF m 31 #[.val (.ref a1), .val (.int (Int32.ofNat i)), .val (.int (Int32.ofNat j)), .val (.int (Int32.ofNat cs.length)), .val (.int (Int32.ofNat (j - i)))] [(.int (if (0 : Int32) = 0 then (1 : Int32) else 0))]))
    have hc220 : ¬ ((if (0 : Int32) = 0 then (1 : Int32) else 0) = (0 : Int32)) := by decide
    refine own_Go.st (fun _ k => XS.ifNo X219.here hx rfl (hb hby d_jdk_42_method_92_31) rfl ((if0 _ _).trans (feq hc220).1) k) ?_
    show own_Go _ _ _ _ (T219.setTop (mkF m 34 #[.val (.ref a1), .val (.int (Int32.ofNat i)), .val (.int (Int32.ofNat j)), .val (.int (Int32.ofNat cs.length)), .val (.int (Int32.ofNat (j - i)))] []))
    refine own_Go.st (fun _ k => XS.aloadN X219.here hx rfl (hb hby d_jdk_42_method_92_34) rfl rfl k) ?_
    show own_Go _ _ _ _ (T219.setTop (mkF m 35 #[.val (.ref a1), .val (.int (Int32.ofNat i)), .val (.int (Int32.ofNat j)), .val (.int (Int32.ofNat cs.length)), .val (.int (Int32.ofNat (j - i)))] [(.ref a1)]))
    obtain ⟨T221, X221, e221, st221⟩ := getF X219 hx hZ hown (host := "") (Or.inl (hw _ (List.mem_of_getElem? (i := 28) rfl))) Via.refl K219 s2208 (g := (mkF m 35 #[.val (.ref a1), .val (.int (Int32.ofNat i)), .val (.int (Int32.ofNat j)), .val (.int (Int32.ofNat cs.length)), .val (.int (Int32.ofNat (j - i)))] [(.ref a1)])) rfl rfl (hb hby d_jdk_42_method_92_35)
    refine own_Go.st st221 ?_
    show own_Go _ _ _ _ (T221.setTop (mkF m 38 #[.val (.ref a1), .val (.int (Int32.ofNat i)), .val (.int (Int32.ofNat j)), .val (.int (Int32.ofNat cs.length)), .val (.int (Int32.ofNat (j - i)))] [(.ref t1)]))
    refine own_Go.st (fun _ k => XS.iloadN X221.here hx rfl (hb hby d_jdk_42_method_92_38) rfl k) ?_
    show own_Go _ _ _ _ (T221.setTop (mkF m 39 #[.val (.ref a1), .val (.int (Int32.ofNat i)), .val (.int (Int32.ofNat j)), .val (.int (Int32.ofNat cs.length)), .val (.int (Int32.ofNat (j - i)))] [(.int (Int32.ofNat i)), (.ref t1)]))
    refine own_Go.st (fun _ k => XS.iload X221.here hx rfl (hb hby d_jdk_42_method_92_39) rfl k) ?_
    show own_Go _ _ _ _ (T221.setTop (mkF m 41 #[.val (.ref a1), .val (.int (Int32.ofNat i)), .val (.int (Int32.ofNat j)), .val (.int (Int32.ofNat cs.length)), .val (.int (Int32.ofNat (j - i)))] [(.int (Int32.ofNat (j - i))), (.int (Int32.ofNat i)), (.ref t1)]))
    obtain ⟨_, _, ⟨T222, L222, k222, n222⟩, -, X222, ⟨Lc222, hQ222, l222, y222, z222⟩, st222⟩ := Jvm.LawKit.callS X221 hx (y := (⟨"java/lang/StringLatin1", "newString", "([BII)Ljava/lang/String;"⟩ : MethodName)) hown (mvT hZ (hw _ (List.mem_of_getElem? (i := 129) rfl))) (mvT hZ (hw _ (List.mem_of_getElem? (i := 130) rfl))) (mvT hZ (hw _ (List.mem_of_getElem? (i := 62) rfl))) (mvT hZ (hw _ (List.mem_of_getElem? (i := 131) rfl))) (by decide) (backOf (W := 0) (rm_newStr l Z a0 hw [] t1 (Int32.ofNat i) (Int32.ofNat (j - i)) i (j - i) cs kb208 h0 OL s4208 rfl rfl (by omega) (by omega) (fun q => hnw ⟨q.1, by omega⟩) (by first | assumption | decide) (by first | assumption | decide) (by first | assumption | decide)) hZ (hw _ (List.mem_of_getElem? (i := 131) rfl)) (hw _ (List.mem_of_getElem? (i := 62) rfl)) (by decide) (by decide)) (g := (mkF m 41 #[.val (.ref a1), .val (.int (Int32.ofNat i)), .val (.int (Int32.ofNat j)), .val (.int (Int32.ofNat cs.length)), .val (.int (Int32.ofNat (j - i)))] [(.int (Int32.ofNat (j - i))), (.int (Int32.ofNat i)), (.ref t1)])) rfl (by rw [hml]; rfl) (argsL := [(.ref t1), (.int (Int32.ofNat i)), (.int (Int32.ofNat (j - i)))]) (rest := []) (lenOf pd_159 rfl) rfl (by show 2 * 0 + _ ≤ _; exact Nat.le_of_eq rfl) (hb hby d_jdk_42_method_92_41) (fun _ _ => ⟨rfl, e221, (by decide : 0 + 2 ≤ _), (by decide : 0 + 12 ≤ _)⟩)
    dsimp only [Pt.U, Pt.locs, Pt.cells, Pt.slots] at X222 l222 y222 z222 st222 hQ222
    subst l222 y222 z222
    obtain ⟨x_222, t_222, rfl, N222q, K222, f222_0, pr222_0, pr222_1⟩ := hQ222
    have N222 := Fr.app N219 N222q
    have z222 : h0.size ≤ T222.heap.size := K222.1
    have lt222_0 : @LT.lt Nat _ x_222 T222.heap.size := f222_0.lt
    have ltv222_0 : @LT.lt Nat _ t_222 T222.heap.size := f222_0.ltv
    refine own_Go.st st222 ?_
    show own_Go _ _ _ _ (T222.setTop (mkF m 44 #[.val (.ref a1), .val (.int (Int32.ofNat i)), .val (.int (Int32.ofNat j)), .val (.int (Int32.ofNat cs.length)), .val (.int (Int32.ofNat (j - i)))] [(.ref x_222)]))
    refine own_Go.st (fun _ k => XS.goto X222.here hx rfl (pc0 := 44) (pc' := 57) rfl (hb hby d_jdk_42_method_92_44) (by decide) (by decide) k) ?_
    show own_Go _ _ _ _ (T222.setTop (mkF m 57 #[.val (.ref a1), .val (.int (Int32.ofNat i)), .val (.int (Int32.ofNat j)), .val (.int (Int32.ofNat cs.length)), .val (.int (Int32.ofNat (j - i)))] [(.ref x_222)]))
    obtain ⟨fs223, hr223, hrun223, hend223, hW223, hsm223⟩ := X222.leave (v := some (.ref x_222)) (fun h => by rw [Bd.returns] at h; cases h)
    have K224 : Keep h0 T222.heap [] := (Keep.refl h0 []).trans K222 all0
    subst hPP
    refine ⟨_, _, own_retA X222 hx Bd.returns rfl rfl (hb hby d_jdk_42_method_92_57) hr223, hrun223, hend223, _, _, rfl, ?_, ⟨_, rfl⟩, hW223, hsm223.mono (by decide) (by decide)⟩
    · show Q_substr Z _ _ _ _ _ _ _ _ _ h0 _ T222.heap _
      exact ⟨x_222, t_222, rfl, N222, K224, f222_0, (by omega), (by omega)⟩

theorem own_ofB1 {j : Nat} (h : j < 100000) : Int32.ofNat (j + 1) - (1 : Int32) = Int32.ofNat j := own_ofB (i := j + 1) (j := 1) (by omega) (by omega)
theorem own_am1 (x : Int32) : x + (-1 : Int32) = x - (1 : Int32) := (Int32.sub_eq_add_neg x 1).symm
theorem own_sa1 (x : Int32) : x - (1 : Int32) + (1 : Int32) = x := Int32.sub_add_cancel x 1
theorem own_lt0 {i : Nat} (h : i < 100000) : Int32.ofNat i - (1 : Int32) < 0 ↔ i = 0 := by
  have a := c_isub (Int32.ofNat i) (1 : Int32)
  have b := own_of (i := i) (by omega)
  have e1 : (1 : Int32).toInt = 1 := by decide
  have e0 : (0 : Int32).toInt = 0 := by decide
  have r := rng32 (Int32.ofNat i - (1 : Int32))
  rw [Int32.lt_iff_toInt_lt, e0]
  omega
def own_ix (e n : Nat) : Int32 := if e < n then Int32.ofNat e else -1
theorem own_ixF {e n : Nat} (h : ¬ own_ix e n < 0) : e < n := by
  unfold own_ix at h
  by_cases q : e < n
  · exact q
  · rw [if_neg q] at h; exact absurd (by decide) h
theorem own_ixT {e n : Nat} (hn : n < 100000) (h : own_ix e n < 0) : ¬ e < n := fun q => by
  unfold own_ix at h
  rw [if_pos q] at h
  exact own_of0 (by omega) h
theorem own_lowAt {cs : List Int32} {i : Nat} (hi : i < cs.length) (hl : cs.length ≤ 4000) (d : Value) : (own_low cs).getD (Int32.ofNat i).toNatClampNeg d = .int (StrChars.lo8 (cs.getD i 0)) := by
  rw [own_ofn (by omega), own_lowG, if_pos hi]
theorem own_mem {cs : List Int32} {i : Nat} (hi : i < cs.length) : cs.getD i 0 ∈ cs := by
  simp [List.getD_eq_getElem?_getD, hi]
theorem own_loN {cs : List Int32} {i : Nat} {ch : Int32} (hi : i < cs.length) (h : ¬ (StrChars.lo8 (cs.getD i 0)) = (ch.toInt8.toInt32)) : cs.getD i 0 ≠ ch := fun q => h (by rw [q]; rfl)
theorem own_loY {cs : List Int32} {i : Nat} {ch : Int32} (hi : i < cs.length) (hl : ∀ c ∈ cs, ¬ c < 0 ∧ ¬ (255 : Int32) < c) (hc : ch = 46 ∨ ch = 36) (h : (StrChars.lo8 (cs.getD i 0)) = (ch.toInt8.toInt32)) : cs.getD i 0 = ch := by
  have a := hl _ (own_mem hi)
  have b : ¬ ch < 0 ∧ ¬ (255 : Int32) < ch := by rcases hc with rfl | rfl <;> decide
  exact StrChars.lo8_inj a.1 a.2 b.1 b.2 h
def own_Ld (cs : List Int32) (ch : Int32) (st : Nat) : Prop := st ≤ cs.length ∧ (st = 0 ∨ cs.getD (st - 1) 0 = ch) ∧ ∀ j, st ≤ j → j < cs.length → cs.getD j 0 ≠ ch
def own_Ix (cs : List Int32) (ch : Int32) (i0 e : Nat) : Prop := e ≤ cs.length ∧ (e < cs.length → i0 ≤ e ∧ cs.getD e 0 = ch) ∧ ∀ j, i0 ≤ j → j < e → cs.getD j 0 ≠ ch
theorem own_LdS {cs : List Int32} {ch : Int32} {j : Nat} (hj : j < cs.length) (h : cs.getD j 0 ≠ ch) (r : ∀ k, j + 1 ≤ k → k < cs.length → cs.getD k 0 ≠ ch) : ∀ k, j ≤ k → k < cs.length → cs.getD k 0 ≠ ch := fun k a b => by
  by_cases q : k = j
  · rw [q]; exact h
  · exact r k (by omega) b
theorem own_IxS {cs : List Int32} {ch : Int32} {i0 i : Nat} (h : cs.getD i 0 ≠ ch) (r : ∀ k, i0 ≤ k → k < i → cs.getD k 0 ≠ ch) : ∀ k, i0 ≤ k → k < i + 1 → cs.getD k 0 ≠ ch := fun k a b => by
  by_cases q : k = i
  · rw [q]; exact h
  · exact r k a (by omega)

theorem d_jdk_29_method_65_0 : decode jdk_29_method_65_code 0 = .ok (.iload_n 0, 1) := by decide +kernel
theorem d_jdk_29_method_65_1 : decode jdk_29_method_65_code 1 = .ok (.iload_n 1, 1) := by decide +kernel
theorem d_jdk_29_method_65_2 : decode jdk_29_method_65_code 2 = .ok (.if_icmp .lt 7, 3) := by decide +kernel
theorem d_jdk_29_method_65_9 : decode jdk_29_method_65_code 9 = .ok (.iload_n 1, 1) := by decide +kernel
theorem d_jdk_29_method_65_10 : decode jdk_29_method_65_code 10 = .ok (.ireturn, 1) := by decide +kernel
theorem d_jdk_29_method_65_5 : decode jdk_29_method_65_code 5 = .ok (.iload_n 0, 1) := by decide +kernel
theorem d_jdk_29_method_65_6 : decode jdk_29_method_65_code 6 = .ok (.goto 4, 3) := by decide +kernel
def Q_mmax (Z : State) (p1 : Int32) (p2 : Int32) (h0 : Heap) (v : Option Value) (h : Heap) (L : List Loc) : Prop := v = some (.int (if p1 < p2 then p2 else p1)) ∧ Fr Z.heap.size L ∧ h = h0
set_option maxRecDepth 65536 in
set_option maxHeartbeats 40000000 in
theorem rm_mmax (l : Launch) (Z : State) (a0 : Array Value) (hw : ∀ d ∈ tables_1, d.before a0 Z = true) (ws : List Jvm.Cond) (p1 : Int32) (p2 : Int32) (h0 : Heap) (OL : Old Z Z.heap.size h0) :
    MetFree l (⟨"java/lang/Math", "max", "(II)I"⟩ : MethodName) (head1 (Jvm.Cond.code (⟨"java/lang/Math", "max", "(II)I"⟩ : MethodName) jdk_29_method_65_code 2 (some .int) :: ws) ({ frames := 0, cells := 0, slots := 0, locals := 0 } : Room)) (fun a U => a = #[(.int p1), (.int p2)] ∧ Z.Warmed39 U.vm ∧ U.heap = h0) (fun _ _ _ _ _ => True) (fun _ U o U' => ∃ v L, o = .returned v ∧ Q_mmax Z p1 p2 h0 v U'.heap L ∧ FrameEnd U o U' L ({ frames := 0, cells := 0, slots := 0, locals := 0 } : Room).cells ({ frames := 0, cells := 0, slots := 0, locals := 0 } : Room).slots) := by
  refine MetFree.of_bodySF (by decide +kernel) hisR ?_
  intro p e s m args below meth c s₁ Bd hml0 hP hK
  obtain ⟨rfl, hZ, hh⟩ := hP
  have hx := Bd.exec
  have hby := Bd.bytes
  have hml : c.maxLocals = 2 := hml0
  have hown : s.vm.findClass "java/lang/Math" = some m.cls := findClass_of_methodNamed Bd.named
  have hnm := (name_of_methodNamed Bd.named Bd.method).1
  have X0 : Stand p l e ({ frames := 0, cells := 0, slots := 0, locals := 0 } : Room) s m #[(.int p1), (.int p2)] below meth c s₁ [] 0 0 := Stand.of_body Bd
  have e0 : s₁.heap = h0 := by rw [← hh, Bd.state]; rfl
  have N0 := Fr.nil Z.heap.size
  have Z0 : Z.heap.size ≤ h0.size := OL.2.1
  obtain ⟨PP, hPP⟩ : ∃ PP : Outcome → State → Prop, PP = (fun o tE => ∃ v L, o = .returned v ∧ Q_mmax Z p1 p2 h0 v tE.heap L ∧ FrameEnd s o tE L ({ frames := 0, cells := 0, slots := 0, locals := 0 } : Room).cells ({ frames := 0, cells := 0, slots := 0, locals := 0 } : Room).slots) := ⟨_, rfl⟩
  show own_Go p.tables e below (fun o tE => ∃ v L, o = .returned v ∧ Q_mmax Z p1 p2 h0 v tE.heap L ∧ FrameEnd s o tE L ({ frames := 0, cells := 0, slots := 0, locals := 0 } : Room).cells ({ frames := 0, cells := 0, slots := 0, locals := 0 } : Room).slots) (s₁.setTop (entryFrame m #[(.int p1), (.int p2)] 2))
  rw [← hPP]
  refine own_Go.st (fun t k => castTop (ef_25 m p1 p2) k) ?_
  show own_Go _ _ _ _ (s₁.setTop (mkF m 0 #[.val (.int p1), .val (.int p2)] []))
  refine own_Go.st (fun _ k => XS.iloadN X0.here hx rfl (hb hby d_jdk_29_method_65_0) rfl k) ?_
  show own_Go _ _ _ _ (s₁.setTop (mkF m 1 #[.val (.int p1), .val (.int p2)] [(.int p1)]))
  refine own_Go.st (fun _ k => XS.iloadN X0.here hx rfl (hb hby d_jdk_29_method_65_1) rfl k) ?_
  show own_Go _ _ _ _ (s₁.setTop (mkF m 2 #[.val (.int p1), .val (.int p2)] [(.int p2), (.int p1)]))
  by_cases hc225 : p1 < p2
  ·
    refine own_Go.st (fun _ k => XS.icmpYes X0.here hx rfl (pc0 := 2) (pc' := 9) rfl (hb hby d_jdk_29_method_65_2) rfl (tlt hc225).1 (by decide) (by decide) k) ?_
    show own_Go _ _ _ _ (s₁.setTop (mkF m 9 #[.val (.int p1), .val (.int p2)] []))
    refine own_Go.st (fun _ k => XS.iloadN X0.here hx rfl (hb hby d_jdk_29_method_65_9) rfl k) ?_
    show own_Go _ _ _ _ (s₁.setTop (mkF m 10 #[.val (.int p1), .val (.int p2)] [(.int p2)]))
    obtain ⟨fs226, hr226, hrun226, hend226, hW226, hsm226⟩ := X0.leave (v := some (.int p2)) (fun h => by rw [Bd.returns] at h; cases h)
    subst hPP
    refine ⟨_, _, own_retI X0 hx Bd.returns (hb hby d_jdk_29_method_65_10) hr226, hrun226, hend226, _, _, rfl, ?_, ⟨_, rfl⟩, hW226, hsm226.mono (by decide) (by decide)⟩
    · show Q_mmax Z _ _ h0 _ s₁.heap _
      rw [e0]
      exact ⟨(by rw [if_pos hc225]), N0, rfl⟩
  ·
    refine own_Go.st (fun _ k => XS.icmpNo X0.here hx rfl (hb hby d_jdk_29_method_65_2) rfl (flt hc225).1 k) ?_
    show own_Go _ _ _ _ (s₁.setTop (mkF m 5 #[.val (.int p1), .val (.int p2)] []))
    refine own_Go.st (fun _ k => XS.iloadN X0.here hx rfl (hb hby d_jdk_29_method_65_5) rfl k) ?_
    show own_Go _ _ _ _ (s₁.setTop (mkF m 6 #[.val (.int p1), .val (.int p2)] [(.int p1)]))
    refine own_Go.st (fun _ k => XS.goto X0.here hx rfl (pc0 := 6) (pc' := 10) rfl (hb hby d_jdk_29_method_65_6) (by decide) (by decide) k) ?_
    show own_Go _ _ _ _ (s₁.setTop (mkF m 10 #[.val (.int p1), .val (.int p2)] [(.int p1)]))
    obtain ⟨fs227, hr227, hrun227, hend227, hW227, hsm227⟩ := X0.leave (v := some (.int p1)) (fun h => by rw [Bd.returns] at h; cases h)
    subst hPP
    refine ⟨_, _, own_retI X0 hx Bd.returns (hb hby d_jdk_29_method_65_10) hr227, hrun227, hend227, _, _, rfl, ?_, ⟨_, rfl⟩, hW227, hsm227.mono (by decide) (by decide)⟩
    · show Q_mmax Z _ _ h0 _ s₁.heap _
      rw [e0]
      exact ⟨(by rw [if_neg hc225]), N0, rfl⟩
theorem ef_170 (m : MethodId) (x0 : Int32) : entryFrame m #[(.int x0)] 1 = mkF m 0 #[.val (.int x0)] [] := by first | (simp [entryFrame, mkF, argsToLocals, Value.category]; done) | rfl
theorem d_jdk_43_method_4_0 : decode jdk_43_method_4_code 0 = .ok (.iload_n 0, 1) := by decide +kernel
theorem d_jdk_43_method_4_1 : decode jdk_43_method_4_code 1 = .ok (.ifCond .lt 14, 3) := by decide +kernel
theorem d_jdk_43_method_4_4 : decode jdk_43_method_4_code 4 = .ok (.iload_n 0, 1) := by decide +kernel
theorem d_jdk_43_method_4_5 : decode jdk_43_method_4_code 5 = .ok (.sipush 255, 3) := by decide +kernel
theorem d_jdk_43_method_4_8 : decode jdk_43_method_4_code 8 = .ok (.if_icmp .gt 7, 3) := by decide +kernel
theorem d_jdk_43_method_4_11 : decode jdk_43_method_4_code 11 = .ok (.iconst 1, 1) := by decide +kernel
theorem d_jdk_43_method_4_12 : decode jdk_43_method_4_code 12 = .ok (.goto 4, 3) := by decide +kernel
theorem d_jdk_43_method_4_16 : decode jdk_43_method_4_code 16 = .ok (.ireturn, 1) := by decide +kernel
def Q_canEncI (Z : State) (p1 : Int32) (h0 : Heap) (v : Option Value) (h : Heap) (L : List Loc) : Prop := v = some (.int (1 : Int32)) ∧ Fr Z.heap.size L ∧ h = h0
set_option maxRecDepth 65536 in
set_option maxHeartbeats 40000000 in
theorem rm_canEncI (l : Launch) (Z : State) (a0 : Array Value) (hw : ∀ d ∈ tables_1, d.before a0 Z = true) (ws : List Jvm.Cond) (p1 : Int32) (h0 : Heap) (OL : Old Z Z.heap.size h0) (h : p1 = 46 ∨ p1 = 36) :
    MetFree l (⟨"java/lang/StringLatin1", "canEncode", "(I)Z"⟩ : MethodName) (head1 (Jvm.Cond.code (⟨"java/lang/StringLatin1", "canEncode", "(I)Z"⟩ : MethodName) jdk_43_method_4_code 1 (some .boolean) :: ws) ({ frames := 0, cells := 0, slots := 0, locals := 0 } : Room)) (fun a U => a = #[(.int p1)] ∧ Z.Warmed39 U.vm ∧ U.heap = h0) (fun _ _ _ _ _ => True) (fun _ U o U' => ∃ v L, o = .returned v ∧ Q_canEncI Z p1 h0 v U'.heap L ∧ FrameEnd U o U' L ({ frames := 0, cells := 0, slots := 0, locals := 0 } : Room).cells ({ frames := 0, cells := 0, slots := 0, locals := 0 } : Room).slots) := by
  refine MetFree.of_bodySF (plainFor_of_name pn_118) hisR ?_
  intro p e s m args below meth c s₁ Bd hml0 hP hK
  obtain ⟨rfl, hZ, hh⟩ := hP
  have hx := Bd.exec
  have hby := Bd.bytes
  have hml : c.maxLocals = 1 := hml0
  have hown : s.vm.findClass "java/lang/StringLatin1" = some m.cls := findClass_of_methodNamed Bd.named
  have hnm := (name_of_methodNamed Bd.named Bd.method).1
  have X0 : Stand p l e ({ frames := 0, cells := 0, slots := 0, locals := 0 } : Room) s m #[(.int p1)] below meth c s₁ [] 0 0 := Stand.of_body Bd
  have e0 : s₁.heap = h0 := by rw [← hh, Bd.state]; rfl
  have N0 := Fr.nil Z.heap.size
  have Z0 : Z.heap.size ≤ h0.size := OL.2.1
  obtain ⟨PP, hPP⟩ : ∃ PP : Outcome → State → Prop, PP = (fun o tE => ∃ v L, o = .returned v ∧ Q_canEncI Z p1 h0 v tE.heap L ∧ FrameEnd s o tE L ({ frames := 0, cells := 0, slots := 0, locals := 0 } : Room).cells ({ frames := 0, cells := 0, slots := 0, locals := 0 } : Room).slots) := ⟨_, rfl⟩
  show own_Go p.tables e below (fun o tE => ∃ v L, o = .returned v ∧ Q_canEncI Z p1 h0 v tE.heap L ∧ FrameEnd s o tE L ({ frames := 0, cells := 0, slots := 0, locals := 0 } : Room).cells ({ frames := 0, cells := 0, slots := 0, locals := 0 } : Room).slots) (s₁.setTop (entryFrame m #[(.int p1)] 1))
  rw [← hPP]
  refine own_Go.st (fun t k => castTop (ef_170 m p1) k) ?_
  show own_Go _ _ _ _ (s₁.setTop (mkF m 0 #[.val (.int p1)] []))
  refine own_Go.st (fun _ k => XS.iloadN X0.here hx rfl (hb hby d_jdk_43_method_4_0) rfl k) ?_
  show own_Go _ _ _ _ (s₁.setTop (mkF m 1 #[.val (.int p1)] [(.int p1)]))
  have hc228 : ¬ (p1 < (0 : Int32)) := by rcases h with rfl | rfl <;> decide
  refine own_Go.st (fun _ k => XS.ifNo X0.here hx rfl (hb hby d_jdk_43_method_4_1) rfl ((if0 _ _).trans (flt hc228).1) k) ?_
  show own_Go _ _ _ _ (s₁.setTop (mkF m 4 #[.val (.int p1)] []))
  refine own_Go.st (fun _ k => XS.iloadN X0.here hx rfl (hb hby d_jdk_43_method_4_4) rfl k) ?_
  show own_Go _ _ _ _ (s₁.setTop (mkF m 5 #[.val (.int p1)] [(.int p1)]))
  refine own_Go.st (fun _ k => XS.sipush X0.here hx rfl (hb hby d_jdk_43_method_4_5) k) ?_
  show own_Go _ _ _ _ (s₁.setTop (mkF m 8 #[.val (.int p1)] [(.int (255 : Int32)), (.int p1)]))
  have hc229 : ¬ ((255 : Int32) < p1) := by rcases h with rfl | rfl <;> decide
  refine own_Go.st (fun _ k => XS.icmpNo X0.here hx rfl (hb hby d_jdk_43_method_4_8) rfl (flt hc229).2.2.1 k) ?_
  show own_Go _ _ _ _ (s₁.setTop (mkF m 11 #[.val (.int p1)] []))
  refine own_Go.st (fun _ k => XS.iconst X0.here hx rfl (hb hby d_jdk_43_method_4_11) k) ?_
  show own_Go _ _ _ _ (s₁.setTop (mkF m 12 #[.val (.int p1)] [(.int (1 : Int32))]))
  refine own_Go.st (fun _ k => XS.goto X0.here hx rfl (pc0 := 12) (pc' := 16) rfl (hb hby d_jdk_43_method_4_12) (by decide) (by decide) k) ?_
  show own_Go _ _ _ _ (s₁.setTop (mkF m 16 #[.val (.int p1)] [(.int (1 : Int32))]))
  obtain ⟨fs230, hr230, hrun230, hend230, hW230, hsm230⟩ := X0.leave (v := some (.int (nar .boolean (1 : Int32)))) (fun h => by rw [Bd.returns] at h; cases h)
  subst hPP
  refine ⟨_, _, retN X0 hx (t := .boolean) Bd.returns (by simp) (hb hby d_jdk_43_method_4_16) hr230, hrun230, hend230, _, _, rfl, ?_, ⟨_, rfl⟩, hW230, hsm230.mono (by decide) (by decide)⟩
  · show Q_canEncI Z _ h0 _ s₁.heap _
    rw [e0]
    exact ⟨rfl, N0, rfl⟩
theorem ef_179 (m : MethodId) (x0 : Nat) (x1 : Int32) (x2 : Int32) : entryFrame m #[(.ref x0), (.int x1), (.int x2)] 4 = mkF m 0 #[.val (.ref x0), .val (.int x1), .val (.int x2), .unset] [] := by first | (simp [entryFrame, mkF, argsToLocals, Value.category]; done) | rfl
theorem d_jdk_43_method_27_0 : decode jdk_43_method_27_code 0 = .ok (.iload_n 1, 1) := by decide +kernel
theorem pd_181 : parseMethodDescriptor "(I)Z" = some ⟨[.int], some .boolean⟩ := by decide +kernel
theorem d_jdk_43_method_27_1 : decode jdk_43_method_27_code 1 = .ok (.invokestatic 88, 3) := by decide +kernel
theorem d_jdk_43_method_27_4 : decode jdk_43_method_27_code 4 = .ok (.ifCond .ne 5, 3) := by decide +kernel
theorem d_jdk_43_method_27_9 : decode jdk_43_method_27_code 9 = .ok (.iload_n 2, 1) := by decide +kernel
theorem d_jdk_43_method_27_10 : decode jdk_43_method_27_code 10 = .ok (.aload_n 0, 1) := by decide +kernel
theorem d_jdk_43_method_27_11 : decode jdk_43_method_27_code 11 = .ok (.arraylength, 1) := by decide +kernel
theorem d_jdk_43_method_27_12 : decode jdk_43_method_27_code 12 = .ok (.iconst 1, 1) := by decide +kernel
theorem d_jdk_43_method_27_13 : decode jdk_43_method_27_code 13 = .ok (.isub, 1) := by decide +kernel
theorem d_jdk_43_method_27_14 : decode jdk_43_method_27_code 14 = .ok (.invokestatic 38, 3) := by decide +kernel
theorem d_jdk_43_method_27_17 : decode jdk_43_method_27_code 17 = .ok (.istore_n 3, 1) := by decide +kernel
theorem d_jdk_43_method_27_18 : decode jdk_43_method_27_code 18 = .ok (.iload_n 3, 1) := by decide +kernel
theorem d_jdk_43_method_27_19 : decode jdk_43_method_27_code 19 = .ok (.ifCond .lt 19, 3) := by decide +kernel
theorem d_jdk_43_method_27_38 : decode jdk_43_method_27_code 38 = .ok (.iconst (-1), 1) := by decide +kernel
theorem d_jdk_43_method_27_39 : decode jdk_43_method_27_code 39 = .ok (.ireturn, 1) := by decide +kernel
theorem d_jdk_43_method_27_22 : decode jdk_43_method_27_code 22 = .ok (.aload_n 0, 1) := by decide +kernel
theorem d_jdk_43_method_27_23 : decode jdk_43_method_27_code 23 = .ok (.iload_n 3, 1) := by decide +kernel
theorem d_jdk_43_method_27_24 : decode jdk_43_method_27_code 24 = .ok (.baload, 1) := by decide +kernel
theorem d_jdk_43_method_27_25 : decode jdk_43_method_27_code 25 = .ok (.iload_n 1, 1) := by decide +kernel
theorem d_jdk_43_method_27_26 : decode jdk_43_method_27_code 26 = .ok (.i2b, 1) := by decide +kernel
theorem d_jdk_43_method_27_27 : decode jdk_43_method_27_code 27 = .ok (.if_icmp .ne 5, 3) := by decide +kernel
theorem d_jdk_43_method_27_30 : decode jdk_43_method_27_code 30 = .ok (.iload_n 3, 1) := by decide +kernel
theorem d_jdk_43_method_27_31 : decode jdk_43_method_27_code 31 = .ok (.ireturn, 1) := by decide +kernel
theorem d_jdk_43_method_27_32 : decode jdk_43_method_27_code 32 = .ok (.iinc 3 (-1), 3) := by decide +kernel
theorem d_jdk_43_method_27_35 : decode jdk_43_method_27_code 35 = .ok (.goto (-17), 3) := by decide +kernel
def Q_l1last (Z : State) (a1 : Nat) (p2 : Int32) (p3 : Int32) (cs : List Int32) (k : ClassId) (h0 : Heap) (v : Option Value) (h : Heap) (L : List Loc) : Prop := ∃ (st : Nat), v = some (.int ((Int32.ofNat st) - (1 : Int32))) ∧ Fr Z.heap.size L ∧ h = h0 ∧ (own_Ld cs p2 st)
set_option maxRecDepth 65536 in
set_option maxHeartbeats 40000000 in
theorem rm_l1last (l : Launch) (Z : State) (a0 : Array Value) (hw : ∀ d ∈ tables_1, d.before a0 Z = true) (ws : List Jvm.Cond) (a1 : Nat) (p2 : Int32) (p3 : Int32) (cs : List Int32) (k : ClassId) (h0 : Heap) (OL : Old Z Z.heap.size h0) (p0_ : Arv Z h0 a1 k .byte (Int32.ofNat cs.length) (own_low cs) (.int (0 : Int32))) (hch : p2 = 46 ∨ p2 = 36) (hle : cs.length ≤ 4000) (hl : ∀ c ∈ cs, ¬ c < 0 ∧ ¬ (255 : Int32) < c) (hp3 : p3 = ((Int32.ofNat cs.length) - (1 : Int32))) :
    MetFree l (⟨"java/lang/StringLatin1", "lastIndexOf", "([BII)I"⟩ : MethodName) (head1 (Jvm.Cond.code (⟨"java/lang/StringLatin1", "lastIndexOf", "([BII)I"⟩ : MethodName) jdk_43_method_27_code 4 (some .int) :: ws) ({ frames := 1, cells := 0, slots := 0, locals := 14 } : Room)) (fun a U => a = #[(.ref a1), (.int p2), (.int p3)] ∧ Z.Warmed39 U.vm ∧ U.heap = h0) (fun _ _ _ _ _ => True) (fun _ U o U' => ∃ v L, o = .returned v ∧ Q_l1last Z a1 p2 p3 cs k h0 v U'.heap L ∧ FrameEnd U o U' L ({ frames := 1, cells := 0, slots := 0, locals := 14 } : Room).cells ({ frames := 1, cells := 0, slots := 0, locals := 14 } : Room).slots) := by
  refine MetFree.of_bodySF (plainFor_of_name pn_118) hisR ?_
  intro p e s m args below meth c s₁ Bd hml0 hP hK
  obtain ⟨rfl, hZ, hh⟩ := hP
  have hx := Bd.exec
  have hby := Bd.bytes
  have hml : c.maxLocals = 4 := hml0
  have hown : s.vm.findClass "java/lang/StringLatin1" = some m.cls := findClass_of_methodNamed Bd.named
  have hnm := (name_of_methodNamed Bd.named Bd.method).1
  have X0 : Stand p l e ({ frames := 1, cells := 0, slots := 0, locals := 14 } : Room) s m #[(.ref a1), (.int p2), (.int p3)] below meth c s₁ [] 0 0 := Stand.of_body Bd
  have e0 : s₁.heap = h0 := by rw [← hh, Bd.state]; rfl
  have N0 := Fr.nil Z.heap.size
  have Z0 : Z.heap.size ≤ h0.size := OL.2.1
  have lt_0 : @LT.lt Nat _ a1 h0.size := p0_.lt
  obtain ⟨PP, hPP⟩ : ∃ PP : Outcome → State → Prop, PP = (fun o tE => ∃ v L, o = .returned v ∧ Q_l1last Z a1 p2 p3 cs k h0 v tE.heap L ∧ FrameEnd s o tE L ({ frames := 1, cells := 0, slots := 0, locals := 14 } : Room).cells ({ frames := 1, cells := 0, slots := 0, locals := 14 } : Room).slots) := ⟨_, rfl⟩
  show own_Go p.tables e below (fun o tE => ∃ v L, o = .returned v ∧ Q_l1last Z a1 p2 p3 cs k h0 v tE.heap L ∧ FrameEnd s o tE L ({ frames := 1, cells := 0, slots := 0, locals := 14 } : Room).cells ({ frames := 1, cells := 0, slots := 0, locals := 14 } : Room).slots) (s₁.setTop (entryFrame m #[(.ref a1), (.int p2), (.int p3)] 4))
  rw [← hPP]
  refine own_Go.st (fun t k => castTop (ef_179 m a1 p2 p3) k) ?_
  subst hp3
  show own_Go _ _ _ _ (s₁.setTop (mkF m 0 #[.val (.ref a1), .val (.int p2), .val (.int ((Int32.ofNat cs.length) - (1 : Int32))), .unset] []))
  refine own_Go.st (fun _ k => XS.iloadN X0.here hx rfl (hb hby d_jdk_43_method_27_0) rfl k) ?_
  show own_Go _ _ _ _ (s₁.setTop (mkF m 1 #[.val (.ref a1), .val (.int p2), .val (.int ((Int32.ofNat cs.length) - (1 : Int32))), .unset] [(.int p2)]))
  obtain ⟨_, _, ⟨T231, L231, k231, n231⟩, -, X231, ⟨Lc231, hQ231, l231, y231, z231⟩, st231⟩ := Jvm.LawKit.callS X0 hx (y := (⟨"java/lang/StringLatin1", "canEncode", "(I)Z"⟩ : MethodName)) hown (mvT hZ (hw _ (List.mem_of_getElem? (i := 64) rfl))) (mvT hZ (hw _ (List.mem_of_getElem? (i := 65) rfl))) (mvT hZ (hw _ (List.mem_of_getElem? (i := 62) rfl))) (mvT hZ (hw _ (List.mem_of_getElem? (i := 66) rfl))) (by decide) (backOf (W := 0) (rm_canEncI l Z a0 hw [] p2 h0 OL hch) hZ (hw _ (List.mem_of_getElem? (i := 66) rfl)) (hw _ (List.mem_of_getElem? (i := 62) rfl)) (by decide) (by decide)) (g := (mkF m 1 #[.val (.ref a1), .val (.int p2), .val (.int ((Int32.ofNat cs.length) - (1 : Int32))), .unset] [(.int p2)])) rfl (by rw [hml]; rfl) (argsL := [(.int p2)]) (rest := []) (lenOf pd_181 rfl) rfl (by show 2 * 0 + _ ≤ _; exact Nat.le_of_eq rfl) (hb hby d_jdk_43_method_27_1) (fun _ _ => ⟨rfl, e0, (by decide : 0 + 0 ≤ _), (by decide : 0 + 0 ≤ _)⟩)
  dsimp only [Pt.U, Pt.locs, Pt.cells, Pt.slots] at X231 l231 y231 z231 st231 hQ231
  subst l231 y231 z231
  obtain ⟨rfl, N231q, K231⟩ := hQ231
  have N231 := Fr.app N0 N231q
  refine own_Go.st st231 ?_
  show own_Go _ _ _ _ (T231.setTop (mkF m 4 #[.val (.ref a1), .val (.int p2), .val (.int ((Int32.ofNat cs.length) - (1 : Int32))), .unset] [(.int (1 : Int32))]))
  have hc232 : ¬ ((1 : Int32) = (0 : Int32)) := by decide
  refine own_Go.st (fun _ k => XS.ifYes X231.here hx rfl (pc0 := 4) (pc' := 9) rfl (hb hby d_jdk_43_method_27_4) rfl ((if0 _ _).trans (feq hc232).2) (by decide) (by decide) k) ?_
  show own_Go _ _ _ _ (T231.setTop (mkF m 9 #[.val (.ref a1), .val (.int p2), .val (.int ((Int32.ofNat cs.length) - (1 : Int32))), .unset] []))
  refine own_Go.st (fun _ k => XS.iloadN X231.here hx rfl (hb hby d_jdk_43_method_27_9) rfl k) ?_
  show own_Go _ _ _ _ (T231.setTop (mkF m 10 #[.val (.ref a1), .val (.int p2), .val (.int ((Int32.ofNat cs.length) - (1 : Int32))), .unset] [(.int ((Int32.ofNat cs.length) - (1 : Int32)))]))
  refine own_Go.st (fun _ k => XS.aloadN X231.here hx rfl (hb hby d_jdk_43_method_27_10) rfl rfl k) ?_
  show own_Go _ _ _ _ (T231.setTop (mkF m 11 #[.val (.ref a1), .val (.int p2), .val (.int ((Int32.ofNat cs.length) - (1 : Int32))), .unset] [(.ref a1), (.int ((Int32.ofNat cs.length) - (1 : Int32)))]))
  obtain ⟨c233, Ar233, q233, S233, Nn233, H233, G233⟩ := id p0_
  refine own_Go.st (X231.arraylength hx (own_rwE K231 Ar233.1) (State.isArrayOf_alike hZ.alike Ar233.2.1) (g := (mkF m 11 #[.val (.ref a1), .val (.int p2), .val (.int ((Int32.ofNat cs.length) - (1 : Int32))), .unset] [(.ref a1), (.int ((Int32.ofNat cs.length) - (1 : Int32)))])) rfl rfl (hb hby d_jdk_43_method_27_11)) ?_
  rw [len_of S233 Nn233]
  show own_Go _ _ _ _ (T231.setTop (mkF m 12 #[.val (.ref a1), .val (.int p2), .val (.int ((Int32.ofNat cs.length) - (1 : Int32))), .unset] [(.int (Int32.ofNat cs.length)), (.int ((Int32.ofNat cs.length) - (1 : Int32)))]))
  refine own_Go.st (fun _ k => XS.iconst X231.here hx rfl (hb hby d_jdk_43_method_27_12) k) ?_
  show own_Go _ _ _ _ (T231.setTop (mkF m 13 #[.val (.ref a1), .val (.int p2), .val (.int ((Int32.ofNat cs.length) - (1 : Int32))), .unset] [(.int (1 : Int32)), (.int (Int32.ofNat cs.length)), (.int ((Int32.ofNat cs.length) - (1 : Int32)))]))
  refine own_Go.st (fun _ k => XS.isub X231.here hx rfl (hb hby d_jdk_43_method_27_13) rfl k) ?_
  show own_Go _ _ _ _ (T231.setTop (mkF m 14 #[.val (.ref a1), .val (.int p2), .val (.int ((Int32.ofNat cs.length) - (1 : Int32))), .unset] [(.int ((Int32.ofNat cs.length) - (1 : Int32))), (.int ((Int32.ofNat cs.length) - (1 : Int32)))]))
  obtain ⟨_, _, ⟨T234, L234, k234, n234⟩, -, X234, ⟨Lc234, hQ234, l234, y234, z234⟩, st234⟩ := Jvm.LawKit.callS X231 hx (y := (⟨"java/lang/Math", "min", "(II)I"⟩ : MethodName)) hown (mvT hZ (hw _ (List.mem_of_getElem? (i := 67) rfl))) (mvT hZ (hw _ (List.mem_of_getElem? (i := 68) rfl))) (mvT hZ (hw _ (List.mem_of_getElem? (i := 69) rfl))) (mvT hZ (hw _ (List.mem_of_getElem? (i := 70) rfl))) (by decide) (backOf (W := 0) (rm_mmin l Z a0 hw [] ((Int32.ofNat cs.length) - (1 : Int32)) ((Int32.ofNat cs.length) - (1 : Int32)) h0 OL ) hZ (hw _ (List.mem_of_getElem? (i := 70) rfl)) (hw _ (List.mem_of_getElem? (i := 69) rfl)) (by decide) (by decide)) (g := (mkF m 14 #[.val (.ref a1), .val (.int p2), .val (.int ((Int32.ofNat cs.length) - (1 : Int32))), .unset] [(.int ((Int32.ofNat cs.length) - (1 : Int32))), (.int ((Int32.ofNat cs.length) - (1 : Int32)))])) rfl (by rw [hml]; rfl) (argsL := [(.int ((Int32.ofNat cs.length) - (1 : Int32))), (.int ((Int32.ofNat cs.length) - (1 : Int32)))]) (rest := []) (lenOf pd_59 rfl) rfl (by show 2 * 0 + _ ≤ _; exact Nat.le_of_eq rfl) (hb hby d_jdk_43_method_27_14) (fun _ _ => ⟨rfl, K231, (by decide : 0 + 0 ≤ _), (by decide : 0 + 0 ≤ _)⟩)
  dsimp only [Pt.U, Pt.locs, Pt.cells, Pt.slots] at X234 l234 y234 z234 st234 hQ234
  subst l234 y234 z234
  obtain ⟨rfl, N234q, K234⟩ := hQ234
  have N234 := Fr.app N231 N234q
  refine own_Go.st st234 ?_
  show own_Go _ _ _ _ (T234.setTop (mkF m 17 #[.val (.ref a1), .val (.int p2), .val (.int ((Int32.ofNat cs.length) - (1 : Int32))), .unset] [(.int (if ((Int32.ofNat cs.length) - (1 : Int32)) < ((Int32.ofNat cs.length) - (1 : Int32)) then ((Int32.ofNat cs.length) - (1 : Int32)) else ((Int32.ofNat cs.length) - (1 : Int32))))]))
  rw [ite_self]
  show own_Go _ _ _ _ (T234.setTop (mkF m 17 #[.val (.ref a1), .val (.int p2), .val (.int ((Int32.ofNat cs.length) - (1 : Int32))), .unset] [(.int ((Int32.ofNat cs.length) - (1 : Int32)))]))
  refine own_Go.st (fun _ k => XS.istoreN X234.here hx rfl (hb hby d_jdk_43_method_27_17) rfl (l' := #[.val (.ref a1), .val (.int p2), .val (.int ((Int32.ofNat cs.length) - (1 : Int32))), .val (.int ((Int32.ofNat cs.length) - (1 : Int32)))]) rfl k) ?_
  show own_Go _ _ _ _ (T234.setTop (mkF m 18 #[.val (.ref a1), .val (.int p2), .val (.int ((Int32.ofNat cs.length) - (1 : Int32))), .val (.int ((Int32.ofNat cs.length) - (1 : Int32)))] []))
  have LP235 : ∀ (nL : Nat) (i : Nat), (i ≤ cs.length) → (∀ k, i ≤ k → k < cs.length → cs.getD k 0 ≠ p2) → i = nL → own_Go p.tables e below PP (T234.setTop (mkF m 18 #[.val (.ref a1), .val (.int p2), .val (.int ((Int32.ofNat cs.length) - (1 : Int32))), .val (.int ((Int32.ofNat i) - (1 : Int32)))] [])) := by
    intro nL
    induction nL using Nat.strongRecOn with
    | _ nL ihL =>
      intro i hi hr hmL
      refine own_Go.st (fun _ k => XS.iloadN X234.here hx rfl (hb hby d_jdk_43_method_27_18) rfl k) ?_
      show own_Go _ _ _ _ (T234.setTop (mkF m 19 #[.val (.ref a1), .val (.int p2), .val (.int ((Int32.ofNat cs.length) - (1 : Int32))), .val (.int ((Int32.ofNat i) - (1 : Int32)))] [(.int ((Int32.ofNat i) - (1 : Int32)))]))
      by_cases h19 : ((Int32.ofNat i) - (1 : Int32)) < (0 : Int32)
      ·
        refine own_Go.st (fun _ k => XS.ifYes X234.here hx rfl (pc0 := 19) (pc' := 38) rfl (hb hby d_jdk_43_method_27_19) rfl ((if0 _ _).trans (tlt h19).1) (by decide) (by decide) k) ?_
        show own_Go _ _ _ _ (T234.setTop (mkF m 38 #[.val (.ref a1), .val (.int p2), .val (.int ((Int32.ofNat cs.length) - (1 : Int32))), .val (.int ((Int32.ofNat i) - (1 : Int32)))] []))
        have hi0 := (own_lt0 (by omega)).mp h19
        subst hi0
        refine own_Go.st (fun _ k => XS.iconst X234.here hx rfl (hb hby d_jdk_43_method_27_38) k) ?_
        show own_Go _ _ _ _ (T234.setTop (mkF m 39 #[.val (.ref a1), .val (.int p2), .val (.int ((Int32.ofNat cs.length) - (1 : Int32))), .val (.int ((Int32.ofNat 0) - (1 : Int32)))] [(.int (-1 : Int32))]))
        obtain ⟨fs236, hr236, hrun236, hend236, hW236, hsm236⟩ := X234.leave (v := some (.int (-1 : Int32))) (fun h => by rw [Bd.returns] at h; cases h)
        subst hPP
        refine ⟨_, _, own_retI X234 hx Bd.returns (hb hby d_jdk_43_method_27_39) hr236, hrun236, hend236, _, _, rfl, ?_, ⟨_, rfl⟩, hW236, hsm236.mono (by decide) (by decide)⟩
        · show Q_l1last Z _ _ _ _ _ h0 _ T234.heap _
          rw [K234]
          exact ⟨0, (by decide), N234, rfl, ⟨Nat.zero_le _, Or.inl rfl, hr⟩⟩
      ·
        refine own_Go.st (fun _ k => XS.ifNo X234.here hx rfl (hb hby d_jdk_43_method_27_19) rfl ((if0 _ _).trans (flt h19).1) k) ?_
        show own_Go _ _ _ _ (T234.setTop (mkF m 22 #[.val (.ref a1), .val (.int p2), .val (.int ((Int32.ofNat cs.length) - (1 : Int32))), .val (.int ((Int32.ofNat i) - (1 : Int32)))] []))
        obtain ⟨j, rfl⟩ : ∃ j, i = j + 1 := ⟨i - 1, by have : ¬ i = 0 := fun q => h19 ((own_lt0 (by omega)).mpr q); omega⟩
        rw [own_ofB1 (by omega)]
        show own_Go _ _ _ _ (T234.setTop (mkF m 22 #[.val (.ref a1), .val (.int p2), .val (.int ((Int32.ofNat cs.length) - (1 : Int32))), .val (.int (Int32.ofNat j))] []))
        refine own_Go.st (fun _ k => XS.aloadN X234.here hx rfl (hb hby d_jdk_43_method_27_22) rfl rfl k) ?_
        show own_Go _ _ _ _ (T234.setTop (mkF m 23 #[.val (.ref a1), .val (.int p2), .val (.int ((Int32.ofNat cs.length) - (1 : Int32))), .val (.int (Int32.ofNat j))] [(.ref a1)]))
        refine own_Go.st (fun _ k => XS.iloadN X234.here hx rfl (hb hby d_jdk_43_method_27_23) rfl k) ?_
        show own_Go _ _ _ _ (T234.setTop (mkF m 24 #[.val (.ref a1), .val (.int p2), .val (.int ((Int32.ofNat cs.length) - (1 : Int32))), .val (.int (Int32.ofNat j))] [(.int (Int32.ofNat j)), (.ref a1)]))
        obtain ⟨c237, Ar237, q237, S237, Nn237, H237, G237⟩ := id p0_
        have hin237 : ¬ ((Int32.ofNat j) < 0 ∨ c237.slots.size ≤ ((Int32.ofNat j)).toNatClampNeg) := inb_of S237 ⟨own_of0 (by omega), (own_oflt (by omega) (by omega)).mpr hi⟩
        have hat237 : c237.slots[((Int32.ofNat j)).toNatClampNeg]? = some (.int (StrChars.lo8 (cs.getD j 0))) := H237.at hin237 (own_lowAt (by omega) hle _)
        refine own_Go.st (X234.baloadBytes hx (j := (Int32.ofNat j)) (v := (.int (StrChars.lo8 (cs.getD j 0)))) (own_rwE K234 Ar237.1) (State.isArrayOf_alike hZ.alike Ar237.2.1) Ar237.2.2 hin237 hat237 (g := (mkF m 24 #[.val (.ref a1), .val (.int p2), .val (.int ((Int32.ofNat cs.length) - (1 : Int32))), .val (.int (Int32.ofNat j))] [(.int (Int32.ofNat j)), (.ref a1)])) rfl rfl (hb hby d_jdk_43_method_27_24)) ?_
        show own_Go _ _ _ _ (T234.setTop (mkF m 25 #[.val (.ref a1), .val (.int p2), .val (.int ((Int32.ofNat cs.length) - (1 : Int32))), .val (.int (Int32.ofNat j))] [(.int (StrChars.lo8 (cs.getD j 0)))]))
        refine own_Go.st (fun _ k => XS.iloadN X234.here hx rfl (hb hby d_jdk_43_method_27_25) rfl k) ?_
        show own_Go _ _ _ _ (T234.setTop (mkF m 26 #[.val (.ref a1), .val (.int p2), .val (.int ((Int32.ofNat cs.length) - (1 : Int32))), .val (.int (Int32.ofNat j))] [(.int p2), (.int (StrChars.lo8 (cs.getD j 0)))]))
        refine own_Go.st (fun _ k => XS.i2b X234.here hx rfl (hb hby d_jdk_43_method_27_26) rfl k) ?_
        show own_Go _ _ _ _ (T234.setTop (mkF m 27 #[.val (.ref a1), .val (.int p2), .val (.int ((Int32.ofNat cs.length) - (1 : Int32))), .val (.int (Int32.ofNat j))] [(.int (p2.toInt8.toInt32)), (.int (StrChars.lo8 (cs.getD j 0)))]))
        by_cases h27 : (StrChars.lo8 (cs.getD j 0)) = (p2.toInt8.toInt32)
        ·
          refine own_Go.st (fun _ k => XS.icmpNo X234.here hx rfl (hb hby d_jdk_43_method_27_27) rfl (teq h27).2 k) ?_
          show own_Go _ _ _ _ (T234.setTop (mkF m 30 #[.val (.ref a1), .val (.int p2), .val (.int ((Int32.ofNat cs.length) - (1 : Int32))), .val (.int (Int32.ofNat j))] []))
          refine own_Go.st (fun _ k => XS.iloadN X234.here hx rfl (hb hby d_jdk_43_method_27_30) rfl k) ?_
          show own_Go _ _ _ _ (T234.setTop (mkF m 31 #[.val (.ref a1), .val (.int p2), .val (.int ((Int32.ofNat cs.length) - (1 : Int32))), .val (.int (Int32.ofNat j))] [(.int (Int32.ofNat j))]))
          obtain ⟨fs238, hr238, hrun238, hend238, hW238, hsm238⟩ := X234.leave (v := some (.int (Int32.ofNat j))) (fun h => by rw [Bd.returns] at h; cases h)
          subst hPP
          refine ⟨_, _, own_retI X234 hx Bd.returns (hb hby d_jdk_43_method_27_31) hr238, hrun238, hend238, _, _, rfl, ?_, ⟨_, rfl⟩, hW238, hsm238.mono (by decide) (by decide)⟩
          · show Q_l1last Z _ _ _ _ _ h0 _ T234.heap _
            rw [K234]
            exact ⟨(j + 1), (by rw [own_ofB1 (by omega)]), N234, rfl, ⟨hi, Or.inr (own_loY (by omega) hl hch h27), hr⟩⟩
        ·
          refine own_Go.st (fun _ k => XS.icmpYes X234.here hx rfl (pc0 := 27) (pc' := 32) rfl (hb hby d_jdk_43_method_27_27) rfl (feq h27).2 (by decide) (by decide) k) ?_
          show own_Go _ _ _ _ (T234.setTop (mkF m 32 #[.val (.ref a1), .val (.int p2), .val (.int ((Int32.ofNat cs.length) - (1 : Int32))), .val (.int (Int32.ofNat j))] []))
          refine own_Go.st (fun _ k => XS.iinc X234.here hx rfl (hb hby d_jdk_43_method_27_32) rfl (l' := #[.val (.ref a1), .val (.int p2), .val (.int ((Int32.ofNat cs.length) - (1 : Int32))), .val (.int ((Int32.ofNat j) + (-1 : Int32)))]) rfl k) ?_
          show own_Go _ _ _ _ (T234.setTop (mkF m 35 #[.val (.ref a1), .val (.int p2), .val (.int ((Int32.ofNat cs.length) - (1 : Int32))), .val (.int ((Int32.ofNat j) + (-1 : Int32)))] []))
          rw [own_am1]
          show own_Go _ _ _ _ (T234.setTop (mkF m 35 #[.val (.ref a1), .val (.int p2), .val (.int ((Int32.ofNat cs.length) - (1 : Int32))), .val (.int ((Int32.ofNat j) - (1 : Int32)))] []))
          refine own_Go.st (fun _ k => XS.goto X234.here hx rfl (pc0 := 35) (pc' := 18) rfl (hb hby d_jdk_43_method_27_35) (by decide) (by decide) k) ?_
          show own_Go _ _ _ _ (T234.setTop (mkF m 18 #[.val (.ref a1), .val (.int p2), .val (.int ((Int32.ofNat cs.length) - (1 : Int32))), .val (.int ((Int32.ofNat j) - (1 : Int32)))] []))
          exact ihL _ (by omega) j (by omega) (own_LdS (by omega) (own_loN (by omega) h27) hr) rfl
  exact LP235 _ cs.length (Nat.le_refl _) (fun k a b => absurd b (by omega)) rfl
theorem d_jdk_42_method_83_0 : decode jdk_42_method_83_code 0 = .ok (.aload_n 0, 1) := by decide +kernel
theorem d_jdk_42_method_83_1 : decode jdk_42_method_83_code 1 = .ok (.invokevirtual 492, 3) := by decide +kernel
theorem d_jdk_42_method_83_4 : decode jdk_42_method_83_code 4 = .ok (.ifCond .eq 15, 3) := by decide +kernel
theorem d_jdk_42_method_83_7 : decode jdk_42_method_83_code 7 = .ok (.aload_n 0, 1) := by decide +kernel
theorem d_jdk_42_method_83_8 : decode jdk_42_method_83_code 8 = .ok (.getfield 9, 3) := by decide +kernel
theorem d_jdk_42_method_83_11 : decode jdk_42_method_83_code 11 = .ok (.iload_n 1, 1) := by decide +kernel
theorem d_jdk_42_method_83_12 : decode jdk_42_method_83_code 12 = .ok (.iload_n 2, 1) := by decide +kernel
theorem pd_212 : parseMethodDescriptor "([BII)I" = some ⟨[(.array .byte), .int, .int], some .int⟩ := by decide +kernel
theorem d_jdk_42_method_83_13 : decode jdk_42_method_83_code 13 = .ok (.invokestatic 644, 3) := by decide +kernel
theorem d_jdk_42_method_83_16 : decode jdk_42_method_83_code 16 = .ok (.goto 12, 3) := by decide +kernel
theorem d_jdk_42_method_83_28 : decode jdk_42_method_83_code 28 = .ok (.ireturn, 1) := by decide +kernel
def Q_last2 (Z : State) (a1 : Nat) (p2 : Int32) (p3 : Int32) (t1 : Nat) (cs : List Int32) (zc : Int32) (h0 : Heap) (v : Option Value) (h : Heap) (L : List Loc) : Prop := ∃ (st : Nat), v = some (.int ((Int32.ofNat st) - (1 : Int32))) ∧ Fr Z.heap.size L ∧ h = h0 ∧ (own_Ld cs p2 st)
set_option maxRecDepth 65536 in
set_option maxHeartbeats 40000000 in
theorem rm_last2 (l : Launch) (Z : State) (a0 : Array Value) (hw : ∀ d ∈ tables_1, d.before a0 Z = true) (ws : List Jvm.Cond) (a1 : Nat) (p2 : Int32) (p3 : Int32) (t1 : Nat) (cs : List Int32) (zc : Int32) (h0 : Heap) (OL : Old Z Z.heap.size h0) (p0_ : own_Str Z h0 a1 t1 cs) (st_COMPACT_STRINGS : Sta Z Z.heap "java/lang/String" "COMPACT_STRINGS" "Z" (.int zc)) (hzc : ¬ zc = 0) (hch : p2 = 46 ∨ p2 = 36) (hle : cs.length ≤ 4000) (hl : ∀ c ∈ cs, ¬ c < 0 ∧ ¬ (255 : Int32) < c) (hp3 : p3 = ((Int32.ofNat cs.length) - (1 : Int32))) :
    MetFree l (⟨"java/lang/String", "lastIndexOf", "(II)I"⟩ : MethodName) (head1 (Jvm.Cond.code (⟨"java/lang/String", "lastIndexOf", "(II)I"⟩ : MethodName) jdk_42_method_83_code 3 (some .int) :: ws) ({ frames := 2, cells := 0, slots := 0, locals := 32 } : Room)) (fun a U => a = #[(.ref a1), (.int p2), (.int p3)] ∧ Z.Warmed39 U.vm ∧ U.heap = h0) (fun _ _ _ _ _ => True) (fun _ U o U' => ∃ v L, o = .returned v ∧ Q_last2 Z a1 p2 p3 t1 cs zc h0 v U'.heap L ∧ FrameEnd U o U' L ({ frames := 2, cells := 0, slots := 0, locals := 32 } : Room).cells ({ frames := 2, cells := 0, slots := 0, locals := 32 } : Room).slots) := by
  refine MetFree.of_bodySF (plainFor_of_name pn_0) hisR ?_
  intro p e s m args below meth c s₁ Bd hml0 hP hK
  obtain ⟨rfl, hZ, hh⟩ := hP
  have hx := Bd.exec
  have hby := Bd.bytes
  have hml : c.maxLocals = 3 := hml0
  have hown : s.vm.findClass "java/lang/String" = some m.cls := findClass_of_methodNamed Bd.named
  have hnm := (name_of_methodNamed Bd.named Bd.method).1
  have X0 : Stand p l e ({ frames := 2, cells := 0, slots := 0, locals := 32 } : Room) s m #[(.ref a1), (.int p2), (.int p3)] below meth c s₁ [] 0 0 := Stand.of_body Bd
  have e0 : s₁.heap = h0 := by rw [← hh, Bd.state]; rfl
  have N0 := Fr.nil Z.heap.size
  have Z0 : Z.heap.size ≤ h0.size := OL.2.1
  have lt_0 : @LT.lt Nat _ a1 h0.size := p0_.lt
  have ltv_0 : @LT.lt Nat _ t1 h0.size := p0_.ltv
  obtain ⟨PP, hPP⟩ : ∃ PP : Outcome → State → Prop, PP = (fun o tE => ∃ v L, o = .returned v ∧ Q_last2 Z a1 p2 p3 t1 cs zc h0 v tE.heap L ∧ FrameEnd s o tE L ({ frames := 2, cells := 0, slots := 0, locals := 32 } : Room).cells ({ frames := 2, cells := 0, slots := 0, locals := 32 } : Room).slots) := ⟨_, rfl⟩
  show own_Go p.tables e below (fun o tE => ∃ v L, o = .returned v ∧ Q_last2 Z a1 p2 p3 t1 cs zc h0 v tE.heap L ∧ FrameEnd s o tE L ({ frames := 2, cells := 0, slots := 0, locals := 32 } : Room).cells ({ frames := 2, cells := 0, slots := 0, locals := 32 } : Room).slots) (s₁.setTop (entryFrame m #[(.ref a1), (.int p2), (.int p3)] 3))
  rw [← hPP]
  refine own_Go.st (fun t k => castTop (ef_64 m a1 p2 p3) k) ?_
  obtain ⟨kb239, s1239, s2239, s3239, s4239⟩ := own_Str.latF p0_ (fun c q => (hl c q).2)
  show own_Go _ _ _ _ (s₁.setTop (mkF m 0 #[.val (.ref a1), .val (.int p2), .val (.int p3)] []))
  refine own_Go.st (fun _ k => XS.aloadN X0.here hx rfl (hb hby d_jdk_42_method_83_0) rfl rfl k) ?_
  show own_Go _ _ _ _ (s₁.setTop (mkF m 1 #[.val (.ref a1), .val (.int p2), .val (.int p3)] [(.ref a1)]))
  obtain ⟨cq240, kq240, q240a, q240b, q240c⟩ := isOf hZ e0 s1239
  obtain ⟨_, _, ⟨T240, L240, k240, n240⟩, -, X240, ⟨Lc240, hQ240, l240, y240, z240⟩, st240⟩ := X0.virtualBack hx (y := (⟨"java/lang/String", "isLatin1", "()Z"⟩ : MethodName)) (z := (⟨"java/lang/String", "isLatin1", "()Z"⟩ : MethodName)) hown (mvT hZ (hw _ (List.mem_of_getElem? (i := 55) rfl))) (mvT hZ (hw _ (List.mem_of_getElem? (i := 56) rfl))) (notFace_of_selects (args := #[]) (mvT hZ (hw _ (List.mem_of_getElem? (i := 58) rfl)))) (mvT hZ (hw _ (List.mem_of_getElem? (i := 58) rfl))) (mvT hZ (hw _ (List.mem_of_getElem? (i := 57) rfl))) (by decide) (backOf (W := 0) (rm_isl1 l Z a0 hw [] a1 (0 : Int32) zc h0 OL s3239 st_COMPACT_STRINGS (by first | assumption | decide)) hZ (hw _ (List.mem_of_getElem? (i := 59) rfl)) (hw _ (List.mem_of_getElem? (i := 11) rfl)) (by decide) (by decide)) q240a q240c (g := (mkF m 1 #[.val (.ref a1), .val (.int p2), .val (.int p3)] [(.ref a1)])) rfl (by rw [hml]; rfl) (Steps.refl _) (argsL := []) (rest := []) (lenOf pd_152 rfl) rfl (by show 2 * 0 + _ ≤ _; exact Nat.le_of_eq rfl) (hb hby d_jdk_42_method_83_1) (fun _ _ => ⟨rfl, e0, (by decide : 0 + 0 ≤ _), (by decide : 0 + 0 ≤ _)⟩)
  dsimp only [Pt.U, Pt.locs, Pt.cells, Pt.slots] at X240 l240 y240 z240 st240 hQ240
  subst l240 y240 z240
  obtain ⟨rfl, N240q, K240⟩ := hQ240
  have N240 := Fr.app N0 N240q
  refine own_Go.tr st240 ?_
  show own_Go _ _ _ _ (T240.setTop (mkF m 4 #[.val (.ref a1), .val (.int p2), .val (.int p3)] [(.int (if (0 : Int32) = 0 then (1 : Int32) else 0))]))
  have hc241 : ¬ ((if (0 : Int32) = 0 then (1 : Int32) else 0) = (0 : Int32)) := by decide
  refine own_Go.st (fun _ k => XS.ifNo X240.here hx rfl (hb hby d_jdk_42_method_83_4) rfl ((if0 _ _).trans (feq hc241).1) k) ?_
  show own_Go _ _ _ _ (T240.setTop (mkF m 7 #[.val (.ref a1), .val (.int p2), .val (.int p3)] []))
  refine own_Go.st (fun _ k => XS.aloadN X240.here hx rfl (hb hby d_jdk_42_method_83_7) rfl rfl k) ?_
  show own_Go _ _ _ _ (T240.setTop (mkF m 8 #[.val (.ref a1), .val (.int p2), .val (.int p3)] [(.ref a1)]))
  obtain ⟨T242, X242, e242, st242⟩ := getF X240 hx hZ hown (host := "") (Or.inl (hw _ (List.mem_of_getElem? (i := 28) rfl))) Via.refl K240 s2239 (g := (mkF m 8 #[.val (.ref a1), .val (.int p2), .val (.int p3)] [(.ref a1)])) rfl rfl (hb hby d_jdk_42_method_83_8)
  refine own_Go.st st242 ?_
  show own_Go _ _ _ _ (T242.setTop (mkF m 11 #[.val (.ref a1), .val (.int p2), .val (.int p3)] [(.ref t1)]))
  refine own_Go.st (fun _ k => XS.iloadN X242.here hx rfl (hb hby d_jdk_42_method_83_11) rfl k) ?_
  show own_Go _ _ _ _ (T242.setTop (mkF m 12 #[.val (.ref a1), .val (.int p2), .val (.int p3)] [(.int p2), (.ref t1)]))
  refine own_Go.st (fun _ k => XS.iloadN X242.here hx rfl (hb hby d_jdk_42_method_83_12) rfl k) ?_
  show own_Go _ _ _ _ (T242.setTop (mkF m 13 #[.val (.ref a1), .val (.int p2), .val (.int p3)] [(.int p3), (.int p2), (.ref t1)]))
  obtain ⟨_, _, ⟨T243, L243, k243, n243⟩, -, X243, ⟨Lc243, hQ243, l243, y243, z243⟩, st243⟩ := Jvm.LawKit.callS X242 hx (y := (⟨"java/lang/StringLatin1", "lastIndexOf", "([BII)I"⟩ : MethodName)) hown (mvT hZ (hw _ (List.mem_of_getElem? (i := 60) rfl))) (mvT hZ (hw _ (List.mem_of_getElem? (i := 61) rfl))) (mvT hZ (hw _ (List.mem_of_getElem? (i := 62) rfl))) (mvT hZ (hw _ (List.mem_of_getElem? (i := 63) rfl))) (by decide) (backOf (W := 0) (rm_l1last l Z a0 hw [] t1 p2 p3 cs kb239 h0 OL s4239 (by first | assumption | decide) (by first | assumption | decide) (by first | assumption | decide) (by first | assumption | decide)) hZ (hw _ (List.mem_of_getElem? (i := 63) rfl)) (hw _ (List.mem_of_getElem? (i := 62) rfl)) (by decide) (by decide)) (g := (mkF m 13 #[.val (.ref a1), .val (.int p2), .val (.int p3)] [(.int p3), (.int p2), (.ref t1)])) rfl (by rw [hml]; rfl) (argsL := [(.ref t1), (.int p2), (.int p3)]) (rest := []) (lenOf pd_212 rfl) rfl (by show 2 * 0 + _ ≤ _; exact Nat.le_of_eq rfl) (hb hby d_jdk_42_method_83_13) (fun _ _ => ⟨rfl, e242, (by decide : 0 + 0 ≤ _), (by decide : 0 + 0 ≤ _)⟩)
  dsimp only [Pt.U, Pt.locs, Pt.cells, Pt.slots] at X243 l243 y243 z243 st243 hQ243
  subst l243 y243 z243
  obtain ⟨st_243, rfl, N243q, K243, pr243_0⟩ := hQ243
  have N243 := Fr.app N240 N243q
  refine own_Go.st st243 ?_
  show own_Go _ _ _ _ (T243.setTop (mkF m 16 #[.val (.ref a1), .val (.int p2), .val (.int p3)] [(.int ((Int32.ofNat st_243) - (1 : Int32)))]))
  refine own_Go.st (fun _ k => XS.goto X243.here hx rfl (pc0 := 16) (pc' := 28) rfl (hb hby d_jdk_42_method_83_16) (by decide) (by decide) k) ?_
  show own_Go _ _ _ _ (T243.setTop (mkF m 28 #[.val (.ref a1), .val (.int p2), .val (.int p3)] [(.int ((Int32.ofNat st_243) - (1 : Int32)))]))
  obtain ⟨fs244, hr244, hrun244, hend244, hW244, hsm244⟩ := X243.leave (v := some (.int ((Int32.ofNat st_243) - (1 : Int32)))) (fun h => by rw [Bd.returns] at h; cases h)
  subst hPP
  refine ⟨_, _, own_retI X243 hx Bd.returns (hb hby d_jdk_42_method_83_28) hr244, hrun244, hend244, _, _, rfl, ?_, ⟨_, rfl⟩, hW244, hsm244.mono (by decide) (by decide)⟩
  · show Q_last2 Z _ _ _ _ _ _ h0 _ T243.heap _
    rw [K243]
    exact ⟨st_243, rfl, N243, rfl, pr243_0⟩
theorem ef_216 (m : MethodId) (x0 : Nat) (x1 : Int32) : entryFrame m #[(.ref x0), (.int x1)] 2 = mkF m 0 #[.val (.ref x0), .val (.int x1)] [] := by first | (simp [entryFrame, mkF, argsToLocals, Value.category]; done) | rfl
theorem d_jdk_42_method_82_0 : decode jdk_42_method_82_code 0 = .ok (.aload_n 0, 1) := by decide +kernel
theorem d_jdk_42_method_82_1 : decode jdk_42_method_82_code 1 = .ok (.iload_n 1, 1) := by decide +kernel
theorem d_jdk_42_method_82_2 : decode jdk_42_method_82_code 2 = .ok (.aload_n 0, 1) := by decide +kernel
theorem d_jdk_42_method_82_3 : decode jdk_42_method_82_code 3 = .ok (.invokevirtual 505, 3) := by decide +kernel
theorem d_jdk_42_method_82_6 : decode jdk_42_method_82_code 6 = .ok (.iconst 1, 1) := by decide +kernel
theorem d_jdk_42_method_82_7 : decode jdk_42_method_82_code 7 = .ok (.isub, 1) := by decide +kernel
theorem d_jdk_42_method_82_8 : decode jdk_42_method_82_code 8 = .ok (.invokevirtual 641, 3) := by decide +kernel
theorem d_jdk_42_method_82_11 : decode jdk_42_method_82_code 11 = .ok (.ireturn, 1) := by decide +kernel
def Q_last1 (Z : State) (a1 : Nat) (p2 : Int32) (t1 : Nat) (cs : List Int32) (zc : Int32) (h0 : Heap) (v : Option Value) (h : Heap) (L : List Loc) : Prop := ∃ (st : Nat), v = some (.int ((Int32.ofNat st) - (1 : Int32))) ∧ Fr Z.heap.size L ∧ h = h0 ∧ (own_Ld cs p2 st)
set_option maxRecDepth 65536 in
set_option maxHeartbeats 40000000 in
theorem rm_last1 (l : Launch) (Z : State) (a0 : Array Value) (hw : ∀ d ∈ tables_1, d.before a0 Z = true) (ws : List Jvm.Cond) (a1 : Nat) (p2 : Int32) (t1 : Nat) (cs : List Int32) (zc : Int32) (h0 : Heap) (OL : Old Z Z.heap.size h0) (p0_ : own_Str Z h0 a1 t1 cs) (st_COMPACT_STRINGS : Sta Z Z.heap "java/lang/String" "COMPACT_STRINGS" "Z" (.int zc)) (hzc : ¬ zc = 0) (hch : p2 = 46 ∨ p2 = 36) (hle : cs.length ≤ 4000) (hl : ∀ c ∈ cs, ¬ c < 0 ∧ ¬ (255 : Int32) < c) :
    MetFree l (⟨"java/lang/String", "lastIndexOf", "(I)I"⟩ : MethodName) (head1 (Jvm.Cond.code (⟨"java/lang/String", "lastIndexOf", "(I)I"⟩ : MethodName) jdk_42_method_82_code 2 (some .int) :: ws) ({ frames := 3, cells := 0, slots := 0, locals := 48 } : Room)) (fun a U => a = #[(.ref a1), (.int p2)] ∧ Z.Warmed39 U.vm ∧ U.heap = h0) (fun _ _ _ _ _ => True) (fun _ U o U' => ∃ v L, o = .returned v ∧ Q_last1 Z a1 p2 t1 cs zc h0 v U'.heap L ∧ FrameEnd U o U' L ({ frames := 3, cells := 0, slots := 0, locals := 48 } : Room).cells ({ frames := 3, cells := 0, slots := 0, locals := 48 } : Room).slots) := by
  refine MetFree.of_bodySF (plainFor_of_name pn_0) hisR ?_
  intro p e s m args below meth c s₁ Bd hml0 hP hK
  obtain ⟨rfl, hZ, hh⟩ := hP
  have hx := Bd.exec
  have hby := Bd.bytes
  have hml : c.maxLocals = 2 := hml0
  have hown : s.vm.findClass "java/lang/String" = some m.cls := findClass_of_methodNamed Bd.named
  have hnm := (name_of_methodNamed Bd.named Bd.method).1
  have X0 : Stand p l e ({ frames := 3, cells := 0, slots := 0, locals := 48 } : Room) s m #[(.ref a1), (.int p2)] below meth c s₁ [] 0 0 := Stand.of_body Bd
  have e0 : s₁.heap = h0 := by rw [← hh, Bd.state]; rfl
  have N0 := Fr.nil Z.heap.size
  have Z0 : Z.heap.size ≤ h0.size := OL.2.1
  have lt_0 : @LT.lt Nat _ a1 h0.size := p0_.lt
  have ltv_0 : @LT.lt Nat _ t1 h0.size := p0_.ltv
  obtain ⟨PP, hPP⟩ : ∃ PP : Outcome → State → Prop, PP = (fun o tE => ∃ v L, o = .returned v ∧ Q_last1 Z a1 p2 t1 cs zc h0 v tE.heap L ∧ FrameEnd s o tE L ({ frames := 3, cells := 0, slots := 0, locals := 48 } : Room).cells ({ frames := 3, cells := 0, slots := 0, locals := 48 } : Room).slots) := ⟨_, rfl⟩
  show own_Go p.tables e below (fun o tE => ∃ v L, o = .returned v ∧ Q_last1 Z a1 p2 t1 cs zc h0 v tE.heap L ∧ FrameEnd s o tE L ({ frames := 3, cells := 0, slots := 0, locals := 48 } : Room).cells ({ frames := 3, cells := 0, slots := 0, locals := 48 } : Room).slots) (s₁.setTop (entryFrame m #[(.ref a1), (.int p2)] 2))
  rw [← hPP]
  refine own_Go.st (fun t k => castTop (ef_216 m a1 p2) k) ?_
  show own_Go _ _ _ _ (s₁.setTop (mkF m 0 #[.val (.ref a1), .val (.int p2)] []))
  refine own_Go.st (fun _ k => XS.aloadN X0.here hx rfl (hb hby d_jdk_42_method_82_0) rfl rfl k) ?_
  show own_Go _ _ _ _ (s₁.setTop (mkF m 1 #[.val (.ref a1), .val (.int p2)] [(.ref a1)]))
  refine own_Go.st (fun _ k => XS.iloadN X0.here hx rfl (hb hby d_jdk_42_method_82_1) rfl k) ?_
  show own_Go _ _ _ _ (s₁.setTop (mkF m 2 #[.val (.ref a1), .val (.int p2)] [(.int p2), (.ref a1)]))
  refine own_Go.st (fun _ k => XS.aloadN X0.here hx rfl (hb hby d_jdk_42_method_82_2) rfl rfl k) ?_
  show own_Go _ _ _ _ (s₁.setTop (mkF m 3 #[.val (.ref a1), .val (.int p2)] [(.ref a1), (.int p2), (.ref a1)]))
  obtain ⟨kb246, cd246, N246_, vs246, s1246, s2246, s3246, s4246, s5246, s6246, s7246⟩ := id p0_
  obtain ⟨cq245, kq245, q245a, q245b, q245c⟩ := isOf hZ e0 p0_.exa
  obtain ⟨_, _, ⟨T245, L245, k245, n245⟩, -, X245, ⟨Lc245, hQ245, l245, y245, z245⟩, st245⟩ := X0.virtualBack hx (y := (⟨"java/lang/String", "length", "()I"⟩ : MethodName)) (z := (⟨"java/lang/String", "length", "()I"⟩ : MethodName)) hown (mvT hZ (hw _ (List.mem_of_getElem? (i := 39) rfl))) (mvT hZ (hw _ (List.mem_of_getElem? (i := 40) rfl))) (notFace_of_selects (args := #[]) (mvT hZ (hw _ (List.mem_of_getElem? (i := 42) rfl)))) (mvT hZ (hw _ (List.mem_of_getElem? (i := 42) rfl))) (mvT hZ (hw _ (List.mem_of_getElem? (i := 41) rfl))) (by decide) (StrChars.Road.lenW (W := 2) hZ (own_hln hw) (kI := 4) (hw _ (List.mem_of_getElem? (i := 10) rfl)) s1246 s2246 s3246 s4246 s5246 s6246 (st_COMPACT_STRINGS.ext OL.2) hzc s7246 (by decide) (by decide)) q245a q245c (g := (mkF m 3 #[.val (.ref a1), .val (.int p2)] [(.ref a1), (.int p2), (.ref a1)])) rfl (by rw [hml]; rfl) (Steps.refl _) (argsL := []) (rest := [(.int p2), (.ref a1)]) (lenOf pd_134 rfl) rfl (by show 2 * 0 + _ ≤ _; exact Nat.le_of_eq rfl) (hb hby d_jdk_42_method_82_3) (fun _ _ => ⟨rfl, e0, (by decide : 0 + 0 ≤ _), (by decide : 0 + 0 ≤ _)⟩)
  dsimp only [Pt.U, Pt.locs, Pt.cells, Pt.slots] at X245 l245 y245 z245 st245 hQ245
  subst l245 y245 z245
  obtain ⟨rfl, rfl, K245⟩ := hQ245
  have N245 := Fr.app N0 (Fr.nil Z.heap.size)
  refine own_Go.tr st245 ?_
  show own_Go _ _ _ _ (T245.setTop (mkF m 6 #[.val (.ref a1), .val (.int p2)] [(.int (Int32.ofNat cs.length)), (.int p2), (.ref a1)]))
  refine own_Go.st (fun _ k => XS.iconst X245.here hx rfl (hb hby d_jdk_42_method_82_6) k) ?_
  show own_Go _ _ _ _ (T245.setTop (mkF m 7 #[.val (.ref a1), .val (.int p2)] [(.int (1 : Int32)), (.int (Int32.ofNat cs.length)), (.int p2), (.ref a1)]))
  refine own_Go.st (fun _ k => XS.isub X245.here hx rfl (hb hby d_jdk_42_method_82_7) rfl k) ?_
  show own_Go _ _ _ _ (T245.setTop (mkF m 8 #[.val (.ref a1), .val (.int p2)] [(.int ((Int32.ofNat cs.length) - (1 : Int32))), (.int p2), (.ref a1)]))
  obtain ⟨cq247, kq247, q247a, q247b, q247c⟩ := isOf hZ K245 p0_.exa
  obtain ⟨_, _, ⟨T247, L247, k247, n247⟩, -, X247, ⟨Lc247, hQ247, l247, y247, z247⟩, st247⟩ := X245.virtualBack hx (y := (⟨"java/lang/String", "lastIndexOf", "(II)I"⟩ : MethodName)) (z := (⟨"java/lang/String", "lastIndexOf", "(II)I"⟩ : MethodName)) hown (mvT hZ (hw _ (List.mem_of_getElem? (i := 50) rfl))) (mvT hZ (hw _ (List.mem_of_getElem? (i := 51) rfl))) (notFace_of_selects (args := #[]) (mvT hZ (hw _ (List.mem_of_getElem? (i := 53) rfl)))) (mvT hZ (hw _ (List.mem_of_getElem? (i := 53) rfl))) (mvT hZ (hw _ (List.mem_of_getElem? (i := 52) rfl))) (by decide) (backOf (W := 0) (rm_last2 l Z a0 hw [] a1 p2 ((Int32.ofNat cs.length) - (1 : Int32)) t1 cs zc h0 OL p0_ st_COMPACT_STRINGS (by first | assumption | decide) (by first | assumption | decide) (by first | assumption | decide) (by first | assumption | decide) rfl) hZ (hw _ (List.mem_of_getElem? (i := 54) rfl)) (hw _ (List.mem_of_getElem? (i := 11) rfl)) (by decide) (by decide)) q247a q247c (g := (mkF m 8 #[.val (.ref a1), .val (.int p2)] [(.int ((Int32.ofNat cs.length) - (1 : Int32))), (.int p2), (.ref a1)])) rfl (by rw [hml]; rfl) (Steps.refl _) (argsL := [(.int p2), (.int ((Int32.ofNat cs.length) - (1 : Int32)))]) (rest := []) (lenOf pd_59 rfl) rfl (by show 2 * 0 + _ ≤ _; exact Nat.le_of_eq rfl) (hb hby d_jdk_42_method_82_8) (fun _ _ => ⟨rfl, K245, (by decide : 0 + 0 ≤ _), (by decide : 0 + 0 ≤ _)⟩)
  dsimp only [Pt.U, Pt.locs, Pt.cells, Pt.slots] at X247 l247 y247 z247 st247 hQ247
  subst l247 y247 z247
  obtain ⟨st_247, rfl, N247q, K247, pr247_0⟩ := hQ247
  have N247 := Fr.app N245 N247q
  refine own_Go.tr st247 ?_
  show own_Go _ _ _ _ (T247.setTop (mkF m 11 #[.val (.ref a1), .val (.int p2)] [(.int ((Int32.ofNat st_247) - (1 : Int32)))]))
  obtain ⟨fs248, hr248, hrun248, hend248, hW248, hsm248⟩ := X247.leave (v := some (.int ((Int32.ofNat st_247) - (1 : Int32)))) (fun h => by rw [Bd.returns] at h; cases h)
  subst hPP
  refine ⟨_, _, own_retI X247 hx Bd.returns (hb hby d_jdk_42_method_82_11) hr248, hrun248, hend248, _, _, rfl, ?_, ⟨_, rfl⟩, hW248, hsm248.mono (by decide) (by decide)⟩
  · show Q_last1 Z _ _ _ _ _ h0 _ T247.heap _
    rw [K247]
    exact ⟨st_247, rfl, N247, rfl, pr247_0⟩
theorem ef_225 (m : MethodId) (x0 : Nat) (x1 : Int32) (x2 : Int32) (x3 : Int32) : entryFrame m #[(.ref x0), (.int x1), (.int x2), (.int x3)] 6 = mkF m 0 #[.val (.ref x0), .val (.int x1), .val (.int x2), .val (.int x3), .unset, .unset] [] := by first | (simp [entryFrame, mkF, argsToLocals, Value.category]; done) | rfl
theorem d_jdk_43_method_23_0 : decode jdk_43_method_23_code 0 = .ok (.iload_n 1, 1) := by decide +kernel
theorem d_jdk_43_method_23_1 : decode jdk_43_method_23_code 1 = .ok (.i2b, 1) := by decide +kernel
theorem d_jdk_43_method_23_2 : decode jdk_43_method_23_code 2 = .ok (.istore 4, 2) := by decide +kernel
theorem d_jdk_43_method_23_4 : decode jdk_43_method_23_code 4 = .ok (.iload_n 2, 1) := by decide +kernel
theorem d_jdk_43_method_23_5 : decode jdk_43_method_23_code 5 = .ok (.istore 5, 2) := by decide +kernel
theorem d_jdk_43_method_23_7 : decode jdk_43_method_23_code 7 = .ok (.iload 5, 2) := by decide +kernel
theorem d_jdk_43_method_23_9 : decode jdk_43_method_23_code 9 = .ok (.iload_n 3, 1) := by decide +kernel
theorem d_jdk_43_method_23_10 : decode jdk_43_method_23_code 10 = .ok (.if_icmp .ge 21, 3) := by decide +kernel
theorem d_jdk_43_method_23_13 : decode jdk_43_method_23_code 13 = .ok (.aload_n 0, 1) := by decide +kernel
theorem d_jdk_43_method_23_14 : decode jdk_43_method_23_code 14 = .ok (.iload 5, 2) := by decide +kernel
theorem d_jdk_43_method_23_16 : decode jdk_43_method_23_code 16 = .ok (.baload, 1) := by decide +kernel
theorem d_jdk_43_method_23_17 : decode jdk_43_method_23_code 17 = .ok (.iload 4, 2) := by decide +kernel
theorem d_jdk_43_method_23_19 : decode jdk_43_method_23_code 19 = .ok (.if_icmp .ne 6, 3) := by decide +kernel
theorem d_jdk_43_method_23_22 : decode jdk_43_method_23_code 22 = .ok (.iload 5, 2) := by decide +kernel
theorem d_jdk_43_method_23_24 : decode jdk_43_method_23_code 24 = .ok (.ireturn, 1) := by decide +kernel
theorem d_jdk_43_method_23_25 : decode jdk_43_method_23_code 25 = .ok (.iinc 5 1, 3) := by decide +kernel
theorem d_jdk_43_method_23_28 : decode jdk_43_method_23_code 28 = .ok (.goto (-21), 3) := by decide +kernel
theorem d_jdk_43_method_23_31 : decode jdk_43_method_23_code 31 = .ok (.iconst (-1), 1) := by decide +kernel
theorem d_jdk_43_method_23_32 : decode jdk_43_method_23_code 32 = .ok (.ireturn, 1) := by decide +kernel
def Q_l1ixc (Z : State) (a1 : Nat) (p2 : Int32) (p3 : Int32) (p4 : Int32) (cs : List Int32) (k : ClassId) (i0 : Nat) (h0 : Heap) (v : Option Value) (h : Heap) (L : List Loc) : Prop := ∃ (e_ : Nat), v = some (.int (own_ix e_ cs.length)) ∧ Fr Z.heap.size L ∧ h = h0 ∧ (own_Ix cs p2 i0 e_)
set_option maxRecDepth 65536 in
set_option maxHeartbeats 40000000 in
theorem rm_l1ixc (l : Launch) (Z : State) (a0 : Array Value) (hw : ∀ d ∈ tables_1, d.before a0 Z = true) (ws : List Jvm.Cond) (a1 : Nat) (p2 : Int32) (p3 : Int32) (p4 : Int32) (cs : List Int32) (k : ClassId) (i0 : Nat) (h0 : Heap) (OL : Old Z Z.heap.size h0) (p0_ : Arv Z h0 a1 k .byte (Int32.ofNat cs.length) (own_low cs) (.int (0 : Int32))) (hch : p2 = 46 ∨ p2 = 36) (hle : cs.length ≤ 4000) (hl : ∀ c ∈ cs, ¬ c < 0 ∧ ¬ (255 : Int32) < c) (hp3 : p3 = Int32.ofNat i0) (hp4 : p4 = (Int32.ofNat cs.length)) (hi0 : i0 < cs.length) :
    MetFree l (⟨"java/lang/StringLatin1", "indexOfChar", "([BIII)I"⟩ : MethodName) (head1 (Jvm.Cond.code (⟨"java/lang/StringLatin1", "indexOfChar", "([BIII)I"⟩ : MethodName) jdk_43_method_23_code 6 (some .int) :: ws) ({ frames := 0, cells := 0, slots := 0, locals := 0 } : Room)) (fun a U => a = #[(.ref a1), (.int p2), (.int p3), (.int p4)] ∧ Z.Warmed39 U.vm ∧ U.heap = h0) (fun _ _ _ _ _ => True) (fun _ U o U' => ∃ v L, o = .returned v ∧ Q_l1ixc Z a1 p2 p3 p4 cs k i0 h0 v U'.heap L ∧ FrameEnd U o U' L ({ frames := 0, cells := 0, slots := 0, locals := 0 } : Room).cells ({ frames := 0, cells := 0, slots := 0, locals := 0 } : Room).slots) := by
  refine MetFree.of_bodySF (plainFor_of_name pn_118) hisR ?_
  intro p e s m args below meth c s₁ Bd hml0 hP hK
  obtain ⟨rfl, hZ, hh⟩ := hP
  have hx := Bd.exec
  have hby := Bd.bytes
  have hml : c.maxLocals = 6 := hml0
  have hown : s.vm.findClass "java/lang/StringLatin1" = some m.cls := findClass_of_methodNamed Bd.named
  have hnm := (name_of_methodNamed Bd.named Bd.method).1
  have X0 : Stand p l e ({ frames := 0, cells := 0, slots := 0, locals := 0 } : Room) s m #[(.ref a1), (.int p2), (.int p3), (.int p4)] below meth c s₁ [] 0 0 := Stand.of_body Bd
  have e0 : s₁.heap = h0 := by rw [← hh, Bd.state]; rfl
  have N0 := Fr.nil Z.heap.size
  have Z0 : Z.heap.size ≤ h0.size := OL.2.1
  have lt_0 : @LT.lt Nat _ a1 h0.size := p0_.lt
  obtain ⟨PP, hPP⟩ : ∃ PP : Outcome → State → Prop, PP = (fun o tE => ∃ v L, o = .returned v ∧ Q_l1ixc Z a1 p2 p3 p4 cs k i0 h0 v tE.heap L ∧ FrameEnd s o tE L ({ frames := 0, cells := 0, slots := 0, locals := 0 } : Room).cells ({ frames := 0, cells := 0, slots := 0, locals := 0 } : Room).slots) := ⟨_, rfl⟩
  show own_Go p.tables e below (fun o tE => ∃ v L, o = .returned v ∧ Q_l1ixc Z a1 p2 p3 p4 cs k i0 h0 v tE.heap L ∧ FrameEnd s o tE L ({ frames := 0, cells := 0, slots := 0, locals := 0 } : Room).cells ({ frames := 0, cells := 0, slots := 0, locals := 0 } : Room).slots) (s₁.setTop (entryFrame m #[(.ref a1), (.int p2), (.int p3), (.int p4)] 6))
  rw [← hPP]
  refine own_Go.st (fun t k => castTop (ef_225 m a1 p2 p3 p4) k) ?_
  subst hp3 hp4
  show own_Go _ _ _ _ (s₁.setTop (mkF m 0 #[.val (.ref a1), .val (.int p2), .val (.int (Int32.ofNat i0)), .val (.int (Int32.ofNat cs.length)), .unset, .unset] []))
  refine own_Go.st (fun _ k => XS.iloadN X0.here hx rfl (hb hby d_jdk_43_method_23_0) rfl k) ?_
  show own_Go _ _ _ _ (s₁.setTop (mkF m 1 #[.val (.ref a1), .val (.int p2), .val (.int (Int32.ofNat i0)), .val (.int (Int32.ofNat cs.length)), .unset, .unset] [(.int p2)]))
  refine own_Go.st (fun _ k => XS.i2b X0.here hx rfl (hb hby d_jdk_43_method_23_1) rfl k) ?_
  show own_Go _ _ _ _ (s₁.setTop (mkF m 2 #[.val (.ref a1), .val (.int p2), .val (.int (Int32.ofNat i0)), .val (.int (Int32.ofNat cs.length)), .unset, .unset] [(.int (p2.toInt8.toInt32))]))
  refine own_Go.st (fun _ k => XS.istore X0.here hx rfl (hb hby d_jdk_43_method_23_2) rfl (l' := #[.val (.ref a1), .val (.int p2), .val (.int (Int32.ofNat i0)), .val (.int (Int32.ofNat cs.length)), .val (.int (p2.toInt8.toInt32)), .unset]) rfl k) ?_
  show own_Go _ _ _ _ (s₁.setTop (mkF m 4 #[.val (.ref a1), .val (.int p2), .val (.int (Int32.ofNat i0)), .val (.int (Int32.ofNat cs.length)), .val (.int (p2.toInt8.toInt32)), .unset] []))
  refine own_Go.st (fun _ k => XS.iloadN X0.here hx rfl (hb hby d_jdk_43_method_23_4) rfl k) ?_
  show own_Go _ _ _ _ (s₁.setTop (mkF m 5 #[.val (.ref a1), .val (.int p2), .val (.int (Int32.ofNat i0)), .val (.int (Int32.ofNat cs.length)), .val (.int (p2.toInt8.toInt32)), .unset] [(.int (Int32.ofNat i0))]))
  refine own_Go.st (fun _ k => XS.istore X0.here hx rfl (hb hby d_jdk_43_method_23_5) rfl (l' := #[.val (.ref a1), .val (.int p2), .val (.int (Int32.ofNat i0)), .val (.int (Int32.ofNat cs.length)), .val (.int (p2.toInt8.toInt32)), .val (.int (Int32.ofNat i0))]) rfl k) ?_
  show own_Go _ _ _ _ (s₁.setTop (mkF m 7 #[.val (.ref a1), .val (.int p2), .val (.int (Int32.ofNat i0)), .val (.int (Int32.ofNat cs.length)), .val (.int (p2.toInt8.toInt32)), .val (.int (Int32.ofNat i0))] []))
  have LP249 : ∀ (nL : Nat) (i : Nat), (i ≤ cs.length) → (i0 ≤ i) → (∀ k, i0 ≤ k → k < i → cs.getD k 0 ≠ p2) → cs.length - i = nL → own_Go p.tables e below PP (s₁.setTop (mkF m 7 #[.val (.ref a1), .val (.int p2), .val (.int (Int32.ofNat i0)), .val (.int (Int32.ofNat cs.length)), .val (.int (p2.toInt8.toInt32)), .val (.int (Int32.ofNat i))] [])) := by
    intro nL
    induction nL using Nat.strongRecOn with
    | _ nL ihL =>
      intro i hi hi2 hr hmL
      refine own_Go.st (fun _ k => XS.iload X0.here hx rfl (hb hby d_jdk_43_method_23_7) rfl k) ?_
      show own_Go _ _ _ _ (s₁.setTop (mkF m 9 #[.val (.ref a1), .val (.int p2), .val (.int (Int32.ofNat i0)), .val (.int (Int32.ofNat cs.length)), .val (.int (p2.toInt8.toInt32)), .val (.int (Int32.ofNat i))] [(.int (Int32.ofNat i))]))
      refine own_Go.st (fun _ k => XS.iloadN X0.here hx rfl (hb hby d_jdk_43_method_23_9) rfl k) ?_
      show own_Go _ _ _ _ (s₁.setTop (mkF m 10 #[.val (.ref a1), .val (.int p2), .val (.int (Int32.ofNat i0)), .val (.int (Int32.ofNat cs.length)), .val (.int (p2.toInt8.toInt32)), .val (.int (Int32.ofNat i))] [(.int (Int32.ofNat cs.length)), (.int (Int32.ofNat i))]))
      by_cases h10 : (Int32.ofNat i) < (Int32.ofNat cs.length)
      ·
        refine own_Go.st (fun _ k => XS.icmpNo X0.here hx rfl (hb hby d_jdk_43_method_23_10) rfl (tlt h10).2.1 k) ?_
        show own_Go _ _ _ _ (s₁.setTop (mkF m 13 #[.val (.ref a1), .val (.int p2), .val (.int (Int32.ofNat i0)), .val (.int (Int32.ofNat cs.length)), .val (.int (p2.toInt8.toInt32)), .val (.int (Int32.ofNat i))] []))
        have hq : i < cs.length := (own_oflt (by omega) (by omega)).mp h10
        refine own_Go.st (fun _ k => XS.aloadN X0.here hx rfl (hb hby d_jdk_43_method_23_13) rfl rfl k) ?_
        show own_Go _ _ _ _ (s₁.setTop (mkF m 14 #[.val (.ref a1), .val (.int p2), .val (.int (Int32.ofNat i0)), .val (.int (Int32.ofNat cs.length)), .val (.int (p2.toInt8.toInt32)), .val (.int (Int32.ofNat i))] [(.ref a1)]))
        refine own_Go.st (fun _ k => XS.iload X0.here hx rfl (hb hby d_jdk_43_method_23_14) rfl k) ?_
        show own_Go _ _ _ _ (s₁.setTop (mkF m 16 #[.val (.ref a1), .val (.int p2), .val (.int (Int32.ofNat i0)), .val (.int (Int32.ofNat cs.length)), .val (.int (p2.toInt8.toInt32)), .val (.int (Int32.ofNat i))] [(.int (Int32.ofNat i)), (.ref a1)]))
        obtain ⟨c250, Ar250, q250, S250, Nn250, H250, G250⟩ := id p0_
        have hin250 : ¬ ((Int32.ofNat i) < 0 ∨ c250.slots.size ≤ ((Int32.ofNat i)).toNatClampNeg) := inb_of S250 ⟨own_of0 (by omega), h10⟩
        have hat250 : c250.slots[((Int32.ofNat i)).toNatClampNeg]? = some (.int (StrChars.lo8 (cs.getD i 0))) := H250.at hin250 (own_lowAt hq hle _)
        refine own_Go.st (X0.baloadBytes hx (j := (Int32.ofNat i)) (v := (.int (StrChars.lo8 (cs.getD i 0)))) (own_rwE e0 Ar250.1) (State.isArrayOf_alike hZ.alike Ar250.2.1) Ar250.2.2 hin250 hat250 (g := (mkF m 16 #[.val (.ref a1), .val (.int p2), .val (.int (Int32.ofNat i0)), .val (.int (Int32.ofNat cs.length)), .val (.int (p2.toInt8.toInt32)), .val (.int (Int32.ofNat i))] [(.int (Int32.ofNat i)), (.ref a1)])) rfl rfl (hb hby d_jdk_43_method_23_16)) ?_
        show own_Go _ _ _ _ (s₁.setTop (mkF m 17 #[.val (.ref a1), .val (.int p2), .val (.int (Int32.ofNat i0)), .val (.int (Int32.ofNat cs.length)), .val (.int (p2.toInt8.toInt32)), .val (.int (Int32.ofNat i))] [(.int (StrChars.lo8 (cs.getD i 0)))]))
        refine own_Go.st (fun _ k => XS.iload X0.here hx rfl (hb hby d_jdk_43_method_23_17) rfl k) ?_
        show own_Go _ _ _ _ (s₁.setTop (mkF m 19 #[.val (.ref a1), .val (.int p2), .val (.int (Int32.ofNat i0)), .val (.int (Int32.ofNat cs.length)), .val (.int (p2.toInt8.toInt32)), .val (.int (Int32.ofNat i))] [(.int (p2.toInt8.toInt32)), (.int (StrChars.lo8 (cs.getD i 0)))]))
        by_cases h19 : (StrChars.lo8 (cs.getD i 0)) = (p2.toInt8.toInt32)
        ·
          refine own_Go.st (fun _ k => XS.icmpNo X0.here hx rfl (hb hby d_jdk_43_method_23_19) rfl (teq h19).2 k) ?_
          show own_Go _ _ _ _ (s₁.setTop (mkF m 22 #[.val (.ref a1), .val (.int p2), .val (.int (Int32.ofNat i0)), .val (.int (Int32.ofNat cs.length)), .val (.int (p2.toInt8.toInt32)), .val (.int (Int32.ofNat i))] []))
          refine own_Go.st (fun _ k => XS.iload X0.here hx rfl (hb hby d_jdk_43_method_23_22) rfl k) ?_
          show own_Go _ _ _ _ (s₁.setTop (mkF m 24 #[.val (.ref a1), .val (.int p2), .val (.int (Int32.ofNat i0)), .val (.int (Int32.ofNat cs.length)), .val (.int (p2.toInt8.toInt32)), .val (.int (Int32.ofNat i))] [(.int (Int32.ofNat i))]))
          obtain ⟨fs251, hr251, hrun251, hend251, hW251, hsm251⟩ := X0.leave (v := some (.int (Int32.ofNat i))) (fun h => by rw [Bd.returns] at h; cases h)
          subst hPP
          refine ⟨_, _, own_retI X0 hx Bd.returns (hb hby d_jdk_43_method_23_24) hr251, hrun251, hend251, _, _, rfl, ?_, ⟨_, rfl⟩, hW251, hsm251.mono (by decide) (by decide)⟩
          · show Q_l1ixc Z _ _ _ _ _ _ _ h0 _ s₁.heap _
            rw [e0]
            exact ⟨i, (by rw [own_ix, if_pos hq]), N0, rfl, ⟨hi, fun _ => ⟨hi2, own_loY hq hl hch h19⟩, hr⟩⟩
        ·
          refine own_Go.st (fun _ k => XS.icmpYes X0.here hx rfl (pc0 := 19) (pc' := 25) rfl (hb hby d_jdk_43_method_23_19) rfl (feq h19).2 (by decide) (by decide) k) ?_
          show own_Go _ _ _ _ (s₁.setTop (mkF m 25 #[.val (.ref a1), .val (.int p2), .val (.int (Int32.ofNat i0)), .val (.int (Int32.ofNat cs.length)), .val (.int (p2.toInt8.toInt32)), .val (.int (Int32.ofNat i))] []))
          refine own_Go.st (fun _ k => XS.iinc X0.here hx rfl (hb hby d_jdk_43_method_23_25) rfl (l' := #[.val (.ref a1), .val (.int p2), .val (.int (Int32.ofNat i0)), .val (.int (Int32.ofNat cs.length)), .val (.int (p2.toInt8.toInt32)), .val (.int ((Int32.ofNat i) + (1 : Int32)))]) rfl k) ?_
          show own_Go _ _ _ _ (s₁.setTop (mkF m 28 #[.val (.ref a1), .val (.int p2), .val (.int (Int32.ofNat i0)), .val (.int (Int32.ofNat cs.length)), .val (.int (p2.toInt8.toInt32)), .val (.int ((Int32.ofNat i) + (1 : Int32)))] []))
          rw [own_ofS (by omega)]
          show own_Go _ _ _ _ (s₁.setTop (mkF m 28 #[.val (.ref a1), .val (.int p2), .val (.int (Int32.ofNat i0)), .val (.int (Int32.ofNat cs.length)), .val (.int (p2.toInt8.toInt32)), .val (.int (Int32.ofNat (i + 1)))] []))
          refine own_Go.st (fun _ k => XS.goto X0.here hx rfl (pc0 := 28) (pc' := 7) rfl (hb hby d_jdk_43_method_23_28) (by decide) (by decide) k) ?_
          show own_Go _ _ _ _ (s₁.setTop (mkF m 7 #[.val (.ref a1), .val (.int p2), .val (.int (Int32.ofNat i0)), .val (.int (Int32.ofNat cs.length)), .val (.int (p2.toInt8.toInt32)), .val (.int (Int32.ofNat (i + 1)))] []))
          exact ihL _ (by omega) (i + 1) (by omega) (by omega) (own_IxS (own_loN (by omega) h19) hr) rfl
      ·
        refine own_Go.st (fun _ k => XS.icmpYes X0.here hx rfl (pc0 := 10) (pc' := 31) rfl (hb hby d_jdk_43_method_23_10) rfl (flt h10).2.1 (by decide) (by decide) k) ?_
        show own_Go _ _ _ _ (s₁.setTop (mkF m 31 #[.val (.ref a1), .val (.int p2), .val (.int (Int32.ofNat i0)), .val (.int (Int32.ofNat cs.length)), .val (.int (p2.toInt8.toInt32)), .val (.int (Int32.ofNat i))] []))
        have hq : i = cs.length := by
          have : ¬ i < cs.length := fun q => h10 ((own_oflt (by omega) (by omega)).mpr q)
          omega
        subst hq
        refine own_Go.st (fun _ k => XS.iconst X0.here hx rfl (hb hby d_jdk_43_method_23_31) k) ?_
        show own_Go _ _ _ _ (s₁.setTop (mkF m 32 #[.val (.ref a1), .val (.int p2), .val (.int (Int32.ofNat i0)), .val (.int (Int32.ofNat cs.length)), .val (.int (p2.toInt8.toInt32)), .val (.int (Int32.ofNat cs.length))] [(.int (-1 : Int32))]))
        obtain ⟨fs252, hr252, hrun252, hend252, hW252, hsm252⟩ := X0.leave (v := some (.int (-1 : Int32))) (fun h => by rw [Bd.returns] at h; cases h)
        subst hPP
        refine ⟨_, _, own_retI X0 hx Bd.returns (hb hby d_jdk_43_method_23_32) hr252, hrun252, hend252, _, _, rfl, ?_, ⟨_, rfl⟩, hW252, hsm252.mono (by decide) (by decide)⟩
        · show Q_l1ixc Z _ _ _ _ _ _ _ h0 _ s₁.heap _
          rw [e0]
          exact ⟨cs.length, (by rw [own_ix, if_neg (Nat.lt_irrefl _)]), N0, rfl, ⟨Nat.le_refl _, fun q => absurd q (Nat.lt_irrefl _), hr⟩⟩
  exact LP249 _ i0 (by omega) (Nat.le_refl _) (fun k a b => absurd b (by omega)) rfl
theorem ef_245 (m : MethodId) (x0 : Nat) (x1 : Int32) (x2 : Int32) (x3 : Int32) : entryFrame m #[(.ref x0), (.int x1), (.int x2), (.int x3)] 4 = mkF m 0 #[.val (.ref x0), .val (.int x1), .val (.int x2), .val (.int x3)] [] := by first | (simp [entryFrame, mkF, argsToLocals, Value.category]; done) | rfl
theorem d_jdk_43_method_22_0 : decode jdk_43_method_22_code 0 = .ok (.iload_n 1, 1) := by decide +kernel
theorem d_jdk_43_method_22_1 : decode jdk_43_method_22_code 1 = .ok (.invokestatic 88, 3) := by decide +kernel
theorem d_jdk_43_method_22_4 : decode jdk_43_method_22_code 4 = .ok (.ifCond .ne 5, 3) := by decide +kernel
theorem d_jdk_43_method_22_9 : decode jdk_43_method_22_code 9 = .ok (.iload_n 2, 1) := by decide +kernel
theorem d_jdk_43_method_22_10 : decode jdk_43_method_22_code 10 = .ok (.iconst 0, 1) := by decide +kernel
theorem d_jdk_43_method_22_11 : decode jdk_43_method_22_code 11 = .ok (.invokestatic 92, 3) := by decide +kernel
theorem d_jdk_43_method_22_14 : decode jdk_43_method_22_code 14 = .ok (.istore_n 2, 1) := by decide +kernel
theorem d_jdk_43_method_22_15 : decode jdk_43_method_22_code 15 = .ok (.iload_n 3, 1) := by decide +kernel
theorem d_jdk_43_method_22_16 : decode jdk_43_method_22_code 16 = .ok (.aload_n 0, 1) := by decide +kernel
theorem d_jdk_43_method_22_17 : decode jdk_43_method_22_code 17 = .ok (.arraylength, 1) := by decide +kernel
theorem d_jdk_43_method_22_18 : decode jdk_43_method_22_code 18 = .ok (.invokestatic 38, 3) := by decide +kernel
theorem d_jdk_43_method_22_21 : decode jdk_43_method_22_code 21 = .ok (.istore_n 3, 1) := by decide +kernel
theorem d_jdk_43_method_22_22 : decode jdk_43_method_22_code 22 = .ok (.iload_n 2, 1) := by decide +kernel
theorem d_jdk_43_method_22_23 : decode jdk_43_method_22_code 23 = .ok (.iload_n 3, 1) := by decide +kernel
theorem d_jdk_43_method_22_24 : decode jdk_43_method_22_code 24 = .ok (.if_icmp .lt 5, 3) := by decide +kernel
theorem d_jdk_43_method_22_29 : decode jdk_43_method_22_code 29 = .ok (.aload_n 0, 1) := by decide +kernel
theorem d_jdk_43_method_22_30 : decode jdk_43_method_22_code 30 = .ok (.iload_n 1, 1) := by decide +kernel
theorem d_jdk_43_method_22_31 : decode jdk_43_method_22_code 31 = .ok (.iload_n 2, 1) := by decide +kernel
theorem d_jdk_43_method_22_32 : decode jdk_43_method_22_code 32 = .ok (.iload_n 3, 1) := by decide +kernel
theorem pd_265 : parseMethodDescriptor "([BIII)I" = some ⟨[(.array .byte), .int, .int, .int], some .int⟩ := by decide +kernel
theorem d_jdk_43_method_22_33 : decode jdk_43_method_22_code 33 = .ok (.invokestatic 95, 3) := by decide +kernel
theorem d_jdk_43_method_22_36 : decode jdk_43_method_22_code 36 = .ok (.ireturn, 1) := by decide +kernel
theorem d_jdk_43_method_22_27 : decode jdk_43_method_22_code 27 = .ok (.iconst (-1), 1) := by decide +kernel
theorem d_jdk_43_method_22_28 : decode jdk_43_method_22_code 28 = .ok (.ireturn, 1) := by decide +kernel
def Q_l1ix (Z : State) (a1 : Nat) (p2 : Int32) (p3 : Int32) (p4 : Int32) (cs : List Int32) (k : ClassId) (i0 : Nat) (h0 : Heap) (v : Option Value) (h : Heap) (L : List Loc) : Prop := ∃ (e_ : Nat), v = some (.int (own_ix e_ cs.length)) ∧ Fr Z.heap.size L ∧ h = h0 ∧ (own_Ix cs p2 i0 e_)
set_option maxRecDepth 65536 in
set_option maxHeartbeats 40000000 in
theorem rm_l1ix (l : Launch) (Z : State) (a0 : Array Value) (hw : ∀ d ∈ tables_1, d.before a0 Z = true) (ws : List Jvm.Cond) (a1 : Nat) (p2 : Int32) (p3 : Int32) (p4 : Int32) (cs : List Int32) (k : ClassId) (i0 : Nat) (h0 : Heap) (OL : Old Z Z.heap.size h0) (p0_ : Arv Z h0 a1 k .byte (Int32.ofNat cs.length) (own_low cs) (.int (0 : Int32))) (hch : p2 = 46 ∨ p2 = 36) (hle : cs.length ≤ 4000) (hl : ∀ c ∈ cs, ¬ c < 0 ∧ ¬ (255 : Int32) < c) (hp3 : p3 = Int32.ofNat i0) (hp4 : p4 = (Int32.ofNat cs.length)) (hi0 : i0 ≤ 5000) :
    MetFree l (⟨"java/lang/StringLatin1", "indexOf", "([BIII)I"⟩ : MethodName) (head1 (Jvm.Cond.code (⟨"java/lang/StringLatin1", "indexOf", "([BIII)I"⟩ : MethodName) jdk_43_method_22_code 4 (some .int) :: ws) ({ frames := 1, cells := 0, slots := 0, locals := 20 } : Room)) (fun a U => a = #[(.ref a1), (.int p2), (.int p3), (.int p4)] ∧ Z.Warmed39 U.vm ∧ U.heap = h0) (fun _ _ _ _ _ => True) (fun _ U o U' => ∃ v L, o = .returned v ∧ Q_l1ix Z a1 p2 p3 p4 cs k i0 h0 v U'.heap L ∧ FrameEnd U o U' L ({ frames := 1, cells := 0, slots := 0, locals := 20 } : Room).cells ({ frames := 1, cells := 0, slots := 0, locals := 20 } : Room).slots) := by
  refine MetFree.of_bodySF (plainFor_of_name pn_118) hisR ?_
  intro p e s m args below meth c s₁ Bd hml0 hP hK
  obtain ⟨rfl, hZ, hh⟩ := hP
  have hx := Bd.exec
  have hby := Bd.bytes
  have hml : c.maxLocals = 4 := hml0
  have hown : s.vm.findClass "java/lang/StringLatin1" = some m.cls := findClass_of_methodNamed Bd.named
  have hnm := (name_of_methodNamed Bd.named Bd.method).1
  have X0 : Stand p l e ({ frames := 1, cells := 0, slots := 0, locals := 20 } : Room) s m #[(.ref a1), (.int p2), (.int p3), (.int p4)] below meth c s₁ [] 0 0 := Stand.of_body Bd
  have e0 : s₁.heap = h0 := by rw [← hh, Bd.state]; rfl
  have N0 := Fr.nil Z.heap.size
  have Z0 : Z.heap.size ≤ h0.size := OL.2.1
  have lt_0 : @LT.lt Nat _ a1 h0.size := p0_.lt
  obtain ⟨PP, hPP⟩ : ∃ PP : Outcome → State → Prop, PP = (fun o tE => ∃ v L, o = .returned v ∧ Q_l1ix Z a1 p2 p3 p4 cs k i0 h0 v tE.heap L ∧ FrameEnd s o tE L ({ frames := 1, cells := 0, slots := 0, locals := 20 } : Room).cells ({ frames := 1, cells := 0, slots := 0, locals := 20 } : Room).slots) := ⟨_, rfl⟩
  show own_Go p.tables e below (fun o tE => ∃ v L, o = .returned v ∧ Q_l1ix Z a1 p2 p3 p4 cs k i0 h0 v tE.heap L ∧ FrameEnd s o tE L ({ frames := 1, cells := 0, slots := 0, locals := 20 } : Room).cells ({ frames := 1, cells := 0, slots := 0, locals := 20 } : Room).slots) (s₁.setTop (entryFrame m #[(.ref a1), (.int p2), (.int p3), (.int p4)] 4))
  rw [← hPP]
  refine own_Go.st (fun t k => castTop (ef_245 m a1 p2 p3 p4) k) ?_
  subst hp3 hp4
  show own_Go _ _ _ _ (s₁.setTop (mkF m 0 #[.val (.ref a1), .val (.int p2), .val (.int (Int32.ofNat i0)), .val (.int (Int32.ofNat cs.length))] []))
  refine own_Go.st (fun _ k => XS.iloadN X0.here hx rfl (hb hby d_jdk_43_method_22_0) rfl k) ?_
  show own_Go _ _ _ _ (s₁.setTop (mkF m 1 #[.val (.ref a1), .val (.int p2), .val (.int (Int32.ofNat i0)), .val (.int (Int32.ofNat cs.length))] [(.int p2)]))
  obtain ⟨_, _, ⟨T253, L253, k253, n253⟩, -, X253, ⟨Lc253, hQ253, l253, y253, z253⟩, st253⟩ := Jvm.LawKit.callS X0 hx (y := (⟨"java/lang/StringLatin1", "canEncode", "(I)Z"⟩ : MethodName)) hown (mvT hZ (hw _ (List.mem_of_getElem? (i := 64) rfl))) (mvT hZ (hw _ (List.mem_of_getElem? (i := 65) rfl))) (mvT hZ (hw _ (List.mem_of_getElem? (i := 62) rfl))) (mvT hZ (hw _ (List.mem_of_getElem? (i := 66) rfl))) (by decide) (backOf (W := 0) (rm_canEncI l Z a0 hw [] p2 h0 OL hch) hZ (hw _ (List.mem_of_getElem? (i := 66) rfl)) (hw _ (List.mem_of_getElem? (i := 62) rfl)) (by decide) (by decide)) (g := (mkF m 1 #[.val (.ref a1), .val (.int p2), .val (.int (Int32.ofNat i0)), .val (.int (Int32.ofNat cs.length))] [(.int p2)])) rfl (by rw [hml]; rfl) (argsL := [(.int p2)]) (rest := []) (lenOf pd_181 rfl) rfl (by show 2 * 0 + _ ≤ _; exact Nat.le_of_eq rfl) (hb hby d_jdk_43_method_22_1) (fun _ _ => ⟨rfl, e0, (by decide : 0 + 0 ≤ _), (by decide : 0 + 0 ≤ _)⟩)
  dsimp only [Pt.U, Pt.locs, Pt.cells, Pt.slots] at X253 l253 y253 z253 st253 hQ253
  subst l253 y253 z253
  obtain ⟨rfl, N253q, K253⟩ := hQ253
  have N253 := Fr.app N0 N253q
  refine own_Go.st st253 ?_
  show own_Go _ _ _ _ (T253.setTop (mkF m 4 #[.val (.ref a1), .val (.int p2), .val (.int (Int32.ofNat i0)), .val (.int (Int32.ofNat cs.length))] [(.int (1 : Int32))]))
  have hc254 : ¬ ((1 : Int32) = (0 : Int32)) := by decide
  refine own_Go.st (fun _ k => XS.ifYes X253.here hx rfl (pc0 := 4) (pc' := 9) rfl (hb hby d_jdk_43_method_22_4) rfl ((if0 _ _).trans (feq hc254).2) (by decide) (by decide) k) ?_
  show own_Go _ _ _ _ (T253.setTop (mkF m 9 #[.val (.ref a1), .val (.int p2), .val (.int (Int32.ofNat i0)), .val (.int (Int32.ofNat cs.length))] []))
  refine own_Go.st (fun _ k => XS.iloadN X253.here hx rfl (hb hby d_jdk_43_method_22_9) rfl k) ?_
  show own_Go _ _ _ _ (T253.setTop (mkF m 10 #[.val (.ref a1), .val (.int p2), .val (.int (Int32.ofNat i0)), .val (.int (Int32.ofNat cs.length))] [(.int (Int32.ofNat i0))]))
  refine own_Go.st (fun _ k => XS.iconst X253.here hx rfl (hb hby d_jdk_43_method_22_10) k) ?_
  show own_Go _ _ _ _ (T253.setTop (mkF m 11 #[.val (.ref a1), .val (.int p2), .val (.int (Int32.ofNat i0)), .val (.int (Int32.ofNat cs.length))] [(.int (0 : Int32)), (.int (Int32.ofNat i0))]))
  obtain ⟨_, _, ⟨T255, L255, k255, n255⟩, -, X255, ⟨Lc255, hQ255, l255, y255, z255⟩, st255⟩ := Jvm.LawKit.callS X253 hx (y := (⟨"java/lang/Math", "max", "(II)I"⟩ : MethodName)) hown (mvT hZ (hw _ (List.mem_of_getElem? (i := 79) rfl))) (mvT hZ (hw _ (List.mem_of_getElem? (i := 80) rfl))) (mvT hZ (hw _ (List.mem_of_getElem? (i := 69) rfl))) (mvT hZ (hw _ (List.mem_of_getElem? (i := 81) rfl))) (by decide) (backOf (W := 0) (rm_mmax l Z a0 hw [] (Int32.ofNat i0) (0 : Int32) h0 OL ) hZ (hw _ (List.mem_of_getElem? (i := 81) rfl)) (hw _ (List.mem_of_getElem? (i := 69) rfl)) (by decide) (by decide)) (g := (mkF m 11 #[.val (.ref a1), .val (.int p2), .val (.int (Int32.ofNat i0)), .val (.int (Int32.ofNat cs.length))] [(.int (0 : Int32)), (.int (Int32.ofNat i0))])) rfl (by rw [hml]; rfl) (argsL := [(.int (Int32.ofNat i0)), (.int (0 : Int32))]) (rest := []) (lenOf pd_59 rfl) rfl (by show 2 * 0 + _ ≤ _; exact Nat.le_of_eq rfl) (hb hby d_jdk_43_method_22_11) (fun _ _ => ⟨rfl, K253, (by decide : 0 + 0 ≤ _), (by decide : 0 + 0 ≤ _)⟩)
  dsimp only [Pt.U, Pt.locs, Pt.cells, Pt.slots] at X255 l255 y255 z255 st255 hQ255
  subst l255 y255 z255
  obtain ⟨rfl, N255q, K255⟩ := hQ255
  have N255 := Fr.app N253 N255q
  refine own_Go.st st255 ?_
  show own_Go _ _ _ _ (T255.setTop (mkF m 14 #[.val (.ref a1), .val (.int p2), .val (.int (Int32.ofNat i0)), .val (.int (Int32.ofNat cs.length))] [(.int (if (Int32.ofNat i0) < (0 : Int32) then (0 : Int32) else (Int32.ofNat i0)))]))
  rw [if_neg (own_of0 (by omega))]
  show own_Go _ _ _ _ (T255.setTop (mkF m 14 #[.val (.ref a1), .val (.int p2), .val (.int (Int32.ofNat i0)), .val (.int (Int32.ofNat cs.length))] [(.int (Int32.ofNat i0))]))
  refine own_Go.st (fun _ k => XS.istoreN X255.here hx rfl (hb hby d_jdk_43_method_22_14) rfl (l' := #[.val (.ref a1), .val (.int p2), .val (.int (Int32.ofNat i0)), .val (.int (Int32.ofNat cs.length))]) rfl k) ?_
  show own_Go _ _ _ _ (T255.setTop (mkF m 15 #[.val (.ref a1), .val (.int p2), .val (.int (Int32.ofNat i0)), .val (.int (Int32.ofNat cs.length))] []))
  refine own_Go.st (fun _ k => XS.iloadN X255.here hx rfl (hb hby d_jdk_43_method_22_15) rfl k) ?_
  show own_Go _ _ _ _ (T255.setTop (mkF m 16 #[.val (.ref a1), .val (.int p2), .val (.int (Int32.ofNat i0)), .val (.int (Int32.ofNat cs.length))] [(.int (Int32.ofNat cs.length))]))
  refine own_Go.st (fun _ k => XS.aloadN X255.here hx rfl (hb hby d_jdk_43_method_22_16) rfl rfl k) ?_
  show own_Go _ _ _ _ (T255.setTop (mkF m 17 #[.val (.ref a1), .val (.int p2), .val (.int (Int32.ofNat i0)), .val (.int (Int32.ofNat cs.length))] [(.ref a1), (.int (Int32.ofNat cs.length))]))
  obtain ⟨c256, Ar256, q256, S256, Nn256, H256, G256⟩ := id p0_
  refine own_Go.st (X255.arraylength hx (own_rwE K255 Ar256.1) (State.isArrayOf_alike hZ.alike Ar256.2.1) (g := (mkF m 17 #[.val (.ref a1), .val (.int p2), .val (.int (Int32.ofNat i0)), .val (.int (Int32.ofNat cs.length))] [(.ref a1), (.int (Int32.ofNat cs.length))])) rfl rfl (hb hby d_jdk_43_method_22_17)) ?_
  rw [len_of S256 Nn256]
  show own_Go _ _ _ _ (T255.setTop (mkF m 18 #[.val (.ref a1), .val (.int p2), .val (.int (Int32.ofNat i0)), .val (.int (Int32.ofNat cs.length))] [(.int (Int32.ofNat cs.length)), (.int (Int32.ofNat cs.length))]))
  obtain ⟨_, _, ⟨T257, L257, k257, n257⟩, -, X257, ⟨Lc257, hQ257, l257, y257, z257⟩, st257⟩ := Jvm.LawKit.callS X255 hx (y := (⟨"java/lang/Math", "min", "(II)I"⟩ : MethodName)) hown (mvT hZ (hw _ (List.mem_of_getElem? (i := 67) rfl))) (mvT hZ (hw _ (List.mem_of_getElem? (i := 68) rfl))) (mvT hZ (hw _ (List.mem_of_getElem? (i := 69) rfl))) (mvT hZ (hw _ (List.mem_of_getElem? (i := 70) rfl))) (by decide) (backOf (W := 0) (rm_mmin l Z a0 hw [] (Int32.ofNat cs.length) (Int32.ofNat cs.length) h0 OL ) hZ (hw _ (List.mem_of_getElem? (i := 70) rfl)) (hw _ (List.mem_of_getElem? (i := 69) rfl)) (by decide) (by decide)) (g := (mkF m 18 #[.val (.ref a1), .val (.int p2), .val (.int (Int32.ofNat i0)), .val (.int (Int32.ofNat cs.length))] [(.int (Int32.ofNat cs.length)), (.int (Int32.ofNat cs.length))])) rfl (by rw [hml]; rfl) (argsL := [(.int (Int32.ofNat cs.length)), (.int (Int32.ofNat cs.length))]) (rest := []) (lenOf pd_59 rfl) rfl (by show 2 * 0 + _ ≤ _; exact Nat.le_of_eq rfl) (hb hby d_jdk_43_method_22_18) (fun _ _ => ⟨rfl, K255, (by decide : 0 + 0 ≤ _), (by decide : 0 + 0 ≤ _)⟩)
  dsimp only [Pt.U, Pt.locs, Pt.cells, Pt.slots] at X257 l257 y257 z257 st257 hQ257
  subst l257 y257 z257
  obtain ⟨rfl, N257q, K257⟩ := hQ257
  have N257 := Fr.app N255 N257q
  refine own_Go.st st257 ?_
  show own_Go _ _ _ _ (T257.setTop (mkF m 21 #[.val (.ref a1), .val (.int p2), .val (.int (Int32.ofNat i0)), .val (.int (Int32.ofNat cs.length))] [(.int (if (Int32.ofNat cs.length) < (Int32.ofNat cs.length) then (Int32.ofNat cs.length) else (Int32.ofNat cs.length)))]))
  rw [ite_self]
  show own_Go _ _ _ _ (T257.setTop (mkF m 21 #[.val (.ref a1), .val (.int p2), .val (.int (Int32.ofNat i0)), .val (.int (Int32.ofNat cs.length))] [(.int (Int32.ofNat cs.length))]))
  refine own_Go.st (fun _ k => XS.istoreN X257.here hx rfl (hb hby d_jdk_43_method_22_21) rfl (l' := #[.val (.ref a1), .val (.int p2), .val (.int (Int32.ofNat i0)), .val (.int (Int32.ofNat cs.length))]) rfl k) ?_
  show own_Go _ _ _ _ (T257.setTop (mkF m 22 #[.val (.ref a1), .val (.int p2), .val (.int (Int32.ofNat i0)), .val (.int (Int32.ofNat cs.length))] []))
  refine own_Go.st (fun _ k => XS.iloadN X257.here hx rfl (hb hby d_jdk_43_method_22_22) rfl k) ?_
  show own_Go _ _ _ _ (T257.setTop (mkF m 23 #[.val (.ref a1), .val (.int p2), .val (.int (Int32.ofNat i0)), .val (.int (Int32.ofNat cs.length))] [(.int (Int32.ofNat i0))]))
  refine own_Go.st (fun _ k => XS.iloadN X257.here hx rfl (hb hby d_jdk_43_method_22_23) rfl k) ?_
  show own_Go _ _ _ _ (T257.setTop (mkF m 24 #[.val (.ref a1), .val (.int p2), .val (.int (Int32.ofNat i0)), .val (.int (Int32.ofNat cs.length))] [(.int (Int32.ofNat cs.length)), (.int (Int32.ofNat i0))]))
  by_cases h24 : (Int32.ofNat i0) < (Int32.ofNat cs.length)
  ·
    refine own_Go.st (fun _ k => XS.icmpYes X257.here hx rfl (pc0 := 24) (pc' := 29) rfl (hb hby d_jdk_43_method_22_24) rfl (tlt h24).1 (by decide) (by decide) k) ?_
    show own_Go _ _ _ _ (T257.setTop (mkF m 29 #[.val (.ref a1), .val (.int p2), .val (.int (Int32.ofNat i0)), .val (.int (Int32.ofNat cs.length))] []))
    have hq : i0 < cs.length := (own_oflt (by omega) (by omega)).mp h24
    refine own_Go.st (fun _ k => XS.aloadN X257.here hx rfl (hb hby d_jdk_43_method_22_29) rfl rfl k) ?_
    show own_Go _ _ _ _ (T257.setTop (mkF m 30 #[.val (.ref a1), .val (.int p2), .val (.int (Int32.ofNat i0)), .val (.int (Int32.ofNat cs.length))] [(.ref a1)]))
    refine own_Go.st (fun _ k => XS.iloadN X257.here hx rfl (hb hby d_jdk_43_method_22_30) rfl k) ?_
    show own_Go _ _ _ _ (T257.setTop (mkF m 31 #[.val (.ref a1), .val (.int p2), .val (.int (Int32.ofNat i0)), .val (.int (Int32.ofNat cs.length))] [(.int p2), (.ref a1)]))
    refine own_Go.st (fun _ k => XS.iloadN X257.here hx rfl (hb hby d_jdk_43_method_22_31) rfl k) ?_
    show own_Go _ _ _ _ (T257.setTop (mkF m 32 #[.val (.ref a1), .val (.int p2), .val (.int (Int32.ofNat i0)), .val (.int (Int32.ofNat cs.length))] [(.int (Int32.ofNat i0)), (.int p2), (.ref a1)]))
    refine own_Go.st (fun _ k => XS.iloadN X257.here hx rfl (hb hby d_jdk_43_method_22_32) rfl k) ?_
    show own_Go _ _ _ _ (T257.setTop (mkF m 33 #[.val (.ref a1), .val (.int p2), .val (.int (Int32.ofNat i0)), .val (.int (Int32.ofNat cs.length))] [(.int (Int32.ofNat cs.length)), (.int (Int32.ofNat i0)), (.int p2), (.ref a1)]))
    obtain ⟨_, _, ⟨T258, L258, k258, n258⟩, -, X258, ⟨Lc258, hQ258, l258, y258, z258⟩, st258⟩ := Jvm.LawKit.callS X257 hx (y := (⟨"java/lang/StringLatin1", "indexOfChar", "([BIII)I"⟩ : MethodName)) hown (mvT hZ (hw _ (List.mem_of_getElem? (i := 115) rfl))) (mvT hZ (hw _ (List.mem_of_getElem? (i := 116) rfl))) (mvT hZ (hw _ (List.mem_of_getElem? (i := 62) rfl))) (mvT hZ (hw _ (List.mem_of_getElem? (i := 117) rfl))) (by decide) (backOf (W := 0) (rm_l1ixc l Z a0 hw [] a1 p2 (Int32.ofNat i0) (Int32.ofNat cs.length) cs k i0 h0 OL p0_ (by first | assumption | decide) (by first | assumption | decide) (by first | assumption | decide) rfl rfl hq) hZ (hw _ (List.mem_of_getElem? (i := 117) rfl)) (hw _ (List.mem_of_getElem? (i := 62) rfl)) (by decide) (by decide)) (g := (mkF m 33 #[.val (.ref a1), .val (.int p2), .val (.int (Int32.ofNat i0)), .val (.int (Int32.ofNat cs.length))] [(.int (Int32.ofNat cs.length)), (.int (Int32.ofNat i0)), (.int p2), (.ref a1)])) rfl (by rw [hml]; rfl) (argsL := [(.ref a1), (.int p2), (.int (Int32.ofNat i0)), (.int (Int32.ofNat cs.length))]) (rest := []) (lenOf pd_265 rfl) rfl (by show 2 * 0 + _ ≤ _; exact Nat.le_of_eq rfl) (hb hby d_jdk_43_method_22_33) (fun _ _ => ⟨rfl, K257, (by decide : 0 + 0 ≤ _), (by decide : 0 + 0 ≤ _)⟩)
    dsimp only [Pt.U, Pt.locs, Pt.cells, Pt.slots] at X258 l258 y258 z258 st258 hQ258
    subst l258 y258 z258
    obtain ⟨e__258, rfl, N258q, K258, pr258_0⟩ := hQ258
    have N258 := Fr.app N257 N258q
    refine own_Go.st st258 ?_
    show own_Go _ _ _ _ (T258.setTop (mkF m 36 #[.val (.ref a1), .val (.int p2), .val (.int (Int32.ofNat i0)), .val (.int (Int32.ofNat cs.length))] [(.int (own_ix e__258 cs.length))]))
    obtain ⟨fs259, hr259, hrun259, hend259, hW259, hsm259⟩ := X258.leave (v := some (.int (own_ix e__258 cs.length))) (fun h => by rw [Bd.returns] at h; cases h)
    subst hPP
    refine ⟨_, _, own_retI X258 hx Bd.returns (hb hby d_jdk_43_method_22_36) hr259, hrun259, hend259, _, _, rfl, ?_, ⟨_, rfl⟩, hW259, hsm259.mono (by decide) (by decide)⟩
    · show Q_l1ix Z _ _ _ _ _ _ _ h0 _ T258.heap _
      rw [K258]
      exact ⟨e__258, rfl, N258, rfl, pr258_0⟩
  ·
    refine own_Go.st (fun _ k => XS.icmpNo X257.here hx rfl (hb hby d_jdk_43_method_22_24) rfl (flt h24).1 k) ?_
    show own_Go _ _ _ _ (T257.setTop (mkF m 27 #[.val (.ref a1), .val (.int p2), .val (.int (Int32.ofNat i0)), .val (.int (Int32.ofNat cs.length))] []))
    have hq : ¬ i0 < cs.length := fun q => h24 ((own_oflt (by omega) (by omega)).mpr q)
    refine own_Go.st (fun _ k => XS.iconst X257.here hx rfl (hb hby d_jdk_43_method_22_27) k) ?_
    show own_Go _ _ _ _ (T257.setTop (mkF m 28 #[.val (.ref a1), .val (.int p2), .val (.int (Int32.ofNat i0)), .val (.int (Int32.ofNat cs.length))] [(.int (-1 : Int32))]))
    obtain ⟨fs260, hr260, hrun260, hend260, hW260, hsm260⟩ := X257.leave (v := some (.int (-1 : Int32))) (fun h => by rw [Bd.returns] at h; cases h)
    subst hPP
    refine ⟨_, _, own_retI X257 hx Bd.returns (hb hby d_jdk_43_method_22_28) hr260, hrun260, hend260, _, _, rfl, ?_, ⟨_, rfl⟩, hW260, hsm260.mono (by decide) (by decide)⟩
    · show Q_l1ix Z _ _ _ _ _ _ _ h0 _ T257.heap _
      rw [K257]
      exact ⟨cs.length, (by rw [own_ix, if_neg (Nat.lt_irrefl _)]), N257, rfl, ⟨Nat.le_refl _, fun q => absurd q (Nat.lt_irrefl _), fun j a b => absurd b (by omega)⟩⟩
theorem d_jdk_42_method_80_0 : decode jdk_42_method_80_code 0 = .ok (.aload_n 0, 1) := by decide +kernel
theorem d_jdk_42_method_80_1 : decode jdk_42_method_80_code 1 = .ok (.invokevirtual 492, 3) := by decide +kernel
theorem d_jdk_42_method_80_4 : decode jdk_42_method_80_code 4 = .ok (.ifCond .eq 19, 3) := by decide +kernel
theorem d_jdk_42_method_80_7 : decode jdk_42_method_80_code 7 = .ok (.aload_n 0, 1) := by decide +kernel
theorem d_jdk_42_method_80_8 : decode jdk_42_method_80_code 8 = .ok (.getfield 9, 3) := by decide +kernel
theorem d_jdk_42_method_80_11 : decode jdk_42_method_80_code 11 = .ok (.iload_n 1, 1) := by decide +kernel
theorem d_jdk_42_method_80_12 : decode jdk_42_method_80_code 12 = .ok (.iload_n 2, 1) := by decide +kernel
theorem d_jdk_42_method_80_13 : decode jdk_42_method_80_code 13 = .ok (.aload_n 0, 1) := by decide +kernel
theorem d_jdk_42_method_80_14 : decode jdk_42_method_80_code 14 = .ok (.invokevirtual 505, 3) := by decide +kernel
theorem d_jdk_42_method_80_17 : decode jdk_42_method_80_code 17 = .ok (.invokestatic 637, 3) := by decide +kernel
theorem d_jdk_42_method_80_20 : decode jdk_42_method_80_code 20 = .ok (.goto 16, 3) := by decide +kernel
theorem d_jdk_42_method_80_36 : decode jdk_42_method_80_code 36 = .ok (.ireturn, 1) := by decide +kernel
def Q_index2 (Z : State) (a1 : Nat) (p2 : Int32) (p3 : Int32) (t1 : Nat) (cs : List Int32) (zc : Int32) (i0 : Nat) (h0 : Heap) (v : Option Value) (h : Heap) (L : List Loc) : Prop := ∃ (e_ : Nat), v = some (.int (own_ix e_ cs.length)) ∧ Fr Z.heap.size L ∧ h = h0 ∧ (own_Ix cs p2 i0 e_)
set_option maxRecDepth 65536 in
set_option maxHeartbeats 40000000 in
theorem rm_index2 (l : Launch) (Z : State) (a0 : Array Value) (hw : ∀ d ∈ tables_1, d.before a0 Z = true) (ws : List Jvm.Cond) (a1 : Nat) (p2 : Int32) (p3 : Int32) (t1 : Nat) (cs : List Int32) (zc : Int32) (i0 : Nat) (h0 : Heap) (OL : Old Z Z.heap.size h0) (p0_ : own_Str Z h0 a1 t1 cs) (st_COMPACT_STRINGS : Sta Z Z.heap "java/lang/String" "COMPACT_STRINGS" "Z" (.int zc)) (hzc : ¬ zc = 0) (hch : p2 = 46 ∨ p2 = 36) (hle : cs.length ≤ 4000) (hl : ∀ c ∈ cs, ¬ c < 0 ∧ ¬ (255 : Int32) < c) (hp3 : p3 = Int32.ofNat i0) (hi0 : i0 ≤ 5000) :
    MetFree l (⟨"java/lang/String", "indexOf", "(II)I"⟩ : MethodName) (head1 (Jvm.Cond.code (⟨"java/lang/String", "indexOf", "(II)I"⟩ : MethodName) jdk_42_method_80_code 3 (some .int) :: ws) ({ frames := 2, cells := 0, slots := 0, locals := 40 } : Room)) (fun a U => a = #[(.ref a1), (.int p2), (.int p3)] ∧ Z.Warmed39 U.vm ∧ U.heap = h0) (fun _ _ _ _ _ => True) (fun _ U o U' => ∃ v L, o = .returned v ∧ Q_index2 Z a1 p2 p3 t1 cs zc i0 h0 v U'.heap L ∧ FrameEnd U o U' L ({ frames := 2, cells := 0, slots := 0, locals := 40 } : Room).cells ({ frames := 2, cells := 0, slots := 0, locals := 40 } : Room).slots) := by
  refine MetFree.of_bodySF (plainFor_of_name pn_0) hisR ?_
  intro p e s m args below meth c s₁ Bd hml0 hP hK
  obtain ⟨rfl, hZ, hh⟩ := hP
  have hx := Bd.exec
  have hby := Bd.bytes
  have hml : c.maxLocals = 3 := hml0
  have hown : s.vm.findClass "java/lang/String" = some m.cls := findClass_of_methodNamed Bd.named
  have hnm := (name_of_methodNamed Bd.named Bd.method).1
  have X0 : Stand p l e ({ frames := 2, cells := 0, slots := 0, locals := 40 } : Room) s m #[(.ref a1), (.int p2), (.int p3)] below meth c s₁ [] 0 0 := Stand.of_body Bd
  have e0 : s₁.heap = h0 := by rw [← hh, Bd.state]; rfl
  have N0 := Fr.nil Z.heap.size
  have Z0 : Z.heap.size ≤ h0.size := OL.2.1
  have lt_0 : @LT.lt Nat _ a1 h0.size := p0_.lt
  have ltv_0 : @LT.lt Nat _ t1 h0.size := p0_.ltv
  obtain ⟨PP, hPP⟩ : ∃ PP : Outcome → State → Prop, PP = (fun o tE => ∃ v L, o = .returned v ∧ Q_index2 Z a1 p2 p3 t1 cs zc i0 h0 v tE.heap L ∧ FrameEnd s o tE L ({ frames := 2, cells := 0, slots := 0, locals := 40 } : Room).cells ({ frames := 2, cells := 0, slots := 0, locals := 40 } : Room).slots) := ⟨_, rfl⟩
  show own_Go p.tables e below (fun o tE => ∃ v L, o = .returned v ∧ Q_index2 Z a1 p2 p3 t1 cs zc i0 h0 v tE.heap L ∧ FrameEnd s o tE L ({ frames := 2, cells := 0, slots := 0, locals := 40 } : Room).cells ({ frames := 2, cells := 0, slots := 0, locals := 40 } : Room).slots) (s₁.setTop (entryFrame m #[(.ref a1), (.int p2), (.int p3)] 3))
  rw [← hPP]
  refine own_Go.st (fun t k => castTop (ef_64 m a1 p2 p3) k) ?_
  obtain ⟨kb261, s1261, s2261, s3261, s4261⟩ := own_Str.latF p0_ (fun c q => (hl c q).2)
  show own_Go _ _ _ _ (s₁.setTop (mkF m 0 #[.val (.ref a1), .val (.int p2), .val (.int p3)] []))
  refine own_Go.st (fun _ k => XS.aloadN X0.here hx rfl (hb hby d_jdk_42_method_80_0) rfl rfl k) ?_
  show own_Go _ _ _ _ (s₁.setTop (mkF m 1 #[.val (.ref a1), .val (.int p2), .val (.int p3)] [(.ref a1)]))
  obtain ⟨cq262, kq262, q262a, q262b, q262c⟩ := isOf hZ e0 s1261
  obtain ⟨_, _, ⟨T262, L262, k262, n262⟩, -, X262, ⟨Lc262, hQ262, l262, y262, z262⟩, st262⟩ := X0.virtualBack hx (y := (⟨"java/lang/String", "isLatin1", "()Z"⟩ : MethodName)) (z := (⟨"java/lang/String", "isLatin1", "()Z"⟩ : MethodName)) hown (mvT hZ (hw _ (List.mem_of_getElem? (i := 55) rfl))) (mvT hZ (hw _ (List.mem_of_getElem? (i := 56) rfl))) (notFace_of_selects (args := #[]) (mvT hZ (hw _ (List.mem_of_getElem? (i := 58) rfl)))) (mvT hZ (hw _ (List.mem_of_getElem? (i := 58) rfl))) (mvT hZ (hw _ (List.mem_of_getElem? (i := 57) rfl))) (by decide) (backOf (W := 0) (rm_isl1 l Z a0 hw [] a1 (0 : Int32) zc h0 OL s3261 st_COMPACT_STRINGS (by first | assumption | decide)) hZ (hw _ (List.mem_of_getElem? (i := 59) rfl)) (hw _ (List.mem_of_getElem? (i := 11) rfl)) (by decide) (by decide)) q262a q262c (g := (mkF m 1 #[.val (.ref a1), .val (.int p2), .val (.int p3)] [(.ref a1)])) rfl (by rw [hml]; rfl) (Steps.refl _) (argsL := []) (rest := []) (lenOf pd_152 rfl) rfl (by show 2 * 0 + _ ≤ _; exact Nat.le_of_eq rfl) (hb hby d_jdk_42_method_80_1) (fun _ _ => ⟨rfl, e0, (by decide : 0 + 0 ≤ _), (by decide : 0 + 0 ≤ _)⟩)
  dsimp only [Pt.U, Pt.locs, Pt.cells, Pt.slots] at X262 l262 y262 z262 st262 hQ262
  subst l262 y262 z262
  obtain ⟨rfl, N262q, K262⟩ := hQ262
  have N262 := Fr.app N0 N262q
  refine own_Go.tr st262 ?_
  show own_Go _ _ _ _ (T262.setTop (mkF m 4 #[.val (.ref a1), .val (.int p2), .val (.int p3)] [(.int (if (0 : Int32) = 0 then (1 : Int32) else 0))]))
  have hc263 : ¬ ((if (0 : Int32) = 0 then (1 : Int32) else 0) = (0 : Int32)) := by decide
  refine own_Go.st (fun _ k => XS.ifNo X262.here hx rfl (hb hby d_jdk_42_method_80_4) rfl ((if0 _ _).trans (feq hc263).1) k) ?_
  show own_Go _ _ _ _ (T262.setTop (mkF m 7 #[.val (.ref a1), .val (.int p2), .val (.int p3)] []))
  refine own_Go.st (fun _ k => XS.aloadN X262.here hx rfl (hb hby d_jdk_42_method_80_7) rfl rfl k) ?_
  show own_Go _ _ _ _ (T262.setTop (mkF m 8 #[.val (.ref a1), .val (.int p2), .val (.int p3)] [(.ref a1)]))
  obtain ⟨T264, X264, e264, st264⟩ := getF X262 hx hZ hown (host := "") (Or.inl (hw _ (List.mem_of_getElem? (i := 28) rfl))) Via.refl K262 s2261 (g := (mkF m 8 #[.val (.ref a1), .val (.int p2), .val (.int p3)] [(.ref a1)])) rfl rfl (hb hby d_jdk_42_method_80_8)
  refine own_Go.st st264 ?_
  show own_Go _ _ _ _ (T264.setTop (mkF m 11 #[.val (.ref a1), .val (.int p2), .val (.int p3)] [(.ref t1)]))
  refine own_Go.st (fun _ k => XS.iloadN X264.here hx rfl (hb hby d_jdk_42_method_80_11) rfl k) ?_
  show own_Go _ _ _ _ (T264.setTop (mkF m 12 #[.val (.ref a1), .val (.int p2), .val (.int p3)] [(.int p2), (.ref t1)]))
  refine own_Go.st (fun _ k => XS.iloadN X264.here hx rfl (hb hby d_jdk_42_method_80_12) rfl k) ?_
  show own_Go _ _ _ _ (T264.setTop (mkF m 13 #[.val (.ref a1), .val (.int p2), .val (.int p3)] [(.int p3), (.int p2), (.ref t1)]))
  refine own_Go.st (fun _ k => XS.aloadN X264.here hx rfl (hb hby d_jdk_42_method_80_13) rfl rfl k) ?_
  show own_Go _ _ _ _ (T264.setTop (mkF m 14 #[.val (.ref a1), .val (.int p2), .val (.int p3)] [(.ref a1), (.int p3), (.int p2), (.ref t1)]))
  obtain ⟨kb266, cd266, N266_, vs266, s1266, s2266, s3266, s4266, s5266, s6266, s7266⟩ := id p0_
  obtain ⟨cq265, kq265, q265a, q265b, q265c⟩ := isOf hZ e264 s1261
  obtain ⟨_, _, ⟨T265, L265, k265, n265⟩, -, X265, ⟨Lc265, hQ265, l265, y265, z265⟩, st265⟩ := X264.virtualBack hx (y := (⟨"java/lang/String", "length", "()I"⟩ : MethodName)) (z := (⟨"java/lang/String", "length", "()I"⟩ : MethodName)) hown (mvT hZ (hw _ (List.mem_of_getElem? (i := 39) rfl))) (mvT hZ (hw _ (List.mem_of_getElem? (i := 40) rfl))) (notFace_of_selects (args := #[]) (mvT hZ (hw _ (List.mem_of_getElem? (i := 42) rfl)))) (mvT hZ (hw _ (List.mem_of_getElem? (i := 42) rfl))) (mvT hZ (hw _ (List.mem_of_getElem? (i := 41) rfl))) (by decide) (StrChars.Road.lenW (W := 3) hZ (own_hln hw) (kI := 4) (hw _ (List.mem_of_getElem? (i := 10) rfl)) s1266 s2266 s3266 s4266 s5266 s6266 (st_COMPACT_STRINGS.ext OL.2) hzc s7266 (by decide) (by decide)) q265a q265c (g := (mkF m 14 #[.val (.ref a1), .val (.int p2), .val (.int p3)] [(.ref a1), (.int p3), (.int p2), (.ref t1)])) rfl (by rw [hml]; rfl) (Steps.refl _) (argsL := []) (rest := [(.int p3), (.int p2), (.ref t1)]) (lenOf pd_134 rfl) rfl (by show 2 * 0 + _ ≤ _; exact Nat.le_of_eq rfl) (hb hby d_jdk_42_method_80_14) (fun _ _ => ⟨rfl, e264, (by decide : 0 + 0 ≤ _), (by decide : 0 + 0 ≤ _)⟩)
  dsimp only [Pt.U, Pt.locs, Pt.cells, Pt.slots] at X265 l265 y265 z265 st265 hQ265
  subst l265 y265 z265
  obtain ⟨rfl, rfl, K265⟩ := hQ265
  have N265 := Fr.app N262 (Fr.nil Z.heap.size)
  refine own_Go.tr st265 ?_
  show own_Go _ _ _ _ (T265.setTop (mkF m 17 #[.val (.ref a1), .val (.int p2), .val (.int p3)] [(.int (Int32.ofNat cs.length)), (.int p3), (.int p2), (.ref t1)]))
  obtain ⟨_, _, ⟨T267, L267, k267, n267⟩, -, X267, ⟨Lc267, hQ267, l267, y267, z267⟩, st267⟩ := Jvm.LawKit.callS X265 hx (y := (⟨"java/lang/StringLatin1", "indexOf", "([BIII)I"⟩ : MethodName)) hown (mvT hZ (hw _ (List.mem_of_getElem? (i := 76) rfl))) (mvT hZ (hw _ (List.mem_of_getElem? (i := 77) rfl))) (mvT hZ (hw _ (List.mem_of_getElem? (i := 62) rfl))) (mvT hZ (hw _ (List.mem_of_getElem? (i := 78) rfl))) (by decide) (backOf (W := 0) (rm_l1ix l Z a0 hw [] t1 p2 p3 (Int32.ofNat cs.length) cs kb261 i0 h0 OL s4261 (by first | assumption | decide) (by first | assumption | decide) (by first | assumption | decide) (by first | assumption | decide) rfl (by first | assumption | decide)) hZ (hw _ (List.mem_of_getElem? (i := 78) rfl)) (hw _ (List.mem_of_getElem? (i := 62) rfl)) (by decide) (by decide)) (g := (mkF m 17 #[.val (.ref a1), .val (.int p2), .val (.int p3)] [(.int (Int32.ofNat cs.length)), (.int p3), (.int p2), (.ref t1)])) rfl (by rw [hml]; rfl) (argsL := [(.ref t1), (.int p2), (.int p3), (.int (Int32.ofNat cs.length))]) (rest := []) (lenOf pd_265 rfl) rfl (by show 2 * 0 + _ ≤ _; exact Nat.le_of_eq rfl) (hb hby d_jdk_42_method_80_17) (fun _ _ => ⟨rfl, K265, (by decide : 0 + 0 ≤ _), (by decide : 0 + 0 ≤ _)⟩)
  dsimp only [Pt.U, Pt.locs, Pt.cells, Pt.slots] at X267 l267 y267 z267 st267 hQ267
  subst l267 y267 z267
  obtain ⟨e__267, rfl, N267q, K267, pr267_0⟩ := hQ267
  have N267 := Fr.app N265 N267q
  refine own_Go.st st267 ?_
  show own_Go _ _ _ _ (T267.setTop (mkF m 20 #[.val (.ref a1), .val (.int p2), .val (.int p3)] [(.int (own_ix e__267 cs.length))]))
  refine own_Go.st (fun _ k => XS.goto X267.here hx rfl (pc0 := 20) (pc' := 36) rfl (hb hby d_jdk_42_method_80_20) (by decide) (by decide) k) ?_
  show own_Go _ _ _ _ (T267.setTop (mkF m 36 #[.val (.ref a1), .val (.int p2), .val (.int p3)] [(.int (own_ix e__267 cs.length))]))
  obtain ⟨fs268, hr268, hrun268, hend268, hW268, hsm268⟩ := X267.leave (v := some (.int (own_ix e__267 cs.length))) (fun h => by rw [Bd.returns] at h; cases h)
  subst hPP
  refine ⟨_, _, own_retI X267 hx Bd.returns (hb hby d_jdk_42_method_80_36) hr268, hrun268, hend268, _, _, rfl, ?_, ⟨_, rfl⟩, hW268, hsm268.mono (by decide) (by decide)⟩
  · show Q_index2 Z _ _ _ _ _ _ _ h0 _ T267.heap _
    rw [K267]
    exact ⟨e__267, rfl, N267, rfl, pr267_0⟩

theorem own_one {r : Int32} {A : Prop} (h : (r = 1 ∧ A) ∨ (r = 0 ∧ ¬ A)) (q : ¬ (r = (0 : Int32))) : A := h.elim (fun a => a.2) (fun a => absurd a.1 q)
theorem own_zero {r : Int32} {A : Prop} (h : (r = 1 ∧ A) ∨ (r = 0 ∧ ¬ A)) (q : r = (0 : Int32)) : ¬ A := h.elim (fun a => by rw [a.1] at q; exact absurd q (by decide)) (fun a => a.2)
theorem own_ch255 (x : Int32) : ¬ ((x &&& (255 : Int32)).toUInt32.toUInt16.toUInt32.toInt32) < 0 ∧ ¬ (255 : Int32) < ((x &&& (255 : Int32)).toUInt32.toUInt16.toUInt32.toInt32) := by
  have h1 := c_mask x 255 8 (by decide) (by decide)
  have h4 := c_i2c (x &&& 255)
  have e2 : (255 : Int32).toInt = 255 := by decide
  have e3 : (0 : Int32).toInt = 0 := by decide
  simp only [Int32.lt_iff_toInt_lt, e2, e3]
  omega
theorem own_n7 (x : Int32) : ((x &&& (2147483647 : Int32)) % (7 : Int32)) = 0 ∨ ((x &&& (2147483647 : Int32)) % (7 : Int32)) = 1 ∨ ((x &&& (2147483647 : Int32)) % (7 : Int32)) = 2 ∨ ((x &&& (2147483647 : Int32)) % (7 : Int32)) = 3 ∨ ((x &&& (2147483647 : Int32)) % (7 : Int32)) = 4 ∨ ((x &&& (2147483647 : Int32)) % (7 : Int32)) = 5 ∨ ((x &&& (2147483647 : Int32)) % (7 : Int32)) = 6 := by
  have h1 := c_mask x 2147483647 31 (by decide) (by decide)
  have h2 := (c_irem (x &&& (2147483647 : Int32)) 7 7 (by decide)).1 (by omega)
  generalize (x &&& (2147483647 : Int32)) % (7 : Int32) = y at h2 ⊢
  generalize (x &&& (2147483647 : Int32)) = z at h1 h2
  have e0 : (0 : Int32).toInt = 0 := by decide
  have e1 : (1 : Int32).toInt = 1 := by decide
  have e2 : (2 : Int32).toInt = 2 := by decide
  have e3 : (3 : Int32).toInt = 3 := by decide
  have e4 : (4 : Int32).toInt = 4 := by decide
  have e5 : (5 : Int32).toInt = 5 := by decide
  have e6 : (6 : Int32).toInt = 6 := by decide
  simp only [← Int32.toInt_inj, e0, e1, e2, e3, e4, e5, e6]
  omega
def own_Out (cs : List Int32) (e : Nat) : Prop := ∃ st, own_Ld cs 46 st ∧ own_Ix cs 36 (st + 1) e
def own_lds : Nat → Int32 | 0 => -1 | 1 => 0 | 2 => 1 | 3 => 2 | 4 => 3 | 5 => 4 | _ => 5
theorem own_lds1 {st : Nat} (h : st ≤ 6) : own_lds st + (1 : Int32) = Int32.ofNat st := by
  match st, h with
  | 0, _ => decide
  | 1, _ => decide
  | 2, _ => decide
  | 3, _ => decide
  | 4, _ => decide
  | 5, _ => decide
  | 6, _ => decide
def own_cut : Nat → Int32 | 0 => 0 | 1 => 1 | 2 => 2 | 3 => 3 | 4 => 4 | 5 => 5 | _ => -1
theorem own_cutN {e : Nat} (h : e ≤ 6) (q : own_cut e < 0) : e = 6 := by
  match e, h with
  | 0, _ => exact absurd q (by decide)
  | 1, _ => exact absurd q (by decide)
  | 2, _ => exact absurd q (by decide)
  | 3, _ => exact absurd q (by decide)
  | 4, _ => exact absurd q (by decide)
  | 5, _ => exact absurd q (by decide)
  | 6, _ => rfl
theorem own_cutP {e : Nat} (h : e ≤ 6) (q : ¬ own_cut e < 0) : e < 6 ∧ own_cut e = Int32.ofNat e := by
  match e, h with
  | 0, _ => exact ⟨by decide, by decide⟩
  | 1, _ => exact ⟨by decide, by decide⟩
  | 2, _ => exact ⟨by decide, by decide⟩
  | 3, _ => exact ⟨by decide, by decide⟩
  | 4, _ => exact ⟨by decide, by decide⟩
  | 5, _ => exact ⟨by decide, by decide⟩
  | 6, _ => exact absurd (by decide) q
def own_D (gs : List Int32) (kk i : Nat) (ld : Int32) : Prop := ∃ st, st ≤ 6 ∧ ld = own_lds st ∧ (st = 0 ∨ (st ≤ kk ∧ gs.getD (st - 1) 0 = 46)) ∧ ∀ j, st ≤ j → j < i → j < kk → gs.getD j 0 ≠ 46
theorem own_D0 {gs : List Int32} {kk : Nat} : own_D gs kk 0 (-1) := ⟨0, by decide, rfl, Or.inl rfl, fun j _ h => absurd h (by omega)⟩
theorem own_DY {gs : List Int32} {kk : Nat} (i : Nat) (hi : i < 6) (h : i < kk ∧ gs.getD i 0 = 46) : own_D gs kk (i + 1) (own_lds (i + 1)) := ⟨i + 1, by omega, rfl, Or.inr ⟨by omega, h.2⟩, fun j a b => absurd b (by omega)⟩
theorem own_DN {gs : List Int32} {kk i : Nat} {ld : Int32} (h : own_D gs kk i ld) (q : ¬ (i < kk ∧ gs.getD i 0 = 46)) : own_D gs kk (i + 1) ld := by
  obtain ⟨st, a, b, c, d⟩ := h
  refine ⟨st, a, b, c, fun j h1 h2 h3 => ?_⟩
  by_cases u : j = i
  · rw [u]; rw [u] at h3; exact fun z => q ⟨h3, z⟩
  · exact d j h1 (by omega) h3
def own_C (gs : List Int32) (kk st i : Nat) (ct : Int32) : Prop := ∃ e, e ≤ 6 ∧ ct = own_cut e ∧ (e < 6 → e < kk ∧ st < e ∧ gs.getD e 0 = 36) ∧ ∀ j, i ≤ j → j < e → st < j → j < kk → gs.getD j 0 ≠ 36
theorem own_C0 {gs : List Int32} {kk st : Nat} : own_C gs kk st 6 (-1) := ⟨6, by decide, rfl, fun h => absurd h (by decide), fun j a b => absurd b (by omega)⟩
theorem own_CY {gs : List Int32} {kk st : Nat} (i : Nat) (hi : i < 6) (hs : st < i) (h : i < kk ∧ gs.getD i 0 = 36) : own_C gs kk st i (own_cut i) := ⟨i, by omega, rfl, fun _ => ⟨h.1, hs, h.2⟩, fun j a b => absurd b (by omega)⟩
theorem own_CN {gs : List Int32} {kk st i : Nat} {ct : Int32} (h : own_C gs kk st (i + 1) ct) (q : ¬ (st < i ∧ i < kk ∧ gs.getD i 0 = 36)) : own_C gs kk st i ct := by
  obtain ⟨e, a, b, c, d⟩ := h
  refine ⟨e, a, b, c, fun j h1 h2 h3 h4 => ?_⟩
  by_cases u : j = i
  · rw [u]; rw [u] at h3 h4; exact fun z => q ⟨h3, h4, z⟩
  · exact d j (by omega) h2 h3 h4
def own_F (gs : List Int32) (kk st e : Nat) : Prop := e ≤ kk ∧ (e < kk → st < e ∧ gs.getD e 0 = 36) ∧ ∀ j, st < j → j < e → gs.getD j 0 ≠ 36
theorem own_FN {gs : List Int32} {kk st : Nat} {ct : Int32} (hk : kk ≤ 6) (h : own_C gs kk st 1 ct) (q : ct < 0) : own_F gs kk st kk := by
  obtain ⟨e, a, rfl, c, d⟩ := h
  obtain rfl := own_cutN a q
  exact ⟨Nat.le_refl _, fun u => absurd u (by omega), fun j h1 h2 => d j (by omega) (by omega) h1 h2⟩
theorem own_FP {gs : List Int32} {kk st : Nat} {ct : Int32} (h : own_C gs kk st 1 ct) (q : ¬ ct < 0) : ∃ e, ct = Int32.ofNat e ∧ own_F gs kk st e := by
  obtain ⟨e, a, rfl, c, d⟩ := h
  obtain ⟨p1, p2⟩ := own_cutP a q
  obtain ⟨c1, c2, c3⟩ := c p1
  exact ⟨e, p2, Nat.le_of_lt c1, fun _ => ⟨c2, c3⟩, fun j h1 h2 => d j (by omega) h2 h1 (by omega)⟩
theorem own_tg {gs : List Int32} {kk j : Nat} (h : j < kk) : (gs.take kk).getD j 0 = gs.getD j 0 := by
  simp [List.getD_eq_getElem?_getD, List.getElem?_take, h]
theorem own_uni {gs : List Int32} {kk st e eo : Nat} (hk : kk ≤ gs.length) (ho : own_Out (gs.take kk) eo) (h1 : st = 0 ∨ (st ≤ kk ∧ gs.getD (st - 1) 0 = 46)) (h2 : ∀ j, st ≤ j → j < kk → gs.getD j 0 ≠ 46) (hF : own_F gs kk st e) : eo = e := by
  obtain ⟨s2, ⟨a1, a2, a3⟩, b1, b2, b3⟩ := ho
  have hl : (gs.take kk).length = kk := by simp; omega
  rw [hl] at a1 a3 b1 b2
  obtain ⟨f1, f2, f3⟩ := hF
  have hs : s2 = st := by
    rcases Nat.lt_trichotomy s2 st with q | q | q
    · rcases h1 with r | ⟨r1, r2⟩
      · omega
      · have := a3 (st - 1) (by omega) (by omega)
        rw [own_tg (by omega)] at this
        exact absurd r2 this
    · exact q
    · rcases a2 with r | r
      · omega
      · rw [own_tg (by omega)] at r
        exact absurd r (h2 (s2 - 1) (by omega) (by omega))
  subst hs
  rcases Nat.lt_trichotomy eo e with q | q | q
  · obtain ⟨x1, x2⟩ := b2 (by omega)
    rw [own_tg (by omega)] at x2
    exact absurd x2 (f3 eo (by omega) q)
  · exact q
  · obtain ⟨x1, x2⟩ := f2 (by omega)
    have := b3 e (by omega) q
    rw [own_tg (by omega)] at this
    exact absurd x2 this

theorem pn_282 : plainName "com/example/keep_to_layer/keeptolayer/model/ClassNames" = true := by first | (simp [plainName, overriddenIn]; done) | decide +kernel
theorem ef_283 (m : MethodId) (x0 : Nat) : entryFrame m #[(.ref x0)] 3 = mkF m 0 #[.val (.ref x0), .unset, .unset] [] := by first | (simp [entryFrame, mkF, argsToLocals, Value.category]; done) | rfl
theorem d_prog_14_method_5_0 : decode prog_14_method_5_code 0 = .ok (.aload_n 0, 1) := by decide +kernel
theorem d_prog_14_method_5_1 : decode prog_14_method_5_code 1 = .ok (.bipush 46, 2) := by decide +kernel
theorem pd_286 : parseMethodDescriptor "(I)I" = some ⟨[.int], some .int⟩ := by decide +kernel
theorem d_prog_14_method_5_3 : decode prog_14_method_5_code 3 = .ok (.invokevirtual 59, 3) := by decide +kernel
theorem d_prog_14_method_5_6 : decode prog_14_method_5_code 6 = .ok (.iconst 1, 1) := by decide +kernel
theorem d_prog_14_method_5_7 : decode prog_14_method_5_code 7 = .ok (.iadd, 1) := by decide +kernel
theorem d_prog_14_method_5_8 : decode prog_14_method_5_code 8 = .ok (.istore_n 1, 1) := by decide +kernel
theorem d_prog_14_method_5_9 : decode prog_14_method_5_code 9 = .ok (.aload_n 0, 1) := by decide +kernel
theorem d_prog_14_method_5_10 : decode prog_14_method_5_code 10 = .ok (.bipush 36, 2) := by decide +kernel
theorem d_prog_14_method_5_12 : decode prog_14_method_5_code 12 = .ok (.iload_n 1, 1) := by decide +kernel
theorem d_prog_14_method_5_13 : decode prog_14_method_5_code 13 = .ok (.iconst 1, 1) := by decide +kernel
theorem d_prog_14_method_5_14 : decode prog_14_method_5_code 14 = .ok (.iadd, 1) := by decide +kernel
theorem d_prog_14_method_5_15 : decode prog_14_method_5_code 15 = .ok (.invokevirtual 72, 3) := by decide +kernel
theorem d_prog_14_method_5_18 : decode prog_14_method_5_code 18 = .ok (.istore_n 2, 1) := by decide +kernel
theorem d_prog_14_method_5_19 : decode prog_14_method_5_code 19 = .ok (.iload_n 2, 1) := by decide +kernel
theorem d_prog_14_method_5_20 : decode prog_14_method_5_code 20 = .ok (.ifCond .ge 7, 3) := by decide +kernel
theorem d_prog_14_method_5_23 : decode prog_14_method_5_code 23 = .ok (.aload_n 0, 1) := by decide +kernel
theorem d_prog_14_method_5_24 : decode prog_14_method_5_code 24 = .ok (.goto 9, 3) := by decide +kernel
theorem d_prog_14_method_5_33 : decode prog_14_method_5_code 33 = .ok (.areturn, 1) := by decide +kernel
theorem d_prog_14_method_5_27 : decode prog_14_method_5_code 27 = .ok (.aload_n 0, 1) := by decide +kernel
theorem d_prog_14_method_5_28 : decode prog_14_method_5_code 28 = .ok (.iconst 0, 1) := by decide +kernel
theorem d_prog_14_method_5_29 : decode prog_14_method_5_code 29 = .ok (.iload_n 2, 1) := by decide +kernel
theorem pd_306 : parseMethodDescriptor "(II)Ljava/lang/String;" = some ⟨[.int, .int], some (.object "java/lang/String")⟩ := by decide +kernel
theorem d_prog_14_method_5_30 : decode prog_14_method_5_code 30 = .ok (.invokevirtual 68, 3) := by decide +kernel
def Q_outermost (Z : State) (a1 : Nat) (t1 : Nat) (cs : List Int32) (zc : Int32) (fm : Value) (h0 : Heap) (v : Option Value) (h : Heap) (L : List Loc) : Prop := ∃ (x : Nat), ∃ (t : Nat), ∃ (e_ : Nat), v = some (.ref x) ∧ Fr Z.heap.size L ∧ Keep h0 h [] ∧ own_Str Z h x t (cs.take e_) ∧ (own_Out cs e_)
set_option maxRecDepth 65536 in
set_option maxHeartbeats 40000000 in
theorem rm_outermost (l : Launch) (Z : State) (a0 : Array Value) (hw : ∀ d ∈ tables_1, d.before a0 Z = true) (ws : List Jvm.Cond) (a1 : Nat) (t1 : Nat) (cs : List Int32) (zc : Int32) (fm : Value) (h0 : Heap) (OL : Old Z Z.heap.size h0) (p0_ : own_Str Z h0 a1 t1 cs) (st_COMPACT_STRINGS : Sta Z Z.heap "java/lang/String" "COMPACT_STRINGS" "Z" (.int zc)) (st_SIOOBE_FORMATTER : Sta Z Z.heap "jdk/internal/util/Preconditions" "SIOOBE_FORMATTER" "Ljava/util/function/BiFunction;" fm) (hzc : ¬ zc = 0) (hfm : fm.isRef = true) (hle : cs.length ≤ 6) (hl : ∀ c ∈ cs, ¬ c < 0 ∧ ¬ (255 : Int32) < c) :
    MetFree l (⟨"com/example/keep_to_layer/keeptolayer/model/ClassNames", "outermostOf", "(Ljava/lang/String;)Ljava/lang/String;"⟩ : MethodName) (head1 (Jvm.Cond.code (⟨"com/example/keep_to_layer/keeptolayer/model/ClassNames", "outermostOf", "(Ljava/lang/String;)Ljava/lang/String;"⟩ : MethodName) prog_14_method_5_code 3 (some (.object "java/lang/String")) :: ws) ({ frames := 5, cells := 2, slots := 12, locals := 110 } : Room)) (fun a U => a = #[(.ref a1)] ∧ Z.Warmed39 U.vm ∧ U.heap = h0) (fun _ _ _ _ _ => True) (fun _ U o U' => ∃ v L, o = .returned v ∧ Q_outermost Z a1 t1 cs zc fm h0 v U'.heap L ∧ FrameEnd U o U' L ({ frames := 5, cells := 2, slots := 12, locals := 110 } : Room).cells ({ frames := 5, cells := 2, slots := 12, locals := 110 } : Room).slots) := by
  refine MetFree.of_bodySF (plainFor_of_name pn_282) hisR ?_
  intro p e s m args below meth c s₁ Bd hml0 hP hK
  obtain ⟨rfl, hZ, hh⟩ := hP
  have hx := Bd.exec
  have hby := Bd.bytes
  have hml : c.maxLocals = 3 := hml0
  have hown : s.vm.findClass "com/example/keep_to_layer/keeptolayer/model/ClassNames" = some m.cls := findClass_of_methodNamed Bd.named
  have hnm := (name_of_methodNamed Bd.named Bd.method).1
  have X0 : Stand p l e ({ frames := 5, cells := 2, slots := 12, locals := 110 } : Room) s m #[(.ref a1)] below meth c s₁ [] 0 0 := Stand.of_body Bd
  have e0 : s₁.heap = h0 := by rw [← hh, Bd.state]; rfl
  have N0 := Fr.nil Z.heap.size
  have Z0 : Z.heap.size ≤ h0.size := OL.2.1
  have lt_0 : @LT.lt Nat _ a1 h0.size := p0_.lt
  have ltv_0 : @LT.lt Nat _ t1 h0.size := p0_.ltv
  obtain ⟨PP, hPP⟩ : ∃ PP : Outcome → State → Prop, PP = (fun o tE => ∃ v L, o = .returned v ∧ Q_outermost Z a1 t1 cs zc fm h0 v tE.heap L ∧ FrameEnd s o tE L ({ frames := 5, cells := 2, slots := 12, locals := 110 } : Room).cells ({ frames := 5, cells := 2, slots := 12, locals := 110 } : Room).slots) := ⟨_, rfl⟩
  show own_Go p.tables e below (fun o tE => ∃ v L, o = .returned v ∧ Q_outermost Z a1 t1 cs zc fm h0 v tE.heap L ∧ FrameEnd s o tE L ({ frames := 5, cells := 2, slots := 12, locals := 110 } : Room).cells ({ frames := 5, cells := 2, slots := 12, locals := 110 } : Room).slots) (s₁.setTop (entryFrame m #[(.ref a1)] 3))
  rw [← hPP]
  refine own_Go.st (fun t k => castTop (ef_283 m a1) k) ?_
  show own_Go _ _ _ _ (s₁.setTop (mkF m 0 #[.val (.ref a1), .unset, .unset] []))
  refine own_Go.st (fun _ k => XS.aloadN X0.here hx rfl (hb hby d_prog_14_method_5_0) rfl rfl k) ?_
  show own_Go _ _ _ _ (s₁.setTop (mkF m 1 #[.val (.ref a1), .unset, .unset] [(.ref a1)]))
  refine own_Go.st (fun _ k => XS.bipush X0.here hx rfl (hb hby d_prog_14_method_5_1) k) ?_
  show own_Go _ _ _ _ (s₁.setTop (mkF m 3 #[.val (.ref a1), .unset, .unset] [(.int (46 : Int32)), (.ref a1)]))
  obtain ⟨cq269, kq269, q269a, q269b, q269c⟩ := isOf hZ e0 p0_.exa
  obtain ⟨_, _, ⟨T269, L269, k269, n269⟩, -, X269, ⟨Lc269, hQ269, l269, y269, z269⟩, st269⟩ := X0.virtualBack hx (y := (⟨"java/lang/String", "lastIndexOf", "(I)I"⟩ : MethodName)) (z := (⟨"java/lang/String", "lastIndexOf", "(I)I"⟩ : MethodName)) hown (mvT hZ (hw _ (List.mem_of_getElem? (i := 34) rfl))) (mvT hZ (hw _ (List.mem_of_getElem? (i := 35) rfl))) (notFace_of_selects (args := #[]) (mvT hZ (hw _ (List.mem_of_getElem? (i := 37) rfl)))) (mvT hZ (hw _ (List.mem_of_getElem? (i := 37) rfl))) (mvT hZ (hw _ (List.mem_of_getElem? (i := 36) rfl))) (by decide) (backOf (W := 0) (rm_last1 l Z a0 hw [] a1 (46 : Int32) t1 cs zc h0 OL p0_ st_COMPACT_STRINGS (by first | assumption | decide) (Or.inl rfl) (by omega) hl) hZ (hw _ (List.mem_of_getElem? (i := 38) rfl)) (hw _ (List.mem_of_getElem? (i := 11) rfl)) (by decide) (by decide)) q269a q269c (g := (mkF m 3 #[.val (.ref a1), .unset, .unset] [(.int (46 : Int32)), (.ref a1)])) rfl (by rw [hml]; rfl) (Steps.refl _) (argsL := [(.int (46 : Int32))]) (rest := []) (lenOf pd_286 rfl) rfl (by show 2 * 0 + _ ≤ _; exact Nat.le_of_eq rfl) (hb hby d_prog_14_method_5_3) (fun _ _ => ⟨rfl, e0, (by decide : 0 + 0 ≤ _), (by decide : 0 + 0 ≤ _)⟩)
  dsimp only [Pt.U, Pt.locs, Pt.cells, Pt.slots] at X269 l269 y269 z269 st269 hQ269
  subst l269 y269 z269
  obtain ⟨st_269, rfl, N269q, K269, pr269_0⟩ := hQ269
  have N269 := Fr.app N0 N269q
  have hLd := pr269_0
  have hst := hLd.1
  refine own_Go.tr st269 ?_
  show own_Go _ _ _ _ (T269.setTop (mkF m 6 #[.val (.ref a1), .unset, .unset] [(.int ((Int32.ofNat st_269) - (1 : Int32)))]))
  refine own_Go.st (fun _ k => XS.iconst X269.here hx rfl (hb hby d_prog_14_method_5_6) k) ?_
  show own_Go _ _ _ _ (T269.setTop (mkF m 7 #[.val (.ref a1), .unset, .unset] [(.int (1 : Int32)), (.int ((Int32.ofNat st_269) - (1 : Int32)))]))
  refine own_Go.st (fun _ k => XS.iadd X269.here hx rfl (hb hby d_prog_14_method_5_7) rfl k) ?_
  show own_Go _ _ _ _ (T269.setTop (mkF m 8 #[.val (.ref a1), .unset, .unset] [(.int (((Int32.ofNat st_269) - (1 : Int32)) + (1 : Int32)))]))
  rw [own_sa1]
  show own_Go _ _ _ _ (T269.setTop (mkF m 8 #[.val (.ref a1), .unset, .unset] [(.int (Int32.ofNat st_269))]))
  refine own_Go.st (fun _ k => XS.istoreN X269.here hx rfl (hb hby d_prog_14_method_5_8) rfl (l' := #[.val (.ref a1), .val (.int (Int32.ofNat st_269)), .unset]) rfl k) ?_
  show own_Go _ _ _ _ (T269.setTop (mkF m 9 #[.val (.ref a1), .val (.int (Int32.ofNat st_269)), .unset] []))
  refine own_Go.st (fun _ k => XS.aloadN X269.here hx rfl (hb hby d_prog_14_method_5_9) rfl rfl k) ?_
  show own_Go _ _ _ _ (T269.setTop (mkF m 10 #[.val (.ref a1), .val (.int (Int32.ofNat st_269)), .unset] [(.ref a1)]))
  refine own_Go.st (fun _ k => XS.bipush X269.here hx rfl (hb hby d_prog_14_method_5_10) k) ?_
  show own_Go _ _ _ _ (T269.setTop (mkF m 12 #[.val (.ref a1), .val (.int (Int32.ofNat st_269)), .unset] [(.int (36 : Int32)), (.ref a1)]))
  refine own_Go.st (fun _ k => XS.iloadN X269.here hx rfl (hb hby d_prog_14_method_5_12) rfl k) ?_
  show own_Go _ _ _ _ (T269.setTop (mkF m 13 #[.val (.ref a1), .val (.int (Int32.ofNat st_269)), .unset] [(.int (Int32.ofNat st_269)), (.int (36 : Int32)), (.ref a1)]))
  refine own_Go.st (fun _ k => XS.iconst X269.here hx rfl (hb hby d_prog_14_method_5_13) k) ?_
  show own_Go _ _ _ _ (T269.setTop (mkF m 14 #[.val (.ref a1), .val (.int (Int32.ofNat st_269)), .unset] [(.int (1 : Int32)), (.int (Int32.ofNat st_269)), (.int (36 : Int32)), (.ref a1)]))
  refine own_Go.st (fun _ k => XS.iadd X269.here hx rfl (hb hby d_prog_14_method_5_14) rfl k) ?_
  show own_Go _ _ _ _ (T269.setTop (mkF m 15 #[.val (.ref a1), .val (.int (Int32.ofNat st_269)), .unset] [(.int ((Int32.ofNat st_269) + (1 : Int32))), (.int (36 : Int32)), (.ref a1)]))
  rw [own_ofS (by omega)]
  show own_Go _ _ _ _ (T269.setTop (mkF m 15 #[.val (.ref a1), .val (.int (Int32.ofNat st_269)), .unset] [(.int (Int32.ofNat (st_269 + 1))), (.int (36 : Int32)), (.ref a1)]))
  obtain ⟨cq270, kq270, q270a, q270b, q270c⟩ := isOf hZ K269 p0_.exa
  obtain ⟨_, _, ⟨T270, L270, k270, n270⟩, -, X270, ⟨Lc270, hQ270, l270, y270, z270⟩, st270⟩ := X269.virtualBack hx (y := (⟨"java/lang/String", "indexOf", "(II)I"⟩ : MethodName)) (z := (⟨"java/lang/String", "indexOf", "(II)I"⟩ : MethodName)) hown (mvT hZ (hw _ (List.mem_of_getElem? (i := 71) rfl))) (mvT hZ (hw _ (List.mem_of_getElem? (i := 72) rfl))) (notFace_of_selects (args := #[]) (mvT hZ (hw _ (List.mem_of_getElem? (i := 74) rfl)))) (mvT hZ (hw _ (List.mem_of_getElem? (i := 74) rfl))) (mvT hZ (hw _ (List.mem_of_getElem? (i := 73) rfl))) (by decide) (backOf (W := 0) (rm_index2 l Z a0 hw [] a1 (36 : Int32) (Int32.ofNat (st_269 + 1)) t1 cs zc (st_269 + 1) h0 OL p0_ st_COMPACT_STRINGS (by first | assumption | decide) (Or.inr rfl) (by omega) hl rfl (by omega)) hZ (hw _ (List.mem_of_getElem? (i := 75) rfl)) (hw _ (List.mem_of_getElem? (i := 11) rfl)) (by decide) (by decide)) q270a q270c (g := (mkF m 15 #[.val (.ref a1), .val (.int (Int32.ofNat st_269)), .unset] [(.int (Int32.ofNat (st_269 + 1))), (.int (36 : Int32)), (.ref a1)])) rfl (by rw [hml]; rfl) (Steps.refl _) (argsL := [(.int (36 : Int32)), (.int (Int32.ofNat (st_269 + 1)))]) (rest := []) (lenOf pd_59 rfl) rfl (by show 2 * 0 + _ ≤ _; exact Nat.le_of_eq rfl) (hb hby d_prog_14_method_5_15) (fun _ _ => ⟨rfl, K269, (by decide : 0 + 0 ≤ _), (by decide : 0 + 0 ≤ _)⟩)
  dsimp only [Pt.U, Pt.locs, Pt.cells, Pt.slots] at X270 l270 y270 z270 st270 hQ270
  subst l270 y270 z270
  obtain ⟨e__270, rfl, N270q, K270, pr270_0⟩ := hQ270
  have N270 := Fr.app N269 N270q
  have hIx := pr270_0
  have hee := hIx.1
  refine own_Go.tr st270 ?_
  show own_Go _ _ _ _ (T270.setTop (mkF m 18 #[.val (.ref a1), .val (.int (Int32.ofNat st_269)), .unset] [(.int (own_ix e__270 cs.length))]))
  refine own_Go.st (fun _ k => XS.istoreN X270.here hx rfl (hb hby d_prog_14_method_5_18) rfl (l' := #[.val (.ref a1), .val (.int (Int32.ofNat st_269)), .val (.int (own_ix e__270 cs.length))]) rfl k) ?_
  show own_Go _ _ _ _ (T270.setTop (mkF m 19 #[.val (.ref a1), .val (.int (Int32.ofNat st_269)), .val (.int (own_ix e__270 cs.length))] []))
  refine own_Go.st (fun _ k => XS.iloadN X270.here hx rfl (hb hby d_prog_14_method_5_19) rfl k) ?_
  show own_Go _ _ _ _ (T270.setTop (mkF m 20 #[.val (.ref a1), .val (.int (Int32.ofNat st_269)), .val (.int (own_ix e__270 cs.length))] [(.int (own_ix e__270 cs.length))]))
  by_cases h20 : (own_ix e__270 cs.length) < (0 : Int32)
  ·
    refine own_Go.st (fun _ k => XS.ifNo X270.here hx rfl (hb hby d_prog_14_method_5_20) rfl ((if0 _ _).trans (tlt h20).2.1) k) ?_
    show own_Go _ _ _ _ (T270.setTop (mkF m 23 #[.val (.ref a1), .val (.int (Int32.ofNat st_269)), .val (.int (own_ix e__270 cs.length))] []))
    have hq := own_ixT (by omega) h20
    have hq2 : e__270 = cs.length := by omega
    refine own_Go.st (fun _ k => XS.aloadN X270.here hx rfl (hb hby d_prog_14_method_5_23) rfl rfl k) ?_
    show own_Go _ _ _ _ (T270.setTop (mkF m 24 #[.val (.ref a1), .val (.int (Int32.ofNat st_269)), .val (.int (own_ix e__270 cs.length))] [(.ref a1)]))
    refine own_Go.st (fun _ k => XS.goto X270.here hx rfl (pc0 := 24) (pc' := 33) rfl (hb hby d_prog_14_method_5_24) (by decide) (by decide) k) ?_
    show own_Go _ _ _ _ (T270.setTop (mkF m 33 #[.val (.ref a1), .val (.int (Int32.ofNat st_269)), .val (.int (own_ix e__270 cs.length))] [(.ref a1)]))
    obtain ⟨fs271, hr271, hrun271, hend271, hW271, hsm271⟩ := X270.leave (v := some (.ref a1)) (fun h => by rw [Bd.returns] at h; cases h)
    have f272 : own_Str Z h0 a1 t1 (cs.take e__270) := by
      rw [hq2, List.take_length]
      exact p0_
    subst hPP
    refine ⟨_, _, own_retA X270 hx Bd.returns rfl rfl (hb hby d_prog_14_method_5_33) hr271, hrun271, hend271, _, _, rfl, ?_, ⟨_, rfl⟩, hW271, hsm271.mono (by decide) (by decide)⟩
    · show Q_outermost Z _ _ _ _ _ h0 _ T270.heap _
      rw [K270]
      exact ⟨a1, t1, e__270, rfl, N270, (Keep.refl h0 []), f272, ⟨st_269, hLd, hIx⟩⟩
  ·
    refine own_Go.st (fun _ k => XS.ifYes X270.here hx rfl (pc0 := 20) (pc' := 27) rfl (hb hby d_prog_14_method_5_20) rfl ((if0 _ _).trans (flt h20).2.1) (by decide) (by decide) k) ?_
    show own_Go _ _ _ _ (T270.setTop (mkF m 27 #[.val (.ref a1), .val (.int (Int32.ofNat st_269)), .val (.int (own_ix e__270 cs.length))] []))
    have hq := own_ixF h20
    rw [show own_ix e__270 cs.length = Int32.ofNat e__270 from if_pos hq]
    show own_Go _ _ _ _ (T270.setTop (mkF m 27 #[.val (.ref a1), .val (.int (Int32.ofNat st_269)), .val (.int (Int32.ofNat e__270))] []))
    refine own_Go.st (fun _ k => XS.aloadN X270.here hx rfl (hb hby d_prog_14_method_5_27) rfl rfl k) ?_
    show own_Go _ _ _ _ (T270.setTop (mkF m 28 #[.val (.ref a1), .val (.int (Int32.ofNat st_269)), .val (.int (Int32.ofNat e__270))] [(.ref a1)]))
    refine own_Go.st (fun _ k => XS.iconst X270.here hx rfl (hb hby d_prog_14_method_5_28) k) ?_
    show own_Go _ _ _ _ (T270.setTop (mkF m 29 #[.val (.ref a1), .val (.int (Int32.ofNat st_269)), .val (.int (Int32.ofNat e__270))] [(.int (0 : Int32)), (.ref a1)]))
    refine own_Go.st (fun _ k => XS.iloadN X270.here hx rfl (hb hby d_prog_14_method_5_29) rfl k) ?_
    show own_Go _ _ _ _ (T270.setTop (mkF m 30 #[.val (.ref a1), .val (.int (Int32.ofNat st_269)), .val (.int (Int32.ofNat e__270))] [(.int (Int32.ofNat e__270)), (.int (0 : Int32)), (.ref a1)]))
    obtain ⟨cq273, kq273, q273a, q273b, q273c⟩ := isOf hZ K270 p0_.exa
    obtain ⟨_, _, ⟨T273, L273, k273, n273⟩, -, X273, ⟨Lc273, hQ273, l273, y273, z273⟩, st273⟩ := X270.virtualBack hx (y := (⟨"java/lang/String", "substring", "(II)Ljava/lang/String;"⟩ : MethodName)) (z := (⟨"java/lang/String", "substring", "(II)Ljava/lang/String;"⟩ : MethodName)) hown (mvT hZ (hw _ (List.mem_of_getElem? (i := 118) rfl))) (mvT hZ (hw _ (List.mem_of_getElem? (i := 119) rfl))) (notFace_of_selects (args := #[]) (mvT hZ (hw _ (List.mem_of_getElem? (i := 121) rfl)))) (mvT hZ (hw _ (List.mem_of_getElem? (i := 121) rfl))) (mvT hZ (hw _ (List.mem_of_getElem? (i := 120) rfl))) (by decide) (backOf (W := 0) (rm_substr l Z a0 hw [] a1 (0 : Int32) (Int32.ofNat e__270) 0 e__270 t1 cs zc fm h0 OL p0_ st_COMPACT_STRINGS st_SIOOBE_FORMATTER (by first | assumption | decide) (by first | assumption | decide) rfl rfl (by have := (hIx.2.1 hq).1; omega) hee (fun q => by omega) (by omega) (by omega) hl) hZ (hw _ (List.mem_of_getElem? (i := 122) rfl)) (hw _ (List.mem_of_getElem? (i := 11) rfl)) (by decide) (by decide)) q273a q273c (g := (mkF m 30 #[.val (.ref a1), .val (.int (Int32.ofNat st_269)), .val (.int (Int32.ofNat e__270))] [(.int (Int32.ofNat e__270)), (.int (0 : Int32)), (.ref a1)])) rfl (by rw [hml]; rfl) (Steps.refl _) (argsL := [(.int (0 : Int32)), (.int (Int32.ofNat e__270))]) (rest := []) (lenOf pd_306 rfl) rfl (by show 2 * 0 + _ ≤ _; exact Nat.le_of_eq rfl) (hb hby d_prog_14_method_5_30) (fun _ _ => ⟨rfl, K270, (by decide : 0 + 2 ≤ _), (by decide : 0 + 12 ≤ _)⟩)
    dsimp only [Pt.U, Pt.locs, Pt.cells, Pt.slots] at X273 l273 y273 z273 st273 hQ273
    subst l273 y273 z273
    obtain ⟨x_273, t_273, rfl, N273q, K273, f273_0, pr273_0, pr273_1⟩ := hQ273
    have N273 := Fr.app N270 N273q
    have z273 : h0.size ≤ T273.heap.size := K273.1
    have lt273_0 : @LT.lt Nat _ x_273 T273.heap.size := f273_0.lt
    have ltv273_0 : @LT.lt Nat _ t_273 T273.heap.size := f273_0.ltv
    refine own_Go.tr st273 ?_
    show own_Go _ _ _ _ (T273.setTop (mkF m 33 #[.val (.ref a1), .val (.int (Int32.ofNat st_269)), .val (.int (Int32.ofNat e__270))] [(.ref x_273)]))
    obtain ⟨fs274, hr274, hrun274, hend274, hW274, hsm274⟩ := X273.leave (v := some (.ref x_273)) (fun h => by rw [Bd.returns] at h; cases h)
    have f275 : own_Str Z T273.heap x_273 t_273 (cs.take e__270) := by
      have q := f273_0
      rw [List.drop_zero, Nat.sub_zero] at q
      exact q
    have K276 : Keep h0 T273.heap [] := (Keep.refl h0 []).trans K273 all0
    subst hPP
    refine ⟨_, _, own_retA X273 hx Bd.returns rfl rfl (hb hby d_prog_14_method_5_33) hr274, hrun274, hend274, _, _, rfl, ?_, ⟨_, rfl⟩, hW274, hsm274.mono (by decide) (by decide)⟩
    · show Q_outermost Z _ _ _ _ _ h0 _ T273.heap _
      exact ⟨x_273, t_273, e__270, rfl, N273, K276, f275, ⟨st_269, hLd, hIx⟩⟩
theorem pn_308 : plainName "com/example/keep_to_layer/keeptolayer/model/ClassNamesOutermostOfPinLaw" = true := by first | (simp [plainName, overriddenIn]; done) | decide +kernel
theorem ef_309 (m : MethodId) (x0 : Int32) : entryFrame m #[(.int x0)] 2 = mkF m 0 #[.val (.int x0), .unset] [] := by first | (simp [entryFrame, mkF, argsToLocals, Value.category]; done) | rfl
theorem d_method_4_0 : decode method_4_code 0 = .ok (.iload_n 0, 1) := by decide +kernel
theorem d_method_4_1 : decode method_4_code 1 = .ok (.iconst 3, 1) := by decide +kernel
theorem d_method_4_2 : decode method_4_code 2 = .ok (.iand, 1) := by decide +kernel
theorem d_method_4_3 : decode method_4_code 3 = .ok (.istore_n 1, 1) := by decide +kernel
theorem d_method_4_4 : decode method_4_code 4 = .ok (.iload_n 1, 1) := by decide +kernel
theorem d_method_4_5 : decode method_4_code 5 = .ok (.ifCond .ne 6, 3) := by decide +kernel
theorem d_method_4_8 : decode method_4_code 8 = .ok (.bipush 46, 2) := by decide +kernel
theorem d_method_4_10 : decode method_4_code 10 = .ok (.ireturn, 1) := by decide +kernel
theorem d_method_4_11 : decode method_4_code 11 = .ok (.iload_n 1, 1) := by decide +kernel
theorem d_method_4_12 : decode method_4_code 12 = .ok (.iconst 1, 1) := by decide +kernel
theorem d_method_4_13 : decode method_4_code 13 = .ok (.if_icmp .ne 6, 3) := by decide +kernel
theorem d_method_4_16 : decode method_4_code 16 = .ok (.bipush 36, 2) := by decide +kernel
theorem d_method_4_18 : decode method_4_code 18 = .ok (.ireturn, 1) := by decide +kernel
theorem d_method_4_19 : decode method_4_code 19 = .ok (.iload_n 1, 1) := by decide +kernel
theorem d_method_4_20 : decode method_4_code 20 = .ok (.iconst 2, 1) := by decide +kernel
theorem d_method_4_21 : decode method_4_code 21 = .ok (.if_icmp .ne 6, 3) := by decide +kernel
theorem d_method_4_24 : decode method_4_code 24 = .ok (.bipush 97, 2) := by decide +kernel
theorem d_method_4_26 : decode method_4_code 26 = .ok (.ireturn, 1) := by decide +kernel
theorem d_method_4_27 : decode method_4_code 27 = .ok (.iload_n 0, 1) := by decide +kernel
theorem d_method_4_28 : decode method_4_code 28 = .ok (.iconst 2, 1) := by decide +kernel
theorem d_method_4_29 : decode method_4_code 29 = .ok (.iushr, 1) := by decide +kernel
theorem d_method_4_30 : decode method_4_code 30 = .ok (.sipush 255, 3) := by decide +kernel
theorem d_method_4_33 : decode method_4_code 33 = .ok (.iand, 1) := by decide +kernel
theorem d_method_4_34 : decode method_4_code 34 = .ok (.i2c, 1) := by decide +kernel
theorem d_method_4_35 : decode method_4_code 35 = .ok (.ireturn, 1) := by decide +kernel
def Q_pick (Z : State) (p1 : Int32) (h0 : Heap) (v : Option Value) (h : Heap) (L : List Loc) : Prop := ∃ (c : Int32), v = some (.int c) ∧ Fr Z.heap.size L ∧ h = h0 ∧ (¬ c < 0 ∧ ¬ (255 : Int32) < c)
set_option maxRecDepth 65536 in
set_option maxHeartbeats 40000000 in
theorem rm_pick (l : Launch) (Z : State) (a0 : Array Value) (hw : ∀ d ∈ tables_1, d.before a0 Z = true) (ws : List Jvm.Cond) (p1 : Int32) (h0 : Heap) (OL : Old Z Z.heap.size h0) :
    MetFree l (⟨"com/example/keep_to_layer/keeptolayer/model/ClassNamesOutermostOfPinLaw", "pick", "(I)C"⟩ : MethodName) (head1 (Jvm.Cond.code (⟨"com/example/keep_to_layer/keeptolayer/model/ClassNamesOutermostOfPinLaw", "pick", "(I)C"⟩ : MethodName) method_4_code 2 (some .char) :: ws) ({ frames := 0, cells := 0, slots := 0, locals := 0 } : Room)) (fun a U => a = #[(.int p1)] ∧ Z.Warmed39 U.vm ∧ U.heap = h0) (fun _ _ _ _ _ => True) (fun _ U o U' => ∃ v L, o = .returned v ∧ Q_pick Z p1 h0 v U'.heap L ∧ FrameEnd U o U' L ({ frames := 0, cells := 0, slots := 0, locals := 0 } : Room).cells ({ frames := 0, cells := 0, slots := 0, locals := 0 } : Room).slots) := by
  refine MetFree.of_bodySF (plainFor_of_name pn_308) hisR ?_
  intro p e s m args below meth c s₁ Bd hml0 hP hK
  obtain ⟨rfl, hZ, hh⟩ := hP
  have hx := Bd.exec
  have hby := Bd.bytes
  have hml : c.maxLocals = 2 := hml0
  have hown : s.vm.findClass "com/example/keep_to_layer/keeptolayer/model/ClassNamesOutermostOfPinLaw" = some m.cls := findClass_of_methodNamed Bd.named
  have hnm := (name_of_methodNamed Bd.named Bd.method).1
  have X0 : Stand p l e ({ frames := 0, cells := 0, slots := 0, locals := 0 } : Room) s m #[(.int p1)] below meth c s₁ [] 0 0 := Stand.of_body Bd
  have e0 : s₁.heap = h0 := by rw [← hh, Bd.state]; rfl
  have N0 := Fr.nil Z.heap.size
  have Z0 : Z.heap.size ≤ h0.size := OL.2.1
  obtain ⟨PP, hPP⟩ : ∃ PP : Outcome → State → Prop, PP = (fun o tE => ∃ v L, o = .returned v ∧ Q_pick Z p1 h0 v tE.heap L ∧ FrameEnd s o tE L ({ frames := 0, cells := 0, slots := 0, locals := 0 } : Room).cells ({ frames := 0, cells := 0, slots := 0, locals := 0 } : Room).slots) := ⟨_, rfl⟩
  show own_Go p.tables e below (fun o tE => ∃ v L, o = .returned v ∧ Q_pick Z p1 h0 v tE.heap L ∧ FrameEnd s o tE L ({ frames := 0, cells := 0, slots := 0, locals := 0 } : Room).cells ({ frames := 0, cells := 0, slots := 0, locals := 0 } : Room).slots) (s₁.setTop (entryFrame m #[(.int p1)] 2))
  rw [← hPP]
  refine own_Go.st (fun t k => castTop (ef_309 m p1) k) ?_
  show own_Go _ _ _ _ (s₁.setTop (mkF m 0 #[.val (.int p1), .unset] []))
  refine own_Go.st (fun _ k => XS.iloadN X0.here hx rfl (hb hby d_method_4_0) rfl k) ?_
  show own_Go _ _ _ _ (s₁.setTop (mkF m 1 #[.val (.int p1), .unset] [(.int p1)]))
  refine own_Go.st (fun _ k => XS.iconst X0.here hx rfl (hb hby d_method_4_1) k) ?_
  show own_Go _ _ _ _ (s₁.setTop (mkF m 2 #[.val (.int p1), .unset] [(.int (3 : Int32)), (.int p1)]))
  refine own_Go.st (fun _ k => XS.iand X0.here hx rfl (hb hby d_method_4_2) rfl k) ?_
  show own_Go _ _ _ _ (s₁.setTop (mkF m 3 #[.val (.int p1), .unset] [(.int (p1 &&& (3 : Int32)))]))
  refine own_Go.st (fun _ k => XS.istoreN X0.here hx rfl (hb hby d_method_4_3) rfl (l' := #[.val (.int p1), .val (.int (p1 &&& (3 : Int32)))]) rfl k) ?_
  show own_Go _ _ _ _ (s₁.setTop (mkF m 4 #[.val (.int p1), .val (.int (p1 &&& (3 : Int32)))] []))
  refine own_Go.st (fun _ k => XS.iloadN X0.here hx rfl (hb hby d_method_4_4) rfl k) ?_
  show own_Go _ _ _ _ (s₁.setTop (mkF m 5 #[.val (.int p1), .val (.int (p1 &&& (3 : Int32)))] [(.int (p1 &&& (3 : Int32)))]))
  by_cases hc277 : (p1 &&& (3 : Int32)) = (0 : Int32)
  ·
    refine own_Go.st (fun _ k => XS.ifNo X0.here hx rfl (hb hby d_method_4_5) rfl ((if0 _ _).trans (teq hc277).2) k) ?_
    show own_Go _ _ _ _ (s₁.setTop (mkF m 8 #[.val (.int p1), .val (.int (p1 &&& (3 : Int32)))] []))
    refine own_Go.st (fun _ k => XS.bipush X0.here hx rfl (hb hby d_method_4_8) k) ?_
    show own_Go _ _ _ _ (s₁.setTop (mkF m 10 #[.val (.int p1), .val (.int (p1 &&& (3 : Int32)))] [(.int (46 : Int32))]))
    obtain ⟨fs278, hr278, hrun278, hend278, hW278, hsm278⟩ := X0.leave (v := some (.int (nar .char (46 : Int32)))) (fun h => by rw [Bd.returns] at h; cases h)
    subst hPP
    refine ⟨_, _, retN X0 hx (t := .char) Bd.returns (by simp) (hb hby d_method_4_10) hr278, hrun278, hend278, _, _, rfl, ?_, ⟨_, rfl⟩, hW278, hsm278.mono (by decide) (by decide)⟩
    · show Q_pick Z _ h0 _ s₁.heap _
      rw [e0]
      exact ⟨(46 : Int32), rfl, N0, rfl, (by decide)⟩
  ·
    refine own_Go.st (fun _ k => XS.ifYes X0.here hx rfl (pc0 := 5) (pc' := 11) rfl (hb hby d_method_4_5) rfl ((if0 _ _).trans (feq hc277).2) (by decide) (by decide) k) ?_
    show own_Go _ _ _ _ (s₁.setTop (mkF m 11 #[.val (.int p1), .val (.int (p1 &&& (3 : Int32)))] []))
    refine own_Go.st (fun _ k => XS.iloadN X0.here hx rfl (hb hby d_method_4_11) rfl k) ?_
    show own_Go _ _ _ _ (s₁.setTop (mkF m 12 #[.val (.int p1), .val (.int (p1 &&& (3 : Int32)))] [(.int (p1 &&& (3 : Int32)))]))
    refine own_Go.st (fun _ k => XS.iconst X0.here hx rfl (hb hby d_method_4_12) k) ?_
    show own_Go _ _ _ _ (s₁.setTop (mkF m 13 #[.val (.int p1), .val (.int (p1 &&& (3 : Int32)))] [(.int (1 : Int32)), (.int (p1 &&& (3 : Int32)))]))
    by_cases hc279 : (p1 &&& (3 : Int32)) = (1 : Int32)
    ·
      refine own_Go.st (fun _ k => XS.icmpNo X0.here hx rfl (hb hby d_method_4_13) rfl (teq hc279).2 k) ?_
      show own_Go _ _ _ _ (s₁.setTop (mkF m 16 #[.val (.int p1), .val (.int (p1 &&& (3 : Int32)))] []))
      refine own_Go.st (fun _ k => XS.bipush X0.here hx rfl (hb hby d_method_4_16) k) ?_
      show own_Go _ _ _ _ (s₁.setTop (mkF m 18 #[.val (.int p1), .val (.int (p1 &&& (3 : Int32)))] [(.int (36 : Int32))]))
      obtain ⟨fs280, hr280, hrun280, hend280, hW280, hsm280⟩ := X0.leave (v := some (.int (nar .char (36 : Int32)))) (fun h => by rw [Bd.returns] at h; cases h)
      subst hPP
      refine ⟨_, _, retN X0 hx (t := .char) Bd.returns (by simp) (hb hby d_method_4_18) hr280, hrun280, hend280, _, _, rfl, ?_, ⟨_, rfl⟩, hW280, hsm280.mono (by decide) (by decide)⟩
      · show Q_pick Z _ h0 _ s₁.heap _
        rw [e0]
        exact ⟨(36 : Int32), rfl, N0, rfl, (by decide)⟩
    ·
      refine own_Go.st (fun _ k => XS.icmpYes X0.here hx rfl (pc0 := 13) (pc' := 19) rfl (hb hby d_method_4_13) rfl (feq hc279).2 (by decide) (by decide) k) ?_
      show own_Go _ _ _ _ (s₁.setTop (mkF m 19 #[.val (.int p1), .val (.int (p1 &&& (3 : Int32)))] []))
      refine own_Go.st (fun _ k => XS.iloadN X0.here hx rfl (hb hby d_method_4_19) rfl k) ?_
      show own_Go _ _ _ _ (s₁.setTop (mkF m 20 #[.val (.int p1), .val (.int (p1 &&& (3 : Int32)))] [(.int (p1 &&& (3 : Int32)))]))
      refine own_Go.st (fun _ k => XS.iconst X0.here hx rfl (hb hby d_method_4_20) k) ?_
      show own_Go _ _ _ _ (s₁.setTop (mkF m 21 #[.val (.int p1), .val (.int (p1 &&& (3 : Int32)))] [(.int (2 : Int32)), (.int (p1 &&& (3 : Int32)))]))
      by_cases hc281 : (p1 &&& (3 : Int32)) = (2 : Int32)
      ·
        refine own_Go.st (fun _ k => XS.icmpNo X0.here hx rfl (hb hby d_method_4_21) rfl (teq hc281).2 k) ?_
        show own_Go _ _ _ _ (s₁.setTop (mkF m 24 #[.val (.int p1), .val (.int (p1 &&& (3 : Int32)))] []))
        refine own_Go.st (fun _ k => XS.bipush X0.here hx rfl (hb hby d_method_4_24) k) ?_
        show own_Go _ _ _ _ (s₁.setTop (mkF m 26 #[.val (.int p1), .val (.int (p1 &&& (3 : Int32)))] [(.int (97 : Int32))]))
        obtain ⟨fs282, hr282, hrun282, hend282, hW282, hsm282⟩ := X0.leave (v := some (.int (nar .char (97 : Int32)))) (fun h => by rw [Bd.returns] at h; cases h)
        subst hPP
        refine ⟨_, _, retN X0 hx (t := .char) Bd.returns (by simp) (hb hby d_method_4_26) hr282, hrun282, hend282, _, _, rfl, ?_, ⟨_, rfl⟩, hW282, hsm282.mono (by decide) (by decide)⟩
        · show Q_pick Z _ h0 _ s₁.heap _
          rw [e0]
          exact ⟨(97 : Int32), rfl, N0, rfl, (by decide)⟩
      ·
        refine own_Go.st (fun _ k => XS.icmpYes X0.here hx rfl (pc0 := 21) (pc' := 27) rfl (hb hby d_method_4_21) rfl (feq hc281).2 (by decide) (by decide) k) ?_
        show own_Go _ _ _ _ (s₁.setTop (mkF m 27 #[.val (.int p1), .val (.int (p1 &&& (3 : Int32)))] []))
        refine own_Go.st (fun _ k => XS.iloadN X0.here hx rfl (hb hby d_method_4_27) rfl k) ?_
        show own_Go _ _ _ _ (s₁.setTop (mkF m 28 #[.val (.int p1), .val (.int (p1 &&& (3 : Int32)))] [(.int p1)]))
        refine own_Go.st (fun _ k => XS.iconst X0.here hx rfl (hb hby d_method_4_28) k) ?_
        show own_Go _ _ _ _ (s₁.setTop (mkF m 29 #[.val (.int p1), .val (.int (p1 &&& (3 : Int32)))] [(.int (2 : Int32)), (.int p1)]))
        refine own_Go.st (fun _ k => XS.iushr X0.here hx rfl (hb hby d_method_4_29) rfl k) ?_
        show own_Go _ _ _ _ (s₁.setTop (mkF m 30 #[.val (.int p1), .val (.int (p1 &&& (3 : Int32)))] [(.int ((p1.toUInt32 >>> ((2 : Int32) &&& 31).toUInt32).toInt32))]))
        refine own_Go.st (fun _ k => XS.sipush X0.here hx rfl (hb hby d_method_4_30) k) ?_
        show own_Go _ _ _ _ (s₁.setTop (mkF m 33 #[.val (.int p1), .val (.int (p1 &&& (3 : Int32)))] [(.int (255 : Int32)), (.int ((p1.toUInt32 >>> ((2 : Int32) &&& 31).toUInt32).toInt32))]))
        refine own_Go.st (fun _ k => XS.iand X0.here hx rfl (hb hby d_method_4_33) rfl k) ?_
        show own_Go _ _ _ _ (s₁.setTop (mkF m 34 #[.val (.int p1), .val (.int (p1 &&& (3 : Int32)))] [(.int (((p1.toUInt32 >>> ((2 : Int32) &&& 31).toUInt32).toInt32) &&& (255 : Int32)))]))
        refine own_Go.st (fun _ k => XS.i2c X0.here hx rfl (hb hby d_method_4_34) rfl k) ?_
        show own_Go _ _ _ _ (s₁.setTop (mkF m 35 #[.val (.int p1), .val (.int (p1 &&& (3 : Int32)))] [(.int ((((p1.toUInt32 >>> ((2 : Int32) &&& 31).toUInt32).toInt32) &&& (255 : Int32)).toUInt32.toUInt16.toUInt32.toInt32))]))
        obtain ⟨fs283, hr283, hrun283, hend283, hW283, hsm283⟩ := X0.leave (v := some (.int (nar .char ((((p1.toUInt32 >>> ((2 : Int32) &&& 31).toUInt32).toInt32) &&& (255 : Int32)).toUInt32.toUInt16.toUInt32.toInt32)))) (fun h => by rw [Bd.returns] at h; cases h)
        subst hPP
        refine ⟨_, _, retN X0 hx (t := .char) Bd.returns (by simp) (hb hby d_method_4_35) hr283, hrun283, hend283, _, _, rfl, ?_, ⟨_, rfl⟩, hW283, hsm283.mono (by decide) (by decide)⟩
        · show Q_pick Z _ h0 _ s₁.heap _
          rw [e0]
          exact ⟨((((p1.toUInt32 >>> ((2 : Int32) &&& 31).toUInt32).toInt32) &&& (255 : Int32)).toUInt32.toUInt16.toUInt32.toInt32), (by rw [own_nar (own_up (own_ch255 _))]), N0, rfl, (own_ch255 _)⟩
theorem d_method_5_0 : decode method_5_code 0 = .ok (.iload_n 0, 1) := by decide +kernel
theorem d_method_5_1 : decode method_5_code 1 = .ok (.ifCond .ne 7, 3) := by decide +kernel
theorem d_method_5_4 : decode method_5_code 4 = .ok (.iconst 0, 1) := by decide +kernel
theorem d_method_5_5 : decode method_5_code 5 = .ok (.newarray .char, 2) := by decide +kernel
theorem d_method_5_7 : decode method_5_code 7 = .ok (.areturn, 1) := by decide +kernel
theorem d_method_5_8 : decode method_5_code 8 = .ok (.iload_n 0, 1) := by decide +kernel
theorem d_method_5_9 : decode method_5_code 9 = .ok (.iconst 1, 1) := by decide +kernel
theorem d_method_5_10 : decode method_5_code 10 = .ok (.if_icmp .ne 7, 3) := by decide +kernel
theorem d_method_5_13 : decode method_5_code 13 = .ok (.iconst 1, 1) := by decide +kernel
theorem d_method_5_14 : decode method_5_code 14 = .ok (.newarray .char, 2) := by decide +kernel
theorem d_method_5_16 : decode method_5_code 16 = .ok (.areturn, 1) := by decide +kernel
theorem d_method_5_17 : decode method_5_code 17 = .ok (.iload_n 0, 1) := by decide +kernel
theorem d_method_5_18 : decode method_5_code 18 = .ok (.iconst 2, 1) := by decide +kernel
theorem d_method_5_19 : decode method_5_code 19 = .ok (.if_icmp .ne 7, 3) := by decide +kernel
theorem d_method_5_22 : decode method_5_code 22 = .ok (.iconst 2, 1) := by decide +kernel
theorem d_method_5_23 : decode method_5_code 23 = .ok (.newarray .char, 2) := by decide +kernel
theorem d_method_5_25 : decode method_5_code 25 = .ok (.areturn, 1) := by decide +kernel
theorem d_method_5_26 : decode method_5_code 26 = .ok (.iload_n 0, 1) := by decide +kernel
theorem d_method_5_27 : decode method_5_code 27 = .ok (.iconst 3, 1) := by decide +kernel
theorem d_method_5_28 : decode method_5_code 28 = .ok (.if_icmp .ne 7, 3) := by decide +kernel
theorem d_method_5_31 : decode method_5_code 31 = .ok (.iconst 3, 1) := by decide +kernel
theorem d_method_5_32 : decode method_5_code 32 = .ok (.newarray .char, 2) := by decide +kernel
theorem d_method_5_34 : decode method_5_code 34 = .ok (.areturn, 1) := by decide +kernel
theorem d_method_5_35 : decode method_5_code 35 = .ok (.iload_n 0, 1) := by decide +kernel
theorem d_method_5_36 : decode method_5_code 36 = .ok (.iconst 4, 1) := by decide +kernel
theorem d_method_5_37 : decode method_5_code 37 = .ok (.if_icmp .ne 7, 3) := by decide +kernel
theorem d_method_5_40 : decode method_5_code 40 = .ok (.iconst 4, 1) := by decide +kernel
theorem d_method_5_41 : decode method_5_code 41 = .ok (.newarray .char, 2) := by decide +kernel
theorem d_method_5_43 : decode method_5_code 43 = .ok (.areturn, 1) := by decide +kernel
theorem d_method_5_44 : decode method_5_code 44 = .ok (.iload_n 0, 1) := by decide +kernel
theorem d_method_5_45 : decode method_5_code 45 = .ok (.iconst 5, 1) := by decide +kernel
theorem d_method_5_46 : decode method_5_code 46 = .ok (.if_icmp .ne 7, 3) := by decide +kernel
theorem d_method_5_49 : decode method_5_code 49 = .ok (.iconst 5, 1) := by decide +kernel
theorem d_method_5_50 : decode method_5_code 50 = .ok (.newarray .char, 2) := by decide +kernel
theorem d_method_5_52 : decode method_5_code 52 = .ok (.areturn, 1) := by decide +kernel
theorem d_method_5_53 : decode method_5_code 53 = .ok (.bipush 6, 2) := by decide +kernel
theorem d_method_5_55 : decode method_5_code 55 = .ok (.newarray .char, 2) := by decide +kernel
theorem d_method_5_57 : decode method_5_code 57 = .ok (.areturn, 1) := by decide +kernel
def Q_make (Z : State) (p1 : Int32) (h0 : Heap) (v : Option Value) (h : Heap) (L : List Loc) : Prop := ∃ (x : Nat), ∃ (k : ClassId), v = some (.ref x) ∧ Fr Z.heap.size L ∧ Keep h0 h [] ∧ Arv Z h x k .char p1 [] (.int (0 : Int32)) ∧ (h0.size ≤ x)
set_option maxRecDepth 65536 in
set_option maxHeartbeats 40000000 in
theorem rm_make (l : Launch) (Z : State) (a0 : Array Value) (hw : ∀ d ∈ tables_1, d.before a0 Z = true) (ws : List Jvm.Cond) (p1 : Int32) (h0 : Heap) (OL : Old Z Z.heap.size h0) (h : p1 = 0 ∨ p1 = 1 ∨ p1 = 2 ∨ p1 = 3 ∨ p1 = 4 ∨ p1 = 5 ∨ p1 = 6) :
    MetFree l (⟨"com/example/keep_to_layer/keeptolayer/model/ClassNamesOutermostOfPinLaw", "make", "(I)[C"⟩ : MethodName) (head1 (Jvm.Cond.code (⟨"com/example/keep_to_layer/keeptolayer/model/ClassNamesOutermostOfPinLaw", "make", "(I)[C"⟩ : MethodName) method_5_code 1 (some (.array .char)) :: ws) ({ frames := 0, cells := 1, slots := 6, locals := 0 } : Room)) (fun a U => a = #[(.int p1)] ∧ Z.Warmed39 U.vm ∧ U.heap = h0) (fun _ _ _ _ _ => True) (fun _ U o U' => ∃ v L, o = .returned v ∧ Q_make Z p1 h0 v U'.heap L ∧ FrameEnd U o U' L ({ frames := 0, cells := 1, slots := 6, locals := 0 } : Room).cells ({ frames := 0, cells := 1, slots := 6, locals := 0 } : Room).slots) := by
  refine MetFree.of_bodySF (plainFor_of_name pn_308) hisR ?_
  intro p e s m args below meth c s₁ Bd hml0 hP hK
  obtain ⟨rfl, hZ, hh⟩ := hP
  have hx := Bd.exec
  have hby := Bd.bytes
  have hml : c.maxLocals = 1 := hml0
  have hown : s.vm.findClass "com/example/keep_to_layer/keeptolayer/model/ClassNamesOutermostOfPinLaw" = some m.cls := findClass_of_methodNamed Bd.named
  have hnm := (name_of_methodNamed Bd.named Bd.method).1
  have X0 : Stand p l e ({ frames := 0, cells := 1, slots := 6, locals := 0 } : Room) s m #[(.int p1)] below meth c s₁ [] 0 0 := Stand.of_body Bd
  have e0 : s₁.heap = h0 := by rw [← hh, Bd.state]; rfl
  have N0 := Fr.nil Z.heap.size
  have Z0 : Z.heap.size ≤ h0.size := OL.2.1
  obtain ⟨PP, hPP⟩ : ∃ PP : Outcome → State → Prop, PP = (fun o tE => ∃ v L, o = .returned v ∧ Q_make Z p1 h0 v tE.heap L ∧ FrameEnd s o tE L ({ frames := 0, cells := 1, slots := 6, locals := 0 } : Room).cells ({ frames := 0, cells := 1, slots := 6, locals := 0 } : Room).slots) := ⟨_, rfl⟩
  show own_Go p.tables e below (fun o tE => ∃ v L, o = .returned v ∧ Q_make Z p1 h0 v tE.heap L ∧ FrameEnd s o tE L ({ frames := 0, cells := 1, slots := 6, locals := 0 } : Room).cells ({ frames := 0, cells := 1, slots := 6, locals := 0 } : Room).slots) (s₁.setTop (entryFrame m #[(.int p1)] 1))
  rw [← hPP]
  refine own_Go.st (fun t k => castTop (ef_170 m p1) k) ?_
  show own_Go _ _ _ _ (s₁.setTop (mkF m 0 #[.val (.int p1)] []))
  rcases h with rfl | rfl | rfl | rfl | rfl | rfl | rfl
  ·
    show own_Go _ _ _ _ (s₁.setTop (mkF m 0 #[.val (.int (0 : Int32))] []))
    refine own_Go.st (fun _ k => XS.iloadN X0.here hx rfl (hb hby d_method_5_0) rfl k) ?_
    show own_Go _ _ _ _ (s₁.setTop (mkF m 1 #[.val (.int (0 : Int32))] [(.int (0 : Int32))]))
    refine own_Go.st (fun _ k => XS.ifNo X0.here hx rfl (hb hby d_method_5_1) rfl ((if0 _ _).trans (teq (rfl : (0 : Int32) = (0 : Int32))).2) k) ?_
    show own_Go _ _ _ _ (s₁.setTop (mkF m 4 #[.val (.int (0 : Int32))] []))
    refine own_Go.st (fun _ k => XS.iconst X0.here hx rfl (hb hby d_method_5_4) k) ?_
    show own_Go _ _ _ _ (s₁.setTop (mkF m 5 #[.val (.int (0 : Int32))] [(.int (0 : Int32))]))
    obtain ⟨T284, h284, k284, X284, e284, E284, A284, st284⟩ := newP X0 hx hZ (hw _ (List.mem_of_getElem? (i := 1) rfl)) e0 (g := (mkF m 5 #[.val (.int (0 : Int32))] [(.int (0 : Int32))])) rfl (hb hby d_method_5_5) rfl (by decide) (cap := 0) (by decide) (by decide) (by decide) (by decide)
    obtain ⟨b284, g284⟩ : ∃ z, z = h0.size := ⟨_, rfl⟩
    rw [← g284] at A284 st284
    refine own_Go.st st284 ?_
    have z284 : h0.size ≤ h284.size := E284.1
    have f285 : Arv Z h284 b284 k284 .char (0 : Int32) [] (.int (0 : Int32)) := Arv.new A284 (by decide)
    have lt_b284 : @LT.lt Nat _ b284 h284.size := f285.lt
    show own_Go _ _ _ _ (T284.setTop (mkF m 7 #[.val (.int (0 : Int32))] [(.ref b284)]))
    obtain ⟨fs286, hr286, hrun286, hend286, hW286, hsm286⟩ := X284.leave (v := some (.ref b284)) (fun h => by rw [Bd.returns] at h; cases h)
    have K287 : Keep h0 h284 [] := (Keep.refl h0 []).ext E284
    subst hPP
    refine ⟨_, _, own_retA X284 hx Bd.returns rfl rfl (hb hby d_method_5_7) hr286, hrun286, hend286, _, _, rfl, ?_, ⟨_, rfl⟩, hW286, hsm286.mono (by decide) (by decide)⟩
    · show Q_make Z _ h0 _ T284.heap _
      rw [e284]
      exact ⟨b284, k284, rfl, N0, K287, f285, (by omega)⟩
  ·
    show own_Go _ _ _ _ (s₁.setTop (mkF m 0 #[.val (.int (1 : Int32))] []))
    refine own_Go.st (fun _ k => XS.iloadN X0.here hx rfl (hb hby d_method_5_0) rfl k) ?_
    show own_Go _ _ _ _ (s₁.setTop (mkF m 1 #[.val (.int (1 : Int32))] [(.int (1 : Int32))]))
    refine own_Go.st (fun _ k => XS.ifYes X0.here hx rfl (pc0 := 1) (pc' := 8) rfl (hb hby d_method_5_1) rfl ((if0 _ _).trans (feq (by decide : ¬ ((1 : Int32) = (0 : Int32)))).2) (by decide) (by decide) k) ?_
    show own_Go _ _ _ _ (s₁.setTop (mkF m 8 #[.val (.int (1 : Int32))] []))
    refine own_Go.st (fun _ k => XS.iloadN X0.here hx rfl (hb hby d_method_5_8) rfl k) ?_
    show own_Go _ _ _ _ (s₁.setTop (mkF m 9 #[.val (.int (1 : Int32))] [(.int (1 : Int32))]))
    refine own_Go.st (fun _ k => XS.iconst X0.here hx rfl (hb hby d_method_5_9) k) ?_
    show own_Go _ _ _ _ (s₁.setTop (mkF m 10 #[.val (.int (1 : Int32))] [(.int (1 : Int32)), (.int (1 : Int32))]))
    refine own_Go.st (fun _ k => XS.icmpNo X0.here hx rfl (hb hby d_method_5_10) rfl (teq (rfl : (1 : Int32) = (1 : Int32))).2 k) ?_
    show own_Go _ _ _ _ (s₁.setTop (mkF m 13 #[.val (.int (1 : Int32))] []))
    refine own_Go.st (fun _ k => XS.iconst X0.here hx rfl (hb hby d_method_5_13) k) ?_
    show own_Go _ _ _ _ (s₁.setTop (mkF m 14 #[.val (.int (1 : Int32))] [(.int (1 : Int32))]))
    obtain ⟨T288, h288, k288, X288, e288, E288, A288, st288⟩ := newP X0 hx hZ (hw _ (List.mem_of_getElem? (i := 1) rfl)) e0 (g := (mkF m 14 #[.val (.int (1 : Int32))] [(.int (1 : Int32))])) rfl (hb hby d_method_5_14) rfl (by decide) (cap := 1) (by decide) (by decide) (by decide) (by decide)
    obtain ⟨b288, g288⟩ : ∃ z, z = h0.size := ⟨_, rfl⟩
    rw [← g288] at A288 st288
    refine own_Go.st st288 ?_
    have z288 : h0.size ≤ h288.size := E288.1
    have f289 : Arv Z h288 b288 k288 .char (1 : Int32) [] (.int (0 : Int32)) := Arv.new A288 (by decide)
    have lt_b288 : @LT.lt Nat _ b288 h288.size := f289.lt
    show own_Go _ _ _ _ (T288.setTop (mkF m 16 #[.val (.int (1 : Int32))] [(.ref b288)]))
    obtain ⟨fs290, hr290, hrun290, hend290, hW290, hsm290⟩ := X288.leave (v := some (.ref b288)) (fun h => by rw [Bd.returns] at h; cases h)
    have K291 : Keep h0 h288 [] := (Keep.refl h0 []).ext E288
    subst hPP
    refine ⟨_, _, own_retA X288 hx Bd.returns rfl rfl (hb hby d_method_5_16) hr290, hrun290, hend290, _, _, rfl, ?_, ⟨_, rfl⟩, hW290, hsm290.mono (by decide) (by decide)⟩
    · show Q_make Z _ h0 _ T288.heap _
      rw [e288]
      exact ⟨b288, k288, rfl, N0, K291, f289, (by omega)⟩
  ·
    show own_Go _ _ _ _ (s₁.setTop (mkF m 0 #[.val (.int (2 : Int32))] []))
    refine own_Go.st (fun _ k => XS.iloadN X0.here hx rfl (hb hby d_method_5_0) rfl k) ?_
    show own_Go _ _ _ _ (s₁.setTop (mkF m 1 #[.val (.int (2 : Int32))] [(.int (2 : Int32))]))
    refine own_Go.st (fun _ k => XS.ifYes X0.here hx rfl (pc0 := 1) (pc' := 8) rfl (hb hby d_method_5_1) rfl ((if0 _ _).trans (feq (by decide : ¬ ((2 : Int32) = (0 : Int32)))).2) (by decide) (by decide) k) ?_
    show own_Go _ _ _ _ (s₁.setTop (mkF m 8 #[.val (.int (2 : Int32))] []))
    refine own_Go.st (fun _ k => XS.iloadN X0.here hx rfl (hb hby d_method_5_8) rfl k) ?_
    show own_Go _ _ _ _ (s₁.setTop (mkF m 9 #[.val (.int (2 : Int32))] [(.int (2 : Int32))]))
    refine own_Go.st (fun _ k => XS.iconst X0.here hx rfl (hb hby d_method_5_9) k) ?_
    show own_Go _ _ _ _ (s₁.setTop (mkF m 10 #[.val (.int (2 : Int32))] [(.int (1 : Int32)), (.int (2 : Int32))]))
    refine own_Go.st (fun _ k => XS.icmpYes X0.here hx rfl (pc0 := 10) (pc' := 17) rfl (hb hby d_method_5_10) rfl (feq (by decide : ¬ ((2 : Int32) = (1 : Int32)))).2 (by decide) (by decide) k) ?_
    show own_Go _ _ _ _ (s₁.setTop (mkF m 17 #[.val (.int (2 : Int32))] []))
    refine own_Go.st (fun _ k => XS.iloadN X0.here hx rfl (hb hby d_method_5_17) rfl k) ?_
    show own_Go _ _ _ _ (s₁.setTop (mkF m 18 #[.val (.int (2 : Int32))] [(.int (2 : Int32))]))
    refine own_Go.st (fun _ k => XS.iconst X0.here hx rfl (hb hby d_method_5_18) k) ?_
    show own_Go _ _ _ _ (s₁.setTop (mkF m 19 #[.val (.int (2 : Int32))] [(.int (2 : Int32)), (.int (2 : Int32))]))
    refine own_Go.st (fun _ k => XS.icmpNo X0.here hx rfl (hb hby d_method_5_19) rfl (teq (rfl : (2 : Int32) = (2 : Int32))).2 k) ?_
    show own_Go _ _ _ _ (s₁.setTop (mkF m 22 #[.val (.int (2 : Int32))] []))
    refine own_Go.st (fun _ k => XS.iconst X0.here hx rfl (hb hby d_method_5_22) k) ?_
    show own_Go _ _ _ _ (s₁.setTop (mkF m 23 #[.val (.int (2 : Int32))] [(.int (2 : Int32))]))
    obtain ⟨T292, h292, k292, X292, e292, E292, A292, st292⟩ := newP X0 hx hZ (hw _ (List.mem_of_getElem? (i := 1) rfl)) e0 (g := (mkF m 23 #[.val (.int (2 : Int32))] [(.int (2 : Int32))])) rfl (hb hby d_method_5_23) rfl (by decide) (cap := 2) (by decide) (by decide) (by decide) (by decide)
    obtain ⟨b292, g292⟩ : ∃ z, z = h0.size := ⟨_, rfl⟩
    rw [← g292] at A292 st292
    refine own_Go.st st292 ?_
    have z292 : h0.size ≤ h292.size := E292.1
    have f293 : Arv Z h292 b292 k292 .char (2 : Int32) [] (.int (0 : Int32)) := Arv.new A292 (by decide)
    have lt_b292 : @LT.lt Nat _ b292 h292.size := f293.lt
    show own_Go _ _ _ _ (T292.setTop (mkF m 25 #[.val (.int (2 : Int32))] [(.ref b292)]))
    obtain ⟨fs294, hr294, hrun294, hend294, hW294, hsm294⟩ := X292.leave (v := some (.ref b292)) (fun h => by rw [Bd.returns] at h; cases h)
    have K295 : Keep h0 h292 [] := (Keep.refl h0 []).ext E292
    subst hPP
    refine ⟨_, _, own_retA X292 hx Bd.returns rfl rfl (hb hby d_method_5_25) hr294, hrun294, hend294, _, _, rfl, ?_, ⟨_, rfl⟩, hW294, hsm294.mono (by decide) (by decide)⟩
    · show Q_make Z _ h0 _ T292.heap _
      rw [e292]
      exact ⟨b292, k292, rfl, N0, K295, f293, (by omega)⟩
  ·
    show own_Go _ _ _ _ (s₁.setTop (mkF m 0 #[.val (.int (3 : Int32))] []))
    refine own_Go.st (fun _ k => XS.iloadN X0.here hx rfl (hb hby d_method_5_0) rfl k) ?_
    show own_Go _ _ _ _ (s₁.setTop (mkF m 1 #[.val (.int (3 : Int32))] [(.int (3 : Int32))]))
    refine own_Go.st (fun _ k => XS.ifYes X0.here hx rfl (pc0 := 1) (pc' := 8) rfl (hb hby d_method_5_1) rfl ((if0 _ _).trans (feq (by decide : ¬ ((3 : Int32) = (0 : Int32)))).2) (by decide) (by decide) k) ?_
    show own_Go _ _ _ _ (s₁.setTop (mkF m 8 #[.val (.int (3 : Int32))] []))
    refine own_Go.st (fun _ k => XS.iloadN X0.here hx rfl (hb hby d_method_5_8) rfl k) ?_
    show own_Go _ _ _ _ (s₁.setTop (mkF m 9 #[.val (.int (3 : Int32))] [(.int (3 : Int32))]))
    refine own_Go.st (fun _ k => XS.iconst X0.here hx rfl (hb hby d_method_5_9) k) ?_
    show own_Go _ _ _ _ (s₁.setTop (mkF m 10 #[.val (.int (3 : Int32))] [(.int (1 : Int32)), (.int (3 : Int32))]))
    refine own_Go.st (fun _ k => XS.icmpYes X0.here hx rfl (pc0 := 10) (pc' := 17) rfl (hb hby d_method_5_10) rfl (feq (by decide : ¬ ((3 : Int32) = (1 : Int32)))).2 (by decide) (by decide) k) ?_
    show own_Go _ _ _ _ (s₁.setTop (mkF m 17 #[.val (.int (3 : Int32))] []))
    refine own_Go.st (fun _ k => XS.iloadN X0.here hx rfl (hb hby d_method_5_17) rfl k) ?_
    show own_Go _ _ _ _ (s₁.setTop (mkF m 18 #[.val (.int (3 : Int32))] [(.int (3 : Int32))]))
    refine own_Go.st (fun _ k => XS.iconst X0.here hx rfl (hb hby d_method_5_18) k) ?_
    show own_Go _ _ _ _ (s₁.setTop (mkF m 19 #[.val (.int (3 : Int32))] [(.int (2 : Int32)), (.int (3 : Int32))]))
    refine own_Go.st (fun _ k => XS.icmpYes X0.here hx rfl (pc0 := 19) (pc' := 26) rfl (hb hby d_method_5_19) rfl (feq (by decide : ¬ ((3 : Int32) = (2 : Int32)))).2 (by decide) (by decide) k) ?_
    show own_Go _ _ _ _ (s₁.setTop (mkF m 26 #[.val (.int (3 : Int32))] []))
    refine own_Go.st (fun _ k => XS.iloadN X0.here hx rfl (hb hby d_method_5_26) rfl k) ?_
    show own_Go _ _ _ _ (s₁.setTop (mkF m 27 #[.val (.int (3 : Int32))] [(.int (3 : Int32))]))
    refine own_Go.st (fun _ k => XS.iconst X0.here hx rfl (hb hby d_method_5_27) k) ?_
    show own_Go _ _ _ _ (s₁.setTop (mkF m 28 #[.val (.int (3 : Int32))] [(.int (3 : Int32)), (.int (3 : Int32))]))
    refine own_Go.st (fun _ k => XS.icmpNo X0.here hx rfl (hb hby d_method_5_28) rfl (teq (rfl : (3 : Int32) = (3 : Int32))).2 k) ?_
    show own_Go _ _ _ _ (s₁.setTop (mkF m 31 #[.val (.int (3 : Int32))] []))
    refine own_Go.st (fun _ k => XS.iconst X0.here hx rfl (hb hby d_method_5_31) k) ?_
    show own_Go _ _ _ _ (s₁.setTop (mkF m 32 #[.val (.int (3 : Int32))] [(.int (3 : Int32))]))
    obtain ⟨T296, h296, k296, X296, e296, E296, A296, st296⟩ := newP X0 hx hZ (hw _ (List.mem_of_getElem? (i := 1) rfl)) e0 (g := (mkF m 32 #[.val (.int (3 : Int32))] [(.int (3 : Int32))])) rfl (hb hby d_method_5_32) rfl (by decide) (cap := 3) (by decide) (by decide) (by decide) (by decide)
    obtain ⟨b296, g296⟩ : ∃ z, z = h0.size := ⟨_, rfl⟩
    rw [← g296] at A296 st296
    refine own_Go.st st296 ?_
    have z296 : h0.size ≤ h296.size := E296.1
    have f297 : Arv Z h296 b296 k296 .char (3 : Int32) [] (.int (0 : Int32)) := Arv.new A296 (by decide)
    have lt_b296 : @LT.lt Nat _ b296 h296.size := f297.lt
    show own_Go _ _ _ _ (T296.setTop (mkF m 34 #[.val (.int (3 : Int32))] [(.ref b296)]))
    obtain ⟨fs298, hr298, hrun298, hend298, hW298, hsm298⟩ := X296.leave (v := some (.ref b296)) (fun h => by rw [Bd.returns] at h; cases h)
    have K299 : Keep h0 h296 [] := (Keep.refl h0 []).ext E296
    subst hPP
    refine ⟨_, _, own_retA X296 hx Bd.returns rfl rfl (hb hby d_method_5_34) hr298, hrun298, hend298, _, _, rfl, ?_, ⟨_, rfl⟩, hW298, hsm298.mono (by decide) (by decide)⟩
    · show Q_make Z _ h0 _ T296.heap _
      rw [e296]
      exact ⟨b296, k296, rfl, N0, K299, f297, (by omega)⟩
  ·
    show own_Go _ _ _ _ (s₁.setTop (mkF m 0 #[.val (.int (4 : Int32))] []))
    refine own_Go.st (fun _ k => XS.iloadN X0.here hx rfl (hb hby d_method_5_0) rfl k) ?_
    show own_Go _ _ _ _ (s₁.setTop (mkF m 1 #[.val (.int (4 : Int32))] [(.int (4 : Int32))]))
    refine own_Go.st (fun _ k => XS.ifYes X0.here hx rfl (pc0 := 1) (pc' := 8) rfl (hb hby d_method_5_1) rfl ((if0 _ _).trans (feq (by decide : ¬ ((4 : Int32) = (0 : Int32)))).2) (by decide) (by decide) k) ?_
    show own_Go _ _ _ _ (s₁.setTop (mkF m 8 #[.val (.int (4 : Int32))] []))
    refine own_Go.st (fun _ k => XS.iloadN X0.here hx rfl (hb hby d_method_5_8) rfl k) ?_
    show own_Go _ _ _ _ (s₁.setTop (mkF m 9 #[.val (.int (4 : Int32))] [(.int (4 : Int32))]))
    refine own_Go.st (fun _ k => XS.iconst X0.here hx rfl (hb hby d_method_5_9) k) ?_
    show own_Go _ _ _ _ (s₁.setTop (mkF m 10 #[.val (.int (4 : Int32))] [(.int (1 : Int32)), (.int (4 : Int32))]))
    refine own_Go.st (fun _ k => XS.icmpYes X0.here hx rfl (pc0 := 10) (pc' := 17) rfl (hb hby d_method_5_10) rfl (feq (by decide : ¬ ((4 : Int32) = (1 : Int32)))).2 (by decide) (by decide) k) ?_
    show own_Go _ _ _ _ (s₁.setTop (mkF m 17 #[.val (.int (4 : Int32))] []))
    refine own_Go.st (fun _ k => XS.iloadN X0.here hx rfl (hb hby d_method_5_17) rfl k) ?_
    show own_Go _ _ _ _ (s₁.setTop (mkF m 18 #[.val (.int (4 : Int32))] [(.int (4 : Int32))]))
    refine own_Go.st (fun _ k => XS.iconst X0.here hx rfl (hb hby d_method_5_18) k) ?_
    show own_Go _ _ _ _ (s₁.setTop (mkF m 19 #[.val (.int (4 : Int32))] [(.int (2 : Int32)), (.int (4 : Int32))]))
    refine own_Go.st (fun _ k => XS.icmpYes X0.here hx rfl (pc0 := 19) (pc' := 26) rfl (hb hby d_method_5_19) rfl (feq (by decide : ¬ ((4 : Int32) = (2 : Int32)))).2 (by decide) (by decide) k) ?_
    show own_Go _ _ _ _ (s₁.setTop (mkF m 26 #[.val (.int (4 : Int32))] []))
    refine own_Go.st (fun _ k => XS.iloadN X0.here hx rfl (hb hby d_method_5_26) rfl k) ?_
    show own_Go _ _ _ _ (s₁.setTop (mkF m 27 #[.val (.int (4 : Int32))] [(.int (4 : Int32))]))
    refine own_Go.st (fun _ k => XS.iconst X0.here hx rfl (hb hby d_method_5_27) k) ?_
    show own_Go _ _ _ _ (s₁.setTop (mkF m 28 #[.val (.int (4 : Int32))] [(.int (3 : Int32)), (.int (4 : Int32))]))
    refine own_Go.st (fun _ k => XS.icmpYes X0.here hx rfl (pc0 := 28) (pc' := 35) rfl (hb hby d_method_5_28) rfl (feq (by decide : ¬ ((4 : Int32) = (3 : Int32)))).2 (by decide) (by decide) k) ?_
    show own_Go _ _ _ _ (s₁.setTop (mkF m 35 #[.val (.int (4 : Int32))] []))
    refine own_Go.st (fun _ k => XS.iloadN X0.here hx rfl (hb hby d_method_5_35) rfl k) ?_
    show own_Go _ _ _ _ (s₁.setTop (mkF m 36 #[.val (.int (4 : Int32))] [(.int (4 : Int32))]))
    refine own_Go.st (fun _ k => XS.iconst X0.here hx rfl (hb hby d_method_5_36) k) ?_
    show own_Go _ _ _ _ (s₁.setTop (mkF m 37 #[.val (.int (4 : Int32))] [(.int (4 : Int32)), (.int (4 : Int32))]))
    refine own_Go.st (fun _ k => XS.icmpNo X0.here hx rfl (hb hby d_method_5_37) rfl (teq (rfl : (4 : Int32) = (4 : Int32))).2 k) ?_
    show own_Go _ _ _ _ (s₁.setTop (mkF m 40 #[.val (.int (4 : Int32))] []))
    refine own_Go.st (fun _ k => XS.iconst X0.here hx rfl (hb hby d_method_5_40) k) ?_
    show own_Go _ _ _ _ (s₁.setTop (mkF m 41 #[.val (.int (4 : Int32))] [(.int (4 : Int32))]))
    obtain ⟨T300, h300, k300, X300, e300, E300, A300, st300⟩ := newP X0 hx hZ (hw _ (List.mem_of_getElem? (i := 1) rfl)) e0 (g := (mkF m 41 #[.val (.int (4 : Int32))] [(.int (4 : Int32))])) rfl (hb hby d_method_5_41) rfl (by decide) (cap := 4) (by decide) (by decide) (by decide) (by decide)
    obtain ⟨b300, g300⟩ : ∃ z, z = h0.size := ⟨_, rfl⟩
    rw [← g300] at A300 st300
    refine own_Go.st st300 ?_
    have z300 : h0.size ≤ h300.size := E300.1
    have f301 : Arv Z h300 b300 k300 .char (4 : Int32) [] (.int (0 : Int32)) := Arv.new A300 (by decide)
    have lt_b300 : @LT.lt Nat _ b300 h300.size := f301.lt
    show own_Go _ _ _ _ (T300.setTop (mkF m 43 #[.val (.int (4 : Int32))] [(.ref b300)]))
    obtain ⟨fs302, hr302, hrun302, hend302, hW302, hsm302⟩ := X300.leave (v := some (.ref b300)) (fun h => by rw [Bd.returns] at h; cases h)
    have K303 : Keep h0 h300 [] := (Keep.refl h0 []).ext E300
    subst hPP
    refine ⟨_, _, own_retA X300 hx Bd.returns rfl rfl (hb hby d_method_5_43) hr302, hrun302, hend302, _, _, rfl, ?_, ⟨_, rfl⟩, hW302, hsm302.mono (by decide) (by decide)⟩
    · show Q_make Z _ h0 _ T300.heap _
      rw [e300]
      exact ⟨b300, k300, rfl, N0, K303, f301, (by omega)⟩
  ·
    show own_Go _ _ _ _ (s₁.setTop (mkF m 0 #[.val (.int (5 : Int32))] []))
    refine own_Go.st (fun _ k => XS.iloadN X0.here hx rfl (hb hby d_method_5_0) rfl k) ?_
    show own_Go _ _ _ _ (s₁.setTop (mkF m 1 #[.val (.int (5 : Int32))] [(.int (5 : Int32))]))
    refine own_Go.st (fun _ k => XS.ifYes X0.here hx rfl (pc0 := 1) (pc' := 8) rfl (hb hby d_method_5_1) rfl ((if0 _ _).trans (feq (by decide : ¬ ((5 : Int32) = (0 : Int32)))).2) (by decide) (by decide) k) ?_
    show own_Go _ _ _ _ (s₁.setTop (mkF m 8 #[.val (.int (5 : Int32))] []))
    refine own_Go.st (fun _ k => XS.iloadN X0.here hx rfl (hb hby d_method_5_8) rfl k) ?_
    show own_Go _ _ _ _ (s₁.setTop (mkF m 9 #[.val (.int (5 : Int32))] [(.int (5 : Int32))]))
    refine own_Go.st (fun _ k => XS.iconst X0.here hx rfl (hb hby d_method_5_9) k) ?_
    show own_Go _ _ _ _ (s₁.setTop (mkF m 10 #[.val (.int (5 : Int32))] [(.int (1 : Int32)), (.int (5 : Int32))]))
    refine own_Go.st (fun _ k => XS.icmpYes X0.here hx rfl (pc0 := 10) (pc' := 17) rfl (hb hby d_method_5_10) rfl (feq (by decide : ¬ ((5 : Int32) = (1 : Int32)))).2 (by decide) (by decide) k) ?_
    show own_Go _ _ _ _ (s₁.setTop (mkF m 17 #[.val (.int (5 : Int32))] []))
    refine own_Go.st (fun _ k => XS.iloadN X0.here hx rfl (hb hby d_method_5_17) rfl k) ?_
    show own_Go _ _ _ _ (s₁.setTop (mkF m 18 #[.val (.int (5 : Int32))] [(.int (5 : Int32))]))
    refine own_Go.st (fun _ k => XS.iconst X0.here hx rfl (hb hby d_method_5_18) k) ?_
    show own_Go _ _ _ _ (s₁.setTop (mkF m 19 #[.val (.int (5 : Int32))] [(.int (2 : Int32)), (.int (5 : Int32))]))
    refine own_Go.st (fun _ k => XS.icmpYes X0.here hx rfl (pc0 := 19) (pc' := 26) rfl (hb hby d_method_5_19) rfl (feq (by decide : ¬ ((5 : Int32) = (2 : Int32)))).2 (by decide) (by decide) k) ?_
    show own_Go _ _ _ _ (s₁.setTop (mkF m 26 #[.val (.int (5 : Int32))] []))
    refine own_Go.st (fun _ k => XS.iloadN X0.here hx rfl (hb hby d_method_5_26) rfl k) ?_
    show own_Go _ _ _ _ (s₁.setTop (mkF m 27 #[.val (.int (5 : Int32))] [(.int (5 : Int32))]))
    refine own_Go.st (fun _ k => XS.iconst X0.here hx rfl (hb hby d_method_5_27) k) ?_
    show own_Go _ _ _ _ (s₁.setTop (mkF m 28 #[.val (.int (5 : Int32))] [(.int (3 : Int32)), (.int (5 : Int32))]))
    refine own_Go.st (fun _ k => XS.icmpYes X0.here hx rfl (pc0 := 28) (pc' := 35) rfl (hb hby d_method_5_28) rfl (feq (by decide : ¬ ((5 : Int32) = (3 : Int32)))).2 (by decide) (by decide) k) ?_
    show own_Go _ _ _ _ (s₁.setTop (mkF m 35 #[.val (.int (5 : Int32))] []))
    refine own_Go.st (fun _ k => XS.iloadN X0.here hx rfl (hb hby d_method_5_35) rfl k) ?_
    show own_Go _ _ _ _ (s₁.setTop (mkF m 36 #[.val (.int (5 : Int32))] [(.int (5 : Int32))]))
    refine own_Go.st (fun _ k => XS.iconst X0.here hx rfl (hb hby d_method_5_36) k) ?_
    show own_Go _ _ _ _ (s₁.setTop (mkF m 37 #[.val (.int (5 : Int32))] [(.int (4 : Int32)), (.int (5 : Int32))]))
    refine own_Go.st (fun _ k => XS.icmpYes X0.here hx rfl (pc0 := 37) (pc' := 44) rfl (hb hby d_method_5_37) rfl (feq (by decide : ¬ ((5 : Int32) = (4 : Int32)))).2 (by decide) (by decide) k) ?_
    show own_Go _ _ _ _ (s₁.setTop (mkF m 44 #[.val (.int (5 : Int32))] []))
    refine own_Go.st (fun _ k => XS.iloadN X0.here hx rfl (hb hby d_method_5_44) rfl k) ?_
    show own_Go _ _ _ _ (s₁.setTop (mkF m 45 #[.val (.int (5 : Int32))] [(.int (5 : Int32))]))
    refine own_Go.st (fun _ k => XS.iconst X0.here hx rfl (hb hby d_method_5_45) k) ?_
    show own_Go _ _ _ _ (s₁.setTop (mkF m 46 #[.val (.int (5 : Int32))] [(.int (5 : Int32)), (.int (5 : Int32))]))
    refine own_Go.st (fun _ k => XS.icmpNo X0.here hx rfl (hb hby d_method_5_46) rfl (teq (rfl : (5 : Int32) = (5 : Int32))).2 k) ?_
    show own_Go _ _ _ _ (s₁.setTop (mkF m 49 #[.val (.int (5 : Int32))] []))
    refine own_Go.st (fun _ k => XS.iconst X0.here hx rfl (hb hby d_method_5_49) k) ?_
    show own_Go _ _ _ _ (s₁.setTop (mkF m 50 #[.val (.int (5 : Int32))] [(.int (5 : Int32))]))
    obtain ⟨T304, h304, k304, X304, e304, E304, A304, st304⟩ := newP X0 hx hZ (hw _ (List.mem_of_getElem? (i := 1) rfl)) e0 (g := (mkF m 50 #[.val (.int (5 : Int32))] [(.int (5 : Int32))])) rfl (hb hby d_method_5_50) rfl (by decide) (cap := 5) (by decide) (by decide) (by decide) (by decide)
    obtain ⟨b304, g304⟩ : ∃ z, z = h0.size := ⟨_, rfl⟩
    rw [← g304] at A304 st304
    refine own_Go.st st304 ?_
    have z304 : h0.size ≤ h304.size := E304.1
    have f305 : Arv Z h304 b304 k304 .char (5 : Int32) [] (.int (0 : Int32)) := Arv.new A304 (by decide)
    have lt_b304 : @LT.lt Nat _ b304 h304.size := f305.lt
    show own_Go _ _ _ _ (T304.setTop (mkF m 52 #[.val (.int (5 : Int32))] [(.ref b304)]))
    obtain ⟨fs306, hr306, hrun306, hend306, hW306, hsm306⟩ := X304.leave (v := some (.ref b304)) (fun h => by rw [Bd.returns] at h; cases h)
    have K307 : Keep h0 h304 [] := (Keep.refl h0 []).ext E304
    subst hPP
    refine ⟨_, _, own_retA X304 hx Bd.returns rfl rfl (hb hby d_method_5_52) hr306, hrun306, hend306, _, _, rfl, ?_, ⟨_, rfl⟩, hW306, hsm306.mono (by decide) (by decide)⟩
    · show Q_make Z _ h0 _ T304.heap _
      rw [e304]
      exact ⟨b304, k304, rfl, N0, K307, f305, (by omega)⟩
  ·
    show own_Go _ _ _ _ (s₁.setTop (mkF m 0 #[.val (.int (6 : Int32))] []))
    refine own_Go.st (fun _ k => XS.iloadN X0.here hx rfl (hb hby d_method_5_0) rfl k) ?_
    show own_Go _ _ _ _ (s₁.setTop (mkF m 1 #[.val (.int (6 : Int32))] [(.int (6 : Int32))]))
    refine own_Go.st (fun _ k => XS.ifYes X0.here hx rfl (pc0 := 1) (pc' := 8) rfl (hb hby d_method_5_1) rfl ((if0 _ _).trans (feq (by decide : ¬ ((6 : Int32) = (0 : Int32)))).2) (by decide) (by decide) k) ?_
    show own_Go _ _ _ _ (s₁.setTop (mkF m 8 #[.val (.int (6 : Int32))] []))
    refine own_Go.st (fun _ k => XS.iloadN X0.here hx rfl (hb hby d_method_5_8) rfl k) ?_
    show own_Go _ _ _ _ (s₁.setTop (mkF m 9 #[.val (.int (6 : Int32))] [(.int (6 : Int32))]))
    refine own_Go.st (fun _ k => XS.iconst X0.here hx rfl (hb hby d_method_5_9) k) ?_
    show own_Go _ _ _ _ (s₁.setTop (mkF m 10 #[.val (.int (6 : Int32))] [(.int (1 : Int32)), (.int (6 : Int32))]))
    refine own_Go.st (fun _ k => XS.icmpYes X0.here hx rfl (pc0 := 10) (pc' := 17) rfl (hb hby d_method_5_10) rfl (feq (by decide : ¬ ((6 : Int32) = (1 : Int32)))).2 (by decide) (by decide) k) ?_
    show own_Go _ _ _ _ (s₁.setTop (mkF m 17 #[.val (.int (6 : Int32))] []))
    refine own_Go.st (fun _ k => XS.iloadN X0.here hx rfl (hb hby d_method_5_17) rfl k) ?_
    show own_Go _ _ _ _ (s₁.setTop (mkF m 18 #[.val (.int (6 : Int32))] [(.int (6 : Int32))]))
    refine own_Go.st (fun _ k => XS.iconst X0.here hx rfl (hb hby d_method_5_18) k) ?_
    show own_Go _ _ _ _ (s₁.setTop (mkF m 19 #[.val (.int (6 : Int32))] [(.int (2 : Int32)), (.int (6 : Int32))]))
    refine own_Go.st (fun _ k => XS.icmpYes X0.here hx rfl (pc0 := 19) (pc' := 26) rfl (hb hby d_method_5_19) rfl (feq (by decide : ¬ ((6 : Int32) = (2 : Int32)))).2 (by decide) (by decide) k) ?_
    show own_Go _ _ _ _ (s₁.setTop (mkF m 26 #[.val (.int (6 : Int32))] []))
    refine own_Go.st (fun _ k => XS.iloadN X0.here hx rfl (hb hby d_method_5_26) rfl k) ?_
    show own_Go _ _ _ _ (s₁.setTop (mkF m 27 #[.val (.int (6 : Int32))] [(.int (6 : Int32))]))
    refine own_Go.st (fun _ k => XS.iconst X0.here hx rfl (hb hby d_method_5_27) k) ?_
    show own_Go _ _ _ _ (s₁.setTop (mkF m 28 #[.val (.int (6 : Int32))] [(.int (3 : Int32)), (.int (6 : Int32))]))
    refine own_Go.st (fun _ k => XS.icmpYes X0.here hx rfl (pc0 := 28) (pc' := 35) rfl (hb hby d_method_5_28) rfl (feq (by decide : ¬ ((6 : Int32) = (3 : Int32)))).2 (by decide) (by decide) k) ?_
    show own_Go _ _ _ _ (s₁.setTop (mkF m 35 #[.val (.int (6 : Int32))] []))
    refine own_Go.st (fun _ k => XS.iloadN X0.here hx rfl (hb hby d_method_5_35) rfl k) ?_
    show own_Go _ _ _ _ (s₁.setTop (mkF m 36 #[.val (.int (6 : Int32))] [(.int (6 : Int32))]))
    refine own_Go.st (fun _ k => XS.iconst X0.here hx rfl (hb hby d_method_5_36) k) ?_
    show own_Go _ _ _ _ (s₁.setTop (mkF m 37 #[.val (.int (6 : Int32))] [(.int (4 : Int32)), (.int (6 : Int32))]))
    refine own_Go.st (fun _ k => XS.icmpYes X0.here hx rfl (pc0 := 37) (pc' := 44) rfl (hb hby d_method_5_37) rfl (feq (by decide : ¬ ((6 : Int32) = (4 : Int32)))).2 (by decide) (by decide) k) ?_
    show own_Go _ _ _ _ (s₁.setTop (mkF m 44 #[.val (.int (6 : Int32))] []))
    refine own_Go.st (fun _ k => XS.iloadN X0.here hx rfl (hb hby d_method_5_44) rfl k) ?_
    show own_Go _ _ _ _ (s₁.setTop (mkF m 45 #[.val (.int (6 : Int32))] [(.int (6 : Int32))]))
    refine own_Go.st (fun _ k => XS.iconst X0.here hx rfl (hb hby d_method_5_45) k) ?_
    show own_Go _ _ _ _ (s₁.setTop (mkF m 46 #[.val (.int (6 : Int32))] [(.int (5 : Int32)), (.int (6 : Int32))]))
    refine own_Go.st (fun _ k => XS.icmpYes X0.here hx rfl (pc0 := 46) (pc' := 53) rfl (hb hby d_method_5_46) rfl (feq (by decide : ¬ ((6 : Int32) = (5 : Int32)))).2 (by decide) (by decide) k) ?_
    show own_Go _ _ _ _ (s₁.setTop (mkF m 53 #[.val (.int (6 : Int32))] []))
    refine own_Go.st (fun _ k => XS.bipush X0.here hx rfl (hb hby d_method_5_53) k) ?_
    show own_Go _ _ _ _ (s₁.setTop (mkF m 55 #[.val (.int (6 : Int32))] [(.int (6 : Int32))]))
    obtain ⟨T308, h308, k308, X308, e308, E308, A308, st308⟩ := newP X0 hx hZ (hw _ (List.mem_of_getElem? (i := 1) rfl)) e0 (g := (mkF m 55 #[.val (.int (6 : Int32))] [(.int (6 : Int32))])) rfl (hb hby d_method_5_55) rfl (by decide) (cap := 6) (by decide) (by decide) (by decide) (by decide)
    obtain ⟨b308, g308⟩ : ∃ z, z = h0.size := ⟨_, rfl⟩
    rw [← g308] at A308 st308
    refine own_Go.st st308 ?_
    have z308 : h0.size ≤ h308.size := E308.1
    have f309 : Arv Z h308 b308 k308 .char (6 : Int32) [] (.int (0 : Int32)) := Arv.new A308 (by decide)
    have lt_b308 : @LT.lt Nat _ b308 h308.size := f309.lt
    show own_Go _ _ _ _ (T308.setTop (mkF m 57 #[.val (.int (6 : Int32))] [(.ref b308)]))
    obtain ⟨fs310, hr310, hrun310, hend310, hW310, hsm310⟩ := X308.leave (v := some (.ref b308)) (fun h => by rw [Bd.returns] at h; cases h)
    have K311 : Keep h0 h308 [] := (Keep.refl h0 []).ext E308
    subst hPP
    refine ⟨_, _, own_retA X308 hx Bd.returns rfl rfl (hb hby d_method_5_57) hr310, hrun310, hend310, _, _, rfl, ?_, ⟨_, rfl⟩, hW310, hsm310.mono (by decide) (by decide)⟩
    · show Q_make Z _ h0 _ T308.heap _
      rw [e308]
      exact ⟨b308, k308, rfl, N0, K311, f309, (by omega)⟩
theorem d_method_3_0 : decode method_3_code 0 = .ok (.iload_n 2, 1) := by decide +kernel
theorem d_method_3_1 : decode method_3_code 1 = .ok (.iload_n 1, 1) := by decide +kernel
theorem d_method_3_2 : decode method_3_code 2 = .ok (.if_icmp .ge 14, 3) := by decide +kernel
theorem d_method_3_5 : decode method_3_code 5 = .ok (.aload_n 0, 1) := by decide +kernel
theorem d_method_3_6 : decode method_3_code 6 = .ok (.iload_n 2, 1) := by decide +kernel
theorem d_method_3_7 : decode method_3_code 7 = .ok (.caload, 1) := by decide +kernel
theorem d_method_3_8 : decode method_3_code 8 = .ok (.iload_n 3, 1) := by decide +kernel
theorem d_method_3_9 : decode method_3_code 9 = .ok (.if_icmp .ne 7, 3) := by decide +kernel
theorem d_method_3_12 : decode method_3_code 12 = .ok (.iconst 1, 1) := by decide +kernel
theorem d_method_3_13 : decode method_3_code 13 = .ok (.goto 4, 3) := by decide +kernel
theorem d_method_3_17 : decode method_3_code 17 = .ok (.ireturn, 1) := by decide +kernel
theorem d_method_3_16 : decode method_3_code 16 = .ok (.iconst 0, 1) := by decide +kernel
def Q_is_ (Z : State) (a1 : Nat) (p2 : Int32) (p3 : Int32) (p4 : Int32) (gs : List Int32) (k : ClassId) (i : Nat) (kk : Nat) (h0 : Heap) (v : Option Value) (h : Heap) (L : List Loc) : Prop := ∃ (r : Int32), v = some (.int r) ∧ Fr Z.heap.size L ∧ h = h0 ∧ ((r = 1 ∧ (i < kk ∧ gs.getD i 0 = p4)) ∨ (r = 0 ∧ ¬ (i < kk ∧ gs.getD i 0 = p4)))
set_option maxRecDepth 65536 in
set_option maxHeartbeats 40000000 in
theorem rm_is_ (l : Launch) (Z : State) (a0 : Array Value) (hw : ∀ d ∈ tables_1, d.before a0 Z = true) (ws : List Jvm.Cond) (a1 : Nat) (p2 : Int32) (p3 : Int32) (p4 : Int32) (gs : List Int32) (k : ClassId) (i : Nat) (kk : Nat) (h0 : Heap) (OL : Old Z Z.heap.size h0) (p0_ : Arv Z h0 a1 k .char (6 : Int32) (gs.map Value.int) (.int (0 : Int32))) (hp2 : p2 = Int32.ofNat kk) (hp3 : p3 = Int32.ofNat i) (hk : kk ≤ 6 ∧ i < 6 ∧ gs.length = 6) :
    MetFree l (⟨"com/example/keep_to_layer/keeptolayer/model/ClassNamesOutermostOfPinLaw", "is", "([CIIC)Z"⟩ : MethodName) (head1 (Jvm.Cond.code (⟨"com/example/keep_to_layer/keeptolayer/model/ClassNamesOutermostOfPinLaw", "is", "([CIIC)Z"⟩ : MethodName) method_3_code 4 (some .boolean) :: ws) ({ frames := 0, cells := 0, slots := 0, locals := 0 } : Room)) (fun a U => a = #[(.ref a1), (.int p2), (.int p3), (.int p4)] ∧ Z.Warmed39 U.vm ∧ U.heap = h0) (fun _ _ _ _ _ => True) (fun _ U o U' => ∃ v L, o = .returned v ∧ Q_is_ Z a1 p2 p3 p4 gs k i kk h0 v U'.heap L ∧ FrameEnd U o U' L ({ frames := 0, cells := 0, slots := 0, locals := 0 } : Room).cells ({ frames := 0, cells := 0, slots := 0, locals := 0 } : Room).slots) := by
  refine MetFree.of_bodySF (plainFor_of_name pn_308) hisR ?_
  intro p e s m args below meth c s₁ Bd hml0 hP hK
  obtain ⟨rfl, hZ, hh⟩ := hP
  have hx := Bd.exec
  have hby := Bd.bytes
  have hml : c.maxLocals = 4 := hml0
  have hown : s.vm.findClass "com/example/keep_to_layer/keeptolayer/model/ClassNamesOutermostOfPinLaw" = some m.cls := findClass_of_methodNamed Bd.named
  have hnm := (name_of_methodNamed Bd.named Bd.method).1
  have X0 : Stand p l e ({ frames := 0, cells := 0, slots := 0, locals := 0 } : Room) s m #[(.ref a1), (.int p2), (.int p3), (.int p4)] below meth c s₁ [] 0 0 := Stand.of_body Bd
  have e0 : s₁.heap = h0 := by rw [← hh, Bd.state]; rfl
  have N0 := Fr.nil Z.heap.size
  have Z0 : Z.heap.size ≤ h0.size := OL.2.1
  have lt_0 : @LT.lt Nat _ a1 h0.size := p0_.lt
  obtain ⟨PP, hPP⟩ : ∃ PP : Outcome → State → Prop, PP = (fun o tE => ∃ v L, o = .returned v ∧ Q_is_ Z a1 p2 p3 p4 gs k i kk h0 v tE.heap L ∧ FrameEnd s o tE L ({ frames := 0, cells := 0, slots := 0, locals := 0 } : Room).cells ({ frames := 0, cells := 0, slots := 0, locals := 0 } : Room).slots) := ⟨_, rfl⟩
  show own_Go p.tables e below (fun o tE => ∃ v L, o = .returned v ∧ Q_is_ Z a1 p2 p3 p4 gs k i kk h0 v tE.heap L ∧ FrameEnd s o tE L ({ frames := 0, cells := 0, slots := 0, locals := 0 } : Room).cells ({ frames := 0, cells := 0, slots := 0, locals := 0 } : Room).slots) (s₁.setTop (entryFrame m #[(.ref a1), (.int p2), (.int p3), (.int p4)] 4))
  rw [← hPP]
  refine own_Go.st (fun t k => castTop (ef_245 m a1 p2 p3 p4) k) ?_
  subst hp2 hp3
  show own_Go _ _ _ _ (s₁.setTop (mkF m 0 #[.val (.ref a1), .val (.int (Int32.ofNat kk)), .val (.int (Int32.ofNat i)), .val (.int p4)] []))
  refine own_Go.st (fun _ k => XS.iloadN X0.here hx rfl (hb hby d_method_3_0) rfl k) ?_
  show own_Go _ _ _ _ (s₁.setTop (mkF m 1 #[.val (.ref a1), .val (.int (Int32.ofNat kk)), .val (.int (Int32.ofNat i)), .val (.int p4)] [(.int (Int32.ofNat i))]))
  refine own_Go.st (fun _ k => XS.iloadN X0.here hx rfl (hb hby d_method_3_1) rfl k) ?_
  show own_Go _ _ _ _ (s₁.setTop (mkF m 2 #[.val (.ref a1), .val (.int (Int32.ofNat kk)), .val (.int (Int32.ofNat i)), .val (.int p4)] [(.int (Int32.ofNat kk)), (.int (Int32.ofNat i))]))
  by_cases h2 : (Int32.ofNat i) < (Int32.ofNat kk)
  ·
    refine own_Go.st (fun _ k => XS.icmpNo X0.here hx rfl (hb hby d_method_3_2) rfl (tlt h2).2.1 k) ?_
    show own_Go _ _ _ _ (s₁.setTop (mkF m 5 #[.val (.ref a1), .val (.int (Int32.ofNat kk)), .val (.int (Int32.ofNat i)), .val (.int p4)] []))
    have hq : i < kk := (own_oflt (by omega) (by omega)).mp h2
    refine own_Go.st (fun _ k => XS.aloadN X0.here hx rfl (hb hby d_method_3_5) rfl rfl k) ?_
    show own_Go _ _ _ _ (s₁.setTop (mkF m 6 #[.val (.ref a1), .val (.int (Int32.ofNat kk)), .val (.int (Int32.ofNat i)), .val (.int p4)] [(.ref a1)]))
    refine own_Go.st (fun _ k => XS.iloadN X0.here hx rfl (hb hby d_method_3_6) rfl k) ?_
    show own_Go _ _ _ _ (s₁.setTop (mkF m 7 #[.val (.ref a1), .val (.int (Int32.ofNat kk)), .val (.int (Int32.ofNat i)), .val (.int p4)] [(.int (Int32.ofNat i)), (.ref a1)]))
    obtain ⟨c312, Ar312, q312, S312, Nn312, H312, G312⟩ := id p0_
    have hin312 : ¬ ((Int32.ofNat i) < 0 ∨ c312.slots.size ≤ ((Int32.ofNat i)).toNatClampNeg) := inb_of S312 ⟨own_of0 (by omega), (own_oflt (j := 6) (by omega) (by omega)).mpr (by omega)⟩
    have hat312 : c312.slots[((Int32.ofNat i)).toNatClampNeg]? = some (.int (gs.getD i 0)) := H312.at hin312 (own_getD (by omega) (by omega) _)
    refine own_Go.st (X0.caload hx (j := (Int32.ofNat i)) (v := (.int (gs.getD i 0))) (own_rwE e0 Ar312.1) (State.isArrayOf_alike hZ.alike Ar312.2.1) Ar312.2.2 hin312 hat312 (g := (mkF m 7 #[.val (.ref a1), .val (.int (Int32.ofNat kk)), .val (.int (Int32.ofNat i)), .val (.int p4)] [(.int (Int32.ofNat i)), (.ref a1)])) rfl rfl (hb hby d_method_3_7)) ?_
    show own_Go _ _ _ _ (s₁.setTop (mkF m 8 #[.val (.ref a1), .val (.int (Int32.ofNat kk)), .val (.int (Int32.ofNat i)), .val (.int p4)] [(.int (gs.getD i 0))]))
    refine own_Go.st (fun _ k => XS.iloadN X0.here hx rfl (hb hby d_method_3_8) rfl k) ?_
    show own_Go _ _ _ _ (s₁.setTop (mkF m 9 #[.val (.ref a1), .val (.int (Int32.ofNat kk)), .val (.int (Int32.ofNat i)), .val (.int p4)] [(.int p4), (.int (gs.getD i 0))]))
    by_cases h9 : (gs.getD i 0) = p4
    ·
      refine own_Go.st (fun _ k => XS.icmpNo X0.here hx rfl (hb hby d_method_3_9) rfl (teq h9).2 k) ?_
      show own_Go _ _ _ _ (s₁.setTop (mkF m 12 #[.val (.ref a1), .val (.int (Int32.ofNat kk)), .val (.int (Int32.ofNat i)), .val (.int p4)] []))
      refine own_Go.st (fun _ k => XS.iconst X0.here hx rfl (hb hby d_method_3_12) k) ?_
      show own_Go _ _ _ _ (s₁.setTop (mkF m 13 #[.val (.ref a1), .val (.int (Int32.ofNat kk)), .val (.int (Int32.ofNat i)), .val (.int p4)] [(.int (1 : Int32))]))
      refine own_Go.st (fun _ k => XS.goto X0.here hx rfl (pc0 := 13) (pc' := 17) rfl (hb hby d_method_3_13) (by decide) (by decide) k) ?_
      show own_Go _ _ _ _ (s₁.setTop (mkF m 17 #[.val (.ref a1), .val (.int (Int32.ofNat kk)), .val (.int (Int32.ofNat i)), .val (.int p4)] [(.int (1 : Int32))]))
      obtain ⟨fs313, hr313, hrun313, hend313, hW313, hsm313⟩ := X0.leave (v := some (.int (nar .boolean (1 : Int32)))) (fun h => by rw [Bd.returns] at h; cases h)
      subst hPP
      refine ⟨_, _, retN X0 hx (t := .boolean) Bd.returns (by simp) (hb hby d_method_3_17) hr313, hrun313, hend313, _, _, rfl, ?_, ⟨_, rfl⟩, hW313, hsm313.mono (by decide) (by decide)⟩
      · show Q_is_ Z _ _ _ _ _ _ _ _ h0 _ s₁.heap _
        rw [e0]
        exact ⟨1, rfl, N0, rfl, (Or.inl ⟨rfl, hq, h9⟩)⟩
    ·
      refine own_Go.st (fun _ k => XS.icmpYes X0.here hx rfl (pc0 := 9) (pc' := 16) rfl (hb hby d_method_3_9) rfl (feq h9).2 (by decide) (by decide) k) ?_
      show own_Go _ _ _ _ (s₁.setTop (mkF m 16 #[.val (.ref a1), .val (.int (Int32.ofNat kk)), .val (.int (Int32.ofNat i)), .val (.int p4)] []))
      refine own_Go.st (fun _ k => XS.iconst X0.here hx rfl (hb hby d_method_3_16) k) ?_
      show own_Go _ _ _ _ (s₁.setTop (mkF m 17 #[.val (.ref a1), .val (.int (Int32.ofNat kk)), .val (.int (Int32.ofNat i)), .val (.int p4)] [(.int (0 : Int32))]))
      obtain ⟨fs314, hr314, hrun314, hend314, hW314, hsm314⟩ := X0.leave (v := some (.int (nar .boolean (0 : Int32)))) (fun h => by rw [Bd.returns] at h; cases h)
      subst hPP
      refine ⟨_, _, retN X0 hx (t := .boolean) Bd.returns (by simp) (hb hby d_method_3_17) hr314, hrun314, hend314, _, _, rfl, ?_, ⟨_, rfl⟩, hW314, hsm314.mono (by decide) (by decide)⟩
      · show Q_is_ Z _ _ _ _ _ _ _ _ h0 _ s₁.heap _
        rw [e0]
        exact ⟨0, rfl, N0, rfl, (Or.inr ⟨rfl, fun q => h9 q.2⟩)⟩
  ·
    refine own_Go.st (fun _ k => XS.icmpYes X0.here hx rfl (pc0 := 2) (pc' := 16) rfl (hb hby d_method_3_2) rfl (flt h2).2.1 (by decide) (by decide) k) ?_
    show own_Go _ _ _ _ (s₁.setTop (mkF m 16 #[.val (.ref a1), .val (.int (Int32.ofNat kk)), .val (.int (Int32.ofNat i)), .val (.int p4)] []))
    have hq : ¬ i < kk := fun q => h2 ((own_oflt (by omega) (by omega)).mpr q)
    refine own_Go.st (fun _ k => XS.iconst X0.here hx rfl (hb hby d_method_3_16) k) ?_
    show own_Go _ _ _ _ (s₁.setTop (mkF m 17 #[.val (.ref a1), .val (.int (Int32.ofNat kk)), .val (.int (Int32.ofNat i)), .val (.int p4)] [(.int (0 : Int32))]))
    obtain ⟨fs315, hr315, hrun315, hend315, hW315, hsm315⟩ := X0.leave (v := some (.int (nar .boolean (0 : Int32)))) (fun h => by rw [Bd.returns] at h; cases h)
    subst hPP
    refine ⟨_, _, retN X0 hx (t := .boolean) Bd.returns (by simp) (hb hby d_method_3_17) hr315, hrun315, hend315, _, _, rfl, ?_, ⟨_, rfl⟩, hW315, hsm315.mono (by decide) (by decide)⟩
    · show Q_is_ Z _ _ _ _ _ _ _ _ h0 _ s₁.heap _
      rw [e0]
      exact ⟨0, rfl, N0, rfl, (Or.inr ⟨rfl, fun q => hq q.1⟩)⟩
theorem ef_385 (m : MethodId) (x0 : Nat) (x1 : Nat) (x2 : Int32) (x3 : Int32) : entryFrame m #[(.ref x0), (.ref x1), (.int x2), (.int x3)] 4 = mkF m 0 #[.val (.ref x0), .val (.ref x1), .val (.int x2), .val (.int x3)] [] := by first | (simp [entryFrame, mkF, argsToLocals, Value.category]; done) | rfl
theorem d_method_6_0 : decode method_6_code 0 = .ok (.iload_n 3, 1) := by decide +kernel
theorem d_method_6_1 : decode method_6_code 1 = .ok (.iload_n 2, 1) := by decide +kernel
theorem d_method_6_2 : decode method_6_code 2 = .ok (.if_icmp .ge 14, 3) := by decide +kernel
theorem d_method_6_5 : decode method_6_code 5 = .ok (.aload_n 0, 1) := by decide +kernel
theorem d_method_6_6 : decode method_6_code 6 = .ok (.iload_n 3, 1) := by decide +kernel
theorem pd_391 : parseMethodDescriptor "(I)C" = some ⟨[.int], some .char⟩ := by decide +kernel
theorem d_method_6_7 : decode method_6_code 7 = .ok (.invokevirtual 41, 3) := by decide +kernel
theorem d_method_6_10 : decode method_6_code 10 = .ok (.aload_n 1, 1) := by decide +kernel
theorem d_method_6_11 : decode method_6_code 11 = .ok (.iload_n 3, 1) := by decide +kernel
theorem d_method_6_12 : decode method_6_code 12 = .ok (.caload, 1) := by decide +kernel
theorem d_method_6_13 : decode method_6_code 13 = .ok (.if_icmp .ne 7, 3) := by decide +kernel
theorem d_method_6_16 : decode method_6_code 16 = .ok (.iconst 1, 1) := by decide +kernel
theorem d_method_6_17 : decode method_6_code 17 = .ok (.goto 4, 3) := by decide +kernel
theorem d_method_6_21 : decode method_6_code 21 = .ok (.ireturn, 1) := by decide +kernel
def Q_same (Z : State) (ax : Nat) (a1 : Nat) (p3 : Int32) (p4 : Int32) (gs : List Int32) (k : ClassId) (i : Nat) (e_ : Nat) (t1 : Nat) (rs : List Int32) (zc : Int32) (fm : Value) (h0 : Heap) (v : Option Value) (h : Heap) (L : List Loc) : Prop := v = some (.int (1 : Int32)) ∧ Fr Z.heap.size L ∧ h = h0
set_option maxRecDepth 65536 in
set_option maxHeartbeats 40000000 in
theorem rm_same (l : Launch) (Z : State) (a0 : Array Value) (hw : ∀ d ∈ tables_1, d.before a0 Z = true) (ws : List Jvm.Cond) (ax : Nat) (a1 : Nat) (p3 : Int32) (p4 : Int32) (gs : List Int32) (k : ClassId) (i : Nat) (e_ : Nat) (t1 : Nat) (rs : List Int32) (zc : Int32) (fm : Value) (h0 : Heap) (OL : Old Z Z.heap.size h0) (p0_ : own_Str Z h0 ax t1 rs) (p1_ : Arv Z h0 a1 k .char (6 : Int32) (gs.map Value.int) (.int (0 : Int32))) (st_COMPACT_STRINGS : Sta Z Z.heap "java/lang/String" "COMPACT_STRINGS" "Z" (.int zc)) (st_SIOOBE_FORMATTER : Sta Z Z.heap "jdk/internal/util/Preconditions" "SIOOBE_FORMATTER" "Ljava/util/function/BiFunction;" fm) (hzc : ¬ zc = 0) (hfm : fm.isRef = true) (hp3 : p3 = Int32.ofNat e_) (hp4 : p4 = Int32.ofNat i) (hk : e_ ≤ 6 ∧ i < 6 ∧ gs.length = 6) (hs : i < e_ → i < rs.length ∧ rs.getD i 0 = gs.getD i 0) (hl1 : ∀ c ∈ rs, ¬ c < 0 ∧ ¬ (255 : Int32) < c) :
    MetFree l (⟨"com/example/keep_to_layer/keeptolayer/model/ClassNamesOutermostOfPinLaw", "same", "(Ljava/lang/String;[CII)Z"⟩ : MethodName) (head1 (Jvm.Cond.code (⟨"com/example/keep_to_layer/keeptolayer/model/ClassNamesOutermostOfPinLaw", "same", "(Ljava/lang/String;[CII)Z"⟩ : MethodName) method_6_code 4 (some .boolean) :: ws) ({ frames := 4, cells := 0, slots := 0, locals := 55 } : Room)) (fun a U => a = #[(.ref ax), (.ref a1), (.int p3), (.int p4)] ∧ Z.Warmed39 U.vm ∧ U.heap = h0) (fun _ _ _ _ _ => True) (fun _ U o U' => ∃ v L, o = .returned v ∧ Q_same Z ax a1 p3 p4 gs k i e_ t1 rs zc fm h0 v U'.heap L ∧ FrameEnd U o U' L ({ frames := 4, cells := 0, slots := 0, locals := 55 } : Room).cells ({ frames := 4, cells := 0, slots := 0, locals := 55 } : Room).slots) := by
  refine MetFree.of_bodySF (plainFor_of_name pn_308) hisR ?_
  intro p e s m args below meth c s₁ Bd hml0 hP hK
  obtain ⟨rfl, hZ, hh⟩ := hP
  have hx := Bd.exec
  have hby := Bd.bytes
  have hml : c.maxLocals = 4 := hml0
  have hown : s.vm.findClass "com/example/keep_to_layer/keeptolayer/model/ClassNamesOutermostOfPinLaw" = some m.cls := findClass_of_methodNamed Bd.named
  have hnm := (name_of_methodNamed Bd.named Bd.method).1
  have X0 : Stand p l e ({ frames := 4, cells := 0, slots := 0, locals := 55 } : Room) s m #[(.ref ax), (.ref a1), (.int p3), (.int p4)] below meth c s₁ [] 0 0 := Stand.of_body Bd
  have e0 : s₁.heap = h0 := by rw [← hh, Bd.state]; rfl
  have N0 := Fr.nil Z.heap.size
  have Z0 : Z.heap.size ≤ h0.size := OL.2.1
  have lt_0 : @LT.lt Nat _ ax h0.size := p0_.lt
  have ltv_0 : @LT.lt Nat _ t1 h0.size := p0_.ltv
  have lt_1 : @LT.lt Nat _ a1 h0.size := p1_.lt
  obtain ⟨PP, hPP⟩ : ∃ PP : Outcome → State → Prop, PP = (fun o tE => ∃ v L, o = .returned v ∧ Q_same Z ax a1 p3 p4 gs k i e_ t1 rs zc fm h0 v tE.heap L ∧ FrameEnd s o tE L ({ frames := 4, cells := 0, slots := 0, locals := 55 } : Room).cells ({ frames := 4, cells := 0, slots := 0, locals := 55 } : Room).slots) := ⟨_, rfl⟩
  show own_Go p.tables e below (fun o tE => ∃ v L, o = .returned v ∧ Q_same Z ax a1 p3 p4 gs k i e_ t1 rs zc fm h0 v tE.heap L ∧ FrameEnd s o tE L ({ frames := 4, cells := 0, slots := 0, locals := 55 } : Room).cells ({ frames := 4, cells := 0, slots := 0, locals := 55 } : Room).slots) (s₁.setTop (entryFrame m #[(.ref ax), (.ref a1), (.int p3), (.int p4)] 4))
  rw [← hPP]
  refine own_Go.st (fun t k => castTop (ef_385 m ax a1 p3 p4) k) ?_
  subst hp3 hp4
  show own_Go _ _ _ _ (s₁.setTop (mkF m 0 #[.val (.ref ax), .val (.ref a1), .val (.int (Int32.ofNat e_)), .val (.int (Int32.ofNat i))] []))
  refine own_Go.st (fun _ k => XS.iloadN X0.here hx rfl (hb hby d_method_6_0) rfl k) ?_
  show own_Go _ _ _ _ (s₁.setTop (mkF m 1 #[.val (.ref ax), .val (.ref a1), .val (.int (Int32.ofNat e_)), .val (.int (Int32.ofNat i))] [(.int (Int32.ofNat i))]))
  refine own_Go.st (fun _ k => XS.iloadN X0.here hx rfl (hb hby d_method_6_1) rfl k) ?_
  show own_Go _ _ _ _ (s₁.setTop (mkF m 2 #[.val (.ref ax), .val (.ref a1), .val (.int (Int32.ofNat e_)), .val (.int (Int32.ofNat i))] [(.int (Int32.ofNat e_)), (.int (Int32.ofNat i))]))
  by_cases h2 : (Int32.ofNat i) < (Int32.ofNat e_)
  ·
    refine own_Go.st (fun _ k => XS.icmpNo X0.here hx rfl (hb hby d_method_6_2) rfl (tlt h2).2.1 k) ?_
    show own_Go _ _ _ _ (s₁.setTop (mkF m 5 #[.val (.ref ax), .val (.ref a1), .val (.int (Int32.ofNat e_)), .val (.int (Int32.ofNat i))] []))
    have hq := hs ((own_oflt (by omega) (by omega)).mp h2)
    refine own_Go.st (fun _ k => XS.aloadN X0.here hx rfl (hb hby d_method_6_5) rfl rfl k) ?_
    show own_Go _ _ _ _ (s₁.setTop (mkF m 6 #[.val (.ref ax), .val (.ref a1), .val (.int (Int32.ofNat e_)), .val (.int (Int32.ofNat i))] [(.ref ax)]))
    refine own_Go.st (fun _ k => XS.iloadN X0.here hx rfl (hb hby d_method_6_6) rfl k) ?_
    show own_Go _ _ _ _ (s₁.setTop (mkF m 7 #[.val (.ref ax), .val (.ref a1), .val (.int (Int32.ofNat e_)), .val (.int (Int32.ofNat i))] [(.int (Int32.ofNat i)), (.ref ax)]))
    obtain ⟨kb317, N317_, vs317, s1317, s2317, s3317, s4317, s5317⟩ := own_Str.lat p0_ (fun c q => (hl1 c q).2)
    obtain ⟨cq316, kq316, q316a, q316b, q316c⟩ := isOf hZ e0 p0_.exa
    obtain ⟨_, _, ⟨T316, L316, k316, n316⟩, -, X316, ⟨Lc316, hQ316, l316, y316, z316⟩, st316⟩ := X0.virtualBack hx (y := (⟨"java/lang/String", "charAt", "(I)C"⟩ : MethodName)) (z := (⟨"java/lang/String", "charAt", "(I)C"⟩ : MethodName)) hown (mvT hZ (hw _ (List.mem_of_getElem? (i := 99) rfl))) (mvT hZ (hw _ (List.mem_of_getElem? (i := 100) rfl))) (notFace_of_selects (args := #[]) (mvT hZ (hw _ (List.mem_of_getElem? (i := 102) rfl)))) (mvT hZ (hw _ (List.mem_of_getElem? (i := 102) rfl))) (mvT hZ (hw _ (List.mem_of_getElem? (i := 101) rfl))) (by decide) (StrChars.Road.chN (W := 0) hZ (own_hch hw) (kI := 4) (hw _ (List.mem_of_getElem? (i := 10) rfl)) s1317 s2317 s3317 s4317 s5317 p0_.rng (st_COMPACT_STRINGS.ext OL.2) hzc (st_SIOOBE_FORMATTER.ext OL.2) hfm p0_.le (i := i) hq.1 (j := (Int32.ofNat i)) rfl (by decide) (by decide)) q316a q316c (g := (mkF m 7 #[.val (.ref ax), .val (.ref a1), .val (.int (Int32.ofNat e_)), .val (.int (Int32.ofNat i))] [(.int (Int32.ofNat i)), (.ref ax)])) rfl (by rw [hml]; rfl) (Steps.refl _) (argsL := [(.int (Int32.ofNat i))]) (rest := []) (lenOf pd_391 rfl) rfl (by show 2 * 0 + _ ≤ _; exact Nat.le_of_eq rfl) (hb hby d_method_6_7) (fun _ _ => ⟨rfl, e0, (by decide : 0 + 0 ≤ _), (by decide : 0 + 0 ≤ _)⟩)
    dsimp only [Pt.U, Pt.locs, Pt.cells, Pt.slots] at X316 l316 y316 z316 st316 hQ316
    subst l316 y316 z316
    obtain ⟨rfl, rfl, K316⟩ := hQ316
    have N316 := Fr.app N0 (Fr.nil Z.heap.size)
    refine own_Go.tr st316 ?_
    show own_Go _ _ _ _ (T316.setTop (mkF m 10 #[.val (.ref ax), .val (.ref a1), .val (.int (Int32.ofNat e_)), .val (.int (Int32.ofNat i))] [(.int (rs.getD i 0))]))
    refine own_Go.st (fun _ k => XS.aloadN X316.here hx rfl (hb hby d_method_6_10) rfl rfl k) ?_
    show own_Go _ _ _ _ (T316.setTop (mkF m 11 #[.val (.ref ax), .val (.ref a1), .val (.int (Int32.ofNat e_)), .val (.int (Int32.ofNat i))] [(.ref a1), (.int (rs.getD i 0))]))
    refine own_Go.st (fun _ k => XS.iloadN X316.here hx rfl (hb hby d_method_6_11) rfl k) ?_
    show own_Go _ _ _ _ (T316.setTop (mkF m 12 #[.val (.ref ax), .val (.ref a1), .val (.int (Int32.ofNat e_)), .val (.int (Int32.ofNat i))] [(.int (Int32.ofNat i)), (.ref a1), (.int (rs.getD i 0))]))
    obtain ⟨c318, Ar318, q318, S318, Nn318, H318, G318⟩ := id p1_
    have hin318 : ¬ ((Int32.ofNat i) < 0 ∨ c318.slots.size ≤ ((Int32.ofNat i)).toNatClampNeg) := inb_of S318 ⟨own_of0 (by omega), (own_oflt (j := 6) (by omega) (by omega)).mpr (by omega)⟩
    have hat318 : c318.slots[((Int32.ofNat i)).toNatClampNeg]? = some (.int (gs.getD i 0)) := H318.at hin318 (own_getD (by omega) (by omega) _)
    refine own_Go.st (X316.caload hx (j := (Int32.ofNat i)) (v := (.int (gs.getD i 0))) (own_rwE K316 Ar318.1) (State.isArrayOf_alike hZ.alike Ar318.2.1) Ar318.2.2 hin318 hat318 (g := (mkF m 12 #[.val (.ref ax), .val (.ref a1), .val (.int (Int32.ofNat e_)), .val (.int (Int32.ofNat i))] [(.int (Int32.ofNat i)), (.ref a1), (.int (rs.getD i 0))])) rfl rfl (hb hby d_method_6_12)) ?_
    show own_Go _ _ _ _ (T316.setTop (mkF m 13 #[.val (.ref ax), .val (.ref a1), .val (.int (Int32.ofNat e_)), .val (.int (Int32.ofNat i))] [(.int (gs.getD i 0)), (.int (rs.getD i 0))]))
    have hc319 : (rs.getD i 0) = (gs.getD i 0) := hq.2
    refine own_Go.st (fun _ k => XS.icmpNo X316.here hx rfl (hb hby d_method_6_13) rfl (teq hc319).2 k) ?_
    show own_Go _ _ _ _ (T316.setTop (mkF m 16 #[.val (.ref ax), .val (.ref a1), .val (.int (Int32.ofNat e_)), .val (.int (Int32.ofNat i))] []))
    refine own_Go.st (fun _ k => XS.iconst X316.here hx rfl (hb hby d_method_6_16) k) ?_
    show own_Go _ _ _ _ (T316.setTop (mkF m 17 #[.val (.ref ax), .val (.ref a1), .val (.int (Int32.ofNat e_)), .val (.int (Int32.ofNat i))] [(.int (1 : Int32))]))
    refine own_Go.st (fun _ k => XS.goto X316.here hx rfl (pc0 := 17) (pc' := 21) rfl (hb hby d_method_6_17) (by decide) (by decide) k) ?_
    show own_Go _ _ _ _ (T316.setTop (mkF m 21 #[.val (.ref ax), .val (.ref a1), .val (.int (Int32.ofNat e_)), .val (.int (Int32.ofNat i))] [(.int (1 : Int32))]))
    obtain ⟨fs320, hr320, hrun320, hend320, hW320, hsm320⟩ := X316.leave (v := some (.int (nar .boolean (1 : Int32)))) (fun h => by rw [Bd.returns] at h; cases h)
    subst hPP
    refine ⟨_, _, retN X316 hx (t := .boolean) Bd.returns (by simp) (hb hby d_method_6_21) hr320, hrun320, hend320, _, _, rfl, ?_, ⟨_, rfl⟩, hW320, hsm320.mono (by decide) (by decide)⟩
    · show Q_same Z _ _ _ _ _ _ _ _ _ _ _ _ h0 _ T316.heap _
      rw [K316]
      exact ⟨rfl, N316, rfl⟩
  ·
    refine own_Go.st (fun _ k => XS.icmpYes X0.here hx rfl (pc0 := 2) (pc' := 16) rfl (hb hby d_method_6_2) rfl (flt h2).2.1 (by decide) (by decide) k) ?_
    show own_Go _ _ _ _ (s₁.setTop (mkF m 16 #[.val (.ref ax), .val (.ref a1), .val (.int (Int32.ofNat e_)), .val (.int (Int32.ofNat i))] []))
    refine own_Go.st (fun _ k => XS.iconst X0.here hx rfl (hb hby d_method_6_16) k) ?_
    show own_Go _ _ _ _ (s₁.setTop (mkF m 17 #[.val (.ref ax), .val (.ref a1), .val (.int (Int32.ofNat e_)), .val (.int (Int32.ofNat i))] [(.int (1 : Int32))]))
    refine own_Go.st (fun _ k => XS.goto X0.here hx rfl (pc0 := 17) (pc' := 21) rfl (hb hby d_method_6_17) (by decide) (by decide) k) ?_
    show own_Go _ _ _ _ (s₁.setTop (mkF m 21 #[.val (.ref ax), .val (.ref a1), .val (.int (Int32.ofNat e_)), .val (.int (Int32.ofNat i))] [(.int (1 : Int32))]))
    obtain ⟨fs321, hr321, hrun321, hend321, hW321, hsm321⟩ := X0.leave (v := some (.int (nar .boolean (1 : Int32)))) (fun h => by rw [Bd.returns] at h; cases h)
    subst hPP
    refine ⟨_, _, retN X0 hx (t := .boolean) Bd.returns (by simp) (hb hby d_method_6_21) hr321, hrun321, hend321, _, _, rfl, ?_, ⟨_, rfl⟩, hW321, hsm321.mono (by decide) (by decide)⟩
    · show Q_same Z _ _ _ _ _ _ _ _ _ _ _ _ h0 _ s₁.heap _
      rw [e0]
      exact ⟨rfl, N0, rfl⟩
theorem ef_400 (m : MethodId) (x0 : Int32) (x1 : Int32) (x2 : Int32) (x3 : Int32) : entryFrame m #[(.int x0), (.int x1), (.int x2), (.int x3)] maxLocals = mkF m 0 #[.val (.int x0), .val (.int x1), .val (.int x2), .val (.int x3), .unset, .unset, .unset, .unset, .unset, .unset, .unset, .unset, .unset] [] := by first | (simp [entryFrame, mkF, argsToLocals, Value.category, maxLocals]; done) | rfl
theorem pd_401 : parseMethodDescriptor "(Ljava/lang/String;)Ljava/lang/String;" = some ⟨[(.object "java/lang/String")], some (.object "java/lang/String")⟩ := by decide +kernel
theorem pd_402 : parseMethodDescriptor "([CIIC)Z" = some ⟨[(.array .char), .int, .int, .char], some .boolean⟩ := by decide +kernel
theorem pd_403 : parseMethodDescriptor "(Ljava/lang/String;[CII)Z" = some ⟨[(.object "java/lang/String"), (.array .char), .int, .int], some .boolean⟩ := by decide +kernel
theorem pd_404 : parseMethodDescriptor "(I)[C" = some ⟨[.int], some (.array .char)⟩ := by decide +kernel
theorem pd_405 : parseMethodDescriptor "([C)V" = some ⟨[(.array .char)], none⟩ := by decide +kernel
def Q_law (Z : State) (p1 : Int32) (p2 : Int32) (p3 : Int32) (p4 : Int32) (zc : Int32) (fm : Value) (h0 : Heap) (v : Option Value) (h : Heap) (L : List Loc) : Prop := v = some (.int (1 : Int32)) ∧ Fr Z.heap.size L ∧ Keep h0 h []
set_option maxRecDepth 65536 in
set_option maxHeartbeats 40000000 in
theorem rm_law (l : Launch) (Z : State) (a0 : Array Value) (hw : ∀ d ∈ tables_1, d.before a0 Z = true) (ws : List Jvm.Cond) (p1 : Int32) (p2 : Int32) (p3 : Int32) (p4 : Int32) (zc : Int32) (fm : Value) (h0 : Heap) (hEL : EW Z a0 consts_1) (OL : Old Z Z.heap.size h0) (st_COMPACT_STRINGS : Sta Z Z.heap "java/lang/String" "COMPACT_STRINGS" "Z" (.int zc)) (st_SIOOBE_FORMATTER : Sta Z Z.heap "jdk/internal/util/Preconditions" "SIOOBE_FORMATTER" "Ljava/util/function/BiFunction;" fm) (hzc : ¬ zc = 0) (hfm : fm.isRef = true) :
    MetFree l x (head1 (Jvm.Cond.code x code maxLocals ret :: ws) room_1) (fun a U => a = #[(.int p1), (.int p2), (.int p3), (.int p4)] ∧ Z.Warmed39 U.vm ∧ U.heap = h0 ∧ CHv Z consts_1 U.vm h0) (fun _ _ _ _ _ => True) (fun _ U o U' => ∃ v L, o = .returned v ∧ Q_law Z p1 p2 p3 p4 zc fm h0 v U'.heap L ∧ CHr Z consts_1 U.vm U.heap U'.vm U'.heap ∧ ReturnedEndW U o U' L 24 1152) := by
  refine MetFree.of_bodySF (plainFor_of_name pn_308) hisR ?_
  intro p e s m args below meth c s₁ Bd hml0 hP hK
  obtain ⟨rfl, hZ, hh, hC0⟩ := hP
  have hx := Bd.exec
  have hby := Bd.bytes
  have hml : c.maxLocals = 13 := hml0
  have hown : s.vm.findClass "com/example/keep_to_layer/keeptolayer/model/ClassNamesOutermostOfPinLaw" = some m.cls := findClass_of_methodNamed Bd.named
  have hnm := (name_of_methodNamed Bd.named Bd.method).1
  have X0 : Stand p l e room_1 (s.setVm s.vm) m #[(.int p1), (.int p2), (.int p3), (.int p4)] below meth c s₁ [] 0 0 := Stand.of_body Bd
  have e0 : s₁.heap = h0 := by rw [← hh, Bd.state]; rfl
  have N0 := Fr.nil Z.heap.size
  have Z0 : Z.heap.size ≤ h0.size := OL.2.1
  have hS0 : s.Since s.vm h0.size := (State.WarmedH.refl s).since _
  have wS := own_wS hw
  have R0 : CHr Z consts_1 s.vm h0 s.vm h0 := CHr.refl hC0
  obtain ⟨PP, hPP⟩ : ∃ PP : Outcome → State → Prop, PP = (fun o tE => ∃ v L, o = .returned v ∧ Q_law Z p1 p2 p3 p4 zc fm h0 v tE.heap L ∧ CHr Z consts_1 s.vm s.heap tE.vm tE.heap ∧ ReturnedEndW s o tE L 24 1152) := ⟨_, rfl⟩
  show own_Go p.tables e below (fun o tE => ∃ v L, o = .returned v ∧ Q_law Z p1 p2 p3 p4 zc fm h0 v tE.heap L ∧ CHr Z consts_1 s.vm s.heap tE.vm tE.heap ∧ ReturnedEndW s o tE L 24 1152) (s₁.setTop (entryFrame m #[(.int p1), (.int p2), (.int p3), (.int p4)] maxLocals))
  rw [← hPP]
  refine own_Go.st (fun t k => castTop (ef_400 m p1 p2 p3 p4) k) ?_
  show own_Go _ _ _ _ (s₁.setTop (mkF m 0 #[.val (.int p1), .val (.int p2), .val (.int p3), .val (.int p4), .unset, .unset, .unset, .unset, .unset, .unset, .unset, .unset, .unset] []))
  have J322 : ∀ (nn : Int32), (nn = 0 ∨ nn = 1 ∨ nn = 2 ∨ nn = 3 ∨ nn = 4 ∨ nn = 5 ∨ nn = 6) → own_Go p.tables e below PP (s₁.setTop (mkF m 9 #[.val (.int p1), .val (.int p2), .val (.int p3), .val (.int p4), .val (.int nn), .unset, .unset, .unset, .unset, .unset, .unset, .unset, .unset] [])) := by
    intro nn hJ322
    have hnn := hJ322
    refine own_Go.st (fun _ k => XS.bipush X0.here hx rfl (hb hby at_9) k) ?_
    show own_Go _ _ _ _ (s₁.setTop (mkF m 11 #[.val (.int p1), .val (.int p2), .val (.int p3), .val (.int p4), .val (.int nn), .unset, .unset, .unset, .unset, .unset, .unset, .unset, .unset] [(.int (6 : Int32))]))
    obtain ⟨T323, h323, k323, X323, e323, E323, A323, st323⟩ := newP X0 hx hZ (hw _ (List.mem_of_getElem? (i := 1) rfl)) e0 (g := (mkF m 11 #[.val (.int p1), .val (.int p2), .val (.int p3), .val (.int p4), .val (.int nn), .unset, .unset, .unset, .unset, .unset, .unset, .unset, .unset] [(.int (6 : Int32))])) rfl (hb hby at_11) rfl (by decide) (cap := 6) (by decide) (by decide) (by decide) (by decide)
    obtain ⟨b323, g323⟩ : ∃ z, z = h0.size := ⟨_, rfl⟩
    rw [← g323] at A323 st323
    refine own_Go.st st323 ?_
    have z323 : h0.size ≤ h323.size := E323.1
    have f324 : Arv Z h323 b323 k323 .char (6 : Int32) [(.int (0 : Int32)), (.int (0 : Int32)), (.int (0 : Int32)), (.int (0 : Int32)), (.int (0 : Int32)), (.int (0 : Int32))] (.int (0 : Int32)) := (Arv.new A323 (by decide)).pad (pad_rep [] (.int (0 : Int32)) 6)
    have lt_b323 : @LT.lt Nat _ b323 h323.size := f324.lt
    have R323 : CHr Z consts_1 s.vm h0 s.vm h323 := R0.trans (CHr.ext E323 R0.1)
    show own_Go _ _ _ _ (T323.setTop (mkF m 13 #[.val (.int p1), .val (.int p2), .val (.int p3), .val (.int p4), .val (.int nn), .unset, .unset, .unset, .unset, .unset, .unset, .unset, .unset] [(.ref b323)]))
    refine own_Go.st (fun _ k => XS.astore X323.here hx rfl (hb hby at_13) rfl rfl (l' := #[.val (.int p1), .val (.int p2), .val (.int p3), .val (.int p4), .val (.int nn), .val (.ref b323), .unset, .unset, .unset, .unset, .unset, .unset, .unset]) rfl k) ?_
    show own_Go _ _ _ _ (T323.setTop (mkF m 15 #[.val (.int p1), .val (.int p2), .val (.int p3), .val (.int p4), .val (.int nn), .val (.ref b323), .unset, .unset, .unset, .unset, .unset, .unset, .unset] []))
    refine own_Go.st (fun _ k => XS.aload X323.here hx rfl (hb hby at_15) rfl rfl k) ?_
    show own_Go _ _ _ _ (T323.setTop (mkF m 17 #[.val (.int p1), .val (.int p2), .val (.int p3), .val (.int p4), .val (.int nn), .val (.ref b323), .unset, .unset, .unset, .unset, .unset, .unset, .unset] [(.ref b323)]))
    refine own_Go.st (fun _ k => XS.iconst X323.here hx rfl (hb hby at_17) k) ?_
    show own_Go _ _ _ _ (T323.setTop (mkF m 18 #[.val (.int p1), .val (.int p2), .val (.int p3), .val (.int p4), .val (.int nn), .val (.ref b323), .unset, .unset, .unset, .unset, .unset, .unset, .unset] [(.int (0 : Int32)), (.ref b323)]))
    refine own_Go.st (fun _ k => XS.iloadN X323.here hx rfl (hb hby at_18) rfl k) ?_
    show own_Go _ _ _ _ (T323.setTop (mkF m 19 #[.val (.int p1), .val (.int p2), .val (.int p3), .val (.int p4), .val (.int nn), .val (.ref b323), .unset, .unset, .unset, .unset, .unset, .unset, .unset] [(.int p2), (.int (0 : Int32)), (.ref b323)]))
    have f326 : Old Z Z.heap.size h323 := OL.ext E323
    obtain ⟨_, _, ⟨T325, L325, k325, n325⟩, -, X325, ⟨Lc325, hQ325, l325, y325, z325⟩, st325⟩ := Jvm.LawKit.callS X323 hx (y := (⟨"com/example/keep_to_layer/keeptolayer/model/ClassNamesOutermostOfPinLaw", "pick", "(I)C"⟩ : MethodName)) hown (mvT hZ (hw _ (List.mem_of_getElem? (i := 2) rfl))) (mvT hZ (hw _ (List.mem_of_getElem? (i := 3) rfl))) (mvT hZ (hw _ (List.mem_of_getElem? (i := 4) rfl))) (mvT hZ (hw _ (List.mem_of_getElem? (i := 5) rfl))) (by decide) (backOf (W := 2) (rm_pick l Z a0 hw [] p2 h323 f326 ) hZ (hw _ (List.mem_of_getElem? (i := 5) rfl)) (hw _ (List.mem_of_getElem? (i := 4) rfl)) (by decide) (by decide)) (g := (mkF m 19 #[.val (.int p1), .val (.int p2), .val (.int p3), .val (.int p4), .val (.int nn), .val (.ref b323), .unset, .unset, .unset, .unset, .unset, .unset, .unset] [(.int p2), (.int (0 : Int32)), (.ref b323)])) rfl (by rw [hml]; rfl) (argsL := [(.int p2)]) (rest := [(.int (0 : Int32)), (.ref b323)]) (lenOf pd_391 rfl) rfl (by show 2 * 0 + _ ≤ _; exact Nat.le_of_eq rfl) (hb hby at_19) (fun _ _ => ⟨rfl, e323, (by decide : 1 + 0 ≤ _), (by decide : 6 + 0 ≤ _)⟩)
    dsimp only [Pt.U, Pt.locs, Pt.cells, Pt.slots] at X325 l325 y325 z325 st325 hQ325
    subst l325 y325 z325
    obtain ⟨c_325, rfl, N325q, K325, pr325_0⟩ := hQ325
    have N325 := Fr.app N0 N325q
    refine own_Go.st st325 ?_
    show own_Go _ _ _ _ (T325.setTop (mkF m 22 #[.val (.int p1), .val (.int p2), .val (.int p3), .val (.int p4), .val (.int nn), .val (.ref b323), .unset, .unset, .unset, .unset, .unset, .unset, .unset] [(.int c_325), (.int (0 : Int32)), (.ref b323)]))
    obtain ⟨c327, Ar327, q327, S327, Nn327, H327, G327⟩ := id f324
    have hin327 : ¬ ((0 : Int32) < 0 ∨ c327.slots.size ≤ ((0 : Int32)).toNatClampNeg) := inb_of S327 ⟨by decide, by decide⟩
    obtain ⟨T327, h327, X327, e327, W327, st327⟩ := stC X325 hx hZ K325 Ar327 (j := (0 : Int32)) hin327 (g := (mkF m 22 #[.val (.int p1), .val (.int p2), .val (.int p3), .val (.int p4), .val (.int nn), .val (.ref b323), .unset, .unset, .unset, .unset, .unset, .unset, .unset] [(.int c_325), (.int (0 : Int32)), (.ref b323)])) rfl rfl (hb hby at_22)
    refine own_Go.st st327 ?_
    have N327 := Fr.snoc X327 N325 (by omega)
    have Sf329 : Safe Z consts_1 s.vm h323 b323 := Safe.arv hZ.alike f324 (by decide)
    have z327 : h323.size ≤ h327.size := Nat.le_of_eq W327.size.symm
    have f328 := Arv.set Ar327 q327 S327 Nn327 H327 G327 (fits_nar_char _) W327 0 rfl (Nat.le_of_ble_eq_true rfl)
    rw [own_nar (own_up pr325_0)] at f328
    have f330 : Arv Z h327 b323 k323 .char (6 : Int32) [(.int c_325), (.int (0 : Int32)), (.int (0 : Int32)), (.int (0 : Int32)), (.int (0 : Int32)), (.int (0 : Int32))] (.int (0 : Int32)) := f328
    have R327 : CHr Z consts_1 s.vm h0 s.vm h327 := R323.trans (CHr.wr W327 Sf329 R323.1)
    show own_Go _ _ _ _ (T327.setTop (mkF m 23 #[.val (.int p1), .val (.int p2), .val (.int p3), .val (.int p4), .val (.int nn), .val (.ref b323), .unset, .unset, .unset, .unset, .unset, .unset, .unset] []))
    refine own_Go.st (fun _ k => XS.aload X327.here hx rfl (hb hby at_23) rfl rfl k) ?_
    show own_Go _ _ _ _ (T327.setTop (mkF m 25 #[.val (.int p1), .val (.int p2), .val (.int p3), .val (.int p4), .val (.int nn), .val (.ref b323), .unset, .unset, .unset, .unset, .unset, .unset, .unset] [(.ref b323)]))
    refine own_Go.st (fun _ k => XS.iconst X327.here hx rfl (hb hby at_25) k) ?_
    show own_Go _ _ _ _ (T327.setTop (mkF m 26 #[.val (.int p1), .val (.int p2), .val (.int p3), .val (.int p4), .val (.int nn), .val (.ref b323), .unset, .unset, .unset, .unset, .unset, .unset, .unset] [(.int (1 : Int32)), (.ref b323)]))
    refine own_Go.st (fun _ k => XS.iloadN X327.here hx rfl (hb hby at_26) rfl k) ?_
    show own_Go _ _ _ _ (T327.setTop (mkF m 27 #[.val (.int p1), .val (.int p2), .val (.int p3), .val (.int p4), .val (.int nn), .val (.ref b323), .unset, .unset, .unset, .unset, .unset, .unset, .unset] [(.int p2), (.int (1 : Int32)), (.ref b323)]))
    refine own_Go.st (fun _ k => XS.bipush X327.here hx rfl (hb hby at_27) k) ?_
    show own_Go _ _ _ _ (T327.setTop (mkF m 29 #[.val (.int p1), .val (.int p2), .val (.int p3), .val (.int p4), .val (.int nn), .val (.ref b323), .unset, .unset, .unset, .unset, .unset, .unset, .unset] [(.int (16 : Int32)), (.int p2), (.int (1 : Int32)), (.ref b323)]))
    refine own_Go.st (fun _ k => XS.iushr X327.here hx rfl (hb hby at_29) rfl k) ?_
    show own_Go _ _ _ _ (T327.setTop (mkF m 30 #[.val (.int p1), .val (.int p2), .val (.int p3), .val (.int p4), .val (.int nn), .val (.ref b323), .unset, .unset, .unset, .unset, .unset, .unset, .unset] [(.int ((p2.toUInt32 >>> ((16 : Int32) &&& 31).toUInt32).toInt32)), (.int (1 : Int32)), (.ref b323)]))
    have f332 : Old Z Z.heap.size h327 := f326.wr W327 (by omega)
    obtain ⟨_, _, ⟨T331, L331, k331, n331⟩, -, X331, ⟨Lc331, hQ331, l331, y331, z331⟩, st331⟩ := Jvm.LawKit.callS X327 hx (y := (⟨"com/example/keep_to_layer/keeptolayer/model/ClassNamesOutermostOfPinLaw", "pick", "(I)C"⟩ : MethodName)) hown (mvT hZ (hw _ (List.mem_of_getElem? (i := 2) rfl))) (mvT hZ (hw _ (List.mem_of_getElem? (i := 3) rfl))) (mvT hZ (hw _ (List.mem_of_getElem? (i := 4) rfl))) (mvT hZ (hw _ (List.mem_of_getElem? (i := 5) rfl))) (by decide) (backOf (W := 2) (rm_pick l Z a0 hw [] ((p2.toUInt32 >>> ((16 : Int32) &&& 31).toUInt32).toInt32) h327 f332 ) hZ (hw _ (List.mem_of_getElem? (i := 5) rfl)) (hw _ (List.mem_of_getElem? (i := 4) rfl)) (by decide) (by decide)) (g := (mkF m 30 #[.val (.int p1), .val (.int p2), .val (.int p3), .val (.int p4), .val (.int nn), .val (.ref b323), .unset, .unset, .unset, .unset, .unset, .unset, .unset] [(.int ((p2.toUInt32 >>> ((16 : Int32) &&& 31).toUInt32).toInt32)), (.int (1 : Int32)), (.ref b323)])) rfl (by rw [hml]; rfl) (argsL := [(.int ((p2.toUInt32 >>> ((16 : Int32) &&& 31).toUInt32).toInt32))]) (rest := [(.int (1 : Int32)), (.ref b323)]) (lenOf pd_391 rfl) rfl (by show 2 * 0 + _ ≤ _; exact Nat.le_of_eq rfl) (hb hby at_30) (fun _ _ => ⟨rfl, e327, (by decide : 1 + 0 ≤ _), (by decide : 6 + 0 ≤ _)⟩)
    dsimp only [Pt.U, Pt.locs, Pt.cells, Pt.slots] at X331 l331 y331 z331 st331 hQ331
    subst l331 y331 z331
    obtain ⟨c_331, rfl, N331q, K331, pr331_0⟩ := hQ331
    have N331 := Fr.app N327 N331q
    refine own_Go.st st331 ?_
    show own_Go _ _ _ _ (T331.setTop (mkF m 33 #[.val (.int p1), .val (.int p2), .val (.int p3), .val (.int p4), .val (.int nn), .val (.ref b323), .unset, .unset, .unset, .unset, .unset, .unset, .unset] [(.int c_331), (.int (1 : Int32)), (.ref b323)]))
    obtain ⟨c333, Ar333, q333, S333, Nn333, H333, G333⟩ := id f330
    have hin333 : ¬ ((1 : Int32) < 0 ∨ c333.slots.size ≤ ((1 : Int32)).toNatClampNeg) := inb_of S333 ⟨by decide, by decide⟩
    obtain ⟨T333, h333, X333, e333, W333, st333⟩ := stC X331 hx hZ K331 Ar333 (j := (1 : Int32)) hin333 (g := (mkF m 33 #[.val (.int p1), .val (.int p2), .val (.int p3), .val (.int p4), .val (.int nn), .val (.ref b323), .unset, .unset, .unset, .unset, .unset, .unset, .unset] [(.int c_331), (.int (1 : Int32)), (.ref b323)])) rfl rfl (hb hby at_33)
    refine own_Go.st st333 ?_
    have N333 := Fr.snoc X333 N331 (by omega)
    have Sf335 : Safe Z consts_1 s.vm h327 b323 := Safe.arv hZ.alike f330 (by decide)
    have z333 : h327.size ≤ h333.size := Nat.le_of_eq W333.size.symm
    have f334 := Arv.set Ar333 q333 S333 Nn333 H333 G333 (fits_nar_char _) W333 1 rfl (Nat.le_of_ble_eq_true rfl)
    rw [own_nar (own_up pr331_0)] at f334
    have f336 : Arv Z h333 b323 k323 .char (6 : Int32) [(.int c_325), (.int c_331), (.int (0 : Int32)), (.int (0 : Int32)), (.int (0 : Int32)), (.int (0 : Int32))] (.int (0 : Int32)) := f334
    have R333 : CHr Z consts_1 s.vm h0 s.vm h333 := R327.trans (CHr.wr W333 Sf335 R327.1)
    show own_Go _ _ _ _ (T333.setTop (mkF m 34 #[.val (.int p1), .val (.int p2), .val (.int p3), .val (.int p4), .val (.int nn), .val (.ref b323), .unset, .unset, .unset, .unset, .unset, .unset, .unset] []))
    refine own_Go.st (fun _ k => XS.aload X333.here hx rfl (hb hby at_34) rfl rfl k) ?_
    show own_Go _ _ _ _ (T333.setTop (mkF m 36 #[.val (.int p1), .val (.int p2), .val (.int p3), .val (.int p4), .val (.int nn), .val (.ref b323), .unset, .unset, .unset, .unset, .unset, .unset, .unset] [(.ref b323)]))
    refine own_Go.st (fun _ k => XS.iconst X333.here hx rfl (hb hby at_36) k) ?_
    show own_Go _ _ _ _ (T333.setTop (mkF m 37 #[.val (.int p1), .val (.int p2), .val (.int p3), .val (.int p4), .val (.int nn), .val (.ref b323), .unset, .unset, .unset, .unset, .unset, .unset, .unset] [(.int (2 : Int32)), (.ref b323)]))
    refine own_Go.st (fun _ k => XS.iloadN X333.here hx rfl (hb hby at_37) rfl k) ?_
    show own_Go _ _ _ _ (T333.setTop (mkF m 38 #[.val (.int p1), .val (.int p2), .val (.int p3), .val (.int p4), .val (.int nn), .val (.ref b323), .unset, .unset, .unset, .unset, .unset, .unset, .unset] [(.int p3), (.int (2 : Int32)), (.ref b323)]))
    have f338 : Old Z Z.heap.size h333 := f332.wr W333 (by omega)
    obtain ⟨_, _, ⟨T337, L337, k337, n337⟩, -, X337, ⟨Lc337, hQ337, l337, y337, z337⟩, st337⟩ := Jvm.LawKit.callS X333 hx (y := (⟨"com/example/keep_to_layer/keeptolayer/model/ClassNamesOutermostOfPinLaw", "pick", "(I)C"⟩ : MethodName)) hown (mvT hZ (hw _ (List.mem_of_getElem? (i := 2) rfl))) (mvT hZ (hw _ (List.mem_of_getElem? (i := 3) rfl))) (mvT hZ (hw _ (List.mem_of_getElem? (i := 4) rfl))) (mvT hZ (hw _ (List.mem_of_getElem? (i := 5) rfl))) (by decide) (backOf (W := 2) (rm_pick l Z a0 hw [] p3 h333 f338 ) hZ (hw _ (List.mem_of_getElem? (i := 5) rfl)) (hw _ (List.mem_of_getElem? (i := 4) rfl)) (by decide) (by decide)) (g := (mkF m 38 #[.val (.int p1), .val (.int p2), .val (.int p3), .val (.int p4), .val (.int nn), .val (.ref b323), .unset, .unset, .unset, .unset, .unset, .unset, .unset] [(.int p3), (.int (2 : Int32)), (.ref b323)])) rfl (by rw [hml]; rfl) (argsL := [(.int p3)]) (rest := [(.int (2 : Int32)), (.ref b323)]) (lenOf pd_391 rfl) rfl (by show 2 * 0 + _ ≤ _; exact Nat.le_of_eq rfl) (hb hby at_38) (fun _ _ => ⟨rfl, e333, (by decide : 1 + 0 ≤ _), (by decide : 6 + 0 ≤ _)⟩)
    dsimp only [Pt.U, Pt.locs, Pt.cells, Pt.slots] at X337 l337 y337 z337 st337 hQ337
    subst l337 y337 z337
    obtain ⟨c_337, rfl, N337q, K337, pr337_0⟩ := hQ337
    have N337 := Fr.app N333 N337q
    refine own_Go.st st337 ?_
    show own_Go _ _ _ _ (T337.setTop (mkF m 41 #[.val (.int p1), .val (.int p2), .val (.int p3), .val (.int p4), .val (.int nn), .val (.ref b323), .unset, .unset, .unset, .unset, .unset, .unset, .unset] [(.int c_337), (.int (2 : Int32)), (.ref b323)]))
    obtain ⟨c339, Ar339, q339, S339, Nn339, H339, G339⟩ := id f336
    have hin339 : ¬ ((2 : Int32) < 0 ∨ c339.slots.size ≤ ((2 : Int32)).toNatClampNeg) := inb_of S339 ⟨by decide, by decide⟩
    obtain ⟨T339, h339, X339, e339, W339, st339⟩ := stC X337 hx hZ K337 Ar339 (j := (2 : Int32)) hin339 (g := (mkF m 41 #[.val (.int p1), .val (.int p2), .val (.int p3), .val (.int p4), .val (.int nn), .val (.ref b323), .unset, .unset, .unset, .unset, .unset, .unset, .unset] [(.int c_337), (.int (2 : Int32)), (.ref b323)])) rfl rfl (hb hby at_41)
    refine own_Go.st st339 ?_
    have N339 := Fr.snoc X339 N337 (by omega)
    have Sf341 : Safe Z consts_1 s.vm h333 b323 := Safe.arv hZ.alike f336 (by decide)
    have z339 : h333.size ≤ h339.size := Nat.le_of_eq W339.size.symm
    have f340 := Arv.set Ar339 q339 S339 Nn339 H339 G339 (fits_nar_char _) W339 2 rfl (Nat.le_of_ble_eq_true rfl)
    rw [own_nar (own_up pr337_0)] at f340
    have f342 : Arv Z h339 b323 k323 .char (6 : Int32) [(.int c_325), (.int c_331), (.int c_337), (.int (0 : Int32)), (.int (0 : Int32)), (.int (0 : Int32))] (.int (0 : Int32)) := f340
    have R339 : CHr Z consts_1 s.vm h0 s.vm h339 := R333.trans (CHr.wr W339 Sf341 R333.1)
    show own_Go _ _ _ _ (T339.setTop (mkF m 42 #[.val (.int p1), .val (.int p2), .val (.int p3), .val (.int p4), .val (.int nn), .val (.ref b323), .unset, .unset, .unset, .unset, .unset, .unset, .unset] []))
    refine own_Go.st (fun _ k => XS.aload X339.here hx rfl (hb hby at_42) rfl rfl k) ?_
    show own_Go _ _ _ _ (T339.setTop (mkF m 44 #[.val (.int p1), .val (.int p2), .val (.int p3), .val (.int p4), .val (.int nn), .val (.ref b323), .unset, .unset, .unset, .unset, .unset, .unset, .unset] [(.ref b323)]))
    refine own_Go.st (fun _ k => XS.iconst X339.here hx rfl (hb hby at_44) k) ?_
    show own_Go _ _ _ _ (T339.setTop (mkF m 45 #[.val (.int p1), .val (.int p2), .val (.int p3), .val (.int p4), .val (.int nn), .val (.ref b323), .unset, .unset, .unset, .unset, .unset, .unset, .unset] [(.int (3 : Int32)), (.ref b323)]))
    refine own_Go.st (fun _ k => XS.iloadN X339.here hx rfl (hb hby at_45) rfl k) ?_
    show own_Go _ _ _ _ (T339.setTop (mkF m 46 #[.val (.int p1), .val (.int p2), .val (.int p3), .val (.int p4), .val (.int nn), .val (.ref b323), .unset, .unset, .unset, .unset, .unset, .unset, .unset] [(.int p3), (.int (3 : Int32)), (.ref b323)]))
    refine own_Go.st (fun _ k => XS.bipush X339.here hx rfl (hb hby at_46) k) ?_
    show own_Go _ _ _ _ (T339.setTop (mkF m 48 #[.val (.int p1), .val (.int p2), .val (.int p3), .val (.int p4), .val (.int nn), .val (.ref b323), .unset, .unset, .unset, .unset, .unset, .unset, .unset] [(.int (16 : Int32)), (.int p3), (.int (3 : Int32)), (.ref b323)]))
    refine own_Go.st (fun _ k => XS.iushr X339.here hx rfl (hb hby at_48) rfl k) ?_
    show own_Go _ _ _ _ (T339.setTop (mkF m 49 #[.val (.int p1), .val (.int p2), .val (.int p3), .val (.int p4), .val (.int nn), .val (.ref b323), .unset, .unset, .unset, .unset, .unset, .unset, .unset] [(.int ((p3.toUInt32 >>> ((16 : Int32) &&& 31).toUInt32).toInt32)), (.int (3 : Int32)), (.ref b323)]))
    have f344 : Old Z Z.heap.size h339 := f338.wr W339 (by omega)
    obtain ⟨_, _, ⟨T343, L343, k343, n343⟩, -, X343, ⟨Lc343, hQ343, l343, y343, z343⟩, st343⟩ := Jvm.LawKit.callS X339 hx (y := (⟨"com/example/keep_to_layer/keeptolayer/model/ClassNamesOutermostOfPinLaw", "pick", "(I)C"⟩ : MethodName)) hown (mvT hZ (hw _ (List.mem_of_getElem? (i := 2) rfl))) (mvT hZ (hw _ (List.mem_of_getElem? (i := 3) rfl))) (mvT hZ (hw _ (List.mem_of_getElem? (i := 4) rfl))) (mvT hZ (hw _ (List.mem_of_getElem? (i := 5) rfl))) (by decide) (backOf (W := 2) (rm_pick l Z a0 hw [] ((p3.toUInt32 >>> ((16 : Int32) &&& 31).toUInt32).toInt32) h339 f344 ) hZ (hw _ (List.mem_of_getElem? (i := 5) rfl)) (hw _ (List.mem_of_getElem? (i := 4) rfl)) (by decide) (by decide)) (g := (mkF m 49 #[.val (.int p1), .val (.int p2), .val (.int p3), .val (.int p4), .val (.int nn), .val (.ref b323), .unset, .unset, .unset, .unset, .unset, .unset, .unset] [(.int ((p3.toUInt32 >>> ((16 : Int32) &&& 31).toUInt32).toInt32)), (.int (3 : Int32)), (.ref b323)])) rfl (by rw [hml]; rfl) (argsL := [(.int ((p3.toUInt32 >>> ((16 : Int32) &&& 31).toUInt32).toInt32))]) (rest := [(.int (3 : Int32)), (.ref b323)]) (lenOf pd_391 rfl) rfl (by show 2 * 0 + _ ≤ _; exact Nat.le_of_eq rfl) (hb hby at_49) (fun _ _ => ⟨rfl, e339, (by decide : 1 + 0 ≤ _), (by decide : 6 + 0 ≤ _)⟩)
    dsimp only [Pt.U, Pt.locs, Pt.cells, Pt.slots] at X343 l343 y343 z343 st343 hQ343
    subst l343 y343 z343
    obtain ⟨c_343, rfl, N343q, K343, pr343_0⟩ := hQ343
    have N343 := Fr.app N339 N343q
    refine own_Go.st st343 ?_
    show own_Go _ _ _ _ (T343.setTop (mkF m 52 #[.val (.int p1), .val (.int p2), .val (.int p3), .val (.int p4), .val (.int nn), .val (.ref b323), .unset, .unset, .unset, .unset, .unset, .unset, .unset] [(.int c_343), (.int (3 : Int32)), (.ref b323)]))
    obtain ⟨c345, Ar345, q345, S345, Nn345, H345, G345⟩ := id f342
    have hin345 : ¬ ((3 : Int32) < 0 ∨ c345.slots.size ≤ ((3 : Int32)).toNatClampNeg) := inb_of S345 ⟨by decide, by decide⟩
    obtain ⟨T345, h345, X345, e345, W345, st345⟩ := stC X343 hx hZ K343 Ar345 (j := (3 : Int32)) hin345 (g := (mkF m 52 #[.val (.int p1), .val (.int p2), .val (.int p3), .val (.int p4), .val (.int nn), .val (.ref b323), .unset, .unset, .unset, .unset, .unset, .unset, .unset] [(.int c_343), (.int (3 : Int32)), (.ref b323)])) rfl rfl (hb hby at_52)
    refine own_Go.st st345 ?_
    have N345 := Fr.snoc X345 N343 (by omega)
    have Sf347 : Safe Z consts_1 s.vm h339 b323 := Safe.arv hZ.alike f342 (by decide)
    have z345 : h339.size ≤ h345.size := Nat.le_of_eq W345.size.symm
    have f346 := Arv.set Ar345 q345 S345 Nn345 H345 G345 (fits_nar_char _) W345 3 rfl (Nat.le_of_ble_eq_true rfl)
    rw [own_nar (own_up pr343_0)] at f346
    have f348 : Arv Z h345 b323 k323 .char (6 : Int32) [(.int c_325), (.int c_331), (.int c_337), (.int c_343), (.int (0 : Int32)), (.int (0 : Int32))] (.int (0 : Int32)) := f346
    have R345 : CHr Z consts_1 s.vm h0 s.vm h345 := R339.trans (CHr.wr W345 Sf347 R339.1)
    show own_Go _ _ _ _ (T345.setTop (mkF m 53 #[.val (.int p1), .val (.int p2), .val (.int p3), .val (.int p4), .val (.int nn), .val (.ref b323), .unset, .unset, .unset, .unset, .unset, .unset, .unset] []))
    refine own_Go.st (fun _ k => XS.aload X345.here hx rfl (hb hby at_53) rfl rfl k) ?_
    show own_Go _ _ _ _ (T345.setTop (mkF m 55 #[.val (.int p1), .val (.int p2), .val (.int p3), .val (.int p4), .val (.int nn), .val (.ref b323), .unset, .unset, .unset, .unset, .unset, .unset, .unset] [(.ref b323)]))
    refine own_Go.st (fun _ k => XS.iconst X345.here hx rfl (hb hby at_55) k) ?_
    show own_Go _ _ _ _ (T345.setTop (mkF m 56 #[.val (.int p1), .val (.int p2), .val (.int p3), .val (.int p4), .val (.int nn), .val (.ref b323), .unset, .unset, .unset, .unset, .unset, .unset, .unset] [(.int (4 : Int32)), (.ref b323)]))
    refine own_Go.st (fun _ k => XS.iloadN X345.here hx rfl (hb hby at_56) rfl k) ?_
    show own_Go _ _ _ _ (T345.setTop (mkF m 57 #[.val (.int p1), .val (.int p2), .val (.int p3), .val (.int p4), .val (.int nn), .val (.ref b323), .unset, .unset, .unset, .unset, .unset, .unset, .unset] [(.int p4), (.int (4 : Int32)), (.ref b323)]))
    have f350 : Old Z Z.heap.size h345 := f344.wr W345 (by omega)
    obtain ⟨_, _, ⟨T349, L349, k349, n349⟩, -, X349, ⟨Lc349, hQ349, l349, y349, z349⟩, st349⟩ := Jvm.LawKit.callS X345 hx (y := (⟨"com/example/keep_to_layer/keeptolayer/model/ClassNamesOutermostOfPinLaw", "pick", "(I)C"⟩ : MethodName)) hown (mvT hZ (hw _ (List.mem_of_getElem? (i := 2) rfl))) (mvT hZ (hw _ (List.mem_of_getElem? (i := 3) rfl))) (mvT hZ (hw _ (List.mem_of_getElem? (i := 4) rfl))) (mvT hZ (hw _ (List.mem_of_getElem? (i := 5) rfl))) (by decide) (backOf (W := 2) (rm_pick l Z a0 hw [] p4 h345 f350 ) hZ (hw _ (List.mem_of_getElem? (i := 5) rfl)) (hw _ (List.mem_of_getElem? (i := 4) rfl)) (by decide) (by decide)) (g := (mkF m 57 #[.val (.int p1), .val (.int p2), .val (.int p3), .val (.int p4), .val (.int nn), .val (.ref b323), .unset, .unset, .unset, .unset, .unset, .unset, .unset] [(.int p4), (.int (4 : Int32)), (.ref b323)])) rfl (by rw [hml]; rfl) (argsL := [(.int p4)]) (rest := [(.int (4 : Int32)), (.ref b323)]) (lenOf pd_391 rfl) rfl (by show 2 * 0 + _ ≤ _; exact Nat.le_of_eq rfl) (hb hby at_57) (fun _ _ => ⟨rfl, e345, (by decide : 1 + 0 ≤ _), (by decide : 6 + 0 ≤ _)⟩)
    dsimp only [Pt.U, Pt.locs, Pt.cells, Pt.slots] at X349 l349 y349 z349 st349 hQ349
    subst l349 y349 z349
    obtain ⟨c_349, rfl, N349q, K349, pr349_0⟩ := hQ349
    have N349 := Fr.app N345 N349q
    refine own_Go.st st349 ?_
    show own_Go _ _ _ _ (T349.setTop (mkF m 60 #[.val (.int p1), .val (.int p2), .val (.int p3), .val (.int p4), .val (.int nn), .val (.ref b323), .unset, .unset, .unset, .unset, .unset, .unset, .unset] [(.int c_349), (.int (4 : Int32)), (.ref b323)]))
    obtain ⟨c351, Ar351, q351, S351, Nn351, H351, G351⟩ := id f348
    have hin351 : ¬ ((4 : Int32) < 0 ∨ c351.slots.size ≤ ((4 : Int32)).toNatClampNeg) := inb_of S351 ⟨by decide, by decide⟩
    obtain ⟨T351, h351, X351, e351, W351, st351⟩ := stC X349 hx hZ K349 Ar351 (j := (4 : Int32)) hin351 (g := (mkF m 60 #[.val (.int p1), .val (.int p2), .val (.int p3), .val (.int p4), .val (.int nn), .val (.ref b323), .unset, .unset, .unset, .unset, .unset, .unset, .unset] [(.int c_349), (.int (4 : Int32)), (.ref b323)])) rfl rfl (hb hby at_60)
    refine own_Go.st st351 ?_
    have N351 := Fr.snoc X351 N349 (by omega)
    have Sf353 : Safe Z consts_1 s.vm h345 b323 := Safe.arv hZ.alike f348 (by decide)
    have z351 : h345.size ≤ h351.size := Nat.le_of_eq W351.size.symm
    have f352 := Arv.set Ar351 q351 S351 Nn351 H351 G351 (fits_nar_char _) W351 4 rfl (Nat.le_of_ble_eq_true rfl)
    rw [own_nar (own_up pr349_0)] at f352
    have f354 : Arv Z h351 b323 k323 .char (6 : Int32) [(.int c_325), (.int c_331), (.int c_337), (.int c_343), (.int c_349), (.int (0 : Int32))] (.int (0 : Int32)) := f352
    have R351 : CHr Z consts_1 s.vm h0 s.vm h351 := R345.trans (CHr.wr W351 Sf353 R345.1)
    show own_Go _ _ _ _ (T351.setTop (mkF m 61 #[.val (.int p1), .val (.int p2), .val (.int p3), .val (.int p4), .val (.int nn), .val (.ref b323), .unset, .unset, .unset, .unset, .unset, .unset, .unset] []))
    refine own_Go.st (fun _ k => XS.aload X351.here hx rfl (hb hby at_61) rfl rfl k) ?_
    show own_Go _ _ _ _ (T351.setTop (mkF m 63 #[.val (.int p1), .val (.int p2), .val (.int p3), .val (.int p4), .val (.int nn), .val (.ref b323), .unset, .unset, .unset, .unset, .unset, .unset, .unset] [(.ref b323)]))
    refine own_Go.st (fun _ k => XS.iconst X351.here hx rfl (hb hby at_63) k) ?_
    show own_Go _ _ _ _ (T351.setTop (mkF m 64 #[.val (.int p1), .val (.int p2), .val (.int p3), .val (.int p4), .val (.int nn), .val (.ref b323), .unset, .unset, .unset, .unset, .unset, .unset, .unset] [(.int (5 : Int32)), (.ref b323)]))
    refine own_Go.st (fun _ k => XS.iloadN X351.here hx rfl (hb hby at_64) rfl k) ?_
    show own_Go _ _ _ _ (T351.setTop (mkF m 65 #[.val (.int p1), .val (.int p2), .val (.int p3), .val (.int p4), .val (.int nn), .val (.ref b323), .unset, .unset, .unset, .unset, .unset, .unset, .unset] [(.int p4), (.int (5 : Int32)), (.ref b323)]))
    refine own_Go.st (fun _ k => XS.bipush X351.here hx rfl (hb hby at_65) k) ?_
    show own_Go _ _ _ _ (T351.setTop (mkF m 67 #[.val (.int p1), .val (.int p2), .val (.int p3), .val (.int p4), .val (.int nn), .val (.ref b323), .unset, .unset, .unset, .unset, .unset, .unset, .unset] [(.int (16 : Int32)), (.int p4), (.int (5 : Int32)), (.ref b323)]))
    refine own_Go.st (fun _ k => XS.iushr X351.here hx rfl (hb hby at_67) rfl k) ?_
    show own_Go _ _ _ _ (T351.setTop (mkF m 68 #[.val (.int p1), .val (.int p2), .val (.int p3), .val (.int p4), .val (.int nn), .val (.ref b323), .unset, .unset, .unset, .unset, .unset, .unset, .unset] [(.int ((p4.toUInt32 >>> ((16 : Int32) &&& 31).toUInt32).toInt32)), (.int (5 : Int32)), (.ref b323)]))
    have f356 : Old Z Z.heap.size h351 := f350.wr W351 (by omega)
    obtain ⟨_, _, ⟨T355, L355, k355, n355⟩, -, X355, ⟨Lc355, hQ355, l355, y355, z355⟩, st355⟩ := Jvm.LawKit.callS X351 hx (y := (⟨"com/example/keep_to_layer/keeptolayer/model/ClassNamesOutermostOfPinLaw", "pick", "(I)C"⟩ : MethodName)) hown (mvT hZ (hw _ (List.mem_of_getElem? (i := 2) rfl))) (mvT hZ (hw _ (List.mem_of_getElem? (i := 3) rfl))) (mvT hZ (hw _ (List.mem_of_getElem? (i := 4) rfl))) (mvT hZ (hw _ (List.mem_of_getElem? (i := 5) rfl))) (by decide) (backOf (W := 2) (rm_pick l Z a0 hw [] ((p4.toUInt32 >>> ((16 : Int32) &&& 31).toUInt32).toInt32) h351 f356 ) hZ (hw _ (List.mem_of_getElem? (i := 5) rfl)) (hw _ (List.mem_of_getElem? (i := 4) rfl)) (by decide) (by decide)) (g := (mkF m 68 #[.val (.int p1), .val (.int p2), .val (.int p3), .val (.int p4), .val (.int nn), .val (.ref b323), .unset, .unset, .unset, .unset, .unset, .unset, .unset] [(.int ((p4.toUInt32 >>> ((16 : Int32) &&& 31).toUInt32).toInt32)), (.int (5 : Int32)), (.ref b323)])) rfl (by rw [hml]; rfl) (argsL := [(.int ((p4.toUInt32 >>> ((16 : Int32) &&& 31).toUInt32).toInt32))]) (rest := [(.int (5 : Int32)), (.ref b323)]) (lenOf pd_391 rfl) rfl (by show 2 * 0 + _ ≤ _; exact Nat.le_of_eq rfl) (hb hby at_68) (fun _ _ => ⟨rfl, e351, (by decide : 1 + 0 ≤ _), (by decide : 6 + 0 ≤ _)⟩)
    dsimp only [Pt.U, Pt.locs, Pt.cells, Pt.slots] at X355 l355 y355 z355 st355 hQ355
    subst l355 y355 z355
    obtain ⟨c_355, rfl, N355q, K355, pr355_0⟩ := hQ355
    have N355 := Fr.app N351 N355q
    refine own_Go.st st355 ?_
    show own_Go _ _ _ _ (T355.setTop (mkF m 71 #[.val (.int p1), .val (.int p2), .val (.int p3), .val (.int p4), .val (.int nn), .val (.ref b323), .unset, .unset, .unset, .unset, .unset, .unset, .unset] [(.int c_355), (.int (5 : Int32)), (.ref b323)]))
    obtain ⟨c357, Ar357, q357, S357, Nn357, H357, G357⟩ := id f354
    have hin357 : ¬ ((5 : Int32) < 0 ∨ c357.slots.size ≤ ((5 : Int32)).toNatClampNeg) := inb_of S357 ⟨by decide, by decide⟩
    obtain ⟨T357, h357, X357, e357, W357, st357⟩ := stC X355 hx hZ K355 Ar357 (j := (5 : Int32)) hin357 (g := (mkF m 71 #[.val (.int p1), .val (.int p2), .val (.int p3), .val (.int p4), .val (.int nn), .val (.ref b323), .unset, .unset, .unset, .unset, .unset, .unset, .unset] [(.int c_355), (.int (5 : Int32)), (.ref b323)])) rfl rfl (hb hby at_71)
    refine own_Go.st st357 ?_
    have N357 := Fr.snoc X357 N355 (by omega)
    have Sf359 : Safe Z consts_1 s.vm h351 b323 := Safe.arv hZ.alike f354 (by decide)
    have z357 : h351.size ≤ h357.size := Nat.le_of_eq W357.size.symm
    have f358 := Arv.set Ar357 q357 S357 Nn357 H357 G357 (fits_nar_char _) W357 5 rfl (Nat.le_of_ble_eq_true rfl)
    rw [own_nar (own_up pr355_0)] at f358
    have f360 : Arv Z h357 b323 k323 .char (6 : Int32) [(.int c_325), (.int c_331), (.int c_337), (.int c_343), (.int c_349), (.int c_355)] (.int (0 : Int32)) := f358
    have R357 : CHr Z consts_1 s.vm h0 s.vm h357 := R351.trans (CHr.wr W357 Sf359 R351.1)
    show own_Go _ _ _ _ (T357.setTop (mkF m 72 #[.val (.int p1), .val (.int p2), .val (.int p3), .val (.int p4), .val (.int nn), .val (.ref b323), .unset, .unset, .unset, .unset, .unset, .unset, .unset] []))
    have HJ361 : ∀ (gs : List Int32) (kk : Nat) (xs : Nat) (ts : Nat) (ms : Nat) (TJ361 : State) (hJ361 : Heap) (lJ361 : List Loc) (vJ361 : Vm) (kJ361 : Nat), (gs.length = 6) → (nn = Int32.ofNat kk) → (kk ≤ 6) → (∀ c ∈ gs, ¬ c < 0 ∧ ¬ (255 : Int32) < c) → (Stand p l e room_1 (s.setVm vJ361) m #[(.int p1), (.int p2), (.int p3), (.int p4)] below meth c TJ361 lJ361 12 64) → (TJ361.heap = hJ361) → (Fr Z.heap.size lJ361) → (Keep h0 hJ361 []) → (Old Z Z.heap.size hJ361) → (h357.size ≤ hJ361.size) → (CHr Z consts_1 s.vm h0 vJ361 hJ361) → (s.Since vJ361 kJ361) → (kJ361 ≤ hJ361.size) → (Z.Warmed39 (s.setVm vJ361).vm) → ((s.setVm vJ361).vm.findClass "com/example/keep_to_layer/keeptolayer/model/ClassNamesOutermostOfPinLaw" = some m.cls) → (Arv Z hJ361 b323 k323 .char (6 : Int32) (gs.map Value.int) (.int (0 : Int32))) → (own_Str Z hJ361 xs ts (gs.take kk)) → own_Go p.tables e below PP (TJ361.setTop (mkF m 171 #[.val (.int p1), .val (.int p2), .val (.int p3), .val (.int p4), .val (.int nn), .val (.ref b323), .val (.ref ms), .unset, .unset, .unset, .unset, .unset, .unset] [(.ref xs)])) := by
      intro gs kk xs ts ms TJ361 hJ361 lJ361 vJ361 kJ361 hg6 hnk hk6 hgl XJ361 eJ361 NJ361 KJ361 OJ361 zJ361 RJ361 hSJ361 hkJ361 hZJ361 hoJ361 fJ361_0 fJ361_1
      have zK361 : h0.size ≤ hJ361.size := KJ361.1
      have ltJ361_0 : @LT.lt Nat _ b323 hJ361.size := fJ361_0.lt
      have ltJ361_1 : @LT.lt Nat _ xs hJ361.size := fJ361_1.lt
      have ltJv361_1 : @LT.lt Nat _ ts hJ361.size := fJ361_1.ltv
      subst hnk
      have hlk : (gs.take kk).length = kk := by simp; omega
      have hlt : ∀ c ∈ (gs.take kk), ¬ c < 0 ∧ ¬ (255 : Int32) < c := fun c hc => hgl c (List.mem_of_mem_take hc)
      show own_Go _ _ _ _ (TJ361.setTop (mkF m 171 #[.val (.int p1), .val (.int p2), .val (.int p3), .val (.int p4), .val (.int (Int32.ofNat kk)), .val (.ref b323), .val (.ref ms), .unset, .unset, .unset, .unset, .unset, .unset] [(.ref xs)]))
      refine own_Go.st (fun _ k => XS.astore XJ361.here hx rfl (hb hby at_171) rfl rfl (l' := #[.val (.int p1), .val (.int p2), .val (.int p3), .val (.int p4), .val (.int (Int32.ofNat kk)), .val (.ref b323), .val (.ref ms), .val (.ref xs), .unset, .unset, .unset, .unset, .unset]) rfl k) ?_
      show own_Go _ _ _ _ (TJ361.setTop (mkF m 173 #[.val (.int p1), .val (.int p2), .val (.int p3), .val (.int p4), .val (.int (Int32.ofNat kk)), .val (.ref b323), .val (.ref ms), .val (.ref xs), .unset, .unset, .unset, .unset, .unset] []))
      refine own_Go.st (fun _ k => XS.aload XJ361.here hx rfl (hb hby at_173) rfl rfl k) ?_
      show own_Go _ _ _ _ (TJ361.setTop (mkF m 175 #[.val (.int p1), .val (.int p2), .val (.int p3), .val (.int p4), .val (.int (Int32.ofNat kk)), .val (.ref b323), .val (.ref ms), .val (.ref xs), .unset, .unset, .unset, .unset, .unset] [(.ref xs)]))
      obtain ⟨_, _, ⟨T362, L362, k362, n362⟩, -, X362, ⟨Lc362, hQ362, l362, y362, z362⟩, st362⟩ := Jvm.LawKit.callS XJ361 hx (y := (⟨"com/example/keep_to_layer/keeptolayer/model/ClassNames", "outermostOf", "(Ljava/lang/String;)Ljava/lang/String;"⟩ : MethodName)) hoJ361 (mvT hZJ361 (hw _ (List.mem_of_getElem? (i := 30) rfl))) (mvT hZJ361 (hw _ (List.mem_of_getElem? (i := 31) rfl))) (mvT hZJ361 (hw _ (List.mem_of_getElem? (i := 32) rfl))) (mvT hZJ361 (hw _ (List.mem_of_getElem? (i := 33) rfl))) (by decide) (backOf (W := 0) (rm_outermost l Z a0 hw [] xs ts (gs.take kk) zc fm hJ361 OJ361 fJ361_1 st_COMPACT_STRINGS st_SIOOBE_FORMATTER (by first | assumption | decide) (by first | assumption | decide) (by omega) hlt) hZJ361 (hw _ (List.mem_of_getElem? (i := 33) rfl)) (hw _ (List.mem_of_getElem? (i := 32) rfl)) (by decide) (by decide)) (g := (mkF m 175 #[.val (.int p1), .val (.int p2), .val (.int p3), .val (.int p4), .val (.int (Int32.ofNat kk)), .val (.ref b323), .val (.ref ms), .val (.ref xs), .unset, .unset, .unset, .unset, .unset] [(.ref xs)])) rfl (by rw [hml]; rfl) (argsL := [(.ref xs)]) (rest := []) (lenOf pd_401 rfl) rfl (by show 2 * 0 + _ ≤ _; exact Nat.le_of_eq rfl) (hb hby at_175) (fun _ _ => ⟨rfl, eJ361, (by decide : 12 + 2 ≤ _), (by decide : 64 + 12 ≤ _)⟩)
      dsimp only [Pt.U, Pt.locs, Pt.cells, Pt.slots] at X362 l362 y362 z362 st362 hQ362
      subst l362 y362 z362
      obtain ⟨x_362, t_362, e__362, rfl, N362q, K362, f362_0, pr362_0⟩ := hQ362
      have N362 := Fr.app NJ361 N362q
      have z362 : hJ361.size ≤ T362.heap.size := K362.1
      have R362 : CHr Z consts_1 s.vm h0 vJ361 T362.heap := RJ361.trans (CHr.keep K362 sf0 RJ361.1)
      have lt362_0 : @LT.lt Nat _ x_362 T362.heap.size := f362_0.lt
      have ltv362_0 : @LT.lt Nat _ t_362 T362.heap.size := f362_0.ltv
      have hO := pr362_0
      refine own_Go.st st362 ?_
      show own_Go _ _ _ _ (T362.setTop (mkF m 178 #[.val (.int p1), .val (.int p2), .val (.int p3), .val (.int p4), .val (.int (Int32.ofNat kk)), .val (.ref b323), .val (.ref ms), .val (.ref xs), .unset, .unset, .unset, .unset, .unset] [(.ref x_362)]))
      refine own_Go.st (fun _ k => XS.astore X362.here hx rfl (hb hby at_178) rfl rfl (l' := #[.val (.int p1), .val (.int p2), .val (.int p3), .val (.int p4), .val (.int (Int32.ofNat kk)), .val (.ref b323), .val (.ref ms), .val (.ref xs), .val (.ref x_362), .unset, .unset, .unset, .unset]) rfl k) ?_
      show own_Go _ _ _ _ (T362.setTop (mkF m 180 #[.val (.int p1), .val (.int p2), .val (.int p3), .val (.int p4), .val (.int (Int32.ofNat kk)), .val (.ref b323), .val (.ref ms), .val (.ref xs), .val (.ref x_362), .unset, .unset, .unset, .unset] []))
      refine own_Go.st (fun _ k => XS.iconst X362.here hx rfl (hb hby at_180) k) ?_
      show own_Go _ _ _ _ (T362.setTop (mkF m 181 #[.val (.int p1), .val (.int p2), .val (.int p3), .val (.int p4), .val (.int (Int32.ofNat kk)), .val (.ref b323), .val (.ref ms), .val (.ref xs), .val (.ref x_362), .unset, .unset, .unset, .unset] [(.int (-1 : Int32))]))
      refine own_Go.st (fun _ k => XS.istore X362.here hx rfl (hb hby at_181) rfl (l' := #[.val (.int p1), .val (.int p2), .val (.int p3), .val (.int p4), .val (.int (Int32.ofNat kk)), .val (.ref b323), .val (.ref ms), .val (.ref xs), .val (.ref x_362), .val (.int (-1 : Int32)), .unset, .unset, .unset]) rfl k) ?_
      show own_Go _ _ _ _ (T362.setTop (mkF m 183 #[.val (.int p1), .val (.int p2), .val (.int p3), .val (.int p4), .val (.int (Int32.ofNat kk)), .val (.ref b323), .val (.ref ms), .val (.ref xs), .val (.ref x_362), .val (.int (-1 : Int32)), .unset, .unset, .unset] []))
      refine own_Go.st (fun _ k => XS.aload X362.here hx rfl (hb hby at_183) rfl rfl k) ?_
      show own_Go _ _ _ _ (T362.setTop (mkF m 185 #[.val (.int p1), .val (.int p2), .val (.int p3), .val (.int p4), .val (.int (Int32.ofNat kk)), .val (.ref b323), .val (.ref ms), .val (.ref xs), .val (.ref x_362), .val (.int (-1 : Int32)), .unset, .unset, .unset] [(.ref b323)]))
      refine own_Go.st (fun _ k => XS.iload X362.here hx rfl (hb hby at_185) rfl k) ?_
      show own_Go _ _ _ _ (T362.setTop (mkF m 187 #[.val (.int p1), .val (.int p2), .val (.int p3), .val (.int p4), .val (.int (Int32.ofNat kk)), .val (.ref b323), .val (.ref ms), .val (.ref xs), .val (.ref x_362), .val (.int (-1 : Int32)), .unset, .unset, .unset] [(.int (Int32.ofNat kk)), (.ref b323)]))
      refine own_Go.st (fun _ k => XS.iconst X362.here hx rfl (hb hby at_187) k) ?_
      show own_Go _ _ _ _ (T362.setTop (mkF m 188 #[.val (.int p1), .val (.int p2), .val (.int p3), .val (.int p4), .val (.int (Int32.ofNat kk)), .val (.ref b323), .val (.ref ms), .val (.ref xs), .val (.ref x_362), .val (.int (-1 : Int32)), .unset, .unset, .unset] [(.int (0 : Int32)), (.int (Int32.ofNat kk)), (.ref b323)]))
      refine own_Go.st (fun _ k => XS.bipush X362.here hx rfl (hb hby at_188) k) ?_
      show own_Go _ _ _ _ (T362.setTop (mkF m 190 #[.val (.int p1), .val (.int p2), .val (.int p3), .val (.int p4), .val (.int (Int32.ofNat kk)), .val (.ref b323), .val (.ref ms), .val (.ref xs), .val (.ref x_362), .val (.int (-1 : Int32)), .unset, .unset, .unset] [(.int (46 : Int32)), (.int (0 : Int32)), (.int (Int32.ofNat kk)), (.ref b323)]))
      have f364 : Arv Z T362.heap b323 k323 .char (6 : Int32) (gs.map Value.int) (.int (0 : Int32)) := fJ361_0.keep K362 nin0
      have f365 : Old Z Z.heap.size T362.heap := OJ361.keep K362 all0
      obtain ⟨_, _, ⟨T363, L363, k363, n363⟩, -, X363, ⟨Lc363, hQ363, l363, y363, z363⟩, st363⟩ := Jvm.LawKit.callS X362 hx (y := (⟨"com/example/keep_to_layer/keeptolayer/model/ClassNamesOutermostOfPinLaw", "is", "([CIIC)Z"⟩ : MethodName)) hoJ361 (mvT hZJ361 (hw _ (List.mem_of_getElem? (i := 82) rfl))) (mvT hZJ361 (hw _ (List.mem_of_getElem? (i := 83) rfl))) (mvT hZJ361 (hw _ (List.mem_of_getElem? (i := 4) rfl))) (mvT hZJ361 (hw _ (List.mem_of_getElem? (i := 84) rfl))) (by decide) (backOf (W := 0) (rm_is_ l Z a0 hw [] b323 (Int32.ofNat kk) (0 : Int32) (46 : Int32) gs k323 0 kk T362.heap f365 f364 rfl rfl ⟨hk6, by decide, hg6⟩) hZJ361 (hw _ (List.mem_of_getElem? (i := 84) rfl)) (hw _ (List.mem_of_getElem? (i := 4) rfl)) (by decide) (by decide)) (g := (mkF m 190 #[.val (.int p1), .val (.int p2), .val (.int p3), .val (.int p4), .val (.int (Int32.ofNat kk)), .val (.ref b323), .val (.ref ms), .val (.ref xs), .val (.ref x_362), .val (.int (-1 : Int32)), .unset, .unset, .unset] [(.int (46 : Int32)), (.int (0 : Int32)), (.int (Int32.ofNat kk)), (.ref b323)])) rfl (by rw [hml]; rfl) (argsL := [(.ref b323), (.int (Int32.ofNat kk)), (.int (0 : Int32)), (.int (46 : Int32))]) (rest := []) (lenOf pd_402 rfl) rfl (by show 2 * 0 + _ ≤ _; exact Nat.le_of_eq rfl) (hb hby at_190) (fun _ _ => ⟨rfl, rfl, (by decide : 14 + 0 ≤ _), (by decide : 76 + 0 ≤ _)⟩)
      dsimp only [Pt.U, Pt.locs, Pt.cells, Pt.slots] at X363 l363 y363 z363 st363 hQ363
      subst l363 y363 z363
      obtain ⟨r_363, rfl, N363q, K363, pr363_0⟩ := hQ363
      have N363 := Fr.app N362 N363q
      refine own_Go.st st363 ?_
      show own_Go _ _ _ _ (T363.setTop (mkF m 193 #[.val (.int p1), .val (.int p2), .val (.int p3), .val (.int p4), .val (.int (Int32.ofNat kk)), .val (.ref b323), .val (.ref ms), .val (.ref xs), .val (.ref x_362), .val (.int (-1 : Int32)), .unset, .unset, .unset] [(.int r_363)]))
      have J366 : ∀ (ld : Int32), (own_D gs kk 1 ld) → own_Go p.tables e below PP (T363.setTop (mkF m 199 #[.val (.int p1), .val (.int p2), .val (.int p3), .val (.int p4), .val (.int (Int32.ofNat kk)), .val (.ref b323), .val (.ref ms), .val (.ref xs), .val (.ref x_362), .val (.int ld), .unset, .unset, .unset] [])) := by
        intro ld hJ366
        refine own_Go.st (fun _ k => XS.aload X363.here hx rfl (hb hby at_199) rfl rfl k) ?_
        show own_Go _ _ _ _ (T363.setTop (mkF m 201 #[.val (.int p1), .val (.int p2), .val (.int p3), .val (.int p4), .val (.int (Int32.ofNat kk)), .val (.ref b323), .val (.ref ms), .val (.ref xs), .val (.ref x_362), .val (.int ld), .unset, .unset, .unset] [(.ref b323)]))
        refine own_Go.st (fun _ k => XS.iload X363.here hx rfl (hb hby at_201) rfl k) ?_
        show own_Go _ _ _ _ (T363.setTop (mkF m 203 #[.val (.int p1), .val (.int p2), .val (.int p3), .val (.int p4), .val (.int (Int32.ofNat kk)), .val (.ref b323), .val (.ref ms), .val (.ref xs), .val (.ref x_362), .val (.int ld), .unset, .unset, .unset] [(.int (Int32.ofNat kk)), (.ref b323)]))
        refine own_Go.st (fun _ k => XS.iconst X363.here hx rfl (hb hby at_203) k) ?_
        show own_Go _ _ _ _ (T363.setTop (mkF m 204 #[.val (.int p1), .val (.int p2), .val (.int p3), .val (.int p4), .val (.int (Int32.ofNat kk)), .val (.ref b323), .val (.ref ms), .val (.ref xs), .val (.ref x_362), .val (.int ld), .unset, .unset, .unset] [(.int (1 : Int32)), (.int (Int32.ofNat kk)), (.ref b323)]))
        refine own_Go.st (fun _ k => XS.bipush X363.here hx rfl (hb hby at_204) k) ?_
        show own_Go _ _ _ _ (T363.setTop (mkF m 206 #[.val (.int p1), .val (.int p2), .val (.int p3), .val (.int p4), .val (.int (Int32.ofNat kk)), .val (.ref b323), .val (.ref ms), .val (.ref xs), .val (.ref x_362), .val (.int ld), .unset, .unset, .unset] [(.int (46 : Int32)), (.int (1 : Int32)), (.int (Int32.ofNat kk)), (.ref b323)]))
        obtain ⟨_, _, ⟨T367, L367, k367, n367⟩, -, X367, ⟨Lc367, hQ367, l367, y367, z367⟩, st367⟩ := Jvm.LawKit.callS X363 hx (y := (⟨"com/example/keep_to_layer/keeptolayer/model/ClassNamesOutermostOfPinLaw", "is", "([CIIC)Z"⟩ : MethodName)) hoJ361 (mvT hZJ361 (hw _ (List.mem_of_getElem? (i := 82) rfl))) (mvT hZJ361 (hw _ (List.mem_of_getElem? (i := 83) rfl))) (mvT hZJ361 (hw _ (List.mem_of_getElem? (i := 4) rfl))) (mvT hZJ361 (hw _ (List.mem_of_getElem? (i := 84) rfl))) (by decide) (backOf (W := 0) (rm_is_ l Z a0 hw [] b323 (Int32.ofNat kk) (1 : Int32) (46 : Int32) gs k323 1 kk T362.heap f365 f364 rfl rfl ⟨hk6, by decide, hg6⟩) hZJ361 (hw _ (List.mem_of_getElem? (i := 84) rfl)) (hw _ (List.mem_of_getElem? (i := 4) rfl)) (by decide) (by decide)) (g := (mkF m 206 #[.val (.int p1), .val (.int p2), .val (.int p3), .val (.int p4), .val (.int (Int32.ofNat kk)), .val (.ref b323), .val (.ref ms), .val (.ref xs), .val (.ref x_362), .val (.int ld), .unset, .unset, .unset] [(.int (46 : Int32)), (.int (1 : Int32)), (.int (Int32.ofNat kk)), (.ref b323)])) rfl (by rw [hml]; rfl) (argsL := [(.ref b323), (.int (Int32.ofNat kk)), (.int (1 : Int32)), (.int (46 : Int32))]) (rest := []) (lenOf pd_402 rfl) rfl (by show 2 * 0 + _ ≤ _; exact Nat.le_of_eq rfl) (hb hby at_206) (fun _ _ => ⟨rfl, K363, (by decide : 14 + 0 ≤ _), (by decide : 76 + 0 ≤ _)⟩)
        dsimp only [Pt.U, Pt.locs, Pt.cells, Pt.slots] at X367 l367 y367 z367 st367 hQ367
        subst l367 y367 z367
        obtain ⟨r_367, rfl, N367q, K367, pr367_0⟩ := hQ367
        have N367 := Fr.app N363 N367q
        refine own_Go.st st367 ?_
        show own_Go _ _ _ _ (T367.setTop (mkF m 209 #[.val (.int p1), .val (.int p2), .val (.int p3), .val (.int p4), .val (.int (Int32.ofNat kk)), .val (.ref b323), .val (.ref ms), .val (.ref xs), .val (.ref x_362), .val (.int ld), .unset, .unset, .unset] [(.int r_367)]))
        have J368 : ∀ (ld : Int32), (own_D gs kk 2 ld) → own_Go p.tables e below PP (T367.setTop (mkF m 215 #[.val (.int p1), .val (.int p2), .val (.int p3), .val (.int p4), .val (.int (Int32.ofNat kk)), .val (.ref b323), .val (.ref ms), .val (.ref xs), .val (.ref x_362), .val (.int ld), .unset, .unset, .unset] [])) := by
          intro ld hJ368
          refine own_Go.st (fun _ k => XS.aload X367.here hx rfl (hb hby at_215) rfl rfl k) ?_
          show own_Go _ _ _ _ (T367.setTop (mkF m 217 #[.val (.int p1), .val (.int p2), .val (.int p3), .val (.int p4), .val (.int (Int32.ofNat kk)), .val (.ref b323), .val (.ref ms), .val (.ref xs), .val (.ref x_362), .val (.int ld), .unset, .unset, .unset] [(.ref b323)]))
          refine own_Go.st (fun _ k => XS.iload X367.here hx rfl (hb hby at_217) rfl k) ?_
          show own_Go _ _ _ _ (T367.setTop (mkF m 219 #[.val (.int p1), .val (.int p2), .val (.int p3), .val (.int p4), .val (.int (Int32.ofNat kk)), .val (.ref b323), .val (.ref ms), .val (.ref xs), .val (.ref x_362), .val (.int ld), .unset, .unset, .unset] [(.int (Int32.ofNat kk)), (.ref b323)]))
          refine own_Go.st (fun _ k => XS.iconst X367.here hx rfl (hb hby at_219) k) ?_
          show own_Go _ _ _ _ (T367.setTop (mkF m 220 #[.val (.int p1), .val (.int p2), .val (.int p3), .val (.int p4), .val (.int (Int32.ofNat kk)), .val (.ref b323), .val (.ref ms), .val (.ref xs), .val (.ref x_362), .val (.int ld), .unset, .unset, .unset] [(.int (2 : Int32)), (.int (Int32.ofNat kk)), (.ref b323)]))
          refine own_Go.st (fun _ k => XS.bipush X367.here hx rfl (hb hby at_220) k) ?_
          show own_Go _ _ _ _ (T367.setTop (mkF m 222 #[.val (.int p1), .val (.int p2), .val (.int p3), .val (.int p4), .val (.int (Int32.ofNat kk)), .val (.ref b323), .val (.ref ms), .val (.ref xs), .val (.ref x_362), .val (.int ld), .unset, .unset, .unset] [(.int (46 : Int32)), (.int (2 : Int32)), (.int (Int32.ofNat kk)), (.ref b323)]))
          obtain ⟨_, _, ⟨T369, L369, k369, n369⟩, -, X369, ⟨Lc369, hQ369, l369, y369, z369⟩, st369⟩ := Jvm.LawKit.callS X367 hx (y := (⟨"com/example/keep_to_layer/keeptolayer/model/ClassNamesOutermostOfPinLaw", "is", "([CIIC)Z"⟩ : MethodName)) hoJ361 (mvT hZJ361 (hw _ (List.mem_of_getElem? (i := 82) rfl))) (mvT hZJ361 (hw _ (List.mem_of_getElem? (i := 83) rfl))) (mvT hZJ361 (hw _ (List.mem_of_getElem? (i := 4) rfl))) (mvT hZJ361 (hw _ (List.mem_of_getElem? (i := 84) rfl))) (by decide) (backOf (W := 0) (rm_is_ l Z a0 hw [] b323 (Int32.ofNat kk) (2 : Int32) (46 : Int32) gs k323 2 kk T362.heap f365 f364 rfl rfl ⟨hk6, by decide, hg6⟩) hZJ361 (hw _ (List.mem_of_getElem? (i := 84) rfl)) (hw _ (List.mem_of_getElem? (i := 4) rfl)) (by decide) (by decide)) (g := (mkF m 222 #[.val (.int p1), .val (.int p2), .val (.int p3), .val (.int p4), .val (.int (Int32.ofNat kk)), .val (.ref b323), .val (.ref ms), .val (.ref xs), .val (.ref x_362), .val (.int ld), .unset, .unset, .unset] [(.int (46 : Int32)), (.int (2 : Int32)), (.int (Int32.ofNat kk)), (.ref b323)])) rfl (by rw [hml]; rfl) (argsL := [(.ref b323), (.int (Int32.ofNat kk)), (.int (2 : Int32)), (.int (46 : Int32))]) (rest := []) (lenOf pd_402 rfl) rfl (by show 2 * 0 + _ ≤ _; exact Nat.le_of_eq rfl) (hb hby at_222) (fun _ _ => ⟨rfl, K367, (by decide : 14 + 0 ≤ _), (by decide : 76 + 0 ≤ _)⟩)
          dsimp only [Pt.U, Pt.locs, Pt.cells, Pt.slots] at X369 l369 y369 z369 st369 hQ369
          subst l369 y369 z369
          obtain ⟨r_369, rfl, N369q, K369, pr369_0⟩ := hQ369
          have N369 := Fr.app N367 N369q
          refine own_Go.st st369 ?_
          show own_Go _ _ _ _ (T369.setTop (mkF m 225 #[.val (.int p1), .val (.int p2), .val (.int p3), .val (.int p4), .val (.int (Int32.ofNat kk)), .val (.ref b323), .val (.ref ms), .val (.ref xs), .val (.ref x_362), .val (.int ld), .unset, .unset, .unset] [(.int r_369)]))
          have J370 : ∀ (ld : Int32), (own_D gs kk 3 ld) → own_Go p.tables e below PP (T369.setTop (mkF m 231 #[.val (.int p1), .val (.int p2), .val (.int p3), .val (.int p4), .val (.int (Int32.ofNat kk)), .val (.ref b323), .val (.ref ms), .val (.ref xs), .val (.ref x_362), .val (.int ld), .unset, .unset, .unset] [])) := by
            intro ld hJ370
            refine own_Go.st (fun _ k => XS.aload X369.here hx rfl (hb hby at_231) rfl rfl k) ?_
            show own_Go _ _ _ _ (T369.setTop (mkF m 233 #[.val (.int p1), .val (.int p2), .val (.int p3), .val (.int p4), .val (.int (Int32.ofNat kk)), .val (.ref b323), .val (.ref ms), .val (.ref xs), .val (.ref x_362), .val (.int ld), .unset, .unset, .unset] [(.ref b323)]))
            refine own_Go.st (fun _ k => XS.iload X369.here hx rfl (hb hby at_233) rfl k) ?_
            show own_Go _ _ _ _ (T369.setTop (mkF m 235 #[.val (.int p1), .val (.int p2), .val (.int p3), .val (.int p4), .val (.int (Int32.ofNat kk)), .val (.ref b323), .val (.ref ms), .val (.ref xs), .val (.ref x_362), .val (.int ld), .unset, .unset, .unset] [(.int (Int32.ofNat kk)), (.ref b323)]))
            refine own_Go.st (fun _ k => XS.iconst X369.here hx rfl (hb hby at_235) k) ?_
            show own_Go _ _ _ _ (T369.setTop (mkF m 236 #[.val (.int p1), .val (.int p2), .val (.int p3), .val (.int p4), .val (.int (Int32.ofNat kk)), .val (.ref b323), .val (.ref ms), .val (.ref xs), .val (.ref x_362), .val (.int ld), .unset, .unset, .unset] [(.int (3 : Int32)), (.int (Int32.ofNat kk)), (.ref b323)]))
            refine own_Go.st (fun _ k => XS.bipush X369.here hx rfl (hb hby at_236) k) ?_
            show own_Go _ _ _ _ (T369.setTop (mkF m 238 #[.val (.int p1), .val (.int p2), .val (.int p3), .val (.int p4), .val (.int (Int32.ofNat kk)), .val (.ref b323), .val (.ref ms), .val (.ref xs), .val (.ref x_362), .val (.int ld), .unset, .unset, .unset] [(.int (46 : Int32)), (.int (3 : Int32)), (.int (Int32.ofNat kk)), (.ref b323)]))
            obtain ⟨_, _, ⟨T371, L371, k371, n371⟩, -, X371, ⟨Lc371, hQ371, l371, y371, z371⟩, st371⟩ := Jvm.LawKit.callS X369 hx (y := (⟨"com/example/keep_to_layer/keeptolayer/model/ClassNamesOutermostOfPinLaw", "is", "([CIIC)Z"⟩ : MethodName)) hoJ361 (mvT hZJ361 (hw _ (List.mem_of_getElem? (i := 82) rfl))) (mvT hZJ361 (hw _ (List.mem_of_getElem? (i := 83) rfl))) (mvT hZJ361 (hw _ (List.mem_of_getElem? (i := 4) rfl))) (mvT hZJ361 (hw _ (List.mem_of_getElem? (i := 84) rfl))) (by decide) (backOf (W := 0) (rm_is_ l Z a0 hw [] b323 (Int32.ofNat kk) (3 : Int32) (46 : Int32) gs k323 3 kk T362.heap f365 f364 rfl rfl ⟨hk6, by decide, hg6⟩) hZJ361 (hw _ (List.mem_of_getElem? (i := 84) rfl)) (hw _ (List.mem_of_getElem? (i := 4) rfl)) (by decide) (by decide)) (g := (mkF m 238 #[.val (.int p1), .val (.int p2), .val (.int p3), .val (.int p4), .val (.int (Int32.ofNat kk)), .val (.ref b323), .val (.ref ms), .val (.ref xs), .val (.ref x_362), .val (.int ld), .unset, .unset, .unset] [(.int (46 : Int32)), (.int (3 : Int32)), (.int (Int32.ofNat kk)), (.ref b323)])) rfl (by rw [hml]; rfl) (argsL := [(.ref b323), (.int (Int32.ofNat kk)), (.int (3 : Int32)), (.int (46 : Int32))]) (rest := []) (lenOf pd_402 rfl) rfl (by show 2 * 0 + _ ≤ _; exact Nat.le_of_eq rfl) (hb hby at_238) (fun _ _ => ⟨rfl, K369, (by decide : 14 + 0 ≤ _), (by decide : 76 + 0 ≤ _)⟩)
            dsimp only [Pt.U, Pt.locs, Pt.cells, Pt.slots] at X371 l371 y371 z371 st371 hQ371
            subst l371 y371 z371
            obtain ⟨r_371, rfl, N371q, K371, pr371_0⟩ := hQ371
            have N371 := Fr.app N369 N371q
            refine own_Go.st st371 ?_
            show own_Go _ _ _ _ (T371.setTop (mkF m 241 #[.val (.int p1), .val (.int p2), .val (.int p3), .val (.int p4), .val (.int (Int32.ofNat kk)), .val (.ref b323), .val (.ref ms), .val (.ref xs), .val (.ref x_362), .val (.int ld), .unset, .unset, .unset] [(.int r_371)]))
            have J372 : ∀ (ld : Int32), (own_D gs kk 4 ld) → own_Go p.tables e below PP (T371.setTop (mkF m 247 #[.val (.int p1), .val (.int p2), .val (.int p3), .val (.int p4), .val (.int (Int32.ofNat kk)), .val (.ref b323), .val (.ref ms), .val (.ref xs), .val (.ref x_362), .val (.int ld), .unset, .unset, .unset] [])) := by
              intro ld hJ372
              refine own_Go.st (fun _ k => XS.aload X371.here hx rfl (hb hby at_247) rfl rfl k) ?_
              show own_Go _ _ _ _ (T371.setTop (mkF m 249 #[.val (.int p1), .val (.int p2), .val (.int p3), .val (.int p4), .val (.int (Int32.ofNat kk)), .val (.ref b323), .val (.ref ms), .val (.ref xs), .val (.ref x_362), .val (.int ld), .unset, .unset, .unset] [(.ref b323)]))
              refine own_Go.st (fun _ k => XS.iload X371.here hx rfl (hb hby at_249) rfl k) ?_
              show own_Go _ _ _ _ (T371.setTop (mkF m 251 #[.val (.int p1), .val (.int p2), .val (.int p3), .val (.int p4), .val (.int (Int32.ofNat kk)), .val (.ref b323), .val (.ref ms), .val (.ref xs), .val (.ref x_362), .val (.int ld), .unset, .unset, .unset] [(.int (Int32.ofNat kk)), (.ref b323)]))
              refine own_Go.st (fun _ k => XS.iconst X371.here hx rfl (hb hby at_251) k) ?_
              show own_Go _ _ _ _ (T371.setTop (mkF m 252 #[.val (.int p1), .val (.int p2), .val (.int p3), .val (.int p4), .val (.int (Int32.ofNat kk)), .val (.ref b323), .val (.ref ms), .val (.ref xs), .val (.ref x_362), .val (.int ld), .unset, .unset, .unset] [(.int (4 : Int32)), (.int (Int32.ofNat kk)), (.ref b323)]))
              refine own_Go.st (fun _ k => XS.bipush X371.here hx rfl (hb hby at_252) k) ?_
              show own_Go _ _ _ _ (T371.setTop (mkF m 254 #[.val (.int p1), .val (.int p2), .val (.int p3), .val (.int p4), .val (.int (Int32.ofNat kk)), .val (.ref b323), .val (.ref ms), .val (.ref xs), .val (.ref x_362), .val (.int ld), .unset, .unset, .unset] [(.int (46 : Int32)), (.int (4 : Int32)), (.int (Int32.ofNat kk)), (.ref b323)]))
              obtain ⟨_, _, ⟨T373, L373, k373, n373⟩, -, X373, ⟨Lc373, hQ373, l373, y373, z373⟩, st373⟩ := Jvm.LawKit.callS X371 hx (y := (⟨"com/example/keep_to_layer/keeptolayer/model/ClassNamesOutermostOfPinLaw", "is", "([CIIC)Z"⟩ : MethodName)) hoJ361 (mvT hZJ361 (hw _ (List.mem_of_getElem? (i := 82) rfl))) (mvT hZJ361 (hw _ (List.mem_of_getElem? (i := 83) rfl))) (mvT hZJ361 (hw _ (List.mem_of_getElem? (i := 4) rfl))) (mvT hZJ361 (hw _ (List.mem_of_getElem? (i := 84) rfl))) (by decide) (backOf (W := 0) (rm_is_ l Z a0 hw [] b323 (Int32.ofNat kk) (4 : Int32) (46 : Int32) gs k323 4 kk T362.heap f365 f364 rfl rfl ⟨hk6, by decide, hg6⟩) hZJ361 (hw _ (List.mem_of_getElem? (i := 84) rfl)) (hw _ (List.mem_of_getElem? (i := 4) rfl)) (by decide) (by decide)) (g := (mkF m 254 #[.val (.int p1), .val (.int p2), .val (.int p3), .val (.int p4), .val (.int (Int32.ofNat kk)), .val (.ref b323), .val (.ref ms), .val (.ref xs), .val (.ref x_362), .val (.int ld), .unset, .unset, .unset] [(.int (46 : Int32)), (.int (4 : Int32)), (.int (Int32.ofNat kk)), (.ref b323)])) rfl (by rw [hml]; rfl) (argsL := [(.ref b323), (.int (Int32.ofNat kk)), (.int (4 : Int32)), (.int (46 : Int32))]) (rest := []) (lenOf pd_402 rfl) rfl (by show 2 * 0 + _ ≤ _; exact Nat.le_of_eq rfl) (hb hby at_254) (fun _ _ => ⟨rfl, K371, (by decide : 14 + 0 ≤ _), (by decide : 76 + 0 ≤ _)⟩)
              dsimp only [Pt.U, Pt.locs, Pt.cells, Pt.slots] at X373 l373 y373 z373 st373 hQ373
              subst l373 y373 z373
              obtain ⟨r_373, rfl, N373q, K373, pr373_0⟩ := hQ373
              have N373 := Fr.app N371 N373q
              refine own_Go.st st373 ?_
              show own_Go _ _ _ _ (T373.setTop (mkF m 257 #[.val (.int p1), .val (.int p2), .val (.int p3), .val (.int p4), .val (.int (Int32.ofNat kk)), .val (.ref b323), .val (.ref ms), .val (.ref xs), .val (.ref x_362), .val (.int ld), .unset, .unset, .unset] [(.int r_373)]))
              have J374 : ∀ (ld : Int32), (own_D gs kk 5 ld) → own_Go p.tables e below PP (T373.setTop (mkF m 263 #[.val (.int p1), .val (.int p2), .val (.int p3), .val (.int p4), .val (.int (Int32.ofNat kk)), .val (.ref b323), .val (.ref ms), .val (.ref xs), .val (.ref x_362), .val (.int ld), .unset, .unset, .unset] [])) := by
                intro ld hJ374
                refine own_Go.st (fun _ k => XS.aload X373.here hx rfl (hb hby at_263) rfl rfl k) ?_
                show own_Go _ _ _ _ (T373.setTop (mkF m 265 #[.val (.int p1), .val (.int p2), .val (.int p3), .val (.int p4), .val (.int (Int32.ofNat kk)), .val (.ref b323), .val (.ref ms), .val (.ref xs), .val (.ref x_362), .val (.int ld), .unset, .unset, .unset] [(.ref b323)]))
                refine own_Go.st (fun _ k => XS.iload X373.here hx rfl (hb hby at_265) rfl k) ?_
                show own_Go _ _ _ _ (T373.setTop (mkF m 267 #[.val (.int p1), .val (.int p2), .val (.int p3), .val (.int p4), .val (.int (Int32.ofNat kk)), .val (.ref b323), .val (.ref ms), .val (.ref xs), .val (.ref x_362), .val (.int ld), .unset, .unset, .unset] [(.int (Int32.ofNat kk)), (.ref b323)]))
                refine own_Go.st (fun _ k => XS.iconst X373.here hx rfl (hb hby at_267) k) ?_
                show own_Go _ _ _ _ (T373.setTop (mkF m 268 #[.val (.int p1), .val (.int p2), .val (.int p3), .val (.int p4), .val (.int (Int32.ofNat kk)), .val (.ref b323), .val (.ref ms), .val (.ref xs), .val (.ref x_362), .val (.int ld), .unset, .unset, .unset] [(.int (5 : Int32)), (.int (Int32.ofNat kk)), (.ref b323)]))
                refine own_Go.st (fun _ k => XS.bipush X373.here hx rfl (hb hby at_268) k) ?_
                show own_Go _ _ _ _ (T373.setTop (mkF m 270 #[.val (.int p1), .val (.int p2), .val (.int p3), .val (.int p4), .val (.int (Int32.ofNat kk)), .val (.ref b323), .val (.ref ms), .val (.ref xs), .val (.ref x_362), .val (.int ld), .unset, .unset, .unset] [(.int (46 : Int32)), (.int (5 : Int32)), (.int (Int32.ofNat kk)), (.ref b323)]))
                obtain ⟨_, _, ⟨T375, L375, k375, n375⟩, -, X375, ⟨Lc375, hQ375, l375, y375, z375⟩, st375⟩ := Jvm.LawKit.callS X373 hx (y := (⟨"com/example/keep_to_layer/keeptolayer/model/ClassNamesOutermostOfPinLaw", "is", "([CIIC)Z"⟩ : MethodName)) hoJ361 (mvT hZJ361 (hw _ (List.mem_of_getElem? (i := 82) rfl))) (mvT hZJ361 (hw _ (List.mem_of_getElem? (i := 83) rfl))) (mvT hZJ361 (hw _ (List.mem_of_getElem? (i := 4) rfl))) (mvT hZJ361 (hw _ (List.mem_of_getElem? (i := 84) rfl))) (by decide) (backOf (W := 0) (rm_is_ l Z a0 hw [] b323 (Int32.ofNat kk) (5 : Int32) (46 : Int32) gs k323 5 kk T362.heap f365 f364 rfl rfl ⟨hk6, by decide, hg6⟩) hZJ361 (hw _ (List.mem_of_getElem? (i := 84) rfl)) (hw _ (List.mem_of_getElem? (i := 4) rfl)) (by decide) (by decide)) (g := (mkF m 270 #[.val (.int p1), .val (.int p2), .val (.int p3), .val (.int p4), .val (.int (Int32.ofNat kk)), .val (.ref b323), .val (.ref ms), .val (.ref xs), .val (.ref x_362), .val (.int ld), .unset, .unset, .unset] [(.int (46 : Int32)), (.int (5 : Int32)), (.int (Int32.ofNat kk)), (.ref b323)])) rfl (by rw [hml]; rfl) (argsL := [(.ref b323), (.int (Int32.ofNat kk)), (.int (5 : Int32)), (.int (46 : Int32))]) (rest := []) (lenOf pd_402 rfl) rfl (by show 2 * 0 + _ ≤ _; exact Nat.le_of_eq rfl) (hb hby at_270) (fun _ _ => ⟨rfl, K373, (by decide : 14 + 0 ≤ _), (by decide : 76 + 0 ≤ _)⟩)
                dsimp only [Pt.U, Pt.locs, Pt.cells, Pt.slots] at X375 l375 y375 z375 st375 hQ375
                subst l375 y375 z375
                obtain ⟨r_375, rfl, N375q, K375, pr375_0⟩ := hQ375
                have N375 := Fr.app N373 N375q
                refine own_Go.st st375 ?_
                show own_Go _ _ _ _ (T375.setTop (mkF m 273 #[.val (.int p1), .val (.int p2), .val (.int p3), .val (.int p4), .val (.int (Int32.ofNat kk)), .val (.ref b323), .val (.ref ms), .val (.ref xs), .val (.ref x_362), .val (.int ld), .unset, .unset, .unset] [(.int r_375)]))
                have J376 : ∀ (ld : Int32), (own_D gs kk 6 ld) → own_Go p.tables e below PP (T375.setTop (mkF m 279 #[.val (.int p1), .val (.int p2), .val (.int p3), .val (.int p4), .val (.int (Int32.ofNat kk)), .val (.ref b323), .val (.ref ms), .val (.ref xs), .val (.ref x_362), .val (.int ld), .unset, .unset, .unset] [])) := by
                  intro ld hJ376
                  obtain ⟨st, hst, rfl, hD1, hD2⟩ := hJ376
                  show own_Go _ _ _ _ (T375.setTop (mkF m 279 #[.val (.int p1), .val (.int p2), .val (.int p3), .val (.int p4), .val (.int (Int32.ofNat kk)), .val (.ref b323), .val (.ref ms), .val (.ref xs), .val (.ref x_362), .val (.int (own_lds st)), .unset, .unset, .unset] []))
                  have hD2' : ∀ j, st ≤ j → j < kk → gs.getD j 0 ≠ 46 := fun j a b => hD2 j a (by omega) b
                  refine own_Go.st (fun _ k => XS.iload X375.here hx rfl (hb hby at_279) rfl k) ?_
                  show own_Go _ _ _ _ (T375.setTop (mkF m 281 #[.val (.int p1), .val (.int p2), .val (.int p3), .val (.int p4), .val (.int (Int32.ofNat kk)), .val (.ref b323), .val (.ref ms), .val (.ref xs), .val (.ref x_362), .val (.int (own_lds st)), .unset, .unset, .unset] [(.int (own_lds st))]))
                  refine own_Go.st (fun _ k => XS.iconst X375.here hx rfl (hb hby at_281) k) ?_
                  show own_Go _ _ _ _ (T375.setTop (mkF m 282 #[.val (.int p1), .val (.int p2), .val (.int p3), .val (.int p4), .val (.int (Int32.ofNat kk)), .val (.ref b323), .val (.ref ms), .val (.ref xs), .val (.ref x_362), .val (.int (own_lds st)), .unset, .unset, .unset] [(.int (1 : Int32)), (.int (own_lds st))]))
                  refine own_Go.st (fun _ k => XS.iadd X375.here hx rfl (hb hby at_282) rfl k) ?_
                  show own_Go _ _ _ _ (T375.setTop (mkF m 283 #[.val (.int p1), .val (.int p2), .val (.int p3), .val (.int p4), .val (.int (Int32.ofNat kk)), .val (.ref b323), .val (.ref ms), .val (.ref xs), .val (.ref x_362), .val (.int (own_lds st)), .unset, .unset, .unset] [(.int ((own_lds st) + (1 : Int32)))]))
                  rw [own_lds1 hst]
                  show own_Go _ _ _ _ (T375.setTop (mkF m 283 #[.val (.int p1), .val (.int p2), .val (.int p3), .val (.int p4), .val (.int (Int32.ofNat kk)), .val (.ref b323), .val (.ref ms), .val (.ref xs), .val (.ref x_362), .val (.int (own_lds st)), .unset, .unset, .unset] [(.int (Int32.ofNat st))]))
                  refine own_Go.st (fun _ k => XS.istore X375.here hx rfl (hb hby at_283) rfl (l' := #[.val (.int p1), .val (.int p2), .val (.int p3), .val (.int p4), .val (.int (Int32.ofNat kk)), .val (.ref b323), .val (.ref ms), .val (.ref xs), .val (.ref x_362), .val (.int (own_lds st)), .val (.int (Int32.ofNat st)), .unset, .unset]) rfl k) ?_
                  show own_Go _ _ _ _ (T375.setTop (mkF m 285 #[.val (.int p1), .val (.int p2), .val (.int p3), .val (.int p4), .val (.int (Int32.ofNat kk)), .val (.ref b323), .val (.ref ms), .val (.ref xs), .val (.ref x_362), .val (.int (own_lds st)), .val (.int (Int32.ofNat st)), .unset, .unset] []))
                  refine own_Go.st (fun _ k => XS.iconst X375.here hx rfl (hb hby at_285) k) ?_
                  show own_Go _ _ _ _ (T375.setTop (mkF m 286 #[.val (.int p1), .val (.int p2), .val (.int p3), .val (.int p4), .val (.int (Int32.ofNat kk)), .val (.ref b323), .val (.ref ms), .val (.ref xs), .val (.ref x_362), .val (.int (own_lds st)), .val (.int (Int32.ofNat st)), .unset, .unset] [(.int (-1 : Int32))]))
                  refine own_Go.st (fun _ k => XS.istore X375.here hx rfl (hb hby at_286) rfl (l' := #[.val (.int p1), .val (.int p2), .val (.int p3), .val (.int p4), .val (.int (Int32.ofNat kk)), .val (.ref b323), .val (.ref ms), .val (.ref xs), .val (.ref x_362), .val (.int (own_lds st)), .val (.int (Int32.ofNat st)), .val (.int (-1 : Int32)), .unset]) rfl k) ?_
                  show own_Go _ _ _ _ (T375.setTop (mkF m 288 #[.val (.int p1), .val (.int p2), .val (.int p3), .val (.int p4), .val (.int (Int32.ofNat kk)), .val (.ref b323), .val (.ref ms), .val (.ref xs), .val (.ref x_362), .val (.int (own_lds st)), .val (.int (Int32.ofNat st)), .val (.int (-1 : Int32)), .unset] []))
                  have HJ377 : ∀ (ct : Int32) (TJ377 : State) (hJ377 : Heap) (lJ377 : List Loc), (own_C gs kk st 5 ct) → (Stand p l e room_1 (s.setVm vJ361) m #[(.int p1), (.int p2), (.int p3), (.int p4)] below meth c TJ377 lJ377 14 76) → (TJ377.heap = hJ377) → (Fr Z.heap.size lJ377) → (Keep h0 hJ377 []) → (Old Z Z.heap.size hJ377) → (T362.heap.size ≤ hJ377.size) → (CHr Z consts_1 s.vm h0 vJ361 hJ377) → (Arv Z hJ377 b323 k323 .char (6 : Int32) (gs.map Value.int) (.int (0 : Int32))) → (own_Str Z hJ377 x_362 t_362 ((gs.take kk).take e__362)) → own_Go p.tables e below PP (TJ377.setTop (mkF m 310 #[.val (.int p1), .val (.int p2), .val (.int p3), .val (.int p4), .val (.int (Int32.ofNat kk)), .val (.ref b323), .val (.ref ms), .val (.ref xs), .val (.ref x_362), .val (.int (own_lds st)), .val (.int (Int32.ofNat st)), .val (.int ct), .unset] [])) := by
                    intro ct TJ377 hJ377 lJ377 hct5 XJ377 eJ377 NJ377 KJ377 OJ377 zJ377 RJ377 fJ377_0 fJ377_1
                    have zK377 : h0.size ≤ hJ377.size := KJ377.1
                    have ltJ377_0 : @LT.lt Nat _ b323 hJ377.size := fJ377_0.lt
                    have ltJ377_1 : @LT.lt Nat _ x_362 hJ377.size := fJ377_1.lt
                    have ltJv377_1 : @LT.lt Nat _ t_362 hJ377.size := fJ377_1.ltv
                    show own_Go _ _ _ _ (TJ377.setTop (mkF m 310 #[.val (.int p1), .val (.int p2), .val (.int p3), .val (.int p4), .val (.int (Int32.ofNat kk)), .val (.ref b323), .val (.ref ms), .val (.ref xs), .val (.ref x_362), .val (.int (own_lds st)), .val (.int (Int32.ofNat st)), .val (.int ct), .unset] []))
                    have HJ378 : ∀ (ct : Int32) (TJ378 : State) (hJ378 : Heap) (lJ378 : List Loc), (own_C gs kk st 4 ct) → (Stand p l e room_1 (s.setVm vJ361) m #[(.int p1), (.int p2), (.int p3), (.int p4)] below meth c TJ378 lJ378 14 76) → (TJ378.heap = hJ378) → (Fr Z.heap.size lJ378) → (Keep h0 hJ378 []) → (Old Z Z.heap.size hJ378) → (hJ377.size ≤ hJ378.size) → (CHr Z consts_1 s.vm h0 vJ361 hJ378) → (Arv Z hJ378 b323 k323 .char (6 : Int32) (gs.map Value.int) (.int (0 : Int32))) → (own_Str Z hJ378 x_362 t_362 ((gs.take kk).take e__362)) → own_Go p.tables e below PP (TJ378.setTop (mkF m 332 #[.val (.int p1), .val (.int p2), .val (.int p3), .val (.int p4), .val (.int (Int32.ofNat kk)), .val (.ref b323), .val (.ref ms), .val (.ref xs), .val (.ref x_362), .val (.int (own_lds st)), .val (.int (Int32.ofNat st)), .val (.int ct), .unset] [])) := by
                      intro ct TJ378 hJ378 lJ378 hct4 XJ378 eJ378 NJ378 KJ378 OJ378 zJ378 RJ378 fJ378_0 fJ378_1
                      have zK378 : h0.size ≤ hJ378.size := KJ378.1
                      have ltJ378_0 : @LT.lt Nat _ b323 hJ378.size := fJ378_0.lt
                      have ltJ378_1 : @LT.lt Nat _ x_362 hJ378.size := fJ378_1.lt
                      have ltJv378_1 : @LT.lt Nat _ t_362 hJ378.size := fJ378_1.ltv
                      show own_Go _ _ _ _ (TJ378.setTop (mkF m 332 #[.val (.int p1), .val (.int p2), .val (.int p3), .val (.int p4), .val (.int (Int32.ofNat kk)), .val (.ref b323), .val (.ref ms), .val (.ref xs), .val (.ref x_362), .val (.int (own_lds st)), .val (.int (Int32.ofNat st)), .val (.int ct), .unset] []))
                      have HJ379 : ∀ (ct : Int32) (TJ379 : State) (hJ379 : Heap) (lJ379 : List Loc), (own_C gs kk st 3 ct) → (Stand p l e room_1 (s.setVm vJ361) m #[(.int p1), (.int p2), (.int p3), (.int p4)] below meth c TJ379 lJ379 14 76) → (TJ379.heap = hJ379) → (Fr Z.heap.size lJ379) → (Keep h0 hJ379 []) → (Old Z Z.heap.size hJ379) → (hJ378.size ≤ hJ379.size) → (CHr Z consts_1 s.vm h0 vJ361 hJ379) → (Arv Z hJ379 b323 k323 .char (6 : Int32) (gs.map Value.int) (.int (0 : Int32))) → (own_Str Z hJ379 x_362 t_362 ((gs.take kk).take e__362)) → own_Go p.tables e below PP (TJ379.setTop (mkF m 354 #[.val (.int p1), .val (.int p2), .val (.int p3), .val (.int p4), .val (.int (Int32.ofNat kk)), .val (.ref b323), .val (.ref ms), .val (.ref xs), .val (.ref x_362), .val (.int (own_lds st)), .val (.int (Int32.ofNat st)), .val (.int ct), .unset] [])) := by
                        intro ct TJ379 hJ379 lJ379 hct3 XJ379 eJ379 NJ379 KJ379 OJ379 zJ379 RJ379 fJ379_0 fJ379_1
                        have zK379 : h0.size ≤ hJ379.size := KJ379.1
                        have ltJ379_0 : @LT.lt Nat _ b323 hJ379.size := fJ379_0.lt
                        have ltJ379_1 : @LT.lt Nat _ x_362 hJ379.size := fJ379_1.lt
                        have ltJv379_1 : @LT.lt Nat _ t_362 hJ379.size := fJ379_1.ltv
                        show own_Go _ _ _ _ (TJ379.setTop (mkF m 354 #[.val (.int p1), .val (.int p2), .val (.int p3), .val (.int p4), .val (.int (Int32.ofNat kk)), .val (.ref b323), .val (.ref ms), .val (.ref xs), .val (.ref x_362), .val (.int (own_lds st)), .val (.int (Int32.ofNat st)), .val (.int ct), .unset] []))
                        have HJ380 : ∀ (ct : Int32) (TJ380 : State) (hJ380 : Heap) (lJ380 : List Loc), (own_C gs kk st 2 ct) → (Stand p l e room_1 (s.setVm vJ361) m #[(.int p1), (.int p2), (.int p3), (.int p4)] below meth c TJ380 lJ380 14 76) → (TJ380.heap = hJ380) → (Fr Z.heap.size lJ380) → (Keep h0 hJ380 []) → (Old Z Z.heap.size hJ380) → (hJ379.size ≤ hJ380.size) → (CHr Z consts_1 s.vm h0 vJ361 hJ380) → (Arv Z hJ380 b323 k323 .char (6 : Int32) (gs.map Value.int) (.int (0 : Int32))) → (own_Str Z hJ380 x_362 t_362 ((gs.take kk).take e__362)) → own_Go p.tables e below PP (TJ380.setTop (mkF m 376 #[.val (.int p1), .val (.int p2), .val (.int p3), .val (.int p4), .val (.int (Int32.ofNat kk)), .val (.ref b323), .val (.ref ms), .val (.ref xs), .val (.ref x_362), .val (.int (own_lds st)), .val (.int (Int32.ofNat st)), .val (.int ct), .unset] [])) := by
                          intro ct TJ380 hJ380 lJ380 hct2 XJ380 eJ380 NJ380 KJ380 OJ380 zJ380 RJ380 fJ380_0 fJ380_1
                          have zK380 : h0.size ≤ hJ380.size := KJ380.1
                          have ltJ380_0 : @LT.lt Nat _ b323 hJ380.size := fJ380_0.lt
                          have ltJ380_1 : @LT.lt Nat _ x_362 hJ380.size := fJ380_1.lt
                          have ltJv380_1 : @LT.lt Nat _ t_362 hJ380.size := fJ380_1.ltv
                          show own_Go _ _ _ _ (TJ380.setTop (mkF m 376 #[.val (.int p1), .val (.int p2), .val (.int p3), .val (.int p4), .val (.int (Int32.ofNat kk)), .val (.ref b323), .val (.ref ms), .val (.ref xs), .val (.ref x_362), .val (.int (own_lds st)), .val (.int (Int32.ofNat st)), .val (.int ct), .unset] []))
                          have HJ381 : ∀ (ct : Int32) (TJ381 : State) (hJ381 : Heap) (lJ381 : List Loc), (own_C gs kk st 1 ct) → (Stand p l e room_1 (s.setVm vJ361) m #[(.int p1), (.int p2), (.int p3), (.int p4)] below meth c TJ381 lJ381 14 76) → (TJ381.heap = hJ381) → (Fr Z.heap.size lJ381) → (Keep h0 hJ381 []) → (Old Z Z.heap.size hJ381) → (hJ380.size ≤ hJ381.size) → (CHr Z consts_1 s.vm h0 vJ361 hJ381) → (Arv Z hJ381 b323 k323 .char (6 : Int32) (gs.map Value.int) (.int (0 : Int32))) → (own_Str Z hJ381 x_362 t_362 ((gs.take kk).take e__362)) → own_Go p.tables e below PP (TJ381.setTop (mkF m 398 #[.val (.int p1), .val (.int p2), .val (.int p3), .val (.int p4), .val (.int (Int32.ofNat kk)), .val (.ref b323), .val (.ref ms), .val (.ref xs), .val (.ref x_362), .val (.int (own_lds st)), .val (.int (Int32.ofNat st)), .val (.int ct), .unset] [])) := by
                            intro ct TJ381 hJ381 lJ381 hct1 XJ381 eJ381 NJ381 KJ381 OJ381 zJ381 RJ381 fJ381_0 fJ381_1
                            have zK381 : h0.size ≤ hJ381.size := KJ381.1
                            have ltJ381_0 : @LT.lt Nat _ b323 hJ381.size := fJ381_0.lt
                            have ltJ381_1 : @LT.lt Nat _ x_362 hJ381.size := fJ381_1.lt
                            have ltJv381_1 : @LT.lt Nat _ t_362 hJ381.size := fJ381_1.ltv
                            show own_Go _ _ _ _ (TJ381.setTop (mkF m 398 #[.val (.int p1), .val (.int p2), .val (.int p3), .val (.int p4), .val (.int (Int32.ofNat kk)), .val (.ref b323), .val (.ref ms), .val (.ref xs), .val (.ref x_362), .val (.int (own_lds st)), .val (.int (Int32.ofNat st)), .val (.int ct), .unset] []))
                            have J382 : ∀ (ev : Int32), (∃ e, ev = Int32.ofNat e ∧ own_F gs kk st e) → own_Go p.tables e below PP (TJ381.setTop (mkF m 410 #[.val (.int p1), .val (.int p2), .val (.int p3), .val (.int p4), .val (.int (Int32.ofNat kk)), .val (.ref b323), .val (.ref ms), .val (.ref xs), .val (.ref x_362), .val (.int (own_lds st)), .val (.int (Int32.ofNat st)), .val (.int ct), .unset] [(.int ev)])) := by
                              intro ev hJ382
                              obtain ⟨eF, rfl, hF⟩ := hJ382
                              show own_Go _ _ _ _ (TJ381.setTop (mkF m 410 #[.val (.int p1), .val (.int p2), .val (.int p3), .val (.int p4), .val (.int (Int32.ofNat kk)), .val (.ref b323), .val (.ref ms), .val (.ref xs), .val (.ref x_362), .val (.int (own_lds st)), .val (.int (Int32.ofNat st)), .val (.int ct), .unset] [(.int (Int32.ofNat eF))]))
                              have hEq : e__362 = eF := own_uni (by omega) hO hD1 hD2' hF
                              have hFk := hF.1
                              have hRl : ((gs.take kk).take e__362).length = eF := by rw [List.length_take, hlk]; omega
                              have hlr : ∀ c ∈ ((gs.take kk).take e__362), ¬ c < 0 ∧ ¬ (255 : Int32) < c := fun c hc => hlt c (List.mem_of_mem_take hc)
                              refine own_Go.st (fun _ k => XS.istore XJ381.here hx rfl (hb hby at_410) rfl (l' := #[.val (.int p1), .val (.int p2), .val (.int p3), .val (.int p4), .val (.int (Int32.ofNat kk)), .val (.ref b323), .val (.ref ms), .val (.ref xs), .val (.ref x_362), .val (.int (own_lds st)), .val (.int (Int32.ofNat st)), .val (.int ct), .val (.int (Int32.ofNat eF))]) rfl k) ?_
                              show own_Go _ _ _ _ (TJ381.setTop (mkF m 412 #[.val (.int p1), .val (.int p2), .val (.int p3), .val (.int p4), .val (.int (Int32.ofNat kk)), .val (.ref b323), .val (.ref ms), .val (.ref xs), .val (.ref x_362), .val (.int (own_lds st)), .val (.int (Int32.ofNat st)), .val (.int ct), .val (.int (Int32.ofNat eF))] []))
                              refine own_Go.st (fun _ k => XS.aload XJ381.here hx rfl (hb hby at_412) rfl rfl k) ?_
                              show own_Go _ _ _ _ (TJ381.setTop (mkF m 414 #[.val (.int p1), .val (.int p2), .val (.int p3), .val (.int p4), .val (.int (Int32.ofNat kk)), .val (.ref b323), .val (.ref ms), .val (.ref xs), .val (.ref x_362), .val (.int (own_lds st)), .val (.int (Int32.ofNat st)), .val (.int ct), .val (.int (Int32.ofNat eF))] [(.ref x_362)]))
                              refine own_Go.st (fun _ k => XS.ifnullNo XJ381.here hx rfl (hb hby at_414) rfl k) ?_
                              show own_Go _ _ _ _ (TJ381.setTop (mkF m 417 #[.val (.int p1), .val (.int p2), .val (.int p3), .val (.int p4), .val (.int (Int32.ofNat kk)), .val (.ref b323), .val (.ref ms), .val (.ref xs), .val (.ref x_362), .val (.int (own_lds st)), .val (.int (Int32.ofNat st)), .val (.int ct), .val (.int (Int32.ofNat eF))] []))
                              refine own_Go.st (fun _ k => XS.aload XJ381.here hx rfl (hb hby at_417) rfl rfl k) ?_
                              show own_Go _ _ _ _ (TJ381.setTop (mkF m 419 #[.val (.int p1), .val (.int p2), .val (.int p3), .val (.int p4), .val (.int (Int32.ofNat kk)), .val (.ref b323), .val (.ref ms), .val (.ref xs), .val (.ref x_362), .val (.int (own_lds st)), .val (.int (Int32.ofNat st)), .val (.int ct), .val (.int (Int32.ofNat eF))] [(.ref x_362)]))
                              obtain ⟨kb384, cd384, N384_, vs384, s1384, s2384, s3384, s4384, s5384, s6384, s7384⟩ := id fJ381_1
                              obtain ⟨cq383, kq383, q383a, q383b, q383c⟩ := isOf hZJ361 eJ381 fJ381_1.exa
                              obtain ⟨_, _, ⟨T383, L383, k383, n383⟩, -, X383, ⟨Lc383, hQ383, l383, y383, z383⟩, st383⟩ := XJ381.virtualBack hx (y := (⟨"java/lang/String", "length", "()I"⟩ : MethodName)) (z := (⟨"java/lang/String", "length", "()I"⟩ : MethodName)) hoJ361 (mvT hZJ361 (hw _ (List.mem_of_getElem? (i := 85) rfl))) (mvT hZJ361 (hw _ (List.mem_of_getElem? (i := 40) rfl))) (notFace_of_selects (args := #[]) (mvT hZJ361 (hw _ (List.mem_of_getElem? (i := 42) rfl)))) (mvT hZJ361 (hw _ (List.mem_of_getElem? (i := 42) rfl))) (mvT hZJ361 (hw _ (List.mem_of_getElem? (i := 41) rfl))) (by decide) (StrChars.Road.lenW (W := 0) hZJ361 (own_hln hw) (kI := 4) (hw _ (List.mem_of_getElem? (i := 10) rfl)) s1384 s2384 s3384 s4384 s5384 s6384 (st_COMPACT_STRINGS.ext OJ381.2) hzc s7384 (by decide) (by decide)) q383a q383c (g := (mkF m 419 #[.val (.int p1), .val (.int p2), .val (.int p3), .val (.int p4), .val (.int (Int32.ofNat kk)), .val (.ref b323), .val (.ref ms), .val (.ref xs), .val (.ref x_362), .val (.int (own_lds st)), .val (.int (Int32.ofNat st)), .val (.int ct), .val (.int (Int32.ofNat eF))] [(.ref x_362)])) rfl (by rw [hml]; rfl) (Steps.refl _) (argsL := []) (rest := []) (lenOf pd_134 rfl) rfl (by show 2 * 0 + _ ≤ _; exact Nat.le_of_eq rfl) (hb hby at_419) (fun _ _ => ⟨rfl, eJ381, (by decide : 14 + 0 ≤ _), (by decide : 76 + 0 ≤ _)⟩)
                              dsimp only [Pt.U, Pt.locs, Pt.cells, Pt.slots] at X383 l383 y383 z383 st383 hQ383
                              subst l383 y383 z383
                              obtain ⟨rfl, rfl, K383⟩ := hQ383
                              have N383 := Fr.app NJ381 (Fr.nil Z.heap.size)
                              refine own_Go.tr st383 ?_
                              show own_Go _ _ _ _ (T383.setTop (mkF m 422 #[.val (.int p1), .val (.int p2), .val (.int p3), .val (.int p4), .val (.int (Int32.ofNat kk)), .val (.ref b323), .val (.ref ms), .val (.ref xs), .val (.ref x_362), .val (.int (own_lds st)), .val (.int (Int32.ofNat st)), .val (.int ct), .val (.int (Int32.ofNat eF))] [(.int (Int32.ofNat ((gs.take kk).take e__362).length))]))
                              refine own_Go.st (fun _ k => XS.iload X383.here hx rfl (hb hby at_422) rfl k) ?_
                              show own_Go _ _ _ _ (T383.setTop (mkF m 424 #[.val (.int p1), .val (.int p2), .val (.int p3), .val (.int p4), .val (.int (Int32.ofNat kk)), .val (.ref b323), .val (.ref ms), .val (.ref xs), .val (.ref x_362), .val (.int (own_lds st)), .val (.int (Int32.ofNat st)), .val (.int ct), .val (.int (Int32.ofNat eF))] [(.int (Int32.ofNat eF)), (.int (Int32.ofNat ((gs.take kk).take e__362).length))]))
                              have hc385 : (Int32.ofNat ((gs.take kk).take e__362).length) = (Int32.ofNat eF) := by rw [hRl]
                              refine own_Go.st (fun _ k => XS.icmpYes X383.here hx rfl (pc0 := 424) (pc' := 429) rfl (hb hby at_424) rfl (teq hc385).1 (by decide) (by decide) k) ?_
                              show own_Go _ _ _ _ (T383.setTop (mkF m 429 #[.val (.int p1), .val (.int p2), .val (.int p3), .val (.int p4), .val (.int (Int32.ofNat kk)), .val (.ref b323), .val (.ref ms), .val (.ref xs), .val (.ref x_362), .val (.int (own_lds st)), .val (.int (Int32.ofNat st)), .val (.int ct), .val (.int (Int32.ofNat eF))] []))
                              refine own_Go.st (fun _ k => XS.aload X383.here hx rfl (hb hby at_429) rfl rfl k) ?_
                              show own_Go _ _ _ _ (T383.setTop (mkF m 431 #[.val (.int p1), .val (.int p2), .val (.int p3), .val (.int p4), .val (.int (Int32.ofNat kk)), .val (.ref b323), .val (.ref ms), .val (.ref xs), .val (.ref x_362), .val (.int (own_lds st)), .val (.int (Int32.ofNat st)), .val (.int ct), .val (.int (Int32.ofNat eF))] [(.ref x_362)]))
                              refine own_Go.st (fun _ k => XS.aload X383.here hx rfl (hb hby at_431) rfl rfl k) ?_
                              show own_Go _ _ _ _ (T383.setTop (mkF m 433 #[.val (.int p1), .val (.int p2), .val (.int p3), .val (.int p4), .val (.int (Int32.ofNat kk)), .val (.ref b323), .val (.ref ms), .val (.ref xs), .val (.ref x_362), .val (.int (own_lds st)), .val (.int (Int32.ofNat st)), .val (.int ct), .val (.int (Int32.ofNat eF))] [(.ref b323), (.ref x_362)]))
                              refine own_Go.st (fun _ k => XS.iload X383.here hx rfl (hb hby at_433) rfl k) ?_
                              show own_Go _ _ _ _ (T383.setTop (mkF m 435 #[.val (.int p1), .val (.int p2), .val (.int p3), .val (.int p4), .val (.int (Int32.ofNat kk)), .val (.ref b323), .val (.ref ms), .val (.ref xs), .val (.ref x_362), .val (.int (own_lds st)), .val (.int (Int32.ofNat st)), .val (.int ct), .val (.int (Int32.ofNat eF))] [(.int (Int32.ofNat eF)), (.ref b323), (.ref x_362)]))
                              refine own_Go.st (fun _ k => XS.iconst X383.here hx rfl (hb hby at_435) k) ?_
                              show own_Go _ _ _ _ (T383.setTop (mkF m 436 #[.val (.int p1), .val (.int p2), .val (.int p3), .val (.int p4), .val (.int (Int32.ofNat kk)), .val (.ref b323), .val (.ref ms), .val (.ref xs), .val (.ref x_362), .val (.int (own_lds st)), .val (.int (Int32.ofNat st)), .val (.int ct), .val (.int (Int32.ofNat eF))] [(.int (0 : Int32)), (.int (Int32.ofNat eF)), (.ref b323), (.ref x_362)]))
                              obtain ⟨_, _, ⟨T386, L386, k386, n386⟩, -, X386, ⟨Lc386, hQ386, l386, y386, z386⟩, st386⟩ := Jvm.LawKit.callS X383 hx (y := (⟨"com/example/keep_to_layer/keeptolayer/model/ClassNamesOutermostOfPinLaw", "same", "(Ljava/lang/String;[CII)Z"⟩ : MethodName)) hoJ361 (mvT hZJ361 (hw _ (List.mem_of_getElem? (i := 86) rfl))) (mvT hZJ361 (hw _ (List.mem_of_getElem? (i := 87) rfl))) (mvT hZJ361 (hw _ (List.mem_of_getElem? (i := 4) rfl))) (mvT hZJ361 (hw _ (List.mem_of_getElem? (i := 88) rfl))) (by decide) (backOf (W := 0) (rm_same l Z a0 hw [] x_362 b323 (Int32.ofNat eF) (0 : Int32) gs k323 0 eF t_362 ((gs.take kk).take e__362) zc fm hJ381 OJ381 fJ381_1 fJ381_0 st_COMPACT_STRINGS st_SIOOBE_FORMATTER (by first | assumption | decide) (by first | assumption | decide) rfl rfl ⟨by omega, by decide, hg6⟩ (fun q => ⟨by rw [hRl]; exact q, by rw [own_tg (by omega), own_tg (by omega)]⟩) hlr) hZJ361 (hw _ (List.mem_of_getElem? (i := 88) rfl)) (hw _ (List.mem_of_getElem? (i := 4) rfl)) (by decide) (by decide)) (g := (mkF m 436 #[.val (.int p1), .val (.int p2), .val (.int p3), .val (.int p4), .val (.int (Int32.ofNat kk)), .val (.ref b323), .val (.ref ms), .val (.ref xs), .val (.ref x_362), .val (.int (own_lds st)), .val (.int (Int32.ofNat st)), .val (.int ct), .val (.int (Int32.ofNat eF))] [(.int (0 : Int32)), (.int (Int32.ofNat eF)), (.ref b323), (.ref x_362)])) rfl (by rw [hml]; rfl) (argsL := [(.ref x_362), (.ref b323), (.int (Int32.ofNat eF)), (.int (0 : Int32))]) (rest := []) (lenOf pd_403 rfl) rfl (by show 2 * 0 + _ ≤ _; exact Nat.le_of_eq rfl) (hb hby at_436) (fun _ _ => ⟨rfl, K383, (by decide : 14 + 0 ≤ _), (by decide : 76 + 0 ≤ _)⟩)
                              dsimp only [Pt.U, Pt.locs, Pt.cells, Pt.slots] at X386 l386 y386 z386 st386 hQ386
                              subst l386 y386 z386
                              obtain ⟨rfl, N386q, K386⟩ := hQ386
                              have N386 := Fr.app N383 N386q
                              refine own_Go.st st386 ?_
                              show own_Go _ _ _ _ (T386.setTop (mkF m 439 #[.val (.int p1), .val (.int p2), .val (.int p3), .val (.int p4), .val (.int (Int32.ofNat kk)), .val (.ref b323), .val (.ref ms), .val (.ref xs), .val (.ref x_362), .val (.int (own_lds st)), .val (.int (Int32.ofNat st)), .val (.int ct), .val (.int (Int32.ofNat eF))] [(.int (1 : Int32))]))
                              refine own_Go.st (fun _ k => XS.ifNo X386.here hx rfl (hb hby at_439) rfl ((if0 _ _).trans (feq (by decide : ¬ ((1 : Int32) = (0 : Int32)))).1) k) ?_
                              show own_Go _ _ _ _ (T386.setTop (mkF m 442 #[.val (.int p1), .val (.int p2), .val (.int p3), .val (.int p4), .val (.int (Int32.ofNat kk)), .val (.ref b323), .val (.ref ms), .val (.ref xs), .val (.ref x_362), .val (.int (own_lds st)), .val (.int (Int32.ofNat st)), .val (.int ct), .val (.int (Int32.ofNat eF))] []))
                              refine own_Go.st (fun _ k => XS.aload X386.here hx rfl (hb hby at_442) rfl rfl k) ?_
                              show own_Go _ _ _ _ (T386.setTop (mkF m 444 #[.val (.int p1), .val (.int p2), .val (.int p3), .val (.int p4), .val (.int (Int32.ofNat kk)), .val (.ref b323), .val (.ref ms), .val (.ref xs), .val (.ref x_362), .val (.int (own_lds st)), .val (.int (Int32.ofNat st)), .val (.int ct), .val (.int (Int32.ofNat eF))] [(.ref x_362)]))
                              refine own_Go.st (fun _ k => XS.aload X386.here hx rfl (hb hby at_444) rfl rfl k) ?_
                              show own_Go _ _ _ _ (T386.setTop (mkF m 446 #[.val (.int p1), .val (.int p2), .val (.int p3), .val (.int p4), .val (.int (Int32.ofNat kk)), .val (.ref b323), .val (.ref ms), .val (.ref xs), .val (.ref x_362), .val (.int (own_lds st)), .val (.int (Int32.ofNat st)), .val (.int ct), .val (.int (Int32.ofNat eF))] [(.ref b323), (.ref x_362)]))
                              refine own_Go.st (fun _ k => XS.iload X386.here hx rfl (hb hby at_446) rfl k) ?_
                              show own_Go _ _ _ _ (T386.setTop (mkF m 448 #[.val (.int p1), .val (.int p2), .val (.int p3), .val (.int p4), .val (.int (Int32.ofNat kk)), .val (.ref b323), .val (.ref ms), .val (.ref xs), .val (.ref x_362), .val (.int (own_lds st)), .val (.int (Int32.ofNat st)), .val (.int ct), .val (.int (Int32.ofNat eF))] [(.int (Int32.ofNat eF)), (.ref b323), (.ref x_362)]))
                              refine own_Go.st (fun _ k => XS.iconst X386.here hx rfl (hb hby at_448) k) ?_
                              show own_Go _ _ _ _ (T386.setTop (mkF m 449 #[.val (.int p1), .val (.int p2), .val (.int p3), .val (.int p4), .val (.int (Int32.ofNat kk)), .val (.ref b323), .val (.ref ms), .val (.ref xs), .val (.ref x_362), .val (.int (own_lds st)), .val (.int (Int32.ofNat st)), .val (.int ct), .val (.int (Int32.ofNat eF))] [(.int (1 : Int32)), (.int (Int32.ofNat eF)), (.ref b323), (.ref x_362)]))
                              obtain ⟨_, _, ⟨T387, L387, k387, n387⟩, -, X387, ⟨Lc387, hQ387, l387, y387, z387⟩, st387⟩ := Jvm.LawKit.callS X386 hx (y := (⟨"com/example/keep_to_layer/keeptolayer/model/ClassNamesOutermostOfPinLaw", "same", "(Ljava/lang/String;[CII)Z"⟩ : MethodName)) hoJ361 (mvT hZJ361 (hw _ (List.mem_of_getElem? (i := 86) rfl))) (mvT hZJ361 (hw _ (List.mem_of_getElem? (i := 87) rfl))) (mvT hZJ361 (hw _ (List.mem_of_getElem? (i := 4) rfl))) (mvT hZJ361 (hw _ (List.mem_of_getElem? (i := 88) rfl))) (by decide) (backOf (W := 0) (rm_same l Z a0 hw [] x_362 b323 (Int32.ofNat eF) (1 : Int32) gs k323 1 eF t_362 ((gs.take kk).take e__362) zc fm hJ381 OJ381 fJ381_1 fJ381_0 st_COMPACT_STRINGS st_SIOOBE_FORMATTER (by first | assumption | decide) (by first | assumption | decide) rfl rfl ⟨by omega, by decide, hg6⟩ (fun q => ⟨by rw [hRl]; exact q, by rw [own_tg (by omega), own_tg (by omega)]⟩) hlr) hZJ361 (hw _ (List.mem_of_getElem? (i := 88) rfl)) (hw _ (List.mem_of_getElem? (i := 4) rfl)) (by decide) (by decide)) (g := (mkF m 449 #[.val (.int p1), .val (.int p2), .val (.int p3), .val (.int p4), .val (.int (Int32.ofNat kk)), .val (.ref b323), .val (.ref ms), .val (.ref xs), .val (.ref x_362), .val (.int (own_lds st)), .val (.int (Int32.ofNat st)), .val (.int ct), .val (.int (Int32.ofNat eF))] [(.int (1 : Int32)), (.int (Int32.ofNat eF)), (.ref b323), (.ref x_362)])) rfl (by rw [hml]; rfl) (argsL := [(.ref x_362), (.ref b323), (.int (Int32.ofNat eF)), (.int (1 : Int32))]) (rest := []) (lenOf pd_403 rfl) rfl (by show 2 * 0 + _ ≤ _; exact Nat.le_of_eq rfl) (hb hby at_449) (fun _ _ => ⟨rfl, K386, (by decide : 14 + 0 ≤ _), (by decide : 76 + 0 ≤ _)⟩)
                              dsimp only [Pt.U, Pt.locs, Pt.cells, Pt.slots] at X387 l387 y387 z387 st387 hQ387
                              subst l387 y387 z387
                              obtain ⟨rfl, N387q, K387⟩ := hQ387
                              have N387 := Fr.app N386 N387q
                              refine own_Go.st st387 ?_
                              show own_Go _ _ _ _ (T387.setTop (mkF m 452 #[.val (.int p1), .val (.int p2), .val (.int p3), .val (.int p4), .val (.int (Int32.ofNat kk)), .val (.ref b323), .val (.ref ms), .val (.ref xs), .val (.ref x_362), .val (.int (own_lds st)), .val (.int (Int32.ofNat st)), .val (.int ct), .val (.int (Int32.ofNat eF))] [(.int (1 : Int32))]))
                              refine own_Go.st (fun _ k => XS.ifNo X387.here hx rfl (hb hby at_452) rfl ((if0 _ _).trans (feq (by decide : ¬ ((1 : Int32) = (0 : Int32)))).1) k) ?_
                              show own_Go _ _ _ _ (T387.setTop (mkF m 455 #[.val (.int p1), .val (.int p2), .val (.int p3), .val (.int p4), .val (.int (Int32.ofNat kk)), .val (.ref b323), .val (.ref ms), .val (.ref xs), .val (.ref x_362), .val (.int (own_lds st)), .val (.int (Int32.ofNat st)), .val (.int ct), .val (.int (Int32.ofNat eF))] []))
                              refine own_Go.st (fun _ k => XS.aload X387.here hx rfl (hb hby at_455) rfl rfl k) ?_
                              show own_Go _ _ _ _ (T387.setTop (mkF m 457 #[.val (.int p1), .val (.int p2), .val (.int p3), .val (.int p4), .val (.int (Int32.ofNat kk)), .val (.ref b323), .val (.ref ms), .val (.ref xs), .val (.ref x_362), .val (.int (own_lds st)), .val (.int (Int32.ofNat st)), .val (.int ct), .val (.int (Int32.ofNat eF))] [(.ref x_362)]))
                              refine own_Go.st (fun _ k => XS.aload X387.here hx rfl (hb hby at_457) rfl rfl k) ?_
                              show own_Go _ _ _ _ (T387.setTop (mkF m 459 #[.val (.int p1), .val (.int p2), .val (.int p3), .val (.int p4), .val (.int (Int32.ofNat kk)), .val (.ref b323), .val (.ref ms), .val (.ref xs), .val (.ref x_362), .val (.int (own_lds st)), .val (.int (Int32.ofNat st)), .val (.int ct), .val (.int (Int32.ofNat eF))] [(.ref b323), (.ref x_362)]))
                              refine own_Go.st (fun _ k => XS.iload X387.here hx rfl (hb hby at_459) rfl k) ?_
                              show own_Go _ _ _ _ (T387.setTop (mkF m 461 #[.val (.int p1), .val (.int p2), .val (.int p3), .val (.int p4), .val (.int (Int32.ofNat kk)), .val (.ref b323), .val (.ref ms), .val (.ref xs), .val (.ref x_362), .val (.int (own_lds st)), .val (.int (Int32.ofNat st)), .val (.int ct), .val (.int (Int32.ofNat eF))] [(.int (Int32.ofNat eF)), (.ref b323), (.ref x_362)]))
                              refine own_Go.st (fun _ k => XS.iconst X387.here hx rfl (hb hby at_461) k) ?_
                              show own_Go _ _ _ _ (T387.setTop (mkF m 462 #[.val (.int p1), .val (.int p2), .val (.int p3), .val (.int p4), .val (.int (Int32.ofNat kk)), .val (.ref b323), .val (.ref ms), .val (.ref xs), .val (.ref x_362), .val (.int (own_lds st)), .val (.int (Int32.ofNat st)), .val (.int ct), .val (.int (Int32.ofNat eF))] [(.int (2 : Int32)), (.int (Int32.ofNat eF)), (.ref b323), (.ref x_362)]))
                              obtain ⟨_, _, ⟨T388, L388, k388, n388⟩, -, X388, ⟨Lc388, hQ388, l388, y388, z388⟩, st388⟩ := Jvm.LawKit.callS X387 hx (y := (⟨"com/example/keep_to_layer/keeptolayer/model/ClassNamesOutermostOfPinLaw", "same", "(Ljava/lang/String;[CII)Z"⟩ : MethodName)) hoJ361 (mvT hZJ361 (hw _ (List.mem_of_getElem? (i := 86) rfl))) (mvT hZJ361 (hw _ (List.mem_of_getElem? (i := 87) rfl))) (mvT hZJ361 (hw _ (List.mem_of_getElem? (i := 4) rfl))) (mvT hZJ361 (hw _ (List.mem_of_getElem? (i := 88) rfl))) (by decide) (backOf (W := 0) (rm_same l Z a0 hw [] x_362 b323 (Int32.ofNat eF) (2 : Int32) gs k323 2 eF t_362 ((gs.take kk).take e__362) zc fm hJ381 OJ381 fJ381_1 fJ381_0 st_COMPACT_STRINGS st_SIOOBE_FORMATTER (by first | assumption | decide) (by first | assumption | decide) rfl rfl ⟨by omega, by decide, hg6⟩ (fun q => ⟨by rw [hRl]; exact q, by rw [own_tg (by omega), own_tg (by omega)]⟩) hlr) hZJ361 (hw _ (List.mem_of_getElem? (i := 88) rfl)) (hw _ (List.mem_of_getElem? (i := 4) rfl)) (by decide) (by decide)) (g := (mkF m 462 #[.val (.int p1), .val (.int p2), .val (.int p3), .val (.int p4), .val (.int (Int32.ofNat kk)), .val (.ref b323), .val (.ref ms), .val (.ref xs), .val (.ref x_362), .val (.int (own_lds st)), .val (.int (Int32.ofNat st)), .val (.int ct), .val (.int (Int32.ofNat eF))] [(.int (2 : Int32)), (.int (Int32.ofNat eF)), (.ref b323), (.ref x_362)])) rfl (by rw [hml]; rfl) (argsL := [(.ref x_362), (.ref b323), (.int (Int32.ofNat eF)), (.int (2 : Int32))]) (rest := []) (lenOf pd_403 rfl) rfl (by show 2 * 0 + _ ≤ _; exact Nat.le_of_eq rfl) (hb hby at_462) (fun _ _ => ⟨rfl, K387, (by decide : 14 + 0 ≤ _), (by decide : 76 + 0 ≤ _)⟩)
                              dsimp only [Pt.U, Pt.locs, Pt.cells, Pt.slots] at X388 l388 y388 z388 st388 hQ388
                              subst l388 y388 z388
                              obtain ⟨rfl, N388q, K388⟩ := hQ388
                              have N388 := Fr.app N387 N388q
                              refine own_Go.st st388 ?_
                              show own_Go _ _ _ _ (T388.setTop (mkF m 465 #[.val (.int p1), .val (.int p2), .val (.int p3), .val (.int p4), .val (.int (Int32.ofNat kk)), .val (.ref b323), .val (.ref ms), .val (.ref xs), .val (.ref x_362), .val (.int (own_lds st)), .val (.int (Int32.ofNat st)), .val (.int ct), .val (.int (Int32.ofNat eF))] [(.int (1 : Int32))]))
                              refine own_Go.st (fun _ k => XS.ifNo X388.here hx rfl (hb hby at_465) rfl ((if0 _ _).trans (feq (by decide : ¬ ((1 : Int32) = (0 : Int32)))).1) k) ?_
                              show own_Go _ _ _ _ (T388.setTop (mkF m 468 #[.val (.int p1), .val (.int p2), .val (.int p3), .val (.int p4), .val (.int (Int32.ofNat kk)), .val (.ref b323), .val (.ref ms), .val (.ref xs), .val (.ref x_362), .val (.int (own_lds st)), .val (.int (Int32.ofNat st)), .val (.int ct), .val (.int (Int32.ofNat eF))] []))
                              refine own_Go.st (fun _ k => XS.aload X388.here hx rfl (hb hby at_468) rfl rfl k) ?_
                              show own_Go _ _ _ _ (T388.setTop (mkF m 470 #[.val (.int p1), .val (.int p2), .val (.int p3), .val (.int p4), .val (.int (Int32.ofNat kk)), .val (.ref b323), .val (.ref ms), .val (.ref xs), .val (.ref x_362), .val (.int (own_lds st)), .val (.int (Int32.ofNat st)), .val (.int ct), .val (.int (Int32.ofNat eF))] [(.ref x_362)]))
                              refine own_Go.st (fun _ k => XS.aload X388.here hx rfl (hb hby at_470) rfl rfl k) ?_
                              show own_Go _ _ _ _ (T388.setTop (mkF m 472 #[.val (.int p1), .val (.int p2), .val (.int p3), .val (.int p4), .val (.int (Int32.ofNat kk)), .val (.ref b323), .val (.ref ms), .val (.ref xs), .val (.ref x_362), .val (.int (own_lds st)), .val (.int (Int32.ofNat st)), .val (.int ct), .val (.int (Int32.ofNat eF))] [(.ref b323), (.ref x_362)]))
                              refine own_Go.st (fun _ k => XS.iload X388.here hx rfl (hb hby at_472) rfl k) ?_
                              show own_Go _ _ _ _ (T388.setTop (mkF m 474 #[.val (.int p1), .val (.int p2), .val (.int p3), .val (.int p4), .val (.int (Int32.ofNat kk)), .val (.ref b323), .val (.ref ms), .val (.ref xs), .val (.ref x_362), .val (.int (own_lds st)), .val (.int (Int32.ofNat st)), .val (.int ct), .val (.int (Int32.ofNat eF))] [(.int (Int32.ofNat eF)), (.ref b323), (.ref x_362)]))
                              refine own_Go.st (fun _ k => XS.iconst X388.here hx rfl (hb hby at_474) k) ?_
                              show own_Go _ _ _ _ (T388.setTop (mkF m 475 #[.val (.int p1), .val (.int p2), .val (.int p3), .val (.int p4), .val (.int (Int32.ofNat kk)), .val (.ref b323), .val (.ref ms), .val (.ref xs), .val (.ref x_362), .val (.int (own_lds st)), .val (.int (Int32.ofNat st)), .val (.int ct), .val (.int (Int32.ofNat eF))] [(.int (3 : Int32)), (.int (Int32.ofNat eF)), (.ref b323), (.ref x_362)]))
                              obtain ⟨_, _, ⟨T389, L389, k389, n389⟩, -, X389, ⟨Lc389, hQ389, l389, y389, z389⟩, st389⟩ := Jvm.LawKit.callS X388 hx (y := (⟨"com/example/keep_to_layer/keeptolayer/model/ClassNamesOutermostOfPinLaw", "same", "(Ljava/lang/String;[CII)Z"⟩ : MethodName)) hoJ361 (mvT hZJ361 (hw _ (List.mem_of_getElem? (i := 86) rfl))) (mvT hZJ361 (hw _ (List.mem_of_getElem? (i := 87) rfl))) (mvT hZJ361 (hw _ (List.mem_of_getElem? (i := 4) rfl))) (mvT hZJ361 (hw _ (List.mem_of_getElem? (i := 88) rfl))) (by decide) (backOf (W := 0) (rm_same l Z a0 hw [] x_362 b323 (Int32.ofNat eF) (3 : Int32) gs k323 3 eF t_362 ((gs.take kk).take e__362) zc fm hJ381 OJ381 fJ381_1 fJ381_0 st_COMPACT_STRINGS st_SIOOBE_FORMATTER (by first | assumption | decide) (by first | assumption | decide) rfl rfl ⟨by omega, by decide, hg6⟩ (fun q => ⟨by rw [hRl]; exact q, by rw [own_tg (by omega), own_tg (by omega)]⟩) hlr) hZJ361 (hw _ (List.mem_of_getElem? (i := 88) rfl)) (hw _ (List.mem_of_getElem? (i := 4) rfl)) (by decide) (by decide)) (g := (mkF m 475 #[.val (.int p1), .val (.int p2), .val (.int p3), .val (.int p4), .val (.int (Int32.ofNat kk)), .val (.ref b323), .val (.ref ms), .val (.ref xs), .val (.ref x_362), .val (.int (own_lds st)), .val (.int (Int32.ofNat st)), .val (.int ct), .val (.int (Int32.ofNat eF))] [(.int (3 : Int32)), (.int (Int32.ofNat eF)), (.ref b323), (.ref x_362)])) rfl (by rw [hml]; rfl) (argsL := [(.ref x_362), (.ref b323), (.int (Int32.ofNat eF)), (.int (3 : Int32))]) (rest := []) (lenOf pd_403 rfl) rfl (by show 2 * 0 + _ ≤ _; exact Nat.le_of_eq rfl) (hb hby at_475) (fun _ _ => ⟨rfl, K388, (by decide : 14 + 0 ≤ _), (by decide : 76 + 0 ≤ _)⟩)
                              dsimp only [Pt.U, Pt.locs, Pt.cells, Pt.slots] at X389 l389 y389 z389 st389 hQ389
                              subst l389 y389 z389
                              obtain ⟨rfl, N389q, K389⟩ := hQ389
                              have N389 := Fr.app N388 N389q
                              refine own_Go.st st389 ?_
                              show own_Go _ _ _ _ (T389.setTop (mkF m 478 #[.val (.int p1), .val (.int p2), .val (.int p3), .val (.int p4), .val (.int (Int32.ofNat kk)), .val (.ref b323), .val (.ref ms), .val (.ref xs), .val (.ref x_362), .val (.int (own_lds st)), .val (.int (Int32.ofNat st)), .val (.int ct), .val (.int (Int32.ofNat eF))] [(.int (1 : Int32))]))
                              refine own_Go.st (fun _ k => XS.ifNo X389.here hx rfl (hb hby at_478) rfl ((if0 _ _).trans (feq (by decide : ¬ ((1 : Int32) = (0 : Int32)))).1) k) ?_
                              show own_Go _ _ _ _ (T389.setTop (mkF m 481 #[.val (.int p1), .val (.int p2), .val (.int p3), .val (.int p4), .val (.int (Int32.ofNat kk)), .val (.ref b323), .val (.ref ms), .val (.ref xs), .val (.ref x_362), .val (.int (own_lds st)), .val (.int (Int32.ofNat st)), .val (.int ct), .val (.int (Int32.ofNat eF))] []))
                              refine own_Go.st (fun _ k => XS.aload X389.here hx rfl (hb hby at_481) rfl rfl k) ?_
                              show own_Go _ _ _ _ (T389.setTop (mkF m 483 #[.val (.int p1), .val (.int p2), .val (.int p3), .val (.int p4), .val (.int (Int32.ofNat kk)), .val (.ref b323), .val (.ref ms), .val (.ref xs), .val (.ref x_362), .val (.int (own_lds st)), .val (.int (Int32.ofNat st)), .val (.int ct), .val (.int (Int32.ofNat eF))] [(.ref x_362)]))
                              refine own_Go.st (fun _ k => XS.aload X389.here hx rfl (hb hby at_483) rfl rfl k) ?_
                              show own_Go _ _ _ _ (T389.setTop (mkF m 485 #[.val (.int p1), .val (.int p2), .val (.int p3), .val (.int p4), .val (.int (Int32.ofNat kk)), .val (.ref b323), .val (.ref ms), .val (.ref xs), .val (.ref x_362), .val (.int (own_lds st)), .val (.int (Int32.ofNat st)), .val (.int ct), .val (.int (Int32.ofNat eF))] [(.ref b323), (.ref x_362)]))
                              refine own_Go.st (fun _ k => XS.iload X389.here hx rfl (hb hby at_485) rfl k) ?_
                              show own_Go _ _ _ _ (T389.setTop (mkF m 487 #[.val (.int p1), .val (.int p2), .val (.int p3), .val (.int p4), .val (.int (Int32.ofNat kk)), .val (.ref b323), .val (.ref ms), .val (.ref xs), .val (.ref x_362), .val (.int (own_lds st)), .val (.int (Int32.ofNat st)), .val (.int ct), .val (.int (Int32.ofNat eF))] [(.int (Int32.ofNat eF)), (.ref b323), (.ref x_362)]))
                              refine own_Go.st (fun _ k => XS.iconst X389.here hx rfl (hb hby at_487) k) ?_
                              show own_Go _ _ _ _ (T389.setTop (mkF m 488 #[.val (.int p1), .val (.int p2), .val (.int p3), .val (.int p4), .val (.int (Int32.ofNat kk)), .val (.ref b323), .val (.ref ms), .val (.ref xs), .val (.ref x_362), .val (.int (own_lds st)), .val (.int (Int32.ofNat st)), .val (.int ct), .val (.int (Int32.ofNat eF))] [(.int (4 : Int32)), (.int (Int32.ofNat eF)), (.ref b323), (.ref x_362)]))
                              obtain ⟨_, _, ⟨T390, L390, k390, n390⟩, -, X390, ⟨Lc390, hQ390, l390, y390, z390⟩, st390⟩ := Jvm.LawKit.callS X389 hx (y := (⟨"com/example/keep_to_layer/keeptolayer/model/ClassNamesOutermostOfPinLaw", "same", "(Ljava/lang/String;[CII)Z"⟩ : MethodName)) hoJ361 (mvT hZJ361 (hw _ (List.mem_of_getElem? (i := 86) rfl))) (mvT hZJ361 (hw _ (List.mem_of_getElem? (i := 87) rfl))) (mvT hZJ361 (hw _ (List.mem_of_getElem? (i := 4) rfl))) (mvT hZJ361 (hw _ (List.mem_of_getElem? (i := 88) rfl))) (by decide) (backOf (W := 0) (rm_same l Z a0 hw [] x_362 b323 (Int32.ofNat eF) (4 : Int32) gs k323 4 eF t_362 ((gs.take kk).take e__362) zc fm hJ381 OJ381 fJ381_1 fJ381_0 st_COMPACT_STRINGS st_SIOOBE_FORMATTER (by first | assumption | decide) (by first | assumption | decide) rfl rfl ⟨by omega, by decide, hg6⟩ (fun q => ⟨by rw [hRl]; exact q, by rw [own_tg (by omega), own_tg (by omega)]⟩) hlr) hZJ361 (hw _ (List.mem_of_getElem? (i := 88) rfl)) (hw _ (List.mem_of_getElem? (i := 4) rfl)) (by decide) (by decide)) (g := (mkF m 488 #[.val (.int p1), .val (.int p2), .val (.int p3), .val (.int p4), .val (.int (Int32.ofNat kk)), .val (.ref b323), .val (.ref ms), .val (.ref xs), .val (.ref x_362), .val (.int (own_lds st)), .val (.int (Int32.ofNat st)), .val (.int ct), .val (.int (Int32.ofNat eF))] [(.int (4 : Int32)), (.int (Int32.ofNat eF)), (.ref b323), (.ref x_362)])) rfl (by rw [hml]; rfl) (argsL := [(.ref x_362), (.ref b323), (.int (Int32.ofNat eF)), (.int (4 : Int32))]) (rest := []) (lenOf pd_403 rfl) rfl (by show 2 * 0 + _ ≤ _; exact Nat.le_of_eq rfl) (hb hby at_488) (fun _ _ => ⟨rfl, K389, (by decide : 14 + 0 ≤ _), (by decide : 76 + 0 ≤ _)⟩)
                              dsimp only [Pt.U, Pt.locs, Pt.cells, Pt.slots] at X390 l390 y390 z390 st390 hQ390
                              subst l390 y390 z390
                              obtain ⟨rfl, N390q, K390⟩ := hQ390
                              have N390 := Fr.app N389 N390q
                              refine own_Go.st st390 ?_
                              show own_Go _ _ _ _ (T390.setTop (mkF m 491 #[.val (.int p1), .val (.int p2), .val (.int p3), .val (.int p4), .val (.int (Int32.ofNat kk)), .val (.ref b323), .val (.ref ms), .val (.ref xs), .val (.ref x_362), .val (.int (own_lds st)), .val (.int (Int32.ofNat st)), .val (.int ct), .val (.int (Int32.ofNat eF))] [(.int (1 : Int32))]))
                              refine own_Go.st (fun _ k => XS.ifNo X390.here hx rfl (hb hby at_491) rfl ((if0 _ _).trans (feq (by decide : ¬ ((1 : Int32) = (0 : Int32)))).1) k) ?_
                              show own_Go _ _ _ _ (T390.setTop (mkF m 494 #[.val (.int p1), .val (.int p2), .val (.int p3), .val (.int p4), .val (.int (Int32.ofNat kk)), .val (.ref b323), .val (.ref ms), .val (.ref xs), .val (.ref x_362), .val (.int (own_lds st)), .val (.int (Int32.ofNat st)), .val (.int ct), .val (.int (Int32.ofNat eF))] []))
                              refine own_Go.st (fun _ k => XS.aload X390.here hx rfl (hb hby at_494) rfl rfl k) ?_
                              show own_Go _ _ _ _ (T390.setTop (mkF m 496 #[.val (.int p1), .val (.int p2), .val (.int p3), .val (.int p4), .val (.int (Int32.ofNat kk)), .val (.ref b323), .val (.ref ms), .val (.ref xs), .val (.ref x_362), .val (.int (own_lds st)), .val (.int (Int32.ofNat st)), .val (.int ct), .val (.int (Int32.ofNat eF))] [(.ref x_362)]))
                              refine own_Go.st (fun _ k => XS.aload X390.here hx rfl (hb hby at_496) rfl rfl k) ?_
                              show own_Go _ _ _ _ (T390.setTop (mkF m 498 #[.val (.int p1), .val (.int p2), .val (.int p3), .val (.int p4), .val (.int (Int32.ofNat kk)), .val (.ref b323), .val (.ref ms), .val (.ref xs), .val (.ref x_362), .val (.int (own_lds st)), .val (.int (Int32.ofNat st)), .val (.int ct), .val (.int (Int32.ofNat eF))] [(.ref b323), (.ref x_362)]))
                              refine own_Go.st (fun _ k => XS.iload X390.here hx rfl (hb hby at_498) rfl k) ?_
                              show own_Go _ _ _ _ (T390.setTop (mkF m 500 #[.val (.int p1), .val (.int p2), .val (.int p3), .val (.int p4), .val (.int (Int32.ofNat kk)), .val (.ref b323), .val (.ref ms), .val (.ref xs), .val (.ref x_362), .val (.int (own_lds st)), .val (.int (Int32.ofNat st)), .val (.int ct), .val (.int (Int32.ofNat eF))] [(.int (Int32.ofNat eF)), (.ref b323), (.ref x_362)]))
                              refine own_Go.st (fun _ k => XS.iconst X390.here hx rfl (hb hby at_500) k) ?_
                              show own_Go _ _ _ _ (T390.setTop (mkF m 501 #[.val (.int p1), .val (.int p2), .val (.int p3), .val (.int p4), .val (.int (Int32.ofNat kk)), .val (.ref b323), .val (.ref ms), .val (.ref xs), .val (.ref x_362), .val (.int (own_lds st)), .val (.int (Int32.ofNat st)), .val (.int ct), .val (.int (Int32.ofNat eF))] [(.int (5 : Int32)), (.int (Int32.ofNat eF)), (.ref b323), (.ref x_362)]))
                              obtain ⟨_, _, ⟨T391, L391, k391, n391⟩, -, X391, ⟨Lc391, hQ391, l391, y391, z391⟩, st391⟩ := Jvm.LawKit.callS X390 hx (y := (⟨"com/example/keep_to_layer/keeptolayer/model/ClassNamesOutermostOfPinLaw", "same", "(Ljava/lang/String;[CII)Z"⟩ : MethodName)) hoJ361 (mvT hZJ361 (hw _ (List.mem_of_getElem? (i := 86) rfl))) (mvT hZJ361 (hw _ (List.mem_of_getElem? (i := 87) rfl))) (mvT hZJ361 (hw _ (List.mem_of_getElem? (i := 4) rfl))) (mvT hZJ361 (hw _ (List.mem_of_getElem? (i := 88) rfl))) (by decide) (backOf (W := 0) (rm_same l Z a0 hw [] x_362 b323 (Int32.ofNat eF) (5 : Int32) gs k323 5 eF t_362 ((gs.take kk).take e__362) zc fm hJ381 OJ381 fJ381_1 fJ381_0 st_COMPACT_STRINGS st_SIOOBE_FORMATTER (by first | assumption | decide) (by first | assumption | decide) rfl rfl ⟨by omega, by decide, hg6⟩ (fun q => ⟨by rw [hRl]; exact q, by rw [own_tg (by omega), own_tg (by omega)]⟩) hlr) hZJ361 (hw _ (List.mem_of_getElem? (i := 88) rfl)) (hw _ (List.mem_of_getElem? (i := 4) rfl)) (by decide) (by decide)) (g := (mkF m 501 #[.val (.int p1), .val (.int p2), .val (.int p3), .val (.int p4), .val (.int (Int32.ofNat kk)), .val (.ref b323), .val (.ref ms), .val (.ref xs), .val (.ref x_362), .val (.int (own_lds st)), .val (.int (Int32.ofNat st)), .val (.int ct), .val (.int (Int32.ofNat eF))] [(.int (5 : Int32)), (.int (Int32.ofNat eF)), (.ref b323), (.ref x_362)])) rfl (by rw [hml]; rfl) (argsL := [(.ref x_362), (.ref b323), (.int (Int32.ofNat eF)), (.int (5 : Int32))]) (rest := []) (lenOf pd_403 rfl) rfl (by show 2 * 0 + _ ≤ _; exact Nat.le_of_eq rfl) (hb hby at_501) (fun _ _ => ⟨rfl, K390, (by decide : 14 + 0 ≤ _), (by decide : 76 + 0 ≤ _)⟩)
                              dsimp only [Pt.U, Pt.locs, Pt.cells, Pt.slots] at X391 l391 y391 z391 st391 hQ391
                              subst l391 y391 z391
                              obtain ⟨rfl, N391q, K391⟩ := hQ391
                              have N391 := Fr.app N390 N391q
                              refine own_Go.st st391 ?_
                              show own_Go _ _ _ _ (T391.setTop (mkF m 504 #[.val (.int p1), .val (.int p2), .val (.int p3), .val (.int p4), .val (.int (Int32.ofNat kk)), .val (.ref b323), .val (.ref ms), .val (.ref xs), .val (.ref x_362), .val (.int (own_lds st)), .val (.int (Int32.ofNat st)), .val (.int ct), .val (.int (Int32.ofNat eF))] [(.int (1 : Int32))]))
                              refine own_Go.st (fun _ k => XS.ifNo X391.here hx rfl (hb hby at_504) rfl ((if0 _ _).trans (feq (by decide : ¬ ((1 : Int32) = (0 : Int32)))).1) k) ?_
                              show own_Go _ _ _ _ (T391.setTop (mkF m 507 #[.val (.int p1), .val (.int p2), .val (.int p3), .val (.int p4), .val (.int (Int32.ofNat kk)), .val (.ref b323), .val (.ref ms), .val (.ref xs), .val (.ref x_362), .val (.int (own_lds st)), .val (.int (Int32.ofNat st)), .val (.int ct), .val (.int (Int32.ofNat eF))] []))
                              refine own_Go.st (fun _ k => XS.iconst X391.here hx rfl (hb hby at_507) k) ?_
                              show own_Go _ _ _ _ (T391.setTop (mkF m 508 #[.val (.int p1), .val (.int p2), .val (.int p3), .val (.int p4), .val (.int (Int32.ofNat kk)), .val (.ref b323), .val (.ref ms), .val (.ref xs), .val (.ref x_362), .val (.int (own_lds st)), .val (.int (Int32.ofNat st)), .val (.int ct), .val (.int (Int32.ofNat eF))] [(.int (1 : Int32))]))
                              refine own_Go.st (fun _ k => XS.goto X391.here hx rfl (pc0 := 508) (pc' := 512) rfl (hb hby at_508) (by decide) (by decide) k) ?_
                              show own_Go _ _ _ _ (T391.setTop (mkF m 512 #[.val (.int p1), .val (.int p2), .val (.int p3), .val (.int p4), .val (.int (Int32.ofNat kk)), .val (.ref b323), .val (.ref ms), .val (.ref xs), .val (.ref x_362), .val (.int (own_lds st)), .val (.int (Int32.ofNat st)), .val (.int ct), .val (.int (Int32.ofNat eF))] [(.int (1 : Int32))]))
                              obtain ⟨fs392, hr392, hrun392, hend392, hret392⟩ := X391.leaveW hSJ361 (by rw [K391]; exact (by omega)) (v := some (.int (nar .boolean (1 : Int32)))) (fun h => by rw [Bd.returns] at h; cases h)
                              subst hPP
                              refine ⟨_, _, retN X391 hx (t := .boolean) Bd.returns (by simp) (hb hby at_512) hr392, hrun392, hend392, _, _, rfl, ?_, ?_, hret392.1, hret392.2.1, hret392.2.2.1, hret392.2.2.2.mono (by decide) (by decide)⟩
                              · show Q_law Z _ _ _ _ _ _ h0 _ T391.heap _
                                rw [K391]
                                exact ⟨rfl, N391, KJ381⟩
                              · have hfin := RJ381.trans (CHv.at X391 hZJ361 hEL RJ381.1)
                                rw [← hh] at hfin
                                show CHr Z consts_1 s.vm s.heap T391.vm T391.heap
                                rw [K391]
                                exact hfin
                            refine own_Go.st (fun _ k => XS.iload XJ381.here hx rfl (hb hby at_398) rfl k) ?_
                            show own_Go _ _ _ _ (TJ381.setTop (mkF m 400 #[.val (.int p1), .val (.int p2), .val (.int p3), .val (.int p4), .val (.int (Int32.ofNat kk)), .val (.ref b323), .val (.ref ms), .val (.ref xs), .val (.ref x_362), .val (.int (own_lds st)), .val (.int (Int32.ofNat st)), .val (.int ct), .unset] [(.int ct)]))
                            by_cases h400 : ct < (0 : Int32)
                            ·
                              refine own_Go.st (fun _ k => XS.ifNo XJ381.here hx rfl (hb hby at_400) rfl ((if0 _ _).trans (tlt h400).2.1) k) ?_
                              show own_Go _ _ _ _ (TJ381.setTop (mkF m 403 #[.val (.int p1), .val (.int p2), .val (.int p3), .val (.int p4), .val (.int (Int32.ofNat kk)), .val (.ref b323), .val (.ref ms), .val (.ref xs), .val (.ref x_362), .val (.int (own_lds st)), .val (.int (Int32.ofNat st)), .val (.int ct), .unset] []))
                              refine own_Go.st (fun _ k => XS.iload XJ381.here hx rfl (hb hby at_403) rfl k) ?_
                              show own_Go _ _ _ _ (TJ381.setTop (mkF m 405 #[.val (.int p1), .val (.int p2), .val (.int p3), .val (.int p4), .val (.int (Int32.ofNat kk)), .val (.ref b323), .val (.ref ms), .val (.ref xs), .val (.ref x_362), .val (.int (own_lds st)), .val (.int (Int32.ofNat st)), .val (.int ct), .unset] [(.int (Int32.ofNat kk))]))
                              refine own_Go.st (fun _ k => XS.goto XJ381.here hx rfl (pc0 := 405) (pc' := 410) rfl (hb hby at_405) (by decide) (by decide) k) ?_
                              show own_Go _ _ _ _ (TJ381.setTop (mkF m 410 #[.val (.int p1), .val (.int p2), .val (.int p3), .val (.int p4), .val (.int (Int32.ofNat kk)), .val (.ref b323), .val (.ref ms), .val (.ref xs), .val (.ref x_362), .val (.int (own_lds st)), .val (.int (Int32.ofNat st)), .val (.int ct), .unset] [(.int (Int32.ofNat kk))]))
                              exact J382 (Int32.ofNat kk) ⟨kk, rfl, own_FN hk6 hct1 h400⟩
                            ·
                              refine own_Go.st (fun _ k => XS.ifYes XJ381.here hx rfl (pc0 := 400) (pc' := 408) rfl (hb hby at_400) rfl ((if0 _ _).trans (flt h400).2.1) (by decide) (by decide) k) ?_
                              show own_Go _ _ _ _ (TJ381.setTop (mkF m 408 #[.val (.int p1), .val (.int p2), .val (.int p3), .val (.int p4), .val (.int (Int32.ofNat kk)), .val (.ref b323), .val (.ref ms), .val (.ref xs), .val (.ref x_362), .val (.int (own_lds st)), .val (.int (Int32.ofNat st)), .val (.int ct), .unset] []))
                              refine own_Go.st (fun _ k => XS.iload XJ381.here hx rfl (hb hby at_408) rfl k) ?_
                              show own_Go _ _ _ _ (TJ381.setTop (mkF m 410 #[.val (.int p1), .val (.int p2), .val (.int p3), .val (.int p4), .val (.int (Int32.ofNat kk)), .val (.ref b323), .val (.ref ms), .val (.ref xs), .val (.ref x_362), .val (.int (own_lds st)), .val (.int (Int32.ofNat st)), .val (.int ct), .unset] [(.int ct)]))
                              exact J382 ct (own_FP hct1 h400)
                          refine own_Go.st (fun _ k => XS.iconst XJ380.here hx rfl (hb hby at_376) k) ?_
                          show own_Go _ _ _ _ (TJ380.setTop (mkF m 377 #[.val (.int p1), .val (.int p2), .val (.int p3), .val (.int p4), .val (.int (Int32.ofNat kk)), .val (.ref b323), .val (.ref ms), .val (.ref xs), .val (.ref x_362), .val (.int (own_lds st)), .val (.int (Int32.ofNat st)), .val (.int ct), .unset] [(.int (1 : Int32))]))
                          refine own_Go.st (fun _ k => XS.iload XJ380.here hx rfl (hb hby at_377) rfl k) ?_
                          show own_Go _ _ _ _ (TJ380.setTop (mkF m 379 #[.val (.int p1), .val (.int p2), .val (.int p3), .val (.int p4), .val (.int (Int32.ofNat kk)), .val (.ref b323), .val (.ref ms), .val (.ref xs), .val (.ref x_362), .val (.int (own_lds st)), .val (.int (Int32.ofNat st)), .val (.int ct), .unset] [(.int (Int32.ofNat st)), (.int (1 : Int32))]))
                          by_cases hq1 : (Int32.ofNat st) < (1 : Int32)
                          ·
                            refine own_Go.st (fun _ k => XS.icmpNo XJ380.here hx rfl (hb hby at_379) rfl (tlt hq1).2.2.2 k) ?_
                            show own_Go _ _ _ _ (TJ380.setTop (mkF m 382 #[.val (.int p1), .val (.int p2), .val (.int p3), .val (.int p4), .val (.int (Int32.ofNat kk)), .val (.ref b323), .val (.ref ms), .val (.ref xs), .val (.ref x_362), .val (.int (own_lds st)), .val (.int (Int32.ofNat st)), .val (.int ct), .unset] []))
                            have hs1 : st < 1 := (own_oflt (j := 1) (by omega) (by omega)).mp hq1
                            refine own_Go.st (fun _ k => XS.aload XJ380.here hx rfl (hb hby at_382) rfl rfl k) ?_
                            show own_Go _ _ _ _ (TJ380.setTop (mkF m 384 #[.val (.int p1), .val (.int p2), .val (.int p3), .val (.int p4), .val (.int (Int32.ofNat kk)), .val (.ref b323), .val (.ref ms), .val (.ref xs), .val (.ref x_362), .val (.int (own_lds st)), .val (.int (Int32.ofNat st)), .val (.int ct), .unset] [(.ref b323)]))
                            refine own_Go.st (fun _ k => XS.iload XJ380.here hx rfl (hb hby at_384) rfl k) ?_
                            show own_Go _ _ _ _ (TJ380.setTop (mkF m 386 #[.val (.int p1), .val (.int p2), .val (.int p3), .val (.int p4), .val (.int (Int32.ofNat kk)), .val (.ref b323), .val (.ref ms), .val (.ref xs), .val (.ref x_362), .val (.int (own_lds st)), .val (.int (Int32.ofNat st)), .val (.int ct), .unset] [(.int (Int32.ofNat kk)), (.ref b323)]))
                            refine own_Go.st (fun _ k => XS.iconst XJ380.here hx rfl (hb hby at_386) k) ?_
                            show own_Go _ _ _ _ (TJ380.setTop (mkF m 387 #[.val (.int p1), .val (.int p2), .val (.int p3), .val (.int p4), .val (.int (Int32.ofNat kk)), .val (.ref b323), .val (.ref ms), .val (.ref xs), .val (.ref x_362), .val (.int (own_lds st)), .val (.int (Int32.ofNat st)), .val (.int ct), .unset] [(.int (1 : Int32)), (.int (Int32.ofNat kk)), (.ref b323)]))
                            refine own_Go.st (fun _ k => XS.bipush XJ380.here hx rfl (hb hby at_387) k) ?_
                            show own_Go _ _ _ _ (TJ380.setTop (mkF m 389 #[.val (.int p1), .val (.int p2), .val (.int p3), .val (.int p4), .val (.int (Int32.ofNat kk)), .val (.ref b323), .val (.ref ms), .val (.ref xs), .val (.ref x_362), .val (.int (own_lds st)), .val (.int (Int32.ofNat st)), .val (.int ct), .unset] [(.int (36 : Int32)), (.int (1 : Int32)), (.int (Int32.ofNat kk)), (.ref b323)]))
                            obtain ⟨_, _, ⟨T393, L393, k393, n393⟩, -, X393, ⟨Lc393, hQ393, l393, y393, z393⟩, st393⟩ := Jvm.LawKit.callS XJ380 hx (y := (⟨"com/example/keep_to_layer/keeptolayer/model/ClassNamesOutermostOfPinLaw", "is", "([CIIC)Z"⟩ : MethodName)) hoJ361 (mvT hZJ361 (hw _ (List.mem_of_getElem? (i := 82) rfl))) (mvT hZJ361 (hw _ (List.mem_of_getElem? (i := 83) rfl))) (mvT hZJ361 (hw _ (List.mem_of_getElem? (i := 4) rfl))) (mvT hZJ361 (hw _ (List.mem_of_getElem? (i := 84) rfl))) (by decide) (backOf (W := 0) (rm_is_ l Z a0 hw [] b323 (Int32.ofNat kk) (1 : Int32) (36 : Int32) gs k323 1 kk hJ380 OJ380 fJ380_0 rfl rfl ⟨hk6, by decide, hg6⟩) hZJ361 (hw _ (List.mem_of_getElem? (i := 84) rfl)) (hw _ (List.mem_of_getElem? (i := 4) rfl)) (by decide) (by decide)) (g := (mkF m 389 #[.val (.int p1), .val (.int p2), .val (.int p3), .val (.int p4), .val (.int (Int32.ofNat kk)), .val (.ref b323), .val (.ref ms), .val (.ref xs), .val (.ref x_362), .val (.int (own_lds st)), .val (.int (Int32.ofNat st)), .val (.int ct), .unset] [(.int (36 : Int32)), (.int (1 : Int32)), (.int (Int32.ofNat kk)), (.ref b323)])) rfl (by rw [hml]; rfl) (argsL := [(.ref b323), (.int (Int32.ofNat kk)), (.int (1 : Int32)), (.int (36 : Int32))]) (rest := []) (lenOf pd_402 rfl) rfl (by show 2 * 0 + _ ≤ _; exact Nat.le_of_eq rfl) (hb hby at_389) (fun _ _ => ⟨rfl, eJ380, (by decide : 14 + 0 ≤ _), (by decide : 76 + 0 ≤ _)⟩)
                            dsimp only [Pt.U, Pt.locs, Pt.cells, Pt.slots] at X393 l393 y393 z393 st393 hQ393
                            subst l393 y393 z393
                            obtain ⟨r_393, rfl, N393q, K393, pr393_0⟩ := hQ393
                            have N393 := Fr.app NJ380 N393q
                            refine own_Go.st st393 ?_
                            show own_Go _ _ _ _ (T393.setTop (mkF m 392 #[.val (.int p1), .val (.int p2), .val (.int p3), .val (.int p4), .val (.int (Int32.ofNat kk)), .val (.ref b323), .val (.ref ms), .val (.ref xs), .val (.ref x_362), .val (.int (own_lds st)), .val (.int (Int32.ofNat st)), .val (.int ct), .unset] [(.int r_393)]))
                            by_cases hw1 : r_393 = (0 : Int32)
                            ·
                              refine own_Go.st (fun _ k => XS.ifYes X393.here hx rfl (pc0 := 392) (pc' := 398) rfl (hb hby at_392) rfl ((if0 _ _).trans (teq hw1).1) (by decide) (by decide) k) ?_
                              show own_Go _ _ _ _ (T393.setTop (mkF m 398 #[.val (.int p1), .val (.int p2), .val (.int p3), .val (.int p4), .val (.int (Int32.ofNat kk)), .val (.ref b323), .val (.ref ms), .val (.ref xs), .val (.ref x_362), .val (.int (own_lds st)), .val (.int (Int32.ofNat st)), .val (.int ct), .unset] []))
                              exact HJ381 ct T393 hJ380 _ (own_CN hct2 (fun q => own_zero pr393_0 hw1 q.2)) X393 K393 N393 KJ380 OJ380 (by omega) RJ380 fJ380_0 fJ380_1
                            ·
                              refine own_Go.st (fun _ k => XS.ifNo X393.here hx rfl (hb hby at_392) rfl ((if0 _ _).trans (feq hw1).1) k) ?_
                              show own_Go _ _ _ _ (T393.setTop (mkF m 395 #[.val (.int p1), .val (.int p2), .val (.int p3), .val (.int p4), .val (.int (Int32.ofNat kk)), .val (.ref b323), .val (.ref ms), .val (.ref xs), .val (.ref x_362), .val (.int (own_lds st)), .val (.int (Int32.ofNat st)), .val (.int ct), .unset] []))
                              refine own_Go.st (fun _ k => XS.iconst X393.here hx rfl (hb hby at_395) k) ?_
                              show own_Go _ _ _ _ (T393.setTop (mkF m 396 #[.val (.int p1), .val (.int p2), .val (.int p3), .val (.int p4), .val (.int (Int32.ofNat kk)), .val (.ref b323), .val (.ref ms), .val (.ref xs), .val (.ref x_362), .val (.int (own_lds st)), .val (.int (Int32.ofNat st)), .val (.int ct), .unset] [(.int (1 : Int32))]))
                              refine own_Go.st (fun _ k => XS.istore X393.here hx rfl (hb hby at_396) rfl (l' := #[.val (.int p1), .val (.int p2), .val (.int p3), .val (.int p4), .val (.int (Int32.ofNat kk)), .val (.ref b323), .val (.ref ms), .val (.ref xs), .val (.ref x_362), .val (.int (own_lds st)), .val (.int (Int32.ofNat st)), .val (.int (1 : Int32)), .unset]) rfl k) ?_
                              show own_Go _ _ _ _ (T393.setTop (mkF m 398 #[.val (.int p1), .val (.int p2), .val (.int p3), .val (.int p4), .val (.int (Int32.ofNat kk)), .val (.ref b323), .val (.ref ms), .val (.ref xs), .val (.ref x_362), .val (.int (own_lds st)), .val (.int (Int32.ofNat st)), .val (.int (1 : Int32)), .unset] []))
                              exact HJ381 (1 : Int32) T393 hJ380 _ (own_CY 1 (by decide) hs1 (own_one pr393_0 hw1)) X393 K393 N393 KJ380 OJ380 (by omega) RJ380 fJ380_0 fJ380_1
                          ·
                            refine own_Go.st (fun _ k => XS.icmpYes XJ380.here hx rfl (pc0 := 379) (pc' := 398) rfl (hb hby at_379) rfl (flt hq1).2.2.2 (by decide) (by decide) k) ?_
                            show own_Go _ _ _ _ (TJ380.setTop (mkF m 398 #[.val (.int p1), .val (.int p2), .val (.int p3), .val (.int p4), .val (.int (Int32.ofNat kk)), .val (.ref b323), .val (.ref ms), .val (.ref xs), .val (.ref x_362), .val (.int (own_lds st)), .val (.int (Int32.ofNat st)), .val (.int ct), .unset] []))
                            have hs1 : ¬ st < 1 := fun q => hq1 ((own_oflt (j := 1) (by omega) (by omega)).mpr q)
                            exact HJ381 ct TJ380 hJ380 _ (own_CN hct2 (fun q => hs1 q.1)) XJ380 eJ380 NJ380 KJ380 OJ380 (by omega) RJ380 fJ380_0 fJ380_1
                        refine own_Go.st (fun _ k => XS.iconst XJ379.here hx rfl (hb hby at_354) k) ?_
                        show own_Go _ _ _ _ (TJ379.setTop (mkF m 355 #[.val (.int p1), .val (.int p2), .val (.int p3), .val (.int p4), .val (.int (Int32.ofNat kk)), .val (.ref b323), .val (.ref ms), .val (.ref xs), .val (.ref x_362), .val (.int (own_lds st)), .val (.int (Int32.ofNat st)), .val (.int ct), .unset] [(.int (2 : Int32))]))
                        refine own_Go.st (fun _ k => XS.iload XJ379.here hx rfl (hb hby at_355) rfl k) ?_
                        show own_Go _ _ _ _ (TJ379.setTop (mkF m 357 #[.val (.int p1), .val (.int p2), .val (.int p3), .val (.int p4), .val (.int (Int32.ofNat kk)), .val (.ref b323), .val (.ref ms), .val (.ref xs), .val (.ref x_362), .val (.int (own_lds st)), .val (.int (Int32.ofNat st)), .val (.int ct), .unset] [(.int (Int32.ofNat st)), (.int (2 : Int32))]))
                        by_cases hq2 : (Int32.ofNat st) < (2 : Int32)
                        ·
                          refine own_Go.st (fun _ k => XS.icmpNo XJ379.here hx rfl (hb hby at_357) rfl (tlt hq2).2.2.2 k) ?_
                          show own_Go _ _ _ _ (TJ379.setTop (mkF m 360 #[.val (.int p1), .val (.int p2), .val (.int p3), .val (.int p4), .val (.int (Int32.ofNat kk)), .val (.ref b323), .val (.ref ms), .val (.ref xs), .val (.ref x_362), .val (.int (own_lds st)), .val (.int (Int32.ofNat st)), .val (.int ct), .unset] []))
                          have hs2 : st < 2 := (own_oflt (j := 2) (by omega) (by omega)).mp hq2
                          refine own_Go.st (fun _ k => XS.aload XJ379.here hx rfl (hb hby at_360) rfl rfl k) ?_
                          show own_Go _ _ _ _ (TJ379.setTop (mkF m 362 #[.val (.int p1), .val (.int p2), .val (.int p3), .val (.int p4), .val (.int (Int32.ofNat kk)), .val (.ref b323), .val (.ref ms), .val (.ref xs), .val (.ref x_362), .val (.int (own_lds st)), .val (.int (Int32.ofNat st)), .val (.int ct), .unset] [(.ref b323)]))
                          refine own_Go.st (fun _ k => XS.iload XJ379.here hx rfl (hb hby at_362) rfl k) ?_
                          show own_Go _ _ _ _ (TJ379.setTop (mkF m 364 #[.val (.int p1), .val (.int p2), .val (.int p3), .val (.int p4), .val (.int (Int32.ofNat kk)), .val (.ref b323), .val (.ref ms), .val (.ref xs), .val (.ref x_362), .val (.int (own_lds st)), .val (.int (Int32.ofNat st)), .val (.int ct), .unset] [(.int (Int32.ofNat kk)), (.ref b323)]))
                          refine own_Go.st (fun _ k => XS.iconst XJ379.here hx rfl (hb hby at_364) k) ?_
                          show own_Go _ _ _ _ (TJ379.setTop (mkF m 365 #[.val (.int p1), .val (.int p2), .val (.int p3), .val (.int p4), .val (.int (Int32.ofNat kk)), .val (.ref b323), .val (.ref ms), .val (.ref xs), .val (.ref x_362), .val (.int (own_lds st)), .val (.int (Int32.ofNat st)), .val (.int ct), .unset] [(.int (2 : Int32)), (.int (Int32.ofNat kk)), (.ref b323)]))
                          refine own_Go.st (fun _ k => XS.bipush XJ379.here hx rfl (hb hby at_365) k) ?_
                          show own_Go _ _ _ _ (TJ379.setTop (mkF m 367 #[.val (.int p1), .val (.int p2), .val (.int p3), .val (.int p4), .val (.int (Int32.ofNat kk)), .val (.ref b323), .val (.ref ms), .val (.ref xs), .val (.ref x_362), .val (.int (own_lds st)), .val (.int (Int32.ofNat st)), .val (.int ct), .unset] [(.int (36 : Int32)), (.int (2 : Int32)), (.int (Int32.ofNat kk)), (.ref b323)]))
                          obtain ⟨_, _, ⟨T394, L394, k394, n394⟩, -, X394, ⟨Lc394, hQ394, l394, y394, z394⟩, st394⟩ := Jvm.LawKit.callS XJ379 hx (y := (⟨"com/example/keep_to_layer/keeptolayer/model/ClassNamesOutermostOfPinLaw", "is", "([CIIC)Z"⟩ : MethodName)) hoJ361 (mvT hZJ361 (hw _ (List.mem_of_getElem? (i := 82) rfl))) (mvT hZJ361 (hw _ (List.mem_of_getElem? (i := 83) rfl))) (mvT hZJ361 (hw _ (List.mem_of_getElem? (i := 4) rfl))) (mvT hZJ361 (hw _ (List.mem_of_getElem? (i := 84) rfl))) (by decide) (backOf (W := 0) (rm_is_ l Z a0 hw [] b323 (Int32.ofNat kk) (2 : Int32) (36 : Int32) gs k323 2 kk hJ379 OJ379 fJ379_0 rfl rfl ⟨hk6, by decide, hg6⟩) hZJ361 (hw _ (List.mem_of_getElem? (i := 84) rfl)) (hw _ (List.mem_of_getElem? (i := 4) rfl)) (by decide) (by decide)) (g := (mkF m 367 #[.val (.int p1), .val (.int p2), .val (.int p3), .val (.int p4), .val (.int (Int32.ofNat kk)), .val (.ref b323), .val (.ref ms), .val (.ref xs), .val (.ref x_362), .val (.int (own_lds st)), .val (.int (Int32.ofNat st)), .val (.int ct), .unset] [(.int (36 : Int32)), (.int (2 : Int32)), (.int (Int32.ofNat kk)), (.ref b323)])) rfl (by rw [hml]; rfl) (argsL := [(.ref b323), (.int (Int32.ofNat kk)), (.int (2 : Int32)), (.int (36 : Int32))]) (rest := []) (lenOf pd_402 rfl) rfl (by show 2 * 0 + _ ≤ _; exact Nat.le_of_eq rfl) (hb hby at_367) (fun _ _ => ⟨rfl, eJ379, (by decide : 14 + 0 ≤ _), (by decide : 76 + 0 ≤ _)⟩)
                          dsimp only [Pt.U, Pt.locs, Pt.cells, Pt.slots] at X394 l394 y394 z394 st394 hQ394
                          subst l394 y394 z394
                          obtain ⟨r_394, rfl, N394q, K394, pr394_0⟩ := hQ394
                          have N394 := Fr.app NJ379 N394q
                          refine own_Go.st st394 ?_
                          show own_Go _ _ _ _ (T394.setTop (mkF m 370 #[.val (.int p1), .val (.int p2), .val (.int p3), .val (.int p4), .val (.int (Int32.ofNat kk)), .val (.ref b323), .val (.ref ms), .val (.ref xs), .val (.ref x_362), .val (.int (own_lds st)), .val (.int (Int32.ofNat st)), .val (.int ct), .unset] [(.int r_394)]))
                          by_cases hw2 : r_394 = (0 : Int32)
                          ·
                            refine own_Go.st (fun _ k => XS.ifYes X394.here hx rfl (pc0 := 370) (pc' := 376) rfl (hb hby at_370) rfl ((if0 _ _).trans (teq hw2).1) (by decide) (by decide) k) ?_
                            show own_Go _ _ _ _ (T394.setTop (mkF m 376 #[.val (.int p1), .val (.int p2), .val (.int p3), .val (.int p4), .val (.int (Int32.ofNat kk)), .val (.ref b323), .val (.ref ms), .val (.ref xs), .val (.ref x_362), .val (.int (own_lds st)), .val (.int (Int32.ofNat st)), .val (.int ct), .unset] []))
                            exact HJ380 ct T394 hJ379 _ (own_CN hct3 (fun q => own_zero pr394_0 hw2 q.2)) X394 K394 N394 KJ379 OJ379 (by omega) RJ379 fJ379_0 fJ379_1
                          ·
                            refine own_Go.st (fun _ k => XS.ifNo X394.here hx rfl (hb hby at_370) rfl ((if0 _ _).trans (feq hw2).1) k) ?_
                            show own_Go _ _ _ _ (T394.setTop (mkF m 373 #[.val (.int p1), .val (.int p2), .val (.int p3), .val (.int p4), .val (.int (Int32.ofNat kk)), .val (.ref b323), .val (.ref ms), .val (.ref xs), .val (.ref x_362), .val (.int (own_lds st)), .val (.int (Int32.ofNat st)), .val (.int ct), .unset] []))
                            refine own_Go.st (fun _ k => XS.iconst X394.here hx rfl (hb hby at_373) k) ?_
                            show own_Go _ _ _ _ (T394.setTop (mkF m 374 #[.val (.int p1), .val (.int p2), .val (.int p3), .val (.int p4), .val (.int (Int32.ofNat kk)), .val (.ref b323), .val (.ref ms), .val (.ref xs), .val (.ref x_362), .val (.int (own_lds st)), .val (.int (Int32.ofNat st)), .val (.int ct), .unset] [(.int (2 : Int32))]))
                            refine own_Go.st (fun _ k => XS.istore X394.here hx rfl (hb hby at_374) rfl (l' := #[.val (.int p1), .val (.int p2), .val (.int p3), .val (.int p4), .val (.int (Int32.ofNat kk)), .val (.ref b323), .val (.ref ms), .val (.ref xs), .val (.ref x_362), .val (.int (own_lds st)), .val (.int (Int32.ofNat st)), .val (.int (2 : Int32)), .unset]) rfl k) ?_
                            show own_Go _ _ _ _ (T394.setTop (mkF m 376 #[.val (.int p1), .val (.int p2), .val (.int p3), .val (.int p4), .val (.int (Int32.ofNat kk)), .val (.ref b323), .val (.ref ms), .val (.ref xs), .val (.ref x_362), .val (.int (own_lds st)), .val (.int (Int32.ofNat st)), .val (.int (2 : Int32)), .unset] []))
                            exact HJ380 (2 : Int32) T394 hJ379 _ (own_CY 2 (by decide) hs2 (own_one pr394_0 hw2)) X394 K394 N394 KJ379 OJ379 (by omega) RJ379 fJ379_0 fJ379_1
                        ·
                          refine own_Go.st (fun _ k => XS.icmpYes XJ379.here hx rfl (pc0 := 357) (pc' := 376) rfl (hb hby at_357) rfl (flt hq2).2.2.2 (by decide) (by decide) k) ?_
                          show own_Go _ _ _ _ (TJ379.setTop (mkF m 376 #[.val (.int p1), .val (.int p2), .val (.int p3), .val (.int p4), .val (.int (Int32.ofNat kk)), .val (.ref b323), .val (.ref ms), .val (.ref xs), .val (.ref x_362), .val (.int (own_lds st)), .val (.int (Int32.ofNat st)), .val (.int ct), .unset] []))
                          have hs2 : ¬ st < 2 := fun q => hq2 ((own_oflt (j := 2) (by omega) (by omega)).mpr q)
                          exact HJ380 ct TJ379 hJ379 _ (own_CN hct3 (fun q => hs2 q.1)) XJ379 eJ379 NJ379 KJ379 OJ379 (by omega) RJ379 fJ379_0 fJ379_1
                      refine own_Go.st (fun _ k => XS.iconst XJ378.here hx rfl (hb hby at_332) k) ?_
                      show own_Go _ _ _ _ (TJ378.setTop (mkF m 333 #[.val (.int p1), .val (.int p2), .val (.int p3), .val (.int p4), .val (.int (Int32.ofNat kk)), .val (.ref b323), .val (.ref ms), .val (.ref xs), .val (.ref x_362), .val (.int (own_lds st)), .val (.int (Int32.ofNat st)), .val (.int ct), .unset] [(.int (3 : Int32))]))
                      refine own_Go.st (fun _ k => XS.iload XJ378.here hx rfl (hb hby at_333) rfl k) ?_
                      show own_Go _ _ _ _ (TJ378.setTop (mkF m 335 #[.val (.int p1), .val (.int p2), .val (.int p3), .val (.int p4), .val (.int (Int32.ofNat kk)), .val (.ref b323), .val (.ref ms), .val (.ref xs), .val (.ref x_362), .val (.int (own_lds st)), .val (.int (Int32.ofNat st)), .val (.int ct), .unset] [(.int (Int32.ofNat st)), (.int (3 : Int32))]))
                      by_cases hq3 : (Int32.ofNat st) < (3 : Int32)
                      ·
                        refine own_Go.st (fun _ k => XS.icmpNo XJ378.here hx rfl (hb hby at_335) rfl (tlt hq3).2.2.2 k) ?_
                        show own_Go _ _ _ _ (TJ378.setTop (mkF m 338 #[.val (.int p1), .val (.int p2), .val (.int p3), .val (.int p4), .val (.int (Int32.ofNat kk)), .val (.ref b323), .val (.ref ms), .val (.ref xs), .val (.ref x_362), .val (.int (own_lds st)), .val (.int (Int32.ofNat st)), .val (.int ct), .unset] []))
                        have hs3 : st < 3 := (own_oflt (j := 3) (by omega) (by omega)).mp hq3
                        refine own_Go.st (fun _ k => XS.aload XJ378.here hx rfl (hb hby at_338) rfl rfl k) ?_
                        show own_Go _ _ _ _ (TJ378.setTop (mkF m 340 #[.val (.int p1), .val (.int p2), .val (.int p3), .val (.int p4), .val (.int (Int32.ofNat kk)), .val (.ref b323), .val (.ref ms), .val (.ref xs), .val (.ref x_362), .val (.int (own_lds st)), .val (.int (Int32.ofNat st)), .val (.int ct), .unset] [(.ref b323)]))
                        refine own_Go.st (fun _ k => XS.iload XJ378.here hx rfl (hb hby at_340) rfl k) ?_
                        show own_Go _ _ _ _ (TJ378.setTop (mkF m 342 #[.val (.int p1), .val (.int p2), .val (.int p3), .val (.int p4), .val (.int (Int32.ofNat kk)), .val (.ref b323), .val (.ref ms), .val (.ref xs), .val (.ref x_362), .val (.int (own_lds st)), .val (.int (Int32.ofNat st)), .val (.int ct), .unset] [(.int (Int32.ofNat kk)), (.ref b323)]))
                        refine own_Go.st (fun _ k => XS.iconst XJ378.here hx rfl (hb hby at_342) k) ?_
                        show own_Go _ _ _ _ (TJ378.setTop (mkF m 343 #[.val (.int p1), .val (.int p2), .val (.int p3), .val (.int p4), .val (.int (Int32.ofNat kk)), .val (.ref b323), .val (.ref ms), .val (.ref xs), .val (.ref x_362), .val (.int (own_lds st)), .val (.int (Int32.ofNat st)), .val (.int ct), .unset] [(.int (3 : Int32)), (.int (Int32.ofNat kk)), (.ref b323)]))
                        refine own_Go.st (fun _ k => XS.bipush XJ378.here hx rfl (hb hby at_343) k) ?_
                        show own_Go _ _ _ _ (TJ378.setTop (mkF m 345 #[.val (.int p1), .val (.int p2), .val (.int p3), .val (.int p4), .val (.int (Int32.ofNat kk)), .val (.ref b323), .val (.ref ms), .val (.ref xs), .val (.ref x_362), .val (.int (own_lds st)), .val (.int (Int32.ofNat st)), .val (.int ct), .unset] [(.int (36 : Int32)), (.int (3 : Int32)), (.int (Int32.ofNat kk)), (.ref b323)]))
                        obtain ⟨_, _, ⟨T395, L395, k395, n395⟩, -, X395, ⟨Lc395, hQ395, l395, y395, z395⟩, st395⟩ := Jvm.LawKit.callS XJ378 hx (y := (⟨"com/example/keep_to_layer/keeptolayer/model/ClassNamesOutermostOfPinLaw", "is", "([CIIC)Z"⟩ : MethodName)) hoJ361 (mvT hZJ361 (hw _ (List.mem_of_getElem? (i := 82) rfl))) (mvT hZJ361 (hw _ (List.mem_of_getElem? (i := 83) rfl))) (mvT hZJ361 (hw _ (List.mem_of_getElem? (i := 4) rfl))) (mvT hZJ361 (hw _ (List.mem_of_getElem? (i := 84) rfl))) (by decide) (backOf (W := 0) (rm_is_ l Z a0 hw [] b323 (Int32.ofNat kk) (3 : Int32) (36 : Int32) gs k323 3 kk hJ378 OJ378 fJ378_0 rfl rfl ⟨hk6, by decide, hg6⟩) hZJ361 (hw _ (List.mem_of_getElem? (i := 84) rfl)) (hw _ (List.mem_of_getElem? (i := 4) rfl)) (by decide) (by decide)) (g := (mkF m 345 #[.val (.int p1), .val (.int p2), .val (.int p3), .val (.int p4), .val (.int (Int32.ofNat kk)), .val (.ref b323), .val (.ref ms), .val (.ref xs), .val (.ref x_362), .val (.int (own_lds st)), .val (.int (Int32.ofNat st)), .val (.int ct), .unset] [(.int (36 : Int32)), (.int (3 : Int32)), (.int (Int32.ofNat kk)), (.ref b323)])) rfl (by rw [hml]; rfl) (argsL := [(.ref b323), (.int (Int32.ofNat kk)), (.int (3 : Int32)), (.int (36 : Int32))]) (rest := []) (lenOf pd_402 rfl) rfl (by show 2 * 0 + _ ≤ _; exact Nat.le_of_eq rfl) (hb hby at_345) (fun _ _ => ⟨rfl, eJ378, (by decide : 14 + 0 ≤ _), (by decide : 76 + 0 ≤ _)⟩)
                        dsimp only [Pt.U, Pt.locs, Pt.cells, Pt.slots] at X395 l395 y395 z395 st395 hQ395
                        subst l395 y395 z395
                        obtain ⟨r_395, rfl, N395q, K395, pr395_0⟩ := hQ395
                        have N395 := Fr.app NJ378 N395q
                        refine own_Go.st st395 ?_
                        show own_Go _ _ _ _ (T395.setTop (mkF m 348 #[.val (.int p1), .val (.int p2), .val (.int p3), .val (.int p4), .val (.int (Int32.ofNat kk)), .val (.ref b323), .val (.ref ms), .val (.ref xs), .val (.ref x_362), .val (.int (own_lds st)), .val (.int (Int32.ofNat st)), .val (.int ct), .unset] [(.int r_395)]))
                        by_cases hw3 : r_395 = (0 : Int32)
                        ·
                          refine own_Go.st (fun _ k => XS.ifYes X395.here hx rfl (pc0 := 348) (pc' := 354) rfl (hb hby at_348) rfl ((if0 _ _).trans (teq hw3).1) (by decide) (by decide) k) ?_
                          show own_Go _ _ _ _ (T395.setTop (mkF m 354 #[.val (.int p1), .val (.int p2), .val (.int p3), .val (.int p4), .val (.int (Int32.ofNat kk)), .val (.ref b323), .val (.ref ms), .val (.ref xs), .val (.ref x_362), .val (.int (own_lds st)), .val (.int (Int32.ofNat st)), .val (.int ct), .unset] []))
                          exact HJ379 ct T395 hJ378 _ (own_CN hct4 (fun q => own_zero pr395_0 hw3 q.2)) X395 K395 N395 KJ378 OJ378 (by omega) RJ378 fJ378_0 fJ378_1
                        ·
                          refine own_Go.st (fun _ k => XS.ifNo X395.here hx rfl (hb hby at_348) rfl ((if0 _ _).trans (feq hw3).1) k) ?_
                          show own_Go _ _ _ _ (T395.setTop (mkF m 351 #[.val (.int p1), .val (.int p2), .val (.int p3), .val (.int p4), .val (.int (Int32.ofNat kk)), .val (.ref b323), .val (.ref ms), .val (.ref xs), .val (.ref x_362), .val (.int (own_lds st)), .val (.int (Int32.ofNat st)), .val (.int ct), .unset] []))
                          refine own_Go.st (fun _ k => XS.iconst X395.here hx rfl (hb hby at_351) k) ?_
                          show own_Go _ _ _ _ (T395.setTop (mkF m 352 #[.val (.int p1), .val (.int p2), .val (.int p3), .val (.int p4), .val (.int (Int32.ofNat kk)), .val (.ref b323), .val (.ref ms), .val (.ref xs), .val (.ref x_362), .val (.int (own_lds st)), .val (.int (Int32.ofNat st)), .val (.int ct), .unset] [(.int (3 : Int32))]))
                          refine own_Go.st (fun _ k => XS.istore X395.here hx rfl (hb hby at_352) rfl (l' := #[.val (.int p1), .val (.int p2), .val (.int p3), .val (.int p4), .val (.int (Int32.ofNat kk)), .val (.ref b323), .val (.ref ms), .val (.ref xs), .val (.ref x_362), .val (.int (own_lds st)), .val (.int (Int32.ofNat st)), .val (.int (3 : Int32)), .unset]) rfl k) ?_
                          show own_Go _ _ _ _ (T395.setTop (mkF m 354 #[.val (.int p1), .val (.int p2), .val (.int p3), .val (.int p4), .val (.int (Int32.ofNat kk)), .val (.ref b323), .val (.ref ms), .val (.ref xs), .val (.ref x_362), .val (.int (own_lds st)), .val (.int (Int32.ofNat st)), .val (.int (3 : Int32)), .unset] []))
                          exact HJ379 (3 : Int32) T395 hJ378 _ (own_CY 3 (by decide) hs3 (own_one pr395_0 hw3)) X395 K395 N395 KJ378 OJ378 (by omega) RJ378 fJ378_0 fJ378_1
                      ·
                        refine own_Go.st (fun _ k => XS.icmpYes XJ378.here hx rfl (pc0 := 335) (pc' := 354) rfl (hb hby at_335) rfl (flt hq3).2.2.2 (by decide) (by decide) k) ?_
                        show own_Go _ _ _ _ (TJ378.setTop (mkF m 354 #[.val (.int p1), .val (.int p2), .val (.int p3), .val (.int p4), .val (.int (Int32.ofNat kk)), .val (.ref b323), .val (.ref ms), .val (.ref xs), .val (.ref x_362), .val (.int (own_lds st)), .val (.int (Int32.ofNat st)), .val (.int ct), .unset] []))
                        have hs3 : ¬ st < 3 := fun q => hq3 ((own_oflt (j := 3) (by omega) (by omega)).mpr q)
                        exact HJ379 ct TJ378 hJ378 _ (own_CN hct4 (fun q => hs3 q.1)) XJ378 eJ378 NJ378 KJ378 OJ378 (by omega) RJ378 fJ378_0 fJ378_1
                    refine own_Go.st (fun _ k => XS.iconst XJ377.here hx rfl (hb hby at_310) k) ?_
                    show own_Go _ _ _ _ (TJ377.setTop (mkF m 311 #[.val (.int p1), .val (.int p2), .val (.int p3), .val (.int p4), .val (.int (Int32.ofNat kk)), .val (.ref b323), .val (.ref ms), .val (.ref xs), .val (.ref x_362), .val (.int (own_lds st)), .val (.int (Int32.ofNat st)), .val (.int ct), .unset] [(.int (4 : Int32))]))
                    refine own_Go.st (fun _ k => XS.iload XJ377.here hx rfl (hb hby at_311) rfl k) ?_
                    show own_Go _ _ _ _ (TJ377.setTop (mkF m 313 #[.val (.int p1), .val (.int p2), .val (.int p3), .val (.int p4), .val (.int (Int32.ofNat kk)), .val (.ref b323), .val (.ref ms), .val (.ref xs), .val (.ref x_362), .val (.int (own_lds st)), .val (.int (Int32.ofNat st)), .val (.int ct), .unset] [(.int (Int32.ofNat st)), (.int (4 : Int32))]))
                    by_cases hq4 : (Int32.ofNat st) < (4 : Int32)
                    ·
                      refine own_Go.st (fun _ k => XS.icmpNo XJ377.here hx rfl (hb hby at_313) rfl (tlt hq4).2.2.2 k) ?_
                      show own_Go _ _ _ _ (TJ377.setTop (mkF m 316 #[.val (.int p1), .val (.int p2), .val (.int p3), .val (.int p4), .val (.int (Int32.ofNat kk)), .val (.ref b323), .val (.ref ms), .val (.ref xs), .val (.ref x_362), .val (.int (own_lds st)), .val (.int (Int32.ofNat st)), .val (.int ct), .unset] []))
                      have hs4 : st < 4 := (own_oflt (j := 4) (by omega) (by omega)).mp hq4
                      refine own_Go.st (fun _ k => XS.aload XJ377.here hx rfl (hb hby at_316) rfl rfl k) ?_
                      show own_Go _ _ _ _ (TJ377.setTop (mkF m 318 #[.val (.int p1), .val (.int p2), .val (.int p3), .val (.int p4), .val (.int (Int32.ofNat kk)), .val (.ref b323), .val (.ref ms), .val (.ref xs), .val (.ref x_362), .val (.int (own_lds st)), .val (.int (Int32.ofNat st)), .val (.int ct), .unset] [(.ref b323)]))
                      refine own_Go.st (fun _ k => XS.iload XJ377.here hx rfl (hb hby at_318) rfl k) ?_
                      show own_Go _ _ _ _ (TJ377.setTop (mkF m 320 #[.val (.int p1), .val (.int p2), .val (.int p3), .val (.int p4), .val (.int (Int32.ofNat kk)), .val (.ref b323), .val (.ref ms), .val (.ref xs), .val (.ref x_362), .val (.int (own_lds st)), .val (.int (Int32.ofNat st)), .val (.int ct), .unset] [(.int (Int32.ofNat kk)), (.ref b323)]))
                      refine own_Go.st (fun _ k => XS.iconst XJ377.here hx rfl (hb hby at_320) k) ?_
                      show own_Go _ _ _ _ (TJ377.setTop (mkF m 321 #[.val (.int p1), .val (.int p2), .val (.int p3), .val (.int p4), .val (.int (Int32.ofNat kk)), .val (.ref b323), .val (.ref ms), .val (.ref xs), .val (.ref x_362), .val (.int (own_lds st)), .val (.int (Int32.ofNat st)), .val (.int ct), .unset] [(.int (4 : Int32)), (.int (Int32.ofNat kk)), (.ref b323)]))
                      refine own_Go.st (fun _ k => XS.bipush XJ377.here hx rfl (hb hby at_321) k) ?_
                      show own_Go _ _ _ _ (TJ377.setTop (mkF m 323 #[.val (.int p1), .val (.int p2), .val (.int p3), .val (.int p4), .val (.int (Int32.ofNat kk)), .val (.ref b323), .val (.ref ms), .val (.ref xs), .val (.ref x_362), .val (.int (own_lds st)), .val (.int (Int32.ofNat st)), .val (.int ct), .unset] [(.int (36 : Int32)), (.int (4 : Int32)), (.int (Int32.ofNat kk)), (.ref b323)]))
                      obtain ⟨_, _, ⟨T396, L396, k396, n396⟩, -, X396, ⟨Lc396, hQ396, l396, y396, z396⟩, st396⟩ := Jvm.LawKit.callS XJ377 hx (y := (⟨"com/example/keep_to_layer/keeptolayer/model/ClassNamesOutermostOfPinLaw", "is", "([CIIC)Z"⟩ : MethodName)) hoJ361 (mvT hZJ361 (hw _ (List.mem_of_getElem? (i := 82) rfl))) (mvT hZJ361 (hw _ (List.mem_of_getElem? (i := 83) rfl))) (mvT hZJ361 (hw _ (List.mem_of_getElem? (i := 4) rfl))) (mvT hZJ361 (hw _ (List.mem_of_getElem? (i := 84) rfl))) (by decide) (backOf (W := 0) (rm_is_ l Z a0 hw [] b323 (Int32.ofNat kk) (4 : Int32) (36 : Int32) gs k323 4 kk hJ377 OJ377 fJ377_0 rfl rfl ⟨hk6, by decide, hg6⟩) hZJ361 (hw _ (List.mem_of_getElem? (i := 84) rfl)) (hw _ (List.mem_of_getElem? (i := 4) rfl)) (by decide) (by decide)) (g := (mkF m 323 #[.val (.int p1), .val (.int p2), .val (.int p3), .val (.int p4), .val (.int (Int32.ofNat kk)), .val (.ref b323), .val (.ref ms), .val (.ref xs), .val (.ref x_362), .val (.int (own_lds st)), .val (.int (Int32.ofNat st)), .val (.int ct), .unset] [(.int (36 : Int32)), (.int (4 : Int32)), (.int (Int32.ofNat kk)), (.ref b323)])) rfl (by rw [hml]; rfl) (argsL := [(.ref b323), (.int (Int32.ofNat kk)), (.int (4 : Int32)), (.int (36 : Int32))]) (rest := []) (lenOf pd_402 rfl) rfl (by show 2 * 0 + _ ≤ _; exact Nat.le_of_eq rfl) (hb hby at_323) (fun _ _ => ⟨rfl, eJ377, (by decide : 14 + 0 ≤ _), (by decide : 76 + 0 ≤ _)⟩)
                      dsimp only [Pt.U, Pt.locs, Pt.cells, Pt.slots] at X396 l396 y396 z396 st396 hQ396
                      subst l396 y396 z396
                      obtain ⟨r_396, rfl, N396q, K396, pr396_0⟩ := hQ396
                      have N396 := Fr.app NJ377 N396q
                      refine own_Go.st st396 ?_
                      show own_Go _ _ _ _ (T396.setTop (mkF m 326 #[.val (.int p1), .val (.int p2), .val (.int p3), .val (.int p4), .val (.int (Int32.ofNat kk)), .val (.ref b323), .val (.ref ms), .val (.ref xs), .val (.ref x_362), .val (.int (own_lds st)), .val (.int (Int32.ofNat st)), .val (.int ct), .unset] [(.int r_396)]))
                      by_cases hw4 : r_396 = (0 : Int32)
                      ·
                        refine own_Go.st (fun _ k => XS.ifYes X396.here hx rfl (pc0 := 326) (pc' := 332) rfl (hb hby at_326) rfl ((if0 _ _).trans (teq hw4).1) (by decide) (by decide) k) ?_
                        show own_Go _ _ _ _ (T396.setTop (mkF m 332 #[.val (.int p1), .val (.int p2), .val (.int p3), .val (.int p4), .val (.int (Int32.ofNat kk)), .val (.ref b323), .val (.ref ms), .val (.ref xs), .val (.ref x_362), .val (.int (own_lds st)), .val (.int (Int32.ofNat st)), .val (.int ct), .unset] []))
                        exact HJ378 ct T396 hJ377 _ (own_CN hct5 (fun q => own_zero pr396_0 hw4 q.2)) X396 K396 N396 KJ377 OJ377 (by omega) RJ377 fJ377_0 fJ377_1
                      ·
                        refine own_Go.st (fun _ k => XS.ifNo X396.here hx rfl (hb hby at_326) rfl ((if0 _ _).trans (feq hw4).1) k) ?_
                        show own_Go _ _ _ _ (T396.setTop (mkF m 329 #[.val (.int p1), .val (.int p2), .val (.int p3), .val (.int p4), .val (.int (Int32.ofNat kk)), .val (.ref b323), .val (.ref ms), .val (.ref xs), .val (.ref x_362), .val (.int (own_lds st)), .val (.int (Int32.ofNat st)), .val (.int ct), .unset] []))
                        refine own_Go.st (fun _ k => XS.iconst X396.here hx rfl (hb hby at_329) k) ?_
                        show own_Go _ _ _ _ (T396.setTop (mkF m 330 #[.val (.int p1), .val (.int p2), .val (.int p3), .val (.int p4), .val (.int (Int32.ofNat kk)), .val (.ref b323), .val (.ref ms), .val (.ref xs), .val (.ref x_362), .val (.int (own_lds st)), .val (.int (Int32.ofNat st)), .val (.int ct), .unset] [(.int (4 : Int32))]))
                        refine own_Go.st (fun _ k => XS.istore X396.here hx rfl (hb hby at_330) rfl (l' := #[.val (.int p1), .val (.int p2), .val (.int p3), .val (.int p4), .val (.int (Int32.ofNat kk)), .val (.ref b323), .val (.ref ms), .val (.ref xs), .val (.ref x_362), .val (.int (own_lds st)), .val (.int (Int32.ofNat st)), .val (.int (4 : Int32)), .unset]) rfl k) ?_
                        show own_Go _ _ _ _ (T396.setTop (mkF m 332 #[.val (.int p1), .val (.int p2), .val (.int p3), .val (.int p4), .val (.int (Int32.ofNat kk)), .val (.ref b323), .val (.ref ms), .val (.ref xs), .val (.ref x_362), .val (.int (own_lds st)), .val (.int (Int32.ofNat st)), .val (.int (4 : Int32)), .unset] []))
                        exact HJ378 (4 : Int32) T396 hJ377 _ (own_CY 4 (by decide) hs4 (own_one pr396_0 hw4)) X396 K396 N396 KJ377 OJ377 (by omega) RJ377 fJ377_0 fJ377_1
                    ·
                      refine own_Go.st (fun _ k => XS.icmpYes XJ377.here hx rfl (pc0 := 313) (pc' := 332) rfl (hb hby at_313) rfl (flt hq4).2.2.2 (by decide) (by decide) k) ?_
                      show own_Go _ _ _ _ (TJ377.setTop (mkF m 332 #[.val (.int p1), .val (.int p2), .val (.int p3), .val (.int p4), .val (.int (Int32.ofNat kk)), .val (.ref b323), .val (.ref ms), .val (.ref xs), .val (.ref x_362), .val (.int (own_lds st)), .val (.int (Int32.ofNat st)), .val (.int ct), .unset] []))
                      have hs4 : ¬ st < 4 := fun q => hq4 ((own_oflt (j := 4) (by omega) (by omega)).mpr q)
                      exact HJ378 ct TJ377 hJ377 _ (own_CN hct5 (fun q => hs4 q.1)) XJ377 eJ377 NJ377 KJ377 OJ377 (by omega) RJ377 fJ377_0 fJ377_1
                  refine own_Go.st (fun _ k => XS.iconst X375.here hx rfl (hb hby at_288) k) ?_
                  show own_Go _ _ _ _ (T375.setTop (mkF m 289 #[.val (.int p1), .val (.int p2), .val (.int p3), .val (.int p4), .val (.int (Int32.ofNat kk)), .val (.ref b323), .val (.ref ms), .val (.ref xs), .val (.ref x_362), .val (.int (own_lds st)), .val (.int (Int32.ofNat st)), .val (.int (-1 : Int32)), .unset] [(.int (5 : Int32))]))
                  refine own_Go.st (fun _ k => XS.iload X375.here hx rfl (hb hby at_289) rfl k) ?_
                  show own_Go _ _ _ _ (T375.setTop (mkF m 291 #[.val (.int p1), .val (.int p2), .val (.int p3), .val (.int p4), .val (.int (Int32.ofNat kk)), .val (.ref b323), .val (.ref ms), .val (.ref xs), .val (.ref x_362), .val (.int (own_lds st)), .val (.int (Int32.ofNat st)), .val (.int (-1 : Int32)), .unset] [(.int (Int32.ofNat st)), (.int (5 : Int32))]))
                  by_cases hq5 : (Int32.ofNat st) < (5 : Int32)
                  ·
                    refine own_Go.st (fun _ k => XS.icmpNo X375.here hx rfl (hb hby at_291) rfl (tlt hq5).2.2.2 k) ?_
                    show own_Go _ _ _ _ (T375.setTop (mkF m 294 #[.val (.int p1), .val (.int p2), .val (.int p3), .val (.int p4), .val (.int (Int32.ofNat kk)), .val (.ref b323), .val (.ref ms), .val (.ref xs), .val (.ref x_362), .val (.int (own_lds st)), .val (.int (Int32.ofNat st)), .val (.int (-1 : Int32)), .unset] []))
                    have hs5 : st < 5 := (own_oflt (j := 5) (by omega) (by omega)).mp hq5
                    refine own_Go.st (fun _ k => XS.aload X375.here hx rfl (hb hby at_294) rfl rfl k) ?_
                    show own_Go _ _ _ _ (T375.setTop (mkF m 296 #[.val (.int p1), .val (.int p2), .val (.int p3), .val (.int p4), .val (.int (Int32.ofNat kk)), .val (.ref b323), .val (.ref ms), .val (.ref xs), .val (.ref x_362), .val (.int (own_lds st)), .val (.int (Int32.ofNat st)), .val (.int (-1 : Int32)), .unset] [(.ref b323)]))
                    refine own_Go.st (fun _ k => XS.iload X375.here hx rfl (hb hby at_296) rfl k) ?_
                    show own_Go _ _ _ _ (T375.setTop (mkF m 298 #[.val (.int p1), .val (.int p2), .val (.int p3), .val (.int p4), .val (.int (Int32.ofNat kk)), .val (.ref b323), .val (.ref ms), .val (.ref xs), .val (.ref x_362), .val (.int (own_lds st)), .val (.int (Int32.ofNat st)), .val (.int (-1 : Int32)), .unset] [(.int (Int32.ofNat kk)), (.ref b323)]))
                    refine own_Go.st (fun _ k => XS.iconst X375.here hx rfl (hb hby at_298) k) ?_
                    show own_Go _ _ _ _ (T375.setTop (mkF m 299 #[.val (.int p1), .val (.int p2), .val (.int p3), .val (.int p4), .val (.int (Int32.ofNat kk)), .val (.ref b323), .val (.ref ms), .val (.ref xs), .val (.ref x_362), .val (.int (own_lds st)), .val (.int (Int32.ofNat st)), .val (.int (-1 : Int32)), .unset] [(.int (5 : Int32)), (.int (Int32.ofNat kk)), (.ref b323)]))
                    refine own_Go.st (fun _ k => XS.bipush X375.here hx rfl (hb hby at_299) k) ?_
                    show own_Go _ _ _ _ (T375.setTop (mkF m 301 #[.val (.int p1), .val (.int p2), .val (.int p3), .val (.int p4), .val (.int (Int32.ofNat kk)), .val (.ref b323), .val (.ref ms), .val (.ref xs), .val (.ref x_362), .val (.int (own_lds st)), .val (.int (Int32.ofNat st)), .val (.int (-1 : Int32)), .unset] [(.int (36 : Int32)), (.int (5 : Int32)), (.int (Int32.ofNat kk)), (.ref b323)]))
                    obtain ⟨_, _, ⟨T397, L397, k397, n397⟩, -, X397, ⟨Lc397, hQ397, l397, y397, z397⟩, st397⟩ := Jvm.LawKit.callS X375 hx (y := (⟨"com/example/keep_to_layer/keeptolayer/model/ClassNamesOutermostOfPinLaw", "is", "([CIIC)Z"⟩ : MethodName)) hoJ361 (mvT hZJ361 (hw _ (List.mem_of_getElem? (i := 82) rfl))) (mvT hZJ361 (hw _ (List.mem_of_getElem? (i := 83) rfl))) (mvT hZJ361 (hw _ (List.mem_of_getElem? (i := 4) rfl))) (mvT hZJ361 (hw _ (List.mem_of_getElem? (i := 84) rfl))) (by decide) (backOf (W := 0) (rm_is_ l Z a0 hw [] b323 (Int32.ofNat kk) (5 : Int32) (36 : Int32) gs k323 5 kk T362.heap f365 f364 rfl rfl ⟨hk6, by decide, hg6⟩) hZJ361 (hw _ (List.mem_of_getElem? (i := 84) rfl)) (hw _ (List.mem_of_getElem? (i := 4) rfl)) (by decide) (by decide)) (g := (mkF m 301 #[.val (.int p1), .val (.int p2), .val (.int p3), .val (.int p4), .val (.int (Int32.ofNat kk)), .val (.ref b323), .val (.ref ms), .val (.ref xs), .val (.ref x_362), .val (.int (own_lds st)), .val (.int (Int32.ofNat st)), .val (.int (-1 : Int32)), .unset] [(.int (36 : Int32)), (.int (5 : Int32)), (.int (Int32.ofNat kk)), (.ref b323)])) rfl (by rw [hml]; rfl) (argsL := [(.ref b323), (.int (Int32.ofNat kk)), (.int (5 : Int32)), (.int (36 : Int32))]) (rest := []) (lenOf pd_402 rfl) rfl (by show 2 * 0 + _ ≤ _; exact Nat.le_of_eq rfl) (hb hby at_301) (fun _ _ => ⟨rfl, K375, (by decide : 14 + 0 ≤ _), (by decide : 76 + 0 ≤ _)⟩)
                    dsimp only [Pt.U, Pt.locs, Pt.cells, Pt.slots] at X397 l397 y397 z397 st397 hQ397
                    subst l397 y397 z397
                    obtain ⟨r_397, rfl, N397q, K397, pr397_0⟩ := hQ397
                    have N397 := Fr.app N375 N397q
                    refine own_Go.st st397 ?_
                    show own_Go _ _ _ _ (T397.setTop (mkF m 304 #[.val (.int p1), .val (.int p2), .val (.int p3), .val (.int p4), .val (.int (Int32.ofNat kk)), .val (.ref b323), .val (.ref ms), .val (.ref xs), .val (.ref x_362), .val (.int (own_lds st)), .val (.int (Int32.ofNat st)), .val (.int (-1 : Int32)), .unset] [(.int r_397)]))
                    by_cases hw5 : r_397 = (0 : Int32)
                    ·
                      refine own_Go.st (fun _ k => XS.ifYes X397.here hx rfl (pc0 := 304) (pc' := 310) rfl (hb hby at_304) rfl ((if0 _ _).trans (teq hw5).1) (by decide) (by decide) k) ?_
                      show own_Go _ _ _ _ (T397.setTop (mkF m 310 #[.val (.int p1), .val (.int p2), .val (.int p3), .val (.int p4), .val (.int (Int32.ofNat kk)), .val (.ref b323), .val (.ref ms), .val (.ref xs), .val (.ref x_362), .val (.int (own_lds st)), .val (.int (Int32.ofNat st)), .val (.int (-1 : Int32)), .unset] []))
                      have K398 : Keep h0 T362.heap [] := KJ361.trans K362 all0
                      exact HJ377 (-1 : Int32) T397 T362.heap _ (own_CN own_C0 (fun q => own_zero pr397_0 hw5 q.2)) X397 K397 N397 K398 f365 (by omega) R362 f364 f362_0
                    ·
                      refine own_Go.st (fun _ k => XS.ifNo X397.here hx rfl (hb hby at_304) rfl ((if0 _ _).trans (feq hw5).1) k) ?_
                      show own_Go _ _ _ _ (T397.setTop (mkF m 307 #[.val (.int p1), .val (.int p2), .val (.int p3), .val (.int p4), .val (.int (Int32.ofNat kk)), .val (.ref b323), .val (.ref ms), .val (.ref xs), .val (.ref x_362), .val (.int (own_lds st)), .val (.int (Int32.ofNat st)), .val (.int (-1 : Int32)), .unset] []))
                      refine own_Go.st (fun _ k => XS.iconst X397.here hx rfl (hb hby at_307) k) ?_
                      show own_Go _ _ _ _ (T397.setTop (mkF m 308 #[.val (.int p1), .val (.int p2), .val (.int p3), .val (.int p4), .val (.int (Int32.ofNat kk)), .val (.ref b323), .val (.ref ms), .val (.ref xs), .val (.ref x_362), .val (.int (own_lds st)), .val (.int (Int32.ofNat st)), .val (.int (-1 : Int32)), .unset] [(.int (5 : Int32))]))
                      refine own_Go.st (fun _ k => XS.istore X397.here hx rfl (hb hby at_308) rfl (l' := #[.val (.int p1), .val (.int p2), .val (.int p3), .val (.int p4), .val (.int (Int32.ofNat kk)), .val (.ref b323), .val (.ref ms), .val (.ref xs), .val (.ref x_362), .val (.int (own_lds st)), .val (.int (Int32.ofNat st)), .val (.int (5 : Int32)), .unset]) rfl k) ?_
                      show own_Go _ _ _ _ (T397.setTop (mkF m 310 #[.val (.int p1), .val (.int p2), .val (.int p3), .val (.int p4), .val (.int (Int32.ofNat kk)), .val (.ref b323), .val (.ref ms), .val (.ref xs), .val (.ref x_362), .val (.int (own_lds st)), .val (.int (Int32.ofNat st)), .val (.int (5 : Int32)), .unset] []))
                      have K399 : Keep h0 T362.heap [] := KJ361.trans K362 all0
                      exact HJ377 (5 : Int32) T397 T362.heap _ (own_CY 5 (by decide) hs5 (own_one pr397_0 hw5)) X397 K397 N397 K399 f365 (by omega) R362 f364 f362_0
                  ·
                    refine own_Go.st (fun _ k => XS.icmpYes X375.here hx rfl (pc0 := 291) (pc' := 310) rfl (hb hby at_291) rfl (flt hq5).2.2.2 (by decide) (by decide) k) ?_
                    show own_Go _ _ _ _ (T375.setTop (mkF m 310 #[.val (.int p1), .val (.int p2), .val (.int p3), .val (.int p4), .val (.int (Int32.ofNat kk)), .val (.ref b323), .val (.ref ms), .val (.ref xs), .val (.ref x_362), .val (.int (own_lds st)), .val (.int (Int32.ofNat st)), .val (.int (-1 : Int32)), .unset] []))
                    have hs5 : ¬ st < 5 := fun q => hq5 ((own_oflt (j := 5) (by omega) (by omega)).mpr q)
                    have K400 : Keep h0 T362.heap [] := KJ361.trans K362 all0
                    exact HJ377 (-1 : Int32) T375 T362.heap _ (own_CN own_C0 (fun q => hs5 q.1)) X375 K375 N375 K400 f365 (by omega) R362 f364 f362_0
                by_cases hc401 : r_375 = (0 : Int32)
                ·
                  refine own_Go.st (fun _ k => XS.ifYes X375.here hx rfl (pc0 := 273) (pc' := 279) rfl (hb hby at_273) rfl ((if0 _ _).trans (teq hc401).1) (by decide) (by decide) k) ?_
                  show own_Go _ _ _ _ (T375.setTop (mkF m 279 #[.val (.int p1), .val (.int p2), .val (.int p3), .val (.int p4), .val (.int (Int32.ofNat kk)), .val (.ref b323), .val (.ref ms), .val (.ref xs), .val (.ref x_362), .val (.int ld), .unset, .unset, .unset] []))
                  exact J376 ld (own_DN hJ374 (own_zero pr375_0 hc401))
                ·
                  refine own_Go.st (fun _ k => XS.ifNo X375.here hx rfl (hb hby at_273) rfl ((if0 _ _).trans (feq hc401).1) k) ?_
                  show own_Go _ _ _ _ (T375.setTop (mkF m 276 #[.val (.int p1), .val (.int p2), .val (.int p3), .val (.int p4), .val (.int (Int32.ofNat kk)), .val (.ref b323), .val (.ref ms), .val (.ref xs), .val (.ref x_362), .val (.int ld), .unset, .unset, .unset] []))
                  refine own_Go.st (fun _ k => XS.iconst X375.here hx rfl (hb hby at_276) k) ?_
                  show own_Go _ _ _ _ (T375.setTop (mkF m 277 #[.val (.int p1), .val (.int p2), .val (.int p3), .val (.int p4), .val (.int (Int32.ofNat kk)), .val (.ref b323), .val (.ref ms), .val (.ref xs), .val (.ref x_362), .val (.int ld), .unset, .unset, .unset] [(.int (5 : Int32))]))
                  refine own_Go.st (fun _ k => XS.istore X375.here hx rfl (hb hby at_277) rfl (l' := #[.val (.int p1), .val (.int p2), .val (.int p3), .val (.int p4), .val (.int (Int32.ofNat kk)), .val (.ref b323), .val (.ref ms), .val (.ref xs), .val (.ref x_362), .val (.int (5 : Int32)), .unset, .unset, .unset]) rfl k) ?_
                  show own_Go _ _ _ _ (T375.setTop (mkF m 279 #[.val (.int p1), .val (.int p2), .val (.int p3), .val (.int p4), .val (.int (Int32.ofNat kk)), .val (.ref b323), .val (.ref ms), .val (.ref xs), .val (.ref x_362), .val (.int (5 : Int32)), .unset, .unset, .unset] []))
                  exact J376 (5 : Int32) (own_DY 5 (by decide) (own_one pr375_0 hc401))
              by_cases hc402 : r_373 = (0 : Int32)
              ·
                refine own_Go.st (fun _ k => XS.ifYes X373.here hx rfl (pc0 := 257) (pc' := 263) rfl (hb hby at_257) rfl ((if0 _ _).trans (teq hc402).1) (by decide) (by decide) k) ?_
                show own_Go _ _ _ _ (T373.setTop (mkF m 263 #[.val (.int p1), .val (.int p2), .val (.int p3), .val (.int p4), .val (.int (Int32.ofNat kk)), .val (.ref b323), .val (.ref ms), .val (.ref xs), .val (.ref x_362), .val (.int ld), .unset, .unset, .unset] []))
                exact J374 ld (own_DN hJ372 (own_zero pr373_0 hc402))
              ·
                refine own_Go.st (fun _ k => XS.ifNo X373.here hx rfl (hb hby at_257) rfl ((if0 _ _).trans (feq hc402).1) k) ?_
                show own_Go _ _ _ _ (T373.setTop (mkF m 260 #[.val (.int p1), .val (.int p2), .val (.int p3), .val (.int p4), .val (.int (Int32.ofNat kk)), .val (.ref b323), .val (.ref ms), .val (.ref xs), .val (.ref x_362), .val (.int ld), .unset, .unset, .unset] []))
                refine own_Go.st (fun _ k => XS.iconst X373.here hx rfl (hb hby at_260) k) ?_
                show own_Go _ _ _ _ (T373.setTop (mkF m 261 #[.val (.int p1), .val (.int p2), .val (.int p3), .val (.int p4), .val (.int (Int32.ofNat kk)), .val (.ref b323), .val (.ref ms), .val (.ref xs), .val (.ref x_362), .val (.int ld), .unset, .unset, .unset] [(.int (4 : Int32))]))
                refine own_Go.st (fun _ k => XS.istore X373.here hx rfl (hb hby at_261) rfl (l' := #[.val (.int p1), .val (.int p2), .val (.int p3), .val (.int p4), .val (.int (Int32.ofNat kk)), .val (.ref b323), .val (.ref ms), .val (.ref xs), .val (.ref x_362), .val (.int (4 : Int32)), .unset, .unset, .unset]) rfl k) ?_
                show own_Go _ _ _ _ (T373.setTop (mkF m 263 #[.val (.int p1), .val (.int p2), .val (.int p3), .val (.int p4), .val (.int (Int32.ofNat kk)), .val (.ref b323), .val (.ref ms), .val (.ref xs), .val (.ref x_362), .val (.int (4 : Int32)), .unset, .unset, .unset] []))
                exact J374 (4 : Int32) (own_DY 4 (by decide) (own_one pr373_0 hc402))
            by_cases hc403 : r_371 = (0 : Int32)
            ·
              refine own_Go.st (fun _ k => XS.ifYes X371.here hx rfl (pc0 := 241) (pc' := 247) rfl (hb hby at_241) rfl ((if0 _ _).trans (teq hc403).1) (by decide) (by decide) k) ?_
              show own_Go _ _ _ _ (T371.setTop (mkF m 247 #[.val (.int p1), .val (.int p2), .val (.int p3), .val (.int p4), .val (.int (Int32.ofNat kk)), .val (.ref b323), .val (.ref ms), .val (.ref xs), .val (.ref x_362), .val (.int ld), .unset, .unset, .unset] []))
              exact J372 ld (own_DN hJ370 (own_zero pr371_0 hc403))
            ·
              refine own_Go.st (fun _ k => XS.ifNo X371.here hx rfl (hb hby at_241) rfl ((if0 _ _).trans (feq hc403).1) k) ?_
              show own_Go _ _ _ _ (T371.setTop (mkF m 244 #[.val (.int p1), .val (.int p2), .val (.int p3), .val (.int p4), .val (.int (Int32.ofNat kk)), .val (.ref b323), .val (.ref ms), .val (.ref xs), .val (.ref x_362), .val (.int ld), .unset, .unset, .unset] []))
              refine own_Go.st (fun _ k => XS.iconst X371.here hx rfl (hb hby at_244) k) ?_
              show own_Go _ _ _ _ (T371.setTop (mkF m 245 #[.val (.int p1), .val (.int p2), .val (.int p3), .val (.int p4), .val (.int (Int32.ofNat kk)), .val (.ref b323), .val (.ref ms), .val (.ref xs), .val (.ref x_362), .val (.int ld), .unset, .unset, .unset] [(.int (3 : Int32))]))
              refine own_Go.st (fun _ k => XS.istore X371.here hx rfl (hb hby at_245) rfl (l' := #[.val (.int p1), .val (.int p2), .val (.int p3), .val (.int p4), .val (.int (Int32.ofNat kk)), .val (.ref b323), .val (.ref ms), .val (.ref xs), .val (.ref x_362), .val (.int (3 : Int32)), .unset, .unset, .unset]) rfl k) ?_
              show own_Go _ _ _ _ (T371.setTop (mkF m 247 #[.val (.int p1), .val (.int p2), .val (.int p3), .val (.int p4), .val (.int (Int32.ofNat kk)), .val (.ref b323), .val (.ref ms), .val (.ref xs), .val (.ref x_362), .val (.int (3 : Int32)), .unset, .unset, .unset] []))
              exact J372 (3 : Int32) (own_DY 3 (by decide) (own_one pr371_0 hc403))
          by_cases hc404 : r_369 = (0 : Int32)
          ·
            refine own_Go.st (fun _ k => XS.ifYes X369.here hx rfl (pc0 := 225) (pc' := 231) rfl (hb hby at_225) rfl ((if0 _ _).trans (teq hc404).1) (by decide) (by decide) k) ?_
            show own_Go _ _ _ _ (T369.setTop (mkF m 231 #[.val (.int p1), .val (.int p2), .val (.int p3), .val (.int p4), .val (.int (Int32.ofNat kk)), .val (.ref b323), .val (.ref ms), .val (.ref xs), .val (.ref x_362), .val (.int ld), .unset, .unset, .unset] []))
            exact J370 ld (own_DN hJ368 (own_zero pr369_0 hc404))
          ·
            refine own_Go.st (fun _ k => XS.ifNo X369.here hx rfl (hb hby at_225) rfl ((if0 _ _).trans (feq hc404).1) k) ?_
            show own_Go _ _ _ _ (T369.setTop (mkF m 228 #[.val (.int p1), .val (.int p2), .val (.int p3), .val (.int p4), .val (.int (Int32.ofNat kk)), .val (.ref b323), .val (.ref ms), .val (.ref xs), .val (.ref x_362), .val (.int ld), .unset, .unset, .unset] []))
            refine own_Go.st (fun _ k => XS.iconst X369.here hx rfl (hb hby at_228) k) ?_
            show own_Go _ _ _ _ (T369.setTop (mkF m 229 #[.val (.int p1), .val (.int p2), .val (.int p3), .val (.int p4), .val (.int (Int32.ofNat kk)), .val (.ref b323), .val (.ref ms), .val (.ref xs), .val (.ref x_362), .val (.int ld), .unset, .unset, .unset] [(.int (2 : Int32))]))
            refine own_Go.st (fun _ k => XS.istore X369.here hx rfl (hb hby at_229) rfl (l' := #[.val (.int p1), .val (.int p2), .val (.int p3), .val (.int p4), .val (.int (Int32.ofNat kk)), .val (.ref b323), .val (.ref ms), .val (.ref xs), .val (.ref x_362), .val (.int (2 : Int32)), .unset, .unset, .unset]) rfl k) ?_
            show own_Go _ _ _ _ (T369.setTop (mkF m 231 #[.val (.int p1), .val (.int p2), .val (.int p3), .val (.int p4), .val (.int (Int32.ofNat kk)), .val (.ref b323), .val (.ref ms), .val (.ref xs), .val (.ref x_362), .val (.int (2 : Int32)), .unset, .unset, .unset] []))
            exact J370 (2 : Int32) (own_DY 2 (by decide) (own_one pr369_0 hc404))
        by_cases hc405 : r_367 = (0 : Int32)
        ·
          refine own_Go.st (fun _ k => XS.ifYes X367.here hx rfl (pc0 := 209) (pc' := 215) rfl (hb hby at_209) rfl ((if0 _ _).trans (teq hc405).1) (by decide) (by decide) k) ?_
          show own_Go _ _ _ _ (T367.setTop (mkF m 215 #[.val (.int p1), .val (.int p2), .val (.int p3), .val (.int p4), .val (.int (Int32.ofNat kk)), .val (.ref b323), .val (.ref ms), .val (.ref xs), .val (.ref x_362), .val (.int ld), .unset, .unset, .unset] []))
          exact J368 ld (own_DN hJ366 (own_zero pr367_0 hc405))
        ·
          refine own_Go.st (fun _ k => XS.ifNo X367.here hx rfl (hb hby at_209) rfl ((if0 _ _).trans (feq hc405).1) k) ?_
          show own_Go _ _ _ _ (T367.setTop (mkF m 212 #[.val (.int p1), .val (.int p2), .val (.int p3), .val (.int p4), .val (.int (Int32.ofNat kk)), .val (.ref b323), .val (.ref ms), .val (.ref xs), .val (.ref x_362), .val (.int ld), .unset, .unset, .unset] []))
          refine own_Go.st (fun _ k => XS.iconst X367.here hx rfl (hb hby at_212) k) ?_
          show own_Go _ _ _ _ (T367.setTop (mkF m 213 #[.val (.int p1), .val (.int p2), .val (.int p3), .val (.int p4), .val (.int (Int32.ofNat kk)), .val (.ref b323), .val (.ref ms), .val (.ref xs), .val (.ref x_362), .val (.int ld), .unset, .unset, .unset] [(.int (1 : Int32))]))
          refine own_Go.st (fun _ k => XS.istore X367.here hx rfl (hb hby at_213) rfl (l' := #[.val (.int p1), .val (.int p2), .val (.int p3), .val (.int p4), .val (.int (Int32.ofNat kk)), .val (.ref b323), .val (.ref ms), .val (.ref xs), .val (.ref x_362), .val (.int (1 : Int32)), .unset, .unset, .unset]) rfl k) ?_
          show own_Go _ _ _ _ (T367.setTop (mkF m 215 #[.val (.int p1), .val (.int p2), .val (.int p3), .val (.int p4), .val (.int (Int32.ofNat kk)), .val (.ref b323), .val (.ref ms), .val (.ref xs), .val (.ref x_362), .val (.int (1 : Int32)), .unset, .unset, .unset] []))
          exact J368 (1 : Int32) (own_DY 1 (by decide) (own_one pr367_0 hc405))
      by_cases hc406 : r_363 = (0 : Int32)
      ·
        refine own_Go.st (fun _ k => XS.ifYes X363.here hx rfl (pc0 := 193) (pc' := 199) rfl (hb hby at_193) rfl ((if0 _ _).trans (teq hc406).1) (by decide) (by decide) k) ?_
        show own_Go _ _ _ _ (T363.setTop (mkF m 199 #[.val (.int p1), .val (.int p2), .val (.int p3), .val (.int p4), .val (.int (Int32.ofNat kk)), .val (.ref b323), .val (.ref ms), .val (.ref xs), .val (.ref x_362), .val (.int (-1 : Int32)), .unset, .unset, .unset] []))
        exact J366 (-1 : Int32) (own_DN own_D0 (own_zero pr363_0 hc406))
      ·
        refine own_Go.st (fun _ k => XS.ifNo X363.here hx rfl (hb hby at_193) rfl ((if0 _ _).trans (feq hc406).1) k) ?_
        show own_Go _ _ _ _ (T363.setTop (mkF m 196 #[.val (.int p1), .val (.int p2), .val (.int p3), .val (.int p4), .val (.int (Int32.ofNat kk)), .val (.ref b323), .val (.ref ms), .val (.ref xs), .val (.ref x_362), .val (.int (-1 : Int32)), .unset, .unset, .unset] []))
        refine own_Go.st (fun _ k => XS.iconst X363.here hx rfl (hb hby at_196) k) ?_
        show own_Go _ _ _ _ (T363.setTop (mkF m 197 #[.val (.int p1), .val (.int p2), .val (.int p3), .val (.int p4), .val (.int (Int32.ofNat kk)), .val (.ref b323), .val (.ref ms), .val (.ref xs), .val (.ref x_362), .val (.int (-1 : Int32)), .unset, .unset, .unset] [(.int (0 : Int32))]))
        refine own_Go.st (fun _ k => XS.istore X363.here hx rfl (hb hby at_197) rfl (l' := #[.val (.int p1), .val (.int p2), .val (.int p3), .val (.int p4), .val (.int (Int32.ofNat kk)), .val (.ref b323), .val (.ref ms), .val (.ref xs), .val (.ref x_362), .val (.int (0 : Int32)), .unset, .unset, .unset]) rfl k) ?_
        show own_Go _ _ _ _ (T363.setTop (mkF m 199 #[.val (.int p1), .val (.int p2), .val (.int p3), .val (.int p4), .val (.int (Int32.ofNat kk)), .val (.ref b323), .val (.ref ms), .val (.ref xs), .val (.ref x_362), .val (.int (0 : Int32)), .unset, .unset, .unset] []))
        exact J366 (0 : Int32) (own_DY 0 (by decide) (own_one pr363_0 hc406))
    rcases hnn with rfl | rfl | rfl | rfl | rfl | rfl | rfl
    ·
      show own_Go _ _ _ _ (T357.setTop (mkF m 72 #[.val (.int p1), .val (.int p2), .val (.int p3), .val (.int p4), .val (.int (0 : Int32)), .val (.ref b323), .unset, .unset, .unset, .unset, .unset, .unset, .unset] []))
      refine own_Go.st (fun _ k => XS.iload X357.here hx rfl (hb hby at_72) rfl k) ?_
      show own_Go _ _ _ _ (T357.setTop (mkF m 74 #[.val (.int p1), .val (.int p2), .val (.int p3), .val (.int p4), .val (.int (0 : Int32)), .val (.ref b323), .unset, .unset, .unset, .unset, .unset, .unset, .unset] [(.int (0 : Int32))]))
      have f408 : Old Z Z.heap.size h357 := f356.wr W357 (by omega)
      obtain ⟨_, _, ⟨T407, L407, k407, n407⟩, -, X407, ⟨Lc407, hQ407, l407, y407, z407⟩, st407⟩ := Jvm.LawKit.callS X357 hx (y := (⟨"com/example/keep_to_layer/keeptolayer/model/ClassNamesOutermostOfPinLaw", "make", "(I)[C"⟩ : MethodName)) hown (mvT hZ (hw _ (List.mem_of_getElem? (i := 6) rfl))) (mvT hZ (hw _ (List.mem_of_getElem? (i := 7) rfl))) (mvT hZ (hw _ (List.mem_of_getElem? (i := 4) rfl))) (mvT hZ (hw _ (List.mem_of_getElem? (i := 8) rfl))) (by decide) (backOf (W := 0) (rm_make l Z a0 hw [] (0 : Int32) h357 f408 (by decide)) hZ (hw _ (List.mem_of_getElem? (i := 8) rfl)) (hw _ (List.mem_of_getElem? (i := 4) rfl)) (by decide) (by decide)) (g := (mkF m 74 #[.val (.int p1), .val (.int p2), .val (.int p3), .val (.int p4), .val (.int (0 : Int32)), .val (.ref b323), .unset, .unset, .unset, .unset, .unset, .unset, .unset] [(.int (0 : Int32))])) rfl (by rw [hml]; rfl) (argsL := [(.int (0 : Int32))]) (rest := []) (lenOf pd_404 rfl) rfl (by show 2 * 0 + _ ≤ _; exact Nat.le_of_eq rfl) (hb hby at_74) (fun _ _ => ⟨rfl, e357, (by decide : 1 + 1 ≤ _), (by decide : 6 + 6 ≤ _)⟩)
      dsimp only [Pt.U, Pt.locs, Pt.cells, Pt.slots] at X407 l407 y407 z407 st407 hQ407
      subst l407 y407 z407
      obtain ⟨x_407, k_407, rfl, N407q, K407, f407_0, pr407_0⟩ := hQ407
      have N407 := Fr.app N357 N407q
      have z407 : h357.size ≤ T407.heap.size := K407.1
      have R407 : CHr Z consts_1 s.vm h0 s.vm T407.heap := R357.trans (CHr.keep K407 sf0 R357.1)
      have lt407_0 : @LT.lt Nat _ x_407 T407.heap.size := f407_0.lt
      have f409 : Arv Z T407.heap x_407 k_407 .char (0 : Int32) [] (.int (0 : Int32)) := Arv.pad f407_0 (pad_rep [] _ 0)
      refine own_Go.st st407 ?_
      show own_Go _ _ _ _ (T407.setTop (mkF m 77 #[.val (.int p1), .val (.int p2), .val (.int p3), .val (.int p4), .val (.int (0 : Int32)), .val (.ref b323), .unset, .unset, .unset, .unset, .unset, .unset, .unset] [(.ref x_407)]))
      refine own_Go.st (fun _ k => XS.astore X407.here hx rfl (hb hby at_77) rfl rfl (l' := #[.val (.int p1), .val (.int p2), .val (.int p3), .val (.int p4), .val (.int (0 : Int32)), .val (.ref b323), .val (.ref x_407), .unset, .unset, .unset, .unset, .unset, .unset]) rfl k) ?_
      show own_Go _ _ _ _ (T407.setTop (mkF m 79 #[.val (.int p1), .val (.int p2), .val (.int p3), .val (.int p4), .val (.int (0 : Int32)), .val (.ref b323), .val (.ref x_407), .unset, .unset, .unset, .unset, .unset, .unset] []))
      refine own_Go.st (fun _ k => XS.iload X407.here hx rfl (hb hby at_79) rfl k) ?_
      show own_Go _ _ _ _ (T407.setTop (mkF m 81 #[.val (.int p1), .val (.int p2), .val (.int p3), .val (.int p4), .val (.int (0 : Int32)), .val (.ref b323), .val (.ref x_407), .unset, .unset, .unset, .unset, .unset, .unset] [(.int (0 : Int32))]))
      refine own_Go.st (fun _ k => XS.ifYes X407.here hx rfl (pc0 := 81) (pc' := 92) rfl (hb hby at_81) rfl ((if0 _ _).trans (flt (by decide : ¬ ((0 : Int32) < (0 : Int32)))).2.2.2) (by decide) (by decide) k) ?_
      show own_Go _ _ _ _ (T407.setTop (mkF m 92 #[.val (.int p1), .val (.int p2), .val (.int p3), .val (.int p4), .val (.int (0 : Int32)), .val (.ref b323), .val (.ref x_407), .unset, .unset, .unset, .unset, .unset, .unset] []))
      refine own_Go.st (fun _ k => XS.iload X407.here hx rfl (hb hby at_92) rfl k) ?_
      show own_Go _ _ _ _ (T407.setTop (mkF m 94 #[.val (.int p1), .val (.int p2), .val (.int p3), .val (.int p4), .val (.int (0 : Int32)), .val (.ref b323), .val (.ref x_407), .unset, .unset, .unset, .unset, .unset, .unset] [(.int (0 : Int32))]))
      refine own_Go.st (fun _ k => XS.iconst X407.here hx rfl (hb hby at_94) k) ?_
      show own_Go _ _ _ _ (T407.setTop (mkF m 95 #[.val (.int p1), .val (.int p2), .val (.int p3), .val (.int p4), .val (.int (0 : Int32)), .val (.ref b323), .val (.ref x_407), .unset, .unset, .unset, .unset, .unset, .unset] [(.int (1 : Int32)), (.int (0 : Int32))]))
      refine own_Go.st (fun _ k => XS.icmpYes X407.here hx rfl (pc0 := 95) (pc' := 106) rfl (hb hby at_95) rfl (flt (by decide : ¬ ((1 : Int32) < (0 : Int32)))).2.2.2 (by decide) (by decide) k) ?_
      show own_Go _ _ _ _ (T407.setTop (mkF m 106 #[.val (.int p1), .val (.int p2), .val (.int p3), .val (.int p4), .val (.int (0 : Int32)), .val (.ref b323), .val (.ref x_407), .unset, .unset, .unset, .unset, .unset, .unset] []))
      refine own_Go.st (fun _ k => XS.iload X407.here hx rfl (hb hby at_106) rfl k) ?_
      show own_Go _ _ _ _ (T407.setTop (mkF m 108 #[.val (.int p1), .val (.int p2), .val (.int p3), .val (.int p4), .val (.int (0 : Int32)), .val (.ref b323), .val (.ref x_407), .unset, .unset, .unset, .unset, .unset, .unset] [(.int (0 : Int32))]))
      refine own_Go.st (fun _ k => XS.iconst X407.here hx rfl (hb hby at_108) k) ?_
      show own_Go _ _ _ _ (T407.setTop (mkF m 109 #[.val (.int p1), .val (.int p2), .val (.int p3), .val (.int p4), .val (.int (0 : Int32)), .val (.ref b323), .val (.ref x_407), .unset, .unset, .unset, .unset, .unset, .unset] [(.int (2 : Int32)), (.int (0 : Int32))]))
      refine own_Go.st (fun _ k => XS.icmpYes X407.here hx rfl (pc0 := 109) (pc' := 120) rfl (hb hby at_109) rfl (flt (by decide : ¬ ((2 : Int32) < (0 : Int32)))).2.2.2 (by decide) (by decide) k) ?_
      show own_Go _ _ _ _ (T407.setTop (mkF m 120 #[.val (.int p1), .val (.int p2), .val (.int p3), .val (.int p4), .val (.int (0 : Int32)), .val (.ref b323), .val (.ref x_407), .unset, .unset, .unset, .unset, .unset, .unset] []))
      refine own_Go.st (fun _ k => XS.iload X407.here hx rfl (hb hby at_120) rfl k) ?_
      show own_Go _ _ _ _ (T407.setTop (mkF m 122 #[.val (.int p1), .val (.int p2), .val (.int p3), .val (.int p4), .val (.int (0 : Int32)), .val (.ref b323), .val (.ref x_407), .unset, .unset, .unset, .unset, .unset, .unset] [(.int (0 : Int32))]))
      refine own_Go.st (fun _ k => XS.iconst X407.here hx rfl (hb hby at_122) k) ?_
      show own_Go _ _ _ _ (T407.setTop (mkF m 123 #[.val (.int p1), .val (.int p2), .val (.int p3), .val (.int p4), .val (.int (0 : Int32)), .val (.ref b323), .val (.ref x_407), .unset, .unset, .unset, .unset, .unset, .unset] [(.int (3 : Int32)), (.int (0 : Int32))]))
      refine own_Go.st (fun _ k => XS.icmpYes X407.here hx rfl (pc0 := 123) (pc' := 134) rfl (hb hby at_123) rfl (flt (by decide : ¬ ((3 : Int32) < (0 : Int32)))).2.2.2 (by decide) (by decide) k) ?_
      show own_Go _ _ _ _ (T407.setTop (mkF m 134 #[.val (.int p1), .val (.int p2), .val (.int p3), .val (.int p4), .val (.int (0 : Int32)), .val (.ref b323), .val (.ref x_407), .unset, .unset, .unset, .unset, .unset, .unset] []))
      refine own_Go.st (fun _ k => XS.iload X407.here hx rfl (hb hby at_134) rfl k) ?_
      show own_Go _ _ _ _ (T407.setTop (mkF m 136 #[.val (.int p1), .val (.int p2), .val (.int p3), .val (.int p4), .val (.int (0 : Int32)), .val (.ref b323), .val (.ref x_407), .unset, .unset, .unset, .unset, .unset, .unset] [(.int (0 : Int32))]))
      refine own_Go.st (fun _ k => XS.iconst X407.here hx rfl (hb hby at_136) k) ?_
      show own_Go _ _ _ _ (T407.setTop (mkF m 137 #[.val (.int p1), .val (.int p2), .val (.int p3), .val (.int p4), .val (.int (0 : Int32)), .val (.ref b323), .val (.ref x_407), .unset, .unset, .unset, .unset, .unset, .unset] [(.int (4 : Int32)), (.int (0 : Int32))]))
      refine own_Go.st (fun _ k => XS.icmpYes X407.here hx rfl (pc0 := 137) (pc' := 148) rfl (hb hby at_137) rfl (flt (by decide : ¬ ((4 : Int32) < (0 : Int32)))).2.2.2 (by decide) (by decide) k) ?_
      show own_Go _ _ _ _ (T407.setTop (mkF m 148 #[.val (.int p1), .val (.int p2), .val (.int p3), .val (.int p4), .val (.int (0 : Int32)), .val (.ref b323), .val (.ref x_407), .unset, .unset, .unset, .unset, .unset, .unset] []))
      refine own_Go.st (fun _ k => XS.iload X407.here hx rfl (hb hby at_148) rfl k) ?_
      show own_Go _ _ _ _ (T407.setTop (mkF m 150 #[.val (.int p1), .val (.int p2), .val (.int p3), .val (.int p4), .val (.int (0 : Int32)), .val (.ref b323), .val (.ref x_407), .unset, .unset, .unset, .unset, .unset, .unset] [(.int (0 : Int32))]))
      refine own_Go.st (fun _ k => XS.iconst X407.here hx rfl (hb hby at_150) k) ?_
      show own_Go _ _ _ _ (T407.setTop (mkF m 151 #[.val (.int p1), .val (.int p2), .val (.int p3), .val (.int p4), .val (.int (0 : Int32)), .val (.ref b323), .val (.ref x_407), .unset, .unset, .unset, .unset, .unset, .unset] [(.int (5 : Int32)), (.int (0 : Int32))]))
      refine own_Go.st (fun _ k => XS.icmpYes X407.here hx rfl (pc0 := 151) (pc' := 162) rfl (hb hby at_151) rfl (flt (by decide : ¬ ((5 : Int32) < (0 : Int32)))).2.2.2 (by decide) (by decide) k) ?_
      show own_Go _ _ _ _ (T407.setTop (mkF m 162 #[.val (.int p1), .val (.int p2), .val (.int p3), .val (.int p4), .val (.int (0 : Int32)), .val (.ref b323), .val (.ref x_407), .unset, .unset, .unset, .unset, .unset, .unset] []))
      obtain ⟨T410, h410, X410, e410, E410, A410, D410, U410, st410⟩ := newO X407 hx hZ hown (hw _ (List.mem_of_getElem? (i := 9) rfl)) (hw _ (List.mem_of_getElem? (i := 10) rfl)) (hw _ (List.mem_of_getElem? (i := 11) rfl)) rfl (g := (mkF m 162 #[.val (.int p1), .val (.int p2), .val (.int p3), .val (.int p4), .val (.int (0 : Int32)), .val (.ref b323), .val (.ref x_407), .unset, .unset, .unset, .unset, .unset, .unset] [])) rfl (hb hby at_162) (by decide) (by decide)
      obtain ⟨b410, g410⟩ : ∃ z, z = T407.heap.size := ⟨_, rfl⟩
      rw [← g410] at A410 D410 U410 st410
      refine own_Go.st st410 ?_
      have z410 : T407.heap.size ≤ h410.size := E410.1
      have lt_b410 : @LT.lt Nat _ b410 h410.size := A410.lt
      have f411 : Fld Z h410 b410 "java/lang/String" "value" "[B" .null := D410 (Or.inr (hw _ (List.mem_of_getElem? (i := 24) rfl))) (ty := (.array .byte)) (by decide)
      have f412 : Fld Z h410 b410 "java/lang/String" "coder" "B" (.int (0 : Int32)) := D410 (Or.inr (hw _ (List.mem_of_getElem? (i := 25) rfl))) (ty := .byte) (by decide)
      have R410 : CHr Z consts_1 s.vm h0 s.vm h410 := R407.trans (CHr.ext E410 R407.1)
      have Sf410 : Safe Z consts_1 s.vm h410 b410 := (Safe.new (Nat.le_of_eq g410.symm)).ext E410 R407.1
      show own_Go _ _ _ _ (T410.setTop (mkF m 165 #[.val (.int p1), .val (.int p2), .val (.int p3), .val (.int p4), .val (.int (0 : Int32)), .val (.ref b323), .val (.ref x_407), .unset, .unset, .unset, .unset, .unset, .unset] [(.ref b410)]))
      refine own_Go.st (fun _ k => XS.dup X410.here hx rfl (hb hby at_165) rfl rfl k) ?_
      show own_Go _ _ _ _ (T410.setTop (mkF m 166 #[.val (.int p1), .val (.int p2), .val (.int p3), .val (.int p4), .val (.int (0 : Int32)), .val (.ref b323), .val (.ref x_407), .unset, .unset, .unset, .unset, .unset, .unset] [(.ref b410), (.ref b410)]))
      refine own_Go.st (fun _ k => XS.aload X410.here hx rfl (hb hby at_166) rfl rfl k) ?_
      show own_Go _ _ _ _ (T410.setTop (mkF m 168 #[.val (.int p1), .val (.int p2), .val (.int p3), .val (.int p4), .val (.int (0 : Int32)), .val (.ref b323), .val (.ref x_407), .unset, .unset, .unset, .unset, .unset, .unset] [(.ref x_407), (.ref b410), (.ref b410)]))
      have f414 : Arv Z h410 x_407 k_407 .char (0 : Int32) [] (.int (0 : Int32)) := f409.ext E410
      have f415 : Old Z Z.heap.size T407.heap := f408.keep K407 all0
      have f416 : Old Z Z.heap.size h410 := f415.ext E410
      obtain ⟨_, _, ⟨T413, L413, k413, n413⟩, -, X413, hs413, hg413, ⟨Lc413, hQ413, l413, y413, z413, ch413⟩, st413⟩ := X410.specialBackS hx (y := (⟨"java/lang/String", "<init>", "([C)V"⟩ : MethodName)) rfl hown (mvT hZ (hw _ (List.mem_of_getElem? (i := 12) rfl))) (mvT hZ (hw _ (List.mem_of_getElem? (i := 13) rfl))) (mvT hZ (hw _ (List.mem_of_getElem? (i := 14) rfl))) (by decide) (backOfSH (s := s) (vm0 := s.vm) (W := 1) (rm_init1e l Z a0 hw [] b410 x_407 k_407 [] (.int (0 : Int32)) h410 hEL f416 A410 f411 f412 f414 (by omega)) hZ (hw _ (List.mem_of_getElem? (i := 14) rfl)) (hw _ (List.mem_of_getElem? (i := 11) rfl)) (by decide) (by decide) hEL R410.1) (g := (mkF m 168 #[.val (.int p1), .val (.int p2), .val (.int p3), .val (.int p4), .val (.int (0 : Int32)), .val (.ref b323), .val (.ref x_407), .unset, .unset, .unset, .unset, .unset, .unset] [(.ref x_407), (.ref b410), (.ref b410)])) rfl (by rw [hml]; rfl) (Steps.refl _) (a := b410) (argsL := [(.ref x_407)]) (rest := [(.ref b410)]) (lenOf pd_405 rfl) rfl (by show 2 * 0 + _ ≤ _; exact Nat.le_of_eq rfl) (hb hby at_168) (fun _ _ => ⟨rfl, e410, (by decide : 3 + 4 ≤ _), (by decide : 16 + 8 ≤ _)⟩)
      dsimp only [Pt.U, Pt.locs, Pt.cells, Pt.slots] at X413 l413 y413 z413 st413 hQ413 hs413 hg413 ch413
      subst l413 y413 z413
      obtain ⟨t_413, rfl, N413q, K413, f413_0⟩ := hQ413
      have N413 := Fr.app N407 N413q
      obtain ⟨Y413, hS413, hZ413, hown413⟩ := rebS hS0 (n1 := h410.size) (by omega) X413 hs413 (by have := hg413; first | exact this | (rw [← e410]; exact this)) hZ hown
      have z413 : h410.size ≤ T413.heap.size := K413.1
      have R413 : CHr Z consts_1 s.vm h0 T413.vm T413.heap := R410.trans ch413
      have Sf417 : Safe Z consts_1 T413.vm T413.heap b410 := ch413.safe (by show @LT.lt Nat _ b410 _; omega) Sf410
      have lt413_0 : @LT.lt Nat _ b410 T413.heap.size := f413_0.lt
      have ltv413_0 : @LT.lt Nat _ t_413 T413.heap.size := f413_0.ltv
      refine own_Go.tr st413 ?_
      show own_Go _ _ _ _ (T413.setTop (mkF m 171 #[.val (.int p1), .val (.int p2), .val (.int p3), .val (.int p4), .val (.int (0 : Int32)), .val (.ref b323), .val (.ref x_407), .unset, .unset, .unset, .unset, .unset, .unset] [(.ref b410)]))
      have f418 : Arv Z T407.heap b323 k323 .char (6 : Int32) [(.int c_325), (.int c_331), (.int c_337), (.int c_343), (.int c_349), (.int c_355)] (.int (0 : Int32)) := f360.keep K407 nin0
      have f419 : Arv Z h410 b323 k323 .char (6 : Int32) [(.int c_325), (.int c_331), (.int c_337), (.int c_343), (.int c_349), (.int c_355)] (.int (0 : Int32)) := f418.ext E410
      have f420 : Arv Z T413.heap b323 k323 .char (6 : Int32) [(.int c_325), (.int c_331), (.int c_337), (.int c_343), (.int c_349), (.int c_355)] (.int (0 : Int32)) := f419.keep K413 (ninS (by show @Ne Nat b323 b410; omega) nin0)
      have K421 : Keep h0 h323 [] := (Keep.refl h0 []).ext E323
      have K422 : Keep h0 h327 [] := K421.wr W327 (Or.inr (by omega))
      have K423 : Keep h0 h333 [] := K422.wr W333 (Or.inr (by omega))
      have K424 : Keep h0 h339 [] := K423.wr W339 (Or.inr (by omega))
      have K425 : Keep h0 h345 [] := K424.wr W345 (Or.inr (by omega))
      have K426 : Keep h0 h351 [] := K425.wr W351 (Or.inr (by omega))
      have K427 : Keep h0 h357 [] := K426.wr W357 (Or.inr (by omega))
      have K428 : Keep h0 T407.heap [] := K427.trans K407 all0
      have K429 : Keep h0 h410 [] := K428.ext E410
      have K430 : Keep h0 T413.heap [] := K429.trans K413 (allS (Or.inr (by omega)) all0)
      have f431 : Old Z Z.heap.size T413.heap := f416.keep K413 (allS (by omega) all0)
      exact HJ361 [c_325, c_331, c_337, c_343, c_349, c_355] 0 b410 t_413 x_407 T413 T413.heap _ T413.vm _ rfl rfl (by decide) ((own_aS pr325_0 (own_aS pr331_0 (own_aS pr337_0 (own_aS pr343_0 (own_aS pr349_0 (own_aS pr355_0 own_a0))))))) (own_standW Y413 (by decide) (by decide)) rfl N413 K430 f431 (by omega) R413 hS413 (by omega) hZ413 hown413 f420 f413_0
    ·
      show own_Go _ _ _ _ (T357.setTop (mkF m 72 #[.val (.int p1), .val (.int p2), .val (.int p3), .val (.int p4), .val (.int (1 : Int32)), .val (.ref b323), .unset, .unset, .unset, .unset, .unset, .unset, .unset] []))
      refine own_Go.st (fun _ k => XS.iload X357.here hx rfl (hb hby at_72) rfl k) ?_
      show own_Go _ _ _ _ (T357.setTop (mkF m 74 #[.val (.int p1), .val (.int p2), .val (.int p3), .val (.int p4), .val (.int (1 : Int32)), .val (.ref b323), .unset, .unset, .unset, .unset, .unset, .unset, .unset] [(.int (1 : Int32))]))
      have f433 : Old Z Z.heap.size h357 := f356.wr W357 (by omega)
      obtain ⟨_, _, ⟨T432, L432, k432, n432⟩, -, X432, ⟨Lc432, hQ432, l432, y432, z432⟩, st432⟩ := Jvm.LawKit.callS X357 hx (y := (⟨"com/example/keep_to_layer/keeptolayer/model/ClassNamesOutermostOfPinLaw", "make", "(I)[C"⟩ : MethodName)) hown (mvT hZ (hw _ (List.mem_of_getElem? (i := 6) rfl))) (mvT hZ (hw _ (List.mem_of_getElem? (i := 7) rfl))) (mvT hZ (hw _ (List.mem_of_getElem? (i := 4) rfl))) (mvT hZ (hw _ (List.mem_of_getElem? (i := 8) rfl))) (by decide) (backOf (W := 0) (rm_make l Z a0 hw [] (1 : Int32) h357 f433 (by decide)) hZ (hw _ (List.mem_of_getElem? (i := 8) rfl)) (hw _ (List.mem_of_getElem? (i := 4) rfl)) (by decide) (by decide)) (g := (mkF m 74 #[.val (.int p1), .val (.int p2), .val (.int p3), .val (.int p4), .val (.int (1 : Int32)), .val (.ref b323), .unset, .unset, .unset, .unset, .unset, .unset, .unset] [(.int (1 : Int32))])) rfl (by rw [hml]; rfl) (argsL := [(.int (1 : Int32))]) (rest := []) (lenOf pd_404 rfl) rfl (by show 2 * 0 + _ ≤ _; exact Nat.le_of_eq rfl) (hb hby at_74) (fun _ _ => ⟨rfl, e357, (by decide : 1 + 1 ≤ _), (by decide : 6 + 6 ≤ _)⟩)
      dsimp only [Pt.U, Pt.locs, Pt.cells, Pt.slots] at X432 l432 y432 z432 st432 hQ432
      subst l432 y432 z432
      obtain ⟨x_432, k_432, rfl, N432q, K432, f432_0, pr432_0⟩ := hQ432
      have N432 := Fr.app N357 N432q
      have z432 : h357.size ≤ T432.heap.size := K432.1
      have R432 : CHr Z consts_1 s.vm h0 s.vm T432.heap := R357.trans (CHr.keep K432 sf0 R357.1)
      have lt432_0 : @LT.lt Nat _ x_432 T432.heap.size := f432_0.lt
      have f434 : Arv Z T432.heap x_432 k_432 .char (1 : Int32) [(.int (0 : Int32))] (.int (0 : Int32)) := Arv.pad f432_0 (pad_rep [] _ 1)
      refine own_Go.st st432 ?_
      show own_Go _ _ _ _ (T432.setTop (mkF m 77 #[.val (.int p1), .val (.int p2), .val (.int p3), .val (.int p4), .val (.int (1 : Int32)), .val (.ref b323), .unset, .unset, .unset, .unset, .unset, .unset, .unset] [(.ref x_432)]))
      refine own_Go.st (fun _ k => XS.astore X432.here hx rfl (hb hby at_77) rfl rfl (l' := #[.val (.int p1), .val (.int p2), .val (.int p3), .val (.int p4), .val (.int (1 : Int32)), .val (.ref b323), .val (.ref x_432), .unset, .unset, .unset, .unset, .unset, .unset]) rfl k) ?_
      show own_Go _ _ _ _ (T432.setTop (mkF m 79 #[.val (.int p1), .val (.int p2), .val (.int p3), .val (.int p4), .val (.int (1 : Int32)), .val (.ref b323), .val (.ref x_432), .unset, .unset, .unset, .unset, .unset, .unset] []))
      refine own_Go.st (fun _ k => XS.iload X432.here hx rfl (hb hby at_79) rfl k) ?_
      show own_Go _ _ _ _ (T432.setTop (mkF m 81 #[.val (.int p1), .val (.int p2), .val (.int p3), .val (.int p4), .val (.int (1 : Int32)), .val (.ref b323), .val (.ref x_432), .unset, .unset, .unset, .unset, .unset, .unset] [(.int (1 : Int32))]))
      refine own_Go.st (fun _ k => XS.ifNo X432.here hx rfl (hb hby at_81) rfl ((if0 _ _).trans (tlt (by decide : (0 : Int32) < (1 : Int32))).2.2.2) k) ?_
      show own_Go _ _ _ _ (T432.setTop (mkF m 84 #[.val (.int p1), .val (.int p2), .val (.int p3), .val (.int p4), .val (.int (1 : Int32)), .val (.ref b323), .val (.ref x_432), .unset, .unset, .unset, .unset, .unset, .unset] []))
      refine own_Go.st (fun _ k => XS.aload X432.here hx rfl (hb hby at_84) rfl rfl k) ?_
      show own_Go _ _ _ _ (T432.setTop (mkF m 86 #[.val (.int p1), .val (.int p2), .val (.int p3), .val (.int p4), .val (.int (1 : Int32)), .val (.ref b323), .val (.ref x_432), .unset, .unset, .unset, .unset, .unset, .unset] [(.ref x_432)]))
      refine own_Go.st (fun _ k => XS.iconst X432.here hx rfl (hb hby at_86) k) ?_
      show own_Go _ _ _ _ (T432.setTop (mkF m 87 #[.val (.int p1), .val (.int p2), .val (.int p3), .val (.int p4), .val (.int (1 : Int32)), .val (.ref b323), .val (.ref x_432), .unset, .unset, .unset, .unset, .unset, .unset] [(.int (0 : Int32)), (.ref x_432)]))
      refine own_Go.st (fun _ k => XS.aload X432.here hx rfl (hb hby at_87) rfl rfl k) ?_
      show own_Go _ _ _ _ (T432.setTop (mkF m 89 #[.val (.int p1), .val (.int p2), .val (.int p3), .val (.int p4), .val (.int (1 : Int32)), .val (.ref b323), .val (.ref x_432), .unset, .unset, .unset, .unset, .unset, .unset] [(.ref b323), (.int (0 : Int32)), (.ref x_432)]))
      refine own_Go.st (fun _ k => XS.iconst X432.here hx rfl (hb hby at_89) k) ?_
      show own_Go _ _ _ _ (T432.setTop (mkF m 90 #[.val (.int p1), .val (.int p2), .val (.int p3), .val (.int p4), .val (.int (1 : Int32)), .val (.ref b323), .val (.ref x_432), .unset, .unset, .unset, .unset, .unset, .unset] [(.int (0 : Int32)), (.ref b323), (.int (0 : Int32)), (.ref x_432)]))
      have f435 : Arv Z T432.heap b323 k323 .char (6 : Int32) [(.int c_325), (.int c_331), (.int c_337), (.int c_343), (.int c_349), (.int c_355)] (.int (0 : Int32)) := f360.keep K432 nin0
      obtain ⟨c436, Ar436, q436, S436, Nn436, H436, G436⟩ := id f435
      have hin436 : ¬ ((0 : Int32) < 0 ∨ c436.slots.size ≤ ((0 : Int32)).toNatClampNeg) := inb_of S436 ⟨by decide, by decide⟩
      have hat436 : c436.slots[((0 : Int32)).toNatClampNeg]? = some (.int c_325) := H436.at hin436 rfl
      refine own_Go.st (X432.caload hx (j := (0 : Int32)) (v := (.int c_325)) (own_rwE rfl Ar436.1) (State.isArrayOf_alike hZ.alike Ar436.2.1) Ar436.2.2 hin436 hat436 (g := (mkF m 90 #[.val (.int p1), .val (.int p2), .val (.int p3), .val (.int p4), .val (.int (1 : Int32)), .val (.ref b323), .val (.ref x_432), .unset, .unset, .unset, .unset, .unset, .unset] [(.int (0 : Int32)), (.ref b323), (.int (0 : Int32)), (.ref x_432)])) rfl rfl (hb hby at_90)) ?_
      show own_Go _ _ _ _ (T432.setTop (mkF m 91 #[.val (.int p1), .val (.int p2), .val (.int p3), .val (.int p4), .val (.int (1 : Int32)), .val (.ref b323), .val (.ref x_432), .unset, .unset, .unset, .unset, .unset, .unset] [(.int c_325), (.int (0 : Int32)), (.ref x_432)]))
      obtain ⟨c437, Ar437, q437, S437, Nn437, H437, G437⟩ := id f434
      have hin437 : ¬ ((0 : Int32) < 0 ∨ c437.slots.size ≤ ((0 : Int32)).toNatClampNeg) := inb_of S437 ⟨by decide, by decide⟩
      obtain ⟨T437, h437, X437, e437, W437, st437⟩ := stC X432 hx hZ rfl Ar437 (j := (0 : Int32)) hin437 (g := (mkF m 91 #[.val (.int p1), .val (.int p2), .val (.int p3), .val (.int p4), .val (.int (1 : Int32)), .val (.ref b323), .val (.ref x_432), .unset, .unset, .unset, .unset, .unset, .unset] [(.int c_325), (.int (0 : Int32)), (.ref x_432)])) rfl rfl (hb hby at_91)
      refine own_Go.st st437 ?_
      have N437 := Fr.snoc X437 N432 (by omega)
      have Sf439 : Safe Z consts_1 s.vm T432.heap x_432 := Safe.arv hZ.alike f434 (by decide)
      have z437 : T432.heap.size ≤ h437.size := Nat.le_of_eq W437.size.symm
      have f438 := Arv.set Ar437 q437 S437 Nn437 H437 G437 (fits_nar_char _) W437 0 rfl (Nat.le_of_ble_eq_true rfl)
      rw [own_nar (own_up pr325_0)] at f438
      have f440 : Arv Z h437 x_432 k_432 .char (1 : Int32) [(.int c_325)] (.int (0 : Int32)) := f438
      have R437 : CHr Z consts_1 s.vm h0 s.vm h437 := R432.trans (CHr.wr W437 Sf439 R432.1)
      show own_Go _ _ _ _ (T437.setTop (mkF m 92 #[.val (.int p1), .val (.int p2), .val (.int p3), .val (.int p4), .val (.int (1 : Int32)), .val (.ref b323), .val (.ref x_432), .unset, .unset, .unset, .unset, .unset, .unset] []))
      refine own_Go.st (fun _ k => XS.iload X437.here hx rfl (hb hby at_92) rfl k) ?_
      show own_Go _ _ _ _ (T437.setTop (mkF m 94 #[.val (.int p1), .val (.int p2), .val (.int p3), .val (.int p4), .val (.int (1 : Int32)), .val (.ref b323), .val (.ref x_432), .unset, .unset, .unset, .unset, .unset, .unset] [(.int (1 : Int32))]))
      refine own_Go.st (fun _ k => XS.iconst X437.here hx rfl (hb hby at_94) k) ?_
      show own_Go _ _ _ _ (T437.setTop (mkF m 95 #[.val (.int p1), .val (.int p2), .val (.int p3), .val (.int p4), .val (.int (1 : Int32)), .val (.ref b323), .val (.ref x_432), .unset, .unset, .unset, .unset, .unset, .unset] [(.int (1 : Int32)), (.int (1 : Int32))]))
      refine own_Go.st (fun _ k => XS.icmpYes X437.here hx rfl (pc0 := 95) (pc' := 106) rfl (hb hby at_95) rfl (flt (by decide : ¬ ((1 : Int32) < (1 : Int32)))).2.2.2 (by decide) (by decide) k) ?_
      show own_Go _ _ _ _ (T437.setTop (mkF m 106 #[.val (.int p1), .val (.int p2), .val (.int p3), .val (.int p4), .val (.int (1 : Int32)), .val (.ref b323), .val (.ref x_432), .unset, .unset, .unset, .unset, .unset, .unset] []))
      refine own_Go.st (fun _ k => XS.iload X437.here hx rfl (hb hby at_106) rfl k) ?_
      show own_Go _ _ _ _ (T437.setTop (mkF m 108 #[.val (.int p1), .val (.int p2), .val (.int p3), .val (.int p4), .val (.int (1 : Int32)), .val (.ref b323), .val (.ref x_432), .unset, .unset, .unset, .unset, .unset, .unset] [(.int (1 : Int32))]))
      refine own_Go.st (fun _ k => XS.iconst X437.here hx rfl (hb hby at_108) k) ?_
      show own_Go _ _ _ _ (T437.setTop (mkF m 109 #[.val (.int p1), .val (.int p2), .val (.int p3), .val (.int p4), .val (.int (1 : Int32)), .val (.ref b323), .val (.ref x_432), .unset, .unset, .unset, .unset, .unset, .unset] [(.int (2 : Int32)), (.int (1 : Int32))]))
      refine own_Go.st (fun _ k => XS.icmpYes X437.here hx rfl (pc0 := 109) (pc' := 120) rfl (hb hby at_109) rfl (flt (by decide : ¬ ((2 : Int32) < (1 : Int32)))).2.2.2 (by decide) (by decide) k) ?_
      show own_Go _ _ _ _ (T437.setTop (mkF m 120 #[.val (.int p1), .val (.int p2), .val (.int p3), .val (.int p4), .val (.int (1 : Int32)), .val (.ref b323), .val (.ref x_432), .unset, .unset, .unset, .unset, .unset, .unset] []))
      refine own_Go.st (fun _ k => XS.iload X437.here hx rfl (hb hby at_120) rfl k) ?_
      show own_Go _ _ _ _ (T437.setTop (mkF m 122 #[.val (.int p1), .val (.int p2), .val (.int p3), .val (.int p4), .val (.int (1 : Int32)), .val (.ref b323), .val (.ref x_432), .unset, .unset, .unset, .unset, .unset, .unset] [(.int (1 : Int32))]))
      refine own_Go.st (fun _ k => XS.iconst X437.here hx rfl (hb hby at_122) k) ?_
      show own_Go _ _ _ _ (T437.setTop (mkF m 123 #[.val (.int p1), .val (.int p2), .val (.int p3), .val (.int p4), .val (.int (1 : Int32)), .val (.ref b323), .val (.ref x_432), .unset, .unset, .unset, .unset, .unset, .unset] [(.int (3 : Int32)), (.int (1 : Int32))]))
      refine own_Go.st (fun _ k => XS.icmpYes X437.here hx rfl (pc0 := 123) (pc' := 134) rfl (hb hby at_123) rfl (flt (by decide : ¬ ((3 : Int32) < (1 : Int32)))).2.2.2 (by decide) (by decide) k) ?_
      show own_Go _ _ _ _ (T437.setTop (mkF m 134 #[.val (.int p1), .val (.int p2), .val (.int p3), .val (.int p4), .val (.int (1 : Int32)), .val (.ref b323), .val (.ref x_432), .unset, .unset, .unset, .unset, .unset, .unset] []))
      refine own_Go.st (fun _ k => XS.iload X437.here hx rfl (hb hby at_134) rfl k) ?_
      show own_Go _ _ _ _ (T437.setTop (mkF m 136 #[.val (.int p1), .val (.int p2), .val (.int p3), .val (.int p4), .val (.int (1 : Int32)), .val (.ref b323), .val (.ref x_432), .unset, .unset, .unset, .unset, .unset, .unset] [(.int (1 : Int32))]))
      refine own_Go.st (fun _ k => XS.iconst X437.here hx rfl (hb hby at_136) k) ?_
      show own_Go _ _ _ _ (T437.setTop (mkF m 137 #[.val (.int p1), .val (.int p2), .val (.int p3), .val (.int p4), .val (.int (1 : Int32)), .val (.ref b323), .val (.ref x_432), .unset, .unset, .unset, .unset, .unset, .unset] [(.int (4 : Int32)), (.int (1 : Int32))]))
      refine own_Go.st (fun _ k => XS.icmpYes X437.here hx rfl (pc0 := 137) (pc' := 148) rfl (hb hby at_137) rfl (flt (by decide : ¬ ((4 : Int32) < (1 : Int32)))).2.2.2 (by decide) (by decide) k) ?_
      show own_Go _ _ _ _ (T437.setTop (mkF m 148 #[.val (.int p1), .val (.int p2), .val (.int p3), .val (.int p4), .val (.int (1 : Int32)), .val (.ref b323), .val (.ref x_432), .unset, .unset, .unset, .unset, .unset, .unset] []))
      refine own_Go.st (fun _ k => XS.iload X437.here hx rfl (hb hby at_148) rfl k) ?_
      show own_Go _ _ _ _ (T437.setTop (mkF m 150 #[.val (.int p1), .val (.int p2), .val (.int p3), .val (.int p4), .val (.int (1 : Int32)), .val (.ref b323), .val (.ref x_432), .unset, .unset, .unset, .unset, .unset, .unset] [(.int (1 : Int32))]))
      refine own_Go.st (fun _ k => XS.iconst X437.here hx rfl (hb hby at_150) k) ?_
      show own_Go _ _ _ _ (T437.setTop (mkF m 151 #[.val (.int p1), .val (.int p2), .val (.int p3), .val (.int p4), .val (.int (1 : Int32)), .val (.ref b323), .val (.ref x_432), .unset, .unset, .unset, .unset, .unset, .unset] [(.int (5 : Int32)), (.int (1 : Int32))]))
      refine own_Go.st (fun _ k => XS.icmpYes X437.here hx rfl (pc0 := 151) (pc' := 162) rfl (hb hby at_151) rfl (flt (by decide : ¬ ((5 : Int32) < (1 : Int32)))).2.2.2 (by decide) (by decide) k) ?_
      show own_Go _ _ _ _ (T437.setTop (mkF m 162 #[.val (.int p1), .val (.int p2), .val (.int p3), .val (.int p4), .val (.int (1 : Int32)), .val (.ref b323), .val (.ref x_432), .unset, .unset, .unset, .unset, .unset, .unset] []))
      obtain ⟨T441, h441, X441, e441, E441, A441, D441, U441, st441⟩ := newO X437 hx hZ hown (hw _ (List.mem_of_getElem? (i := 9) rfl)) (hw _ (List.mem_of_getElem? (i := 10) rfl)) (hw _ (List.mem_of_getElem? (i := 11) rfl)) e437 (g := (mkF m 162 #[.val (.int p1), .val (.int p2), .val (.int p3), .val (.int p4), .val (.int (1 : Int32)), .val (.ref b323), .val (.ref x_432), .unset, .unset, .unset, .unset, .unset, .unset] [])) rfl (hb hby at_162) (by decide) (by decide)
      obtain ⟨b441, g441⟩ : ∃ z, z = h437.size := ⟨_, rfl⟩
      rw [← g441] at A441 D441 U441 st441
      refine own_Go.st st441 ?_
      have z441 : h437.size ≤ h441.size := E441.1
      have lt_b441 : @LT.lt Nat _ b441 h441.size := A441.lt
      have f442 : Fld Z h441 b441 "java/lang/String" "value" "[B" .null := D441 (Or.inr (hw _ (List.mem_of_getElem? (i := 24) rfl))) (ty := (.array .byte)) (by decide)
      have f443 : Fld Z h441 b441 "java/lang/String" "coder" "B" (.int (0 : Int32)) := D441 (Or.inr (hw _ (List.mem_of_getElem? (i := 25) rfl))) (ty := .byte) (by decide)
      have R441 : CHr Z consts_1 s.vm h0 s.vm h441 := R437.trans (CHr.ext E441 R437.1)
      have Sf441 : Safe Z consts_1 s.vm h441 b441 := (Safe.new (Nat.le_of_eq g441.symm)).ext E441 R437.1
      show own_Go _ _ _ _ (T441.setTop (mkF m 165 #[.val (.int p1), .val (.int p2), .val (.int p3), .val (.int p4), .val (.int (1 : Int32)), .val (.ref b323), .val (.ref x_432), .unset, .unset, .unset, .unset, .unset, .unset] [(.ref b441)]))
      refine own_Go.st (fun _ k => XS.dup X441.here hx rfl (hb hby at_165) rfl rfl k) ?_
      show own_Go _ _ _ _ (T441.setTop (mkF m 166 #[.val (.int p1), .val (.int p2), .val (.int p3), .val (.int p4), .val (.int (1 : Int32)), .val (.ref b323), .val (.ref x_432), .unset, .unset, .unset, .unset, .unset, .unset] [(.ref b441), (.ref b441)]))
      refine own_Go.st (fun _ k => XS.aload X441.here hx rfl (hb hby at_166) rfl rfl k) ?_
      show own_Go _ _ _ _ (T441.setTop (mkF m 168 #[.val (.int p1), .val (.int p2), .val (.int p3), .val (.int p4), .val (.int (1 : Int32)), .val (.ref b323), .val (.ref x_432), .unset, .unset, .unset, .unset, .unset, .unset] [(.ref x_432), (.ref b441), (.ref b441)]))
      have f445 : Arv Z h441 x_432 k_432 .char (1 : Int32) [(.int c_325)] (.int (0 : Int32)) := f440.ext E441
      have f446 : Old Z Z.heap.size T432.heap := f433.keep K432 all0
      have f447 : Old Z Z.heap.size h437 := f446.wr W437 (by omega)
      have f448 : Old Z Z.heap.size h441 := f447.ext E441
      have hp444 : ∀ c ∈ ([c_325] : List Int32), ¬ c < 0 ∧ ¬ (255 : Int32) < c := (own_aS pr325_0 own_a0)
      obtain ⟨_, _, ⟨T444, L444, k444, n444⟩, -, X444, ⟨Lc444, hQ444, l444, y444, z444⟩, st444⟩ := X441.specialBack hx (y := (⟨"java/lang/String", "<init>", "([C)V"⟩ : MethodName)) rfl hown (mvT hZ (hw _ (List.mem_of_getElem? (i := 12) rfl))) (mvT hZ (hw _ (List.mem_of_getElem? (i := 13) rfl))) (mvT hZ (hw _ (List.mem_of_getElem? (i := 14) rfl))) (by decide) (StrChars.Road.backV (W := 1) hZ (own_hws hw) (kI := 4) (hw _ (List.mem_of_getElem? (i := 10) rfl)) (cs := ([c_325] : List Int32)) (bs := (([c_325] : List Int32)).map (fun c => c.toInt8.toInt32)) (n := 1) (n0 := Z.heap.size) (by omega) (by omega) A441 f442 f443 f445 (st_COMPACT_STRINGS.ext f448.2) hzc rfl rfl (by decide) (by decide) hp444 rfl (by decide) (by decide)) (g := (mkF m 168 #[.val (.int p1), .val (.int p2), .val (.int p3), .val (.int p4), .val (.int (1 : Int32)), .val (.ref b323), .val (.ref x_432), .unset, .unset, .unset, .unset, .unset, .unset] [(.ref x_432), (.ref b441), (.ref b441)])) rfl (by rw [hml]; rfl) (Steps.refl _) (a := b441) (argsL := [(.ref x_432)]) (rest := [(.ref b441)]) (lenOf pd_405 rfl) rfl (by show 2 * 0 + _ ≤ _; exact Nat.le_of_eq rfl) (hb hby at_168) (fun _ _ => ⟨rfl, e441, (by decide : 3 + 1 ≤ _), (by decide : 16 + 1 ≤ _)⟩)
      dsimp only [Pt.U, Pt.locs, Pt.cells, Pt.slots] at X444 l444 y444 z444 st444 hQ444
      subst l444 y444 z444
      obtain ⟨rfl, N444q, K444, Ex444, Cd444, t444, kb444, u444, v444, w444, Vl444, Ar444⟩ := hQ444
      have N444 := Fr.app N437 N444q
      have z444 : h441.size ≤ T444.heap.size := K444.1
      have R444 : CHr Z consts_1 s.vm h0 s.vm T444.heap := R441.trans (CHr.keep K444 (sfS Sf441 sf0) R441.1)
      have Sf449 : Safe Z consts_1 s.vm T444.heap b441 := Safe.keep K444 (sfS Sf441 sf0) R441.1 Sf441
      have fT444 : own_Str Z T444.heap b441 t444 ([c_325] : List Int32) := ⟨kb444, 0, (1 : Int32), _, Ex444, Vl444, Cd444, Ar444, StrChars.Road.codOf rfl (fun c q => (hp444 c q).2), own_upL hp444, (Nat.le_of_ble_eq_true rfl)⟩
      have lt444 : @LT.lt Nat _ t444 T444.heap.size := fT444.ltv
      refine own_Go.tr st444 ?_
      show own_Go _ _ _ _ (T444.setTop (mkF m 171 #[.val (.int p1), .val (.int p2), .val (.int p3), .val (.int p4), .val (.int (1 : Int32)), .val (.ref b323), .val (.ref x_432), .unset, .unset, .unset, .unset, .unset, .unset] [(.ref b441)]))
      have f450 : Arv Z h437 b323 k323 .char (6 : Int32) [(.int c_325), (.int c_331), (.int c_337), (.int c_343), (.int c_349), (.int c_355)] (.int (0 : Int32)) := f435.other W437 (by show @Ne Nat b323 x_432; omega)
      have f451 : Arv Z h441 b323 k323 .char (6 : Int32) [(.int c_325), (.int c_331), (.int c_337), (.int c_343), (.int c_349), (.int c_355)] (.int (0 : Int32)) := f450.ext E441
      have f452 : Arv Z T444.heap b323 k323 .char (6 : Int32) [(.int c_325), (.int c_331), (.int c_337), (.int c_343), (.int c_349), (.int c_355)] (.int (0 : Int32)) := f451.keep K444 (ninS (by show @Ne Nat b323 b441; omega) nin0)
      have K453 : Keep h0 h323 [] := (Keep.refl h0 []).ext E323
      have K454 : Keep h0 h327 [] := K453.wr W327 (Or.inr (by omega))
      have K455 : Keep h0 h333 [] := K454.wr W333 (Or.inr (by omega))
      have K456 : Keep h0 h339 [] := K455.wr W339 (Or.inr (by omega))
      have K457 : Keep h0 h345 [] := K456.wr W345 (Or.inr (by omega))
      have K458 : Keep h0 h351 [] := K457.wr W351 (Or.inr (by omega))
      have K459 : Keep h0 h357 [] := K458.wr W357 (Or.inr (by omega))
      have K460 : Keep h0 T432.heap [] := K459.trans K432 all0
      have K461 : Keep h0 h437 [] := K460.wr W437 (Or.inr (by omega))
      have K462 : Keep h0 h441 [] := K461.ext E441
      have K463 : Keep h0 T444.heap [] := K462.trans K444 (allS (Or.inr (by omega)) all0)
      have f464 : Old Z Z.heap.size T444.heap := f448.keep K444 (allS (by omega) all0)
      exact HJ361 [c_325, c_331, c_337, c_343, c_349, c_355] 1 b441 t444 x_432 T444 T444.heap _ s.vm _ rfl rfl (by decide) ((own_aS pr325_0 (own_aS pr331_0 (own_aS pr337_0 (own_aS pr343_0 (own_aS pr349_0 (own_aS pr355_0 own_a0))))))) (own_standW X444 (by decide) (by decide)) rfl N444 K463 f464 (by omega) R444 hS0 (by omega) hZ hown f452 fT444
    ·
      show own_Go _ _ _ _ (T357.setTop (mkF m 72 #[.val (.int p1), .val (.int p2), .val (.int p3), .val (.int p4), .val (.int (2 : Int32)), .val (.ref b323), .unset, .unset, .unset, .unset, .unset, .unset, .unset] []))
      refine own_Go.st (fun _ k => XS.iload X357.here hx rfl (hb hby at_72) rfl k) ?_
      show own_Go _ _ _ _ (T357.setTop (mkF m 74 #[.val (.int p1), .val (.int p2), .val (.int p3), .val (.int p4), .val (.int (2 : Int32)), .val (.ref b323), .unset, .unset, .unset, .unset, .unset, .unset, .unset] [(.int (2 : Int32))]))
      have f466 : Old Z Z.heap.size h357 := f356.wr W357 (by omega)
      obtain ⟨_, _, ⟨T465, L465, k465, n465⟩, -, X465, ⟨Lc465, hQ465, l465, y465, z465⟩, st465⟩ := Jvm.LawKit.callS X357 hx (y := (⟨"com/example/keep_to_layer/keeptolayer/model/ClassNamesOutermostOfPinLaw", "make", "(I)[C"⟩ : MethodName)) hown (mvT hZ (hw _ (List.mem_of_getElem? (i := 6) rfl))) (mvT hZ (hw _ (List.mem_of_getElem? (i := 7) rfl))) (mvT hZ (hw _ (List.mem_of_getElem? (i := 4) rfl))) (mvT hZ (hw _ (List.mem_of_getElem? (i := 8) rfl))) (by decide) (backOf (W := 0) (rm_make l Z a0 hw [] (2 : Int32) h357 f466 (by decide)) hZ (hw _ (List.mem_of_getElem? (i := 8) rfl)) (hw _ (List.mem_of_getElem? (i := 4) rfl)) (by decide) (by decide)) (g := (mkF m 74 #[.val (.int p1), .val (.int p2), .val (.int p3), .val (.int p4), .val (.int (2 : Int32)), .val (.ref b323), .unset, .unset, .unset, .unset, .unset, .unset, .unset] [(.int (2 : Int32))])) rfl (by rw [hml]; rfl) (argsL := [(.int (2 : Int32))]) (rest := []) (lenOf pd_404 rfl) rfl (by show 2 * 0 + _ ≤ _; exact Nat.le_of_eq rfl) (hb hby at_74) (fun _ _ => ⟨rfl, e357, (by decide : 1 + 1 ≤ _), (by decide : 6 + 6 ≤ _)⟩)
      dsimp only [Pt.U, Pt.locs, Pt.cells, Pt.slots] at X465 l465 y465 z465 st465 hQ465
      subst l465 y465 z465
      obtain ⟨x_465, k_465, rfl, N465q, K465, f465_0, pr465_0⟩ := hQ465
      have N465 := Fr.app N357 N465q
      have z465 : h357.size ≤ T465.heap.size := K465.1
      have R465 : CHr Z consts_1 s.vm h0 s.vm T465.heap := R357.trans (CHr.keep K465 sf0 R357.1)
      have lt465_0 : @LT.lt Nat _ x_465 T465.heap.size := f465_0.lt
      have f467 : Arv Z T465.heap x_465 k_465 .char (2 : Int32) [(.int (0 : Int32)), (.int (0 : Int32))] (.int (0 : Int32)) := Arv.pad f465_0 (pad_rep [] _ 2)
      refine own_Go.st st465 ?_
      show own_Go _ _ _ _ (T465.setTop (mkF m 77 #[.val (.int p1), .val (.int p2), .val (.int p3), .val (.int p4), .val (.int (2 : Int32)), .val (.ref b323), .unset, .unset, .unset, .unset, .unset, .unset, .unset] [(.ref x_465)]))
      refine own_Go.st (fun _ k => XS.astore X465.here hx rfl (hb hby at_77) rfl rfl (l' := #[.val (.int p1), .val (.int p2), .val (.int p3), .val (.int p4), .val (.int (2 : Int32)), .val (.ref b323), .val (.ref x_465), .unset, .unset, .unset, .unset, .unset, .unset]) rfl k) ?_
      show own_Go _ _ _ _ (T465.setTop (mkF m 79 #[.val (.int p1), .val (.int p2), .val (.int p3), .val (.int p4), .val (.int (2 : Int32)), .val (.ref b323), .val (.ref x_465), .unset, .unset, .unset, .unset, .unset, .unset] []))
      refine own_Go.st (fun _ k => XS.iload X465.here hx rfl (hb hby at_79) rfl k) ?_
      show own_Go _ _ _ _ (T465.setTop (mkF m 81 #[.val (.int p1), .val (.int p2), .val (.int p3), .val (.int p4), .val (.int (2 : Int32)), .val (.ref b323), .val (.ref x_465), .unset, .unset, .unset, .unset, .unset, .unset] [(.int (2 : Int32))]))
      refine own_Go.st (fun _ k => XS.ifNo X465.here hx rfl (hb hby at_81) rfl ((if0 _ _).trans (tlt (by decide : (0 : Int32) < (2 : Int32))).2.2.2) k) ?_
      show own_Go _ _ _ _ (T465.setTop (mkF m 84 #[.val (.int p1), .val (.int p2), .val (.int p3), .val (.int p4), .val (.int (2 : Int32)), .val (.ref b323), .val (.ref x_465), .unset, .unset, .unset, .unset, .unset, .unset] []))
      refine own_Go.st (fun _ k => XS.aload X465.here hx rfl (hb hby at_84) rfl rfl k) ?_
      show own_Go _ _ _ _ (T465.setTop (mkF m 86 #[.val (.int p1), .val (.int p2), .val (.int p3), .val (.int p4), .val (.int (2 : Int32)), .val (.ref b323), .val (.ref x_465), .unset, .unset, .unset, .unset, .unset, .unset] [(.ref x_465)]))
      refine own_Go.st (fun _ k => XS.iconst X465.here hx rfl (hb hby at_86) k) ?_
      show own_Go _ _ _ _ (T465.setTop (mkF m 87 #[.val (.int p1), .val (.int p2), .val (.int p3), .val (.int p4), .val (.int (2 : Int32)), .val (.ref b323), .val (.ref x_465), .unset, .unset, .unset, .unset, .unset, .unset] [(.int (0 : Int32)), (.ref x_465)]))
      refine own_Go.st (fun _ k => XS.aload X465.here hx rfl (hb hby at_87) rfl rfl k) ?_
      show own_Go _ _ _ _ (T465.setTop (mkF m 89 #[.val (.int p1), .val (.int p2), .val (.int p3), .val (.int p4), .val (.int (2 : Int32)), .val (.ref b323), .val (.ref x_465), .unset, .unset, .unset, .unset, .unset, .unset] [(.ref b323), (.int (0 : Int32)), (.ref x_465)]))
      refine own_Go.st (fun _ k => XS.iconst X465.here hx rfl (hb hby at_89) k) ?_
      show own_Go _ _ _ _ (T465.setTop (mkF m 90 #[.val (.int p1), .val (.int p2), .val (.int p3), .val (.int p4), .val (.int (2 : Int32)), .val (.ref b323), .val (.ref x_465), .unset, .unset, .unset, .unset, .unset, .unset] [(.int (0 : Int32)), (.ref b323), (.int (0 : Int32)), (.ref x_465)]))
      have f468 : Arv Z T465.heap b323 k323 .char (6 : Int32) [(.int c_325), (.int c_331), (.int c_337), (.int c_343), (.int c_349), (.int c_355)] (.int (0 : Int32)) := f360.keep K465 nin0
      obtain ⟨c469, Ar469, q469, S469, Nn469, H469, G469⟩ := id f468
      have hin469 : ¬ ((0 : Int32) < 0 ∨ c469.slots.size ≤ ((0 : Int32)).toNatClampNeg) := inb_of S469 ⟨by decide, by decide⟩
      have hat469 : c469.slots[((0 : Int32)).toNatClampNeg]? = some (.int c_325) := H469.at hin469 rfl
      refine own_Go.st (X465.caload hx (j := (0 : Int32)) (v := (.int c_325)) (own_rwE rfl Ar469.1) (State.isArrayOf_alike hZ.alike Ar469.2.1) Ar469.2.2 hin469 hat469 (g := (mkF m 90 #[.val (.int p1), .val (.int p2), .val (.int p3), .val (.int p4), .val (.int (2 : Int32)), .val (.ref b323), .val (.ref x_465), .unset, .unset, .unset, .unset, .unset, .unset] [(.int (0 : Int32)), (.ref b323), (.int (0 : Int32)), (.ref x_465)])) rfl rfl (hb hby at_90)) ?_
      show own_Go _ _ _ _ (T465.setTop (mkF m 91 #[.val (.int p1), .val (.int p2), .val (.int p3), .val (.int p4), .val (.int (2 : Int32)), .val (.ref b323), .val (.ref x_465), .unset, .unset, .unset, .unset, .unset, .unset] [(.int c_325), (.int (0 : Int32)), (.ref x_465)]))
      obtain ⟨c470, Ar470, q470, S470, Nn470, H470, G470⟩ := id f467
      have hin470 : ¬ ((0 : Int32) < 0 ∨ c470.slots.size ≤ ((0 : Int32)).toNatClampNeg) := inb_of S470 ⟨by decide, by decide⟩
      obtain ⟨T470, h470, X470, e470, W470, st470⟩ := stC X465 hx hZ rfl Ar470 (j := (0 : Int32)) hin470 (g := (mkF m 91 #[.val (.int p1), .val (.int p2), .val (.int p3), .val (.int p4), .val (.int (2 : Int32)), .val (.ref b323), .val (.ref x_465), .unset, .unset, .unset, .unset, .unset, .unset] [(.int c_325), (.int (0 : Int32)), (.ref x_465)])) rfl rfl (hb hby at_91)
      refine own_Go.st st470 ?_
      have N470 := Fr.snoc X470 N465 (by omega)
      have Sf472 : Safe Z consts_1 s.vm T465.heap x_465 := Safe.arv hZ.alike f467 (by decide)
      have z470 : T465.heap.size ≤ h470.size := Nat.le_of_eq W470.size.symm
      have f471 := Arv.set Ar470 q470 S470 Nn470 H470 G470 (fits_nar_char _) W470 0 rfl (Nat.le_of_ble_eq_true rfl)
      rw [own_nar (own_up pr325_0)] at f471
      have f473 : Arv Z h470 x_465 k_465 .char (2 : Int32) [(.int c_325), (.int (0 : Int32))] (.int (0 : Int32)) := f471
      have R470 : CHr Z consts_1 s.vm h0 s.vm h470 := R465.trans (CHr.wr W470 Sf472 R465.1)
      show own_Go _ _ _ _ (T470.setTop (mkF m 92 #[.val (.int p1), .val (.int p2), .val (.int p3), .val (.int p4), .val (.int (2 : Int32)), .val (.ref b323), .val (.ref x_465), .unset, .unset, .unset, .unset, .unset, .unset] []))
      refine own_Go.st (fun _ k => XS.iload X470.here hx rfl (hb hby at_92) rfl k) ?_
      show own_Go _ _ _ _ (T470.setTop (mkF m 94 #[.val (.int p1), .val (.int p2), .val (.int p3), .val (.int p4), .val (.int (2 : Int32)), .val (.ref b323), .val (.ref x_465), .unset, .unset, .unset, .unset, .unset, .unset] [(.int (2 : Int32))]))
      refine own_Go.st (fun _ k => XS.iconst X470.here hx rfl (hb hby at_94) k) ?_
      show own_Go _ _ _ _ (T470.setTop (mkF m 95 #[.val (.int p1), .val (.int p2), .val (.int p3), .val (.int p4), .val (.int (2 : Int32)), .val (.ref b323), .val (.ref x_465), .unset, .unset, .unset, .unset, .unset, .unset] [(.int (1 : Int32)), (.int (2 : Int32))]))
      refine own_Go.st (fun _ k => XS.icmpNo X470.here hx rfl (hb hby at_95) rfl (tlt (by decide : (1 : Int32) < (2 : Int32))).2.2.2 k) ?_
      show own_Go _ _ _ _ (T470.setTop (mkF m 98 #[.val (.int p1), .val (.int p2), .val (.int p3), .val (.int p4), .val (.int (2 : Int32)), .val (.ref b323), .val (.ref x_465), .unset, .unset, .unset, .unset, .unset, .unset] []))
      refine own_Go.st (fun _ k => XS.aload X470.here hx rfl (hb hby at_98) rfl rfl k) ?_
      show own_Go _ _ _ _ (T470.setTop (mkF m 100 #[.val (.int p1), .val (.int p2), .val (.int p3), .val (.int p4), .val (.int (2 : Int32)), .val (.ref b323), .val (.ref x_465), .unset, .unset, .unset, .unset, .unset, .unset] [(.ref x_465)]))
      refine own_Go.st (fun _ k => XS.iconst X470.here hx rfl (hb hby at_100) k) ?_
      show own_Go _ _ _ _ (T470.setTop (mkF m 101 #[.val (.int p1), .val (.int p2), .val (.int p3), .val (.int p4), .val (.int (2 : Int32)), .val (.ref b323), .val (.ref x_465), .unset, .unset, .unset, .unset, .unset, .unset] [(.int (1 : Int32)), (.ref x_465)]))
      refine own_Go.st (fun _ k => XS.aload X470.here hx rfl (hb hby at_101) rfl rfl k) ?_
      show own_Go _ _ _ _ (T470.setTop (mkF m 103 #[.val (.int p1), .val (.int p2), .val (.int p3), .val (.int p4), .val (.int (2 : Int32)), .val (.ref b323), .val (.ref x_465), .unset, .unset, .unset, .unset, .unset, .unset] [(.ref b323), (.int (1 : Int32)), (.ref x_465)]))
      refine own_Go.st (fun _ k => XS.iconst X470.here hx rfl (hb hby at_103) k) ?_
      show own_Go _ _ _ _ (T470.setTop (mkF m 104 #[.val (.int p1), .val (.int p2), .val (.int p3), .val (.int p4), .val (.int (2 : Int32)), .val (.ref b323), .val (.ref x_465), .unset, .unset, .unset, .unset, .unset, .unset] [(.int (1 : Int32)), (.ref b323), (.int (1 : Int32)), (.ref x_465)]))
      have f474 : Arv Z h470 b323 k323 .char (6 : Int32) [(.int c_325), (.int c_331), (.int c_337), (.int c_343), (.int c_349), (.int c_355)] (.int (0 : Int32)) := f468.other W470 (by show @Ne Nat b323 x_465; omega)
      obtain ⟨c475, Ar475, q475, S475, Nn475, H475, G475⟩ := id f474
      have hin475 : ¬ ((1 : Int32) < 0 ∨ c475.slots.size ≤ ((1 : Int32)).toNatClampNeg) := inb_of S475 ⟨by decide, by decide⟩
      have hat475 : c475.slots[((1 : Int32)).toNatClampNeg]? = some (.int c_331) := H475.at hin475 rfl
      refine own_Go.st (X470.caload hx (j := (1 : Int32)) (v := (.int c_331)) (own_rwE e470 Ar475.1) (State.isArrayOf_alike hZ.alike Ar475.2.1) Ar475.2.2 hin475 hat475 (g := (mkF m 104 #[.val (.int p1), .val (.int p2), .val (.int p3), .val (.int p4), .val (.int (2 : Int32)), .val (.ref b323), .val (.ref x_465), .unset, .unset, .unset, .unset, .unset, .unset] [(.int (1 : Int32)), (.ref b323), (.int (1 : Int32)), (.ref x_465)])) rfl rfl (hb hby at_104)) ?_
      show own_Go _ _ _ _ (T470.setTop (mkF m 105 #[.val (.int p1), .val (.int p2), .val (.int p3), .val (.int p4), .val (.int (2 : Int32)), .val (.ref b323), .val (.ref x_465), .unset, .unset, .unset, .unset, .unset, .unset] [(.int c_331), (.int (1 : Int32)), (.ref x_465)]))
      obtain ⟨c476, Ar476, q476, S476, Nn476, H476, G476⟩ := id f473
      have hin476 : ¬ ((1 : Int32) < 0 ∨ c476.slots.size ≤ ((1 : Int32)).toNatClampNeg) := inb_of S476 ⟨by decide, by decide⟩
      obtain ⟨T476, h476, X476, e476, W476, st476⟩ := stC X470 hx hZ e470 Ar476 (j := (1 : Int32)) hin476 (g := (mkF m 105 #[.val (.int p1), .val (.int p2), .val (.int p3), .val (.int p4), .val (.int (2 : Int32)), .val (.ref b323), .val (.ref x_465), .unset, .unset, .unset, .unset, .unset, .unset] [(.int c_331), (.int (1 : Int32)), (.ref x_465)])) rfl rfl (hb hby at_105)
      refine own_Go.st st476 ?_
      have N476 := Fr.snoc X476 N470 (by omega)
      have Sf478 : Safe Z consts_1 s.vm h470 x_465 := Safe.arv hZ.alike f473 (by decide)
      have z476 : h470.size ≤ h476.size := Nat.le_of_eq W476.size.symm
      have f477 := Arv.set Ar476 q476 S476 Nn476 H476 G476 (fits_nar_char _) W476 1 rfl (Nat.le_of_ble_eq_true rfl)
      rw [own_nar (own_up pr331_0)] at f477
      have f479 : Arv Z h476 x_465 k_465 .char (2 : Int32) [(.int c_325), (.int c_331)] (.int (0 : Int32)) := f477
      have R476 : CHr Z consts_1 s.vm h0 s.vm h476 := R470.trans (CHr.wr W476 Sf478 R470.1)
      show own_Go _ _ _ _ (T476.setTop (mkF m 106 #[.val (.int p1), .val (.int p2), .val (.int p3), .val (.int p4), .val (.int (2 : Int32)), .val (.ref b323), .val (.ref x_465), .unset, .unset, .unset, .unset, .unset, .unset] []))
      refine own_Go.st (fun _ k => XS.iload X476.here hx rfl (hb hby at_106) rfl k) ?_
      show own_Go _ _ _ _ (T476.setTop (mkF m 108 #[.val (.int p1), .val (.int p2), .val (.int p3), .val (.int p4), .val (.int (2 : Int32)), .val (.ref b323), .val (.ref x_465), .unset, .unset, .unset, .unset, .unset, .unset] [(.int (2 : Int32))]))
      refine own_Go.st (fun _ k => XS.iconst X476.here hx rfl (hb hby at_108) k) ?_
      show own_Go _ _ _ _ (T476.setTop (mkF m 109 #[.val (.int p1), .val (.int p2), .val (.int p3), .val (.int p4), .val (.int (2 : Int32)), .val (.ref b323), .val (.ref x_465), .unset, .unset, .unset, .unset, .unset, .unset] [(.int (2 : Int32)), (.int (2 : Int32))]))
      refine own_Go.st (fun _ k => XS.icmpYes X476.here hx rfl (pc0 := 109) (pc' := 120) rfl (hb hby at_109) rfl (flt (by decide : ¬ ((2 : Int32) < (2 : Int32)))).2.2.2 (by decide) (by decide) k) ?_
      show own_Go _ _ _ _ (T476.setTop (mkF m 120 #[.val (.int p1), .val (.int p2), .val (.int p3), .val (.int p4), .val (.int (2 : Int32)), .val (.ref b323), .val (.ref x_465), .unset, .unset, .unset, .unset, .unset, .unset] []))
      refine own_Go.st (fun _ k => XS.iload X476.here hx rfl (hb hby at_120) rfl k) ?_
      show own_Go _ _ _ _ (T476.setTop (mkF m 122 #[.val (.int p1), .val (.int p2), .val (.int p3), .val (.int p4), .val (.int (2 : Int32)), .val (.ref b323), .val (.ref x_465), .unset, .unset, .unset, .unset, .unset, .unset] [(.int (2 : Int32))]))
      refine own_Go.st (fun _ k => XS.iconst X476.here hx rfl (hb hby at_122) k) ?_
      show own_Go _ _ _ _ (T476.setTop (mkF m 123 #[.val (.int p1), .val (.int p2), .val (.int p3), .val (.int p4), .val (.int (2 : Int32)), .val (.ref b323), .val (.ref x_465), .unset, .unset, .unset, .unset, .unset, .unset] [(.int (3 : Int32)), (.int (2 : Int32))]))
      refine own_Go.st (fun _ k => XS.icmpYes X476.here hx rfl (pc0 := 123) (pc' := 134) rfl (hb hby at_123) rfl (flt (by decide : ¬ ((3 : Int32) < (2 : Int32)))).2.2.2 (by decide) (by decide) k) ?_
      show own_Go _ _ _ _ (T476.setTop (mkF m 134 #[.val (.int p1), .val (.int p2), .val (.int p3), .val (.int p4), .val (.int (2 : Int32)), .val (.ref b323), .val (.ref x_465), .unset, .unset, .unset, .unset, .unset, .unset] []))
      refine own_Go.st (fun _ k => XS.iload X476.here hx rfl (hb hby at_134) rfl k) ?_
      show own_Go _ _ _ _ (T476.setTop (mkF m 136 #[.val (.int p1), .val (.int p2), .val (.int p3), .val (.int p4), .val (.int (2 : Int32)), .val (.ref b323), .val (.ref x_465), .unset, .unset, .unset, .unset, .unset, .unset] [(.int (2 : Int32))]))
      refine own_Go.st (fun _ k => XS.iconst X476.here hx rfl (hb hby at_136) k) ?_
      show own_Go _ _ _ _ (T476.setTop (mkF m 137 #[.val (.int p1), .val (.int p2), .val (.int p3), .val (.int p4), .val (.int (2 : Int32)), .val (.ref b323), .val (.ref x_465), .unset, .unset, .unset, .unset, .unset, .unset] [(.int (4 : Int32)), (.int (2 : Int32))]))
      refine own_Go.st (fun _ k => XS.icmpYes X476.here hx rfl (pc0 := 137) (pc' := 148) rfl (hb hby at_137) rfl (flt (by decide : ¬ ((4 : Int32) < (2 : Int32)))).2.2.2 (by decide) (by decide) k) ?_
      show own_Go _ _ _ _ (T476.setTop (mkF m 148 #[.val (.int p1), .val (.int p2), .val (.int p3), .val (.int p4), .val (.int (2 : Int32)), .val (.ref b323), .val (.ref x_465), .unset, .unset, .unset, .unset, .unset, .unset] []))
      refine own_Go.st (fun _ k => XS.iload X476.here hx rfl (hb hby at_148) rfl k) ?_
      show own_Go _ _ _ _ (T476.setTop (mkF m 150 #[.val (.int p1), .val (.int p2), .val (.int p3), .val (.int p4), .val (.int (2 : Int32)), .val (.ref b323), .val (.ref x_465), .unset, .unset, .unset, .unset, .unset, .unset] [(.int (2 : Int32))]))
      refine own_Go.st (fun _ k => XS.iconst X476.here hx rfl (hb hby at_150) k) ?_
      show own_Go _ _ _ _ (T476.setTop (mkF m 151 #[.val (.int p1), .val (.int p2), .val (.int p3), .val (.int p4), .val (.int (2 : Int32)), .val (.ref b323), .val (.ref x_465), .unset, .unset, .unset, .unset, .unset, .unset] [(.int (5 : Int32)), (.int (2 : Int32))]))
      refine own_Go.st (fun _ k => XS.icmpYes X476.here hx rfl (pc0 := 151) (pc' := 162) rfl (hb hby at_151) rfl (flt (by decide : ¬ ((5 : Int32) < (2 : Int32)))).2.2.2 (by decide) (by decide) k) ?_
      show own_Go _ _ _ _ (T476.setTop (mkF m 162 #[.val (.int p1), .val (.int p2), .val (.int p3), .val (.int p4), .val (.int (2 : Int32)), .val (.ref b323), .val (.ref x_465), .unset, .unset, .unset, .unset, .unset, .unset] []))
      obtain ⟨T480, h480, X480, e480, E480, A480, D480, U480, st480⟩ := newO X476 hx hZ hown (hw _ (List.mem_of_getElem? (i := 9) rfl)) (hw _ (List.mem_of_getElem? (i := 10) rfl)) (hw _ (List.mem_of_getElem? (i := 11) rfl)) e476 (g := (mkF m 162 #[.val (.int p1), .val (.int p2), .val (.int p3), .val (.int p4), .val (.int (2 : Int32)), .val (.ref b323), .val (.ref x_465), .unset, .unset, .unset, .unset, .unset, .unset] [])) rfl (hb hby at_162) (by decide) (by decide)
      obtain ⟨b480, g480⟩ : ∃ z, z = h476.size := ⟨_, rfl⟩
      rw [← g480] at A480 D480 U480 st480
      refine own_Go.st st480 ?_
      have z480 : h476.size ≤ h480.size := E480.1
      have lt_b480 : @LT.lt Nat _ b480 h480.size := A480.lt
      have f481 : Fld Z h480 b480 "java/lang/String" "value" "[B" .null := D480 (Or.inr (hw _ (List.mem_of_getElem? (i := 24) rfl))) (ty := (.array .byte)) (by decide)
      have f482 : Fld Z h480 b480 "java/lang/String" "coder" "B" (.int (0 : Int32)) := D480 (Or.inr (hw _ (List.mem_of_getElem? (i := 25) rfl))) (ty := .byte) (by decide)
      have R480 : CHr Z consts_1 s.vm h0 s.vm h480 := R476.trans (CHr.ext E480 R476.1)
      have Sf480 : Safe Z consts_1 s.vm h480 b480 := (Safe.new (Nat.le_of_eq g480.symm)).ext E480 R476.1
      show own_Go _ _ _ _ (T480.setTop (mkF m 165 #[.val (.int p1), .val (.int p2), .val (.int p3), .val (.int p4), .val (.int (2 : Int32)), .val (.ref b323), .val (.ref x_465), .unset, .unset, .unset, .unset, .unset, .unset] [(.ref b480)]))
      refine own_Go.st (fun _ k => XS.dup X480.here hx rfl (hb hby at_165) rfl rfl k) ?_
      show own_Go _ _ _ _ (T480.setTop (mkF m 166 #[.val (.int p1), .val (.int p2), .val (.int p3), .val (.int p4), .val (.int (2 : Int32)), .val (.ref b323), .val (.ref x_465), .unset, .unset, .unset, .unset, .unset, .unset] [(.ref b480), (.ref b480)]))
      refine own_Go.st (fun _ k => XS.aload X480.here hx rfl (hb hby at_166) rfl rfl k) ?_
      show own_Go _ _ _ _ (T480.setTop (mkF m 168 #[.val (.int p1), .val (.int p2), .val (.int p3), .val (.int p4), .val (.int (2 : Int32)), .val (.ref b323), .val (.ref x_465), .unset, .unset, .unset, .unset, .unset, .unset] [(.ref x_465), (.ref b480), (.ref b480)]))
      have f484 : Arv Z h480 x_465 k_465 .char (2 : Int32) [(.int c_325), (.int c_331)] (.int (0 : Int32)) := f479.ext E480
      have f485 : Old Z Z.heap.size T465.heap := f466.keep K465 all0
      have f486 : Old Z Z.heap.size h470 := f485.wr W470 (by omega)
      have f487 : Old Z Z.heap.size h476 := f486.wr W476 (by omega)
      have f488 : Old Z Z.heap.size h480 := f487.ext E480
      have hp483 : ∀ c ∈ ([c_325, c_331] : List Int32), ¬ c < 0 ∧ ¬ (255 : Int32) < c := (own_aS pr325_0 (own_aS pr331_0 own_a0))
      obtain ⟨_, _, ⟨T483, L483, k483, n483⟩, -, X483, ⟨Lc483, hQ483, l483, y483, z483⟩, st483⟩ := X480.specialBack hx (y := (⟨"java/lang/String", "<init>", "([C)V"⟩ : MethodName)) rfl hown (mvT hZ (hw _ (List.mem_of_getElem? (i := 12) rfl))) (mvT hZ (hw _ (List.mem_of_getElem? (i := 13) rfl))) (mvT hZ (hw _ (List.mem_of_getElem? (i := 14) rfl))) (by decide) (StrChars.Road.backV (W := 1) hZ (own_hws hw) (kI := 4) (hw _ (List.mem_of_getElem? (i := 10) rfl)) (cs := ([c_325, c_331] : List Int32)) (bs := (([c_325, c_331] : List Int32)).map (fun c => c.toInt8.toInt32)) (n := 2) (n0 := Z.heap.size) (by omega) (by omega) A480 f481 f482 f484 (st_COMPACT_STRINGS.ext f488.2) hzc rfl rfl (by decide) (by decide) hp483 rfl (by decide) (by decide)) (g := (mkF m 168 #[.val (.int p1), .val (.int p2), .val (.int p3), .val (.int p4), .val (.int (2 : Int32)), .val (.ref b323), .val (.ref x_465), .unset, .unset, .unset, .unset, .unset, .unset] [(.ref x_465), (.ref b480), (.ref b480)])) rfl (by rw [hml]; rfl) (Steps.refl _) (a := b480) (argsL := [(.ref x_465)]) (rest := [(.ref b480)]) (lenOf pd_405 rfl) rfl (by show 2 * 0 + _ ≤ _; exact Nat.le_of_eq rfl) (hb hby at_168) (fun _ _ => ⟨rfl, e480, (by decide : 3 + 1 ≤ _), (by decide : 16 + 2 ≤ _)⟩)
      dsimp only [Pt.U, Pt.locs, Pt.cells, Pt.slots] at X483 l483 y483 z483 st483 hQ483
      subst l483 y483 z483
      obtain ⟨rfl, N483q, K483, Ex483, Cd483, t483, kb483, u483, v483, w483, Vl483, Ar483⟩ := hQ483
      have N483 := Fr.app N476 N483q
      have z483 : h480.size ≤ T483.heap.size := K483.1
      have R483 : CHr Z consts_1 s.vm h0 s.vm T483.heap := R480.trans (CHr.keep K483 (sfS Sf480 sf0) R480.1)
      have Sf489 : Safe Z consts_1 s.vm T483.heap b480 := Safe.keep K483 (sfS Sf480 sf0) R480.1 Sf480
      have fT483 : own_Str Z T483.heap b480 t483 ([c_325, c_331] : List Int32) := ⟨kb483, 0, (2 : Int32), _, Ex483, Vl483, Cd483, Ar483, StrChars.Road.codOf rfl (fun c q => (hp483 c q).2), own_upL hp483, (Nat.le_of_ble_eq_true rfl)⟩
      have lt483 : @LT.lt Nat _ t483 T483.heap.size := fT483.ltv
      refine own_Go.tr st483 ?_
      show own_Go _ _ _ _ (T483.setTop (mkF m 171 #[.val (.int p1), .val (.int p2), .val (.int p3), .val (.int p4), .val (.int (2 : Int32)), .val (.ref b323), .val (.ref x_465), .unset, .unset, .unset, .unset, .unset, .unset] [(.ref b480)]))
      have f490 : Arv Z h476 b323 k323 .char (6 : Int32) [(.int c_325), (.int c_331), (.int c_337), (.int c_343), (.int c_349), (.int c_355)] (.int (0 : Int32)) := f474.other W476 (by show @Ne Nat b323 x_465; omega)
      have f491 : Arv Z h480 b323 k323 .char (6 : Int32) [(.int c_325), (.int c_331), (.int c_337), (.int c_343), (.int c_349), (.int c_355)] (.int (0 : Int32)) := f490.ext E480
      have f492 : Arv Z T483.heap b323 k323 .char (6 : Int32) [(.int c_325), (.int c_331), (.int c_337), (.int c_343), (.int c_349), (.int c_355)] (.int (0 : Int32)) := f491.keep K483 (ninS (by show @Ne Nat b323 b480; omega) nin0)
      have K493 : Keep h0 h323 [] := (Keep.refl h0 []).ext E323
      have K494 : Keep h0 h327 [] := K493.wr W327 (Or.inr (by omega))
      have K495 : Keep h0 h333 [] := K494.wr W333 (Or.inr (by omega))
      have K496 : Keep h0 h339 [] := K495.wr W339 (Or.inr (by omega))
      have K497 : Keep h0 h345 [] := K496.wr W345 (Or.inr (by omega))
      have K498 : Keep h0 h351 [] := K497.wr W351 (Or.inr (by omega))
      have K499 : Keep h0 h357 [] := K498.wr W357 (Or.inr (by omega))
      have K500 : Keep h0 T465.heap [] := K499.trans K465 all0
      have K501 : Keep h0 h470 [] := K500.wr W470 (Or.inr (by omega))
      have K502 : Keep h0 h476 [] := K501.wr W476 (Or.inr (by omega))
      have K503 : Keep h0 h480 [] := K502.ext E480
      have K504 : Keep h0 T483.heap [] := K503.trans K483 (allS (Or.inr (by omega)) all0)
      have f505 : Old Z Z.heap.size T483.heap := f488.keep K483 (allS (by omega) all0)
      exact HJ361 [c_325, c_331, c_337, c_343, c_349, c_355] 2 b480 t483 x_465 T483 T483.heap _ s.vm _ rfl rfl (by decide) ((own_aS pr325_0 (own_aS pr331_0 (own_aS pr337_0 (own_aS pr343_0 (own_aS pr349_0 (own_aS pr355_0 own_a0))))))) (own_standW X483 (by decide) (by decide)) rfl N483 K504 f505 (by omega) R483 hS0 (by omega) hZ hown f492 fT483
    ·
      show own_Go _ _ _ _ (T357.setTop (mkF m 72 #[.val (.int p1), .val (.int p2), .val (.int p3), .val (.int p4), .val (.int (3 : Int32)), .val (.ref b323), .unset, .unset, .unset, .unset, .unset, .unset, .unset] []))
      refine own_Go.st (fun _ k => XS.iload X357.here hx rfl (hb hby at_72) rfl k) ?_
      show own_Go _ _ _ _ (T357.setTop (mkF m 74 #[.val (.int p1), .val (.int p2), .val (.int p3), .val (.int p4), .val (.int (3 : Int32)), .val (.ref b323), .unset, .unset, .unset, .unset, .unset, .unset, .unset] [(.int (3 : Int32))]))
      have f507 : Old Z Z.heap.size h357 := f356.wr W357 (by omega)
      obtain ⟨_, _, ⟨T506, L506, k506, n506⟩, -, X506, ⟨Lc506, hQ506, l506, y506, z506⟩, st506⟩ := Jvm.LawKit.callS X357 hx (y := (⟨"com/example/keep_to_layer/keeptolayer/model/ClassNamesOutermostOfPinLaw", "make", "(I)[C"⟩ : MethodName)) hown (mvT hZ (hw _ (List.mem_of_getElem? (i := 6) rfl))) (mvT hZ (hw _ (List.mem_of_getElem? (i := 7) rfl))) (mvT hZ (hw _ (List.mem_of_getElem? (i := 4) rfl))) (mvT hZ (hw _ (List.mem_of_getElem? (i := 8) rfl))) (by decide) (backOf (W := 0) (rm_make l Z a0 hw [] (3 : Int32) h357 f507 (by decide)) hZ (hw _ (List.mem_of_getElem? (i := 8) rfl)) (hw _ (List.mem_of_getElem? (i := 4) rfl)) (by decide) (by decide)) (g := (mkF m 74 #[.val (.int p1), .val (.int p2), .val (.int p3), .val (.int p4), .val (.int (3 : Int32)), .val (.ref b323), .unset, .unset, .unset, .unset, .unset, .unset, .unset] [(.int (3 : Int32))])) rfl (by rw [hml]; rfl) (argsL := [(.int (3 : Int32))]) (rest := []) (lenOf pd_404 rfl) rfl (by show 2 * 0 + _ ≤ _; exact Nat.le_of_eq rfl) (hb hby at_74) (fun _ _ => ⟨rfl, e357, (by decide : 1 + 1 ≤ _), (by decide : 6 + 6 ≤ _)⟩)
      dsimp only [Pt.U, Pt.locs, Pt.cells, Pt.slots] at X506 l506 y506 z506 st506 hQ506
      subst l506 y506 z506
      obtain ⟨x_506, k_506, rfl, N506q, K506, f506_0, pr506_0⟩ := hQ506
      have N506 := Fr.app N357 N506q
      have z506 : h357.size ≤ T506.heap.size := K506.1
      have R506 : CHr Z consts_1 s.vm h0 s.vm T506.heap := R357.trans (CHr.keep K506 sf0 R357.1)
      have lt506_0 : @LT.lt Nat _ x_506 T506.heap.size := f506_0.lt
      have f508 : Arv Z T506.heap x_506 k_506 .char (3 : Int32) [(.int (0 : Int32)), (.int (0 : Int32)), (.int (0 : Int32))] (.int (0 : Int32)) := Arv.pad f506_0 (pad_rep [] _ 3)
      refine own_Go.st st506 ?_
      show own_Go _ _ _ _ (T506.setTop (mkF m 77 #[.val (.int p1), .val (.int p2), .val (.int p3), .val (.int p4), .val (.int (3 : Int32)), .val (.ref b323), .unset, .unset, .unset, .unset, .unset, .unset, .unset] [(.ref x_506)]))
      refine own_Go.st (fun _ k => XS.astore X506.here hx rfl (hb hby at_77) rfl rfl (l' := #[.val (.int p1), .val (.int p2), .val (.int p3), .val (.int p4), .val (.int (3 : Int32)), .val (.ref b323), .val (.ref x_506), .unset, .unset, .unset, .unset, .unset, .unset]) rfl k) ?_
      show own_Go _ _ _ _ (T506.setTop (mkF m 79 #[.val (.int p1), .val (.int p2), .val (.int p3), .val (.int p4), .val (.int (3 : Int32)), .val (.ref b323), .val (.ref x_506), .unset, .unset, .unset, .unset, .unset, .unset] []))
      refine own_Go.st (fun _ k => XS.iload X506.here hx rfl (hb hby at_79) rfl k) ?_
      show own_Go _ _ _ _ (T506.setTop (mkF m 81 #[.val (.int p1), .val (.int p2), .val (.int p3), .val (.int p4), .val (.int (3 : Int32)), .val (.ref b323), .val (.ref x_506), .unset, .unset, .unset, .unset, .unset, .unset] [(.int (3 : Int32))]))
      refine own_Go.st (fun _ k => XS.ifNo X506.here hx rfl (hb hby at_81) rfl ((if0 _ _).trans (tlt (by decide : (0 : Int32) < (3 : Int32))).2.2.2) k) ?_
      show own_Go _ _ _ _ (T506.setTop (mkF m 84 #[.val (.int p1), .val (.int p2), .val (.int p3), .val (.int p4), .val (.int (3 : Int32)), .val (.ref b323), .val (.ref x_506), .unset, .unset, .unset, .unset, .unset, .unset] []))
      refine own_Go.st (fun _ k => XS.aload X506.here hx rfl (hb hby at_84) rfl rfl k) ?_
      show own_Go _ _ _ _ (T506.setTop (mkF m 86 #[.val (.int p1), .val (.int p2), .val (.int p3), .val (.int p4), .val (.int (3 : Int32)), .val (.ref b323), .val (.ref x_506), .unset, .unset, .unset, .unset, .unset, .unset] [(.ref x_506)]))
      refine own_Go.st (fun _ k => XS.iconst X506.here hx rfl (hb hby at_86) k) ?_
      show own_Go _ _ _ _ (T506.setTop (mkF m 87 #[.val (.int p1), .val (.int p2), .val (.int p3), .val (.int p4), .val (.int (3 : Int32)), .val (.ref b323), .val (.ref x_506), .unset, .unset, .unset, .unset, .unset, .unset] [(.int (0 : Int32)), (.ref x_506)]))
      refine own_Go.st (fun _ k => XS.aload X506.here hx rfl (hb hby at_87) rfl rfl k) ?_
      show own_Go _ _ _ _ (T506.setTop (mkF m 89 #[.val (.int p1), .val (.int p2), .val (.int p3), .val (.int p4), .val (.int (3 : Int32)), .val (.ref b323), .val (.ref x_506), .unset, .unset, .unset, .unset, .unset, .unset] [(.ref b323), (.int (0 : Int32)), (.ref x_506)]))
      refine own_Go.st (fun _ k => XS.iconst X506.here hx rfl (hb hby at_89) k) ?_
      show own_Go _ _ _ _ (T506.setTop (mkF m 90 #[.val (.int p1), .val (.int p2), .val (.int p3), .val (.int p4), .val (.int (3 : Int32)), .val (.ref b323), .val (.ref x_506), .unset, .unset, .unset, .unset, .unset, .unset] [(.int (0 : Int32)), (.ref b323), (.int (0 : Int32)), (.ref x_506)]))
      have f509 : Arv Z T506.heap b323 k323 .char (6 : Int32) [(.int c_325), (.int c_331), (.int c_337), (.int c_343), (.int c_349), (.int c_355)] (.int (0 : Int32)) := f360.keep K506 nin0
      obtain ⟨c510, Ar510, q510, S510, Nn510, H510, G510⟩ := id f509
      have hin510 : ¬ ((0 : Int32) < 0 ∨ c510.slots.size ≤ ((0 : Int32)).toNatClampNeg) := inb_of S510 ⟨by decide, by decide⟩
      have hat510 : c510.slots[((0 : Int32)).toNatClampNeg]? = some (.int c_325) := H510.at hin510 rfl
      refine own_Go.st (X506.caload hx (j := (0 : Int32)) (v := (.int c_325)) (own_rwE rfl Ar510.1) (State.isArrayOf_alike hZ.alike Ar510.2.1) Ar510.2.2 hin510 hat510 (g := (mkF m 90 #[.val (.int p1), .val (.int p2), .val (.int p3), .val (.int p4), .val (.int (3 : Int32)), .val (.ref b323), .val (.ref x_506), .unset, .unset, .unset, .unset, .unset, .unset] [(.int (0 : Int32)), (.ref b323), (.int (0 : Int32)), (.ref x_506)])) rfl rfl (hb hby at_90)) ?_
      show own_Go _ _ _ _ (T506.setTop (mkF m 91 #[.val (.int p1), .val (.int p2), .val (.int p3), .val (.int p4), .val (.int (3 : Int32)), .val (.ref b323), .val (.ref x_506), .unset, .unset, .unset, .unset, .unset, .unset] [(.int c_325), (.int (0 : Int32)), (.ref x_506)]))
      obtain ⟨c511, Ar511, q511, S511, Nn511, H511, G511⟩ := id f508
      have hin511 : ¬ ((0 : Int32) < 0 ∨ c511.slots.size ≤ ((0 : Int32)).toNatClampNeg) := inb_of S511 ⟨by decide, by decide⟩
      obtain ⟨T511, h511, X511, e511, W511, st511⟩ := stC X506 hx hZ rfl Ar511 (j := (0 : Int32)) hin511 (g := (mkF m 91 #[.val (.int p1), .val (.int p2), .val (.int p3), .val (.int p4), .val (.int (3 : Int32)), .val (.ref b323), .val (.ref x_506), .unset, .unset, .unset, .unset, .unset, .unset] [(.int c_325), (.int (0 : Int32)), (.ref x_506)])) rfl rfl (hb hby at_91)
      refine own_Go.st st511 ?_
      have N511 := Fr.snoc X511 N506 (by omega)
      have Sf513 : Safe Z consts_1 s.vm T506.heap x_506 := Safe.arv hZ.alike f508 (by decide)
      have z511 : T506.heap.size ≤ h511.size := Nat.le_of_eq W511.size.symm
      have f512 := Arv.set Ar511 q511 S511 Nn511 H511 G511 (fits_nar_char _) W511 0 rfl (Nat.le_of_ble_eq_true rfl)
      rw [own_nar (own_up pr325_0)] at f512
      have f514 : Arv Z h511 x_506 k_506 .char (3 : Int32) [(.int c_325), (.int (0 : Int32)), (.int (0 : Int32))] (.int (0 : Int32)) := f512
      have R511 : CHr Z consts_1 s.vm h0 s.vm h511 := R506.trans (CHr.wr W511 Sf513 R506.1)
      show own_Go _ _ _ _ (T511.setTop (mkF m 92 #[.val (.int p1), .val (.int p2), .val (.int p3), .val (.int p4), .val (.int (3 : Int32)), .val (.ref b323), .val (.ref x_506), .unset, .unset, .unset, .unset, .unset, .unset] []))
      refine own_Go.st (fun _ k => XS.iload X511.here hx rfl (hb hby at_92) rfl k) ?_
      show own_Go _ _ _ _ (T511.setTop (mkF m 94 #[.val (.int p1), .val (.int p2), .val (.int p3), .val (.int p4), .val (.int (3 : Int32)), .val (.ref b323), .val (.ref x_506), .unset, .unset, .unset, .unset, .unset, .unset] [(.int (3 : Int32))]))
      refine own_Go.st (fun _ k => XS.iconst X511.here hx rfl (hb hby at_94) k) ?_
      show own_Go _ _ _ _ (T511.setTop (mkF m 95 #[.val (.int p1), .val (.int p2), .val (.int p3), .val (.int p4), .val (.int (3 : Int32)), .val (.ref b323), .val (.ref x_506), .unset, .unset, .unset, .unset, .unset, .unset] [(.int (1 : Int32)), (.int (3 : Int32))]))
      refine own_Go.st (fun _ k => XS.icmpNo X511.here hx rfl (hb hby at_95) rfl (tlt (by decide : (1 : Int32) < (3 : Int32))).2.2.2 k) ?_
      show own_Go _ _ _ _ (T511.setTop (mkF m 98 #[.val (.int p1), .val (.int p2), .val (.int p3), .val (.int p4), .val (.int (3 : Int32)), .val (.ref b323), .val (.ref x_506), .unset, .unset, .unset, .unset, .unset, .unset] []))
      refine own_Go.st (fun _ k => XS.aload X511.here hx rfl (hb hby at_98) rfl rfl k) ?_
      show own_Go _ _ _ _ (T511.setTop (mkF m 100 #[.val (.int p1), .val (.int p2), .val (.int p3), .val (.int p4), .val (.int (3 : Int32)), .val (.ref b323), .val (.ref x_506), .unset, .unset, .unset, .unset, .unset, .unset] [(.ref x_506)]))
      refine own_Go.st (fun _ k => XS.iconst X511.here hx rfl (hb hby at_100) k) ?_
      show own_Go _ _ _ _ (T511.setTop (mkF m 101 #[.val (.int p1), .val (.int p2), .val (.int p3), .val (.int p4), .val (.int (3 : Int32)), .val (.ref b323), .val (.ref x_506), .unset, .unset, .unset, .unset, .unset, .unset] [(.int (1 : Int32)), (.ref x_506)]))
      refine own_Go.st (fun _ k => XS.aload X511.here hx rfl (hb hby at_101) rfl rfl k) ?_
      show own_Go _ _ _ _ (T511.setTop (mkF m 103 #[.val (.int p1), .val (.int p2), .val (.int p3), .val (.int p4), .val (.int (3 : Int32)), .val (.ref b323), .val (.ref x_506), .unset, .unset, .unset, .unset, .unset, .unset] [(.ref b323), (.int (1 : Int32)), (.ref x_506)]))
      refine own_Go.st (fun _ k => XS.iconst X511.here hx rfl (hb hby at_103) k) ?_
      show own_Go _ _ _ _ (T511.setTop (mkF m 104 #[.val (.int p1), .val (.int p2), .val (.int p3), .val (.int p4), .val (.int (3 : Int32)), .val (.ref b323), .val (.ref x_506), .unset, .unset, .unset, .unset, .unset, .unset] [(.int (1 : Int32)), (.ref b323), (.int (1 : Int32)), (.ref x_506)]))
      have f515 : Arv Z h511 b323 k323 .char (6 : Int32) [(.int c_325), (.int c_331), (.int c_337), (.int c_343), (.int c_349), (.int c_355)] (.int (0 : Int32)) := f509.other W511 (by show @Ne Nat b323 x_506; omega)
      obtain ⟨c516, Ar516, q516, S516, Nn516, H516, G516⟩ := id f515
      have hin516 : ¬ ((1 : Int32) < 0 ∨ c516.slots.size ≤ ((1 : Int32)).toNatClampNeg) := inb_of S516 ⟨by decide, by decide⟩
      have hat516 : c516.slots[((1 : Int32)).toNatClampNeg]? = some (.int c_331) := H516.at hin516 rfl
      refine own_Go.st (X511.caload hx (j := (1 : Int32)) (v := (.int c_331)) (own_rwE e511 Ar516.1) (State.isArrayOf_alike hZ.alike Ar516.2.1) Ar516.2.2 hin516 hat516 (g := (mkF m 104 #[.val (.int p1), .val (.int p2), .val (.int p3), .val (.int p4), .val (.int (3 : Int32)), .val (.ref b323), .val (.ref x_506), .unset, .unset, .unset, .unset, .unset, .unset] [(.int (1 : Int32)), (.ref b323), (.int (1 : Int32)), (.ref x_506)])) rfl rfl (hb hby at_104)) ?_
      show own_Go _ _ _ _ (T511.setTop (mkF m 105 #[.val (.int p1), .val (.int p2), .val (.int p3), .val (.int p4), .val (.int (3 : Int32)), .val (.ref b323), .val (.ref x_506), .unset, .unset, .unset, .unset, .unset, .unset] [(.int c_331), (.int (1 : Int32)), (.ref x_506)]))
      obtain ⟨c517, Ar517, q517, S517, Nn517, H517, G517⟩ := id f514
      have hin517 : ¬ ((1 : Int32) < 0 ∨ c517.slots.size ≤ ((1 : Int32)).toNatClampNeg) := inb_of S517 ⟨by decide, by decide⟩
      obtain ⟨T517, h517, X517, e517, W517, st517⟩ := stC X511 hx hZ e511 Ar517 (j := (1 : Int32)) hin517 (g := (mkF m 105 #[.val (.int p1), .val (.int p2), .val (.int p3), .val (.int p4), .val (.int (3 : Int32)), .val (.ref b323), .val (.ref x_506), .unset, .unset, .unset, .unset, .unset, .unset] [(.int c_331), (.int (1 : Int32)), (.ref x_506)])) rfl rfl (hb hby at_105)
      refine own_Go.st st517 ?_
      have N517 := Fr.snoc X517 N511 (by omega)
      have Sf519 : Safe Z consts_1 s.vm h511 x_506 := Safe.arv hZ.alike f514 (by decide)
      have z517 : h511.size ≤ h517.size := Nat.le_of_eq W517.size.symm
      have f518 := Arv.set Ar517 q517 S517 Nn517 H517 G517 (fits_nar_char _) W517 1 rfl (Nat.le_of_ble_eq_true rfl)
      rw [own_nar (own_up pr331_0)] at f518
      have f520 : Arv Z h517 x_506 k_506 .char (3 : Int32) [(.int c_325), (.int c_331), (.int (0 : Int32))] (.int (0 : Int32)) := f518
      have R517 : CHr Z consts_1 s.vm h0 s.vm h517 := R511.trans (CHr.wr W517 Sf519 R511.1)
      show own_Go _ _ _ _ (T517.setTop (mkF m 106 #[.val (.int p1), .val (.int p2), .val (.int p3), .val (.int p4), .val (.int (3 : Int32)), .val (.ref b323), .val (.ref x_506), .unset, .unset, .unset, .unset, .unset, .unset] []))
      refine own_Go.st (fun _ k => XS.iload X517.here hx rfl (hb hby at_106) rfl k) ?_
      show own_Go _ _ _ _ (T517.setTop (mkF m 108 #[.val (.int p1), .val (.int p2), .val (.int p3), .val (.int p4), .val (.int (3 : Int32)), .val (.ref b323), .val (.ref x_506), .unset, .unset, .unset, .unset, .unset, .unset] [(.int (3 : Int32))]))
      refine own_Go.st (fun _ k => XS.iconst X517.here hx rfl (hb hby at_108) k) ?_
      show own_Go _ _ _ _ (T517.setTop (mkF m 109 #[.val (.int p1), .val (.int p2), .val (.int p3), .val (.int p4), .val (.int (3 : Int32)), .val (.ref b323), .val (.ref x_506), .unset, .unset, .unset, .unset, .unset, .unset] [(.int (2 : Int32)), (.int (3 : Int32))]))
      refine own_Go.st (fun _ k => XS.icmpNo X517.here hx rfl (hb hby at_109) rfl (tlt (by decide : (2 : Int32) < (3 : Int32))).2.2.2 k) ?_
      show own_Go _ _ _ _ (T517.setTop (mkF m 112 #[.val (.int p1), .val (.int p2), .val (.int p3), .val (.int p4), .val (.int (3 : Int32)), .val (.ref b323), .val (.ref x_506), .unset, .unset, .unset, .unset, .unset, .unset] []))
      refine own_Go.st (fun _ k => XS.aload X517.here hx rfl (hb hby at_112) rfl rfl k) ?_
      show own_Go _ _ _ _ (T517.setTop (mkF m 114 #[.val (.int p1), .val (.int p2), .val (.int p3), .val (.int p4), .val (.int (3 : Int32)), .val (.ref b323), .val (.ref x_506), .unset, .unset, .unset, .unset, .unset, .unset] [(.ref x_506)]))
      refine own_Go.st (fun _ k => XS.iconst X517.here hx rfl (hb hby at_114) k) ?_
      show own_Go _ _ _ _ (T517.setTop (mkF m 115 #[.val (.int p1), .val (.int p2), .val (.int p3), .val (.int p4), .val (.int (3 : Int32)), .val (.ref b323), .val (.ref x_506), .unset, .unset, .unset, .unset, .unset, .unset] [(.int (2 : Int32)), (.ref x_506)]))
      refine own_Go.st (fun _ k => XS.aload X517.here hx rfl (hb hby at_115) rfl rfl k) ?_
      show own_Go _ _ _ _ (T517.setTop (mkF m 117 #[.val (.int p1), .val (.int p2), .val (.int p3), .val (.int p4), .val (.int (3 : Int32)), .val (.ref b323), .val (.ref x_506), .unset, .unset, .unset, .unset, .unset, .unset] [(.ref b323), (.int (2 : Int32)), (.ref x_506)]))
      refine own_Go.st (fun _ k => XS.iconst X517.here hx rfl (hb hby at_117) k) ?_
      show own_Go _ _ _ _ (T517.setTop (mkF m 118 #[.val (.int p1), .val (.int p2), .val (.int p3), .val (.int p4), .val (.int (3 : Int32)), .val (.ref b323), .val (.ref x_506), .unset, .unset, .unset, .unset, .unset, .unset] [(.int (2 : Int32)), (.ref b323), (.int (2 : Int32)), (.ref x_506)]))
      have f521 : Arv Z h517 b323 k323 .char (6 : Int32) [(.int c_325), (.int c_331), (.int c_337), (.int c_343), (.int c_349), (.int c_355)] (.int (0 : Int32)) := f515.other W517 (by show @Ne Nat b323 x_506; omega)
      obtain ⟨c522, Ar522, q522, S522, Nn522, H522, G522⟩ := id f521
      have hin522 : ¬ ((2 : Int32) < 0 ∨ c522.slots.size ≤ ((2 : Int32)).toNatClampNeg) := inb_of S522 ⟨by decide, by decide⟩
      have hat522 : c522.slots[((2 : Int32)).toNatClampNeg]? = some (.int c_337) := H522.at hin522 rfl
      refine own_Go.st (X517.caload hx (j := (2 : Int32)) (v := (.int c_337)) (own_rwE e517 Ar522.1) (State.isArrayOf_alike hZ.alike Ar522.2.1) Ar522.2.2 hin522 hat522 (g := (mkF m 118 #[.val (.int p1), .val (.int p2), .val (.int p3), .val (.int p4), .val (.int (3 : Int32)), .val (.ref b323), .val (.ref x_506), .unset, .unset, .unset, .unset, .unset, .unset] [(.int (2 : Int32)), (.ref b323), (.int (2 : Int32)), (.ref x_506)])) rfl rfl (hb hby at_118)) ?_
      show own_Go _ _ _ _ (T517.setTop (mkF m 119 #[.val (.int p1), .val (.int p2), .val (.int p3), .val (.int p4), .val (.int (3 : Int32)), .val (.ref b323), .val (.ref x_506), .unset, .unset, .unset, .unset, .unset, .unset] [(.int c_337), (.int (2 : Int32)), (.ref x_506)]))
      obtain ⟨c523, Ar523, q523, S523, Nn523, H523, G523⟩ := id f520
      have hin523 : ¬ ((2 : Int32) < 0 ∨ c523.slots.size ≤ ((2 : Int32)).toNatClampNeg) := inb_of S523 ⟨by decide, by decide⟩
      obtain ⟨T523, h523, X523, e523, W523, st523⟩ := stC X517 hx hZ e517 Ar523 (j := (2 : Int32)) hin523 (g := (mkF m 119 #[.val (.int p1), .val (.int p2), .val (.int p3), .val (.int p4), .val (.int (3 : Int32)), .val (.ref b323), .val (.ref x_506), .unset, .unset, .unset, .unset, .unset, .unset] [(.int c_337), (.int (2 : Int32)), (.ref x_506)])) rfl rfl (hb hby at_119)
      refine own_Go.st st523 ?_
      have N523 := Fr.snoc X523 N517 (by omega)
      have Sf525 : Safe Z consts_1 s.vm h517 x_506 := Safe.arv hZ.alike f520 (by decide)
      have z523 : h517.size ≤ h523.size := Nat.le_of_eq W523.size.symm
      have f524 := Arv.set Ar523 q523 S523 Nn523 H523 G523 (fits_nar_char _) W523 2 rfl (Nat.le_of_ble_eq_true rfl)
      rw [own_nar (own_up pr337_0)] at f524
      have f526 : Arv Z h523 x_506 k_506 .char (3 : Int32) [(.int c_325), (.int c_331), (.int c_337)] (.int (0 : Int32)) := f524
      have R523 : CHr Z consts_1 s.vm h0 s.vm h523 := R517.trans (CHr.wr W523 Sf525 R517.1)
      show own_Go _ _ _ _ (T523.setTop (mkF m 120 #[.val (.int p1), .val (.int p2), .val (.int p3), .val (.int p4), .val (.int (3 : Int32)), .val (.ref b323), .val (.ref x_506), .unset, .unset, .unset, .unset, .unset, .unset] []))
      refine own_Go.st (fun _ k => XS.iload X523.here hx rfl (hb hby at_120) rfl k) ?_
      show own_Go _ _ _ _ (T523.setTop (mkF m 122 #[.val (.int p1), .val (.int p2), .val (.int p3), .val (.int p4), .val (.int (3 : Int32)), .val (.ref b323), .val (.ref x_506), .unset, .unset, .unset, .unset, .unset, .unset] [(.int (3 : Int32))]))
      refine own_Go.st (fun _ k => XS.iconst X523.here hx rfl (hb hby at_122) k) ?_
      show own_Go _ _ _ _ (T523.setTop (mkF m 123 #[.val (.int p1), .val (.int p2), .val (.int p3), .val (.int p4), .val (.int (3 : Int32)), .val (.ref b323), .val (.ref x_506), .unset, .unset, .unset, .unset, .unset, .unset] [(.int (3 : Int32)), (.int (3 : Int32))]))
      refine own_Go.st (fun _ k => XS.icmpYes X523.here hx rfl (pc0 := 123) (pc' := 134) rfl (hb hby at_123) rfl (flt (by decide : ¬ ((3 : Int32) < (3 : Int32)))).2.2.2 (by decide) (by decide) k) ?_
      show own_Go _ _ _ _ (T523.setTop (mkF m 134 #[.val (.int p1), .val (.int p2), .val (.int p3), .val (.int p4), .val (.int (3 : Int32)), .val (.ref b323), .val (.ref x_506), .unset, .unset, .unset, .unset, .unset, .unset] []))
      refine own_Go.st (fun _ k => XS.iload X523.here hx rfl (hb hby at_134) rfl k) ?_
      show own_Go _ _ _ _ (T523.setTop (mkF m 136 #[.val (.int p1), .val (.int p2), .val (.int p3), .val (.int p4), .val (.int (3 : Int32)), .val (.ref b323), .val (.ref x_506), .unset, .unset, .unset, .unset, .unset, .unset] [(.int (3 : Int32))]))
      refine own_Go.st (fun _ k => XS.iconst X523.here hx rfl (hb hby at_136) k) ?_
      show own_Go _ _ _ _ (T523.setTop (mkF m 137 #[.val (.int p1), .val (.int p2), .val (.int p3), .val (.int p4), .val (.int (3 : Int32)), .val (.ref b323), .val (.ref x_506), .unset, .unset, .unset, .unset, .unset, .unset] [(.int (4 : Int32)), (.int (3 : Int32))]))
      refine own_Go.st (fun _ k => XS.icmpYes X523.here hx rfl (pc0 := 137) (pc' := 148) rfl (hb hby at_137) rfl (flt (by decide : ¬ ((4 : Int32) < (3 : Int32)))).2.2.2 (by decide) (by decide) k) ?_
      show own_Go _ _ _ _ (T523.setTop (mkF m 148 #[.val (.int p1), .val (.int p2), .val (.int p3), .val (.int p4), .val (.int (3 : Int32)), .val (.ref b323), .val (.ref x_506), .unset, .unset, .unset, .unset, .unset, .unset] []))
      refine own_Go.st (fun _ k => XS.iload X523.here hx rfl (hb hby at_148) rfl k) ?_
      show own_Go _ _ _ _ (T523.setTop (mkF m 150 #[.val (.int p1), .val (.int p2), .val (.int p3), .val (.int p4), .val (.int (3 : Int32)), .val (.ref b323), .val (.ref x_506), .unset, .unset, .unset, .unset, .unset, .unset] [(.int (3 : Int32))]))
      refine own_Go.st (fun _ k => XS.iconst X523.here hx rfl (hb hby at_150) k) ?_
      show own_Go _ _ _ _ (T523.setTop (mkF m 151 #[.val (.int p1), .val (.int p2), .val (.int p3), .val (.int p4), .val (.int (3 : Int32)), .val (.ref b323), .val (.ref x_506), .unset, .unset, .unset, .unset, .unset, .unset] [(.int (5 : Int32)), (.int (3 : Int32))]))
      refine own_Go.st (fun _ k => XS.icmpYes X523.here hx rfl (pc0 := 151) (pc' := 162) rfl (hb hby at_151) rfl (flt (by decide : ¬ ((5 : Int32) < (3 : Int32)))).2.2.2 (by decide) (by decide) k) ?_
      show own_Go _ _ _ _ (T523.setTop (mkF m 162 #[.val (.int p1), .val (.int p2), .val (.int p3), .val (.int p4), .val (.int (3 : Int32)), .val (.ref b323), .val (.ref x_506), .unset, .unset, .unset, .unset, .unset, .unset] []))
      obtain ⟨T527, h527, X527, e527, E527, A527, D527, U527, st527⟩ := newO X523 hx hZ hown (hw _ (List.mem_of_getElem? (i := 9) rfl)) (hw _ (List.mem_of_getElem? (i := 10) rfl)) (hw _ (List.mem_of_getElem? (i := 11) rfl)) e523 (g := (mkF m 162 #[.val (.int p1), .val (.int p2), .val (.int p3), .val (.int p4), .val (.int (3 : Int32)), .val (.ref b323), .val (.ref x_506), .unset, .unset, .unset, .unset, .unset, .unset] [])) rfl (hb hby at_162) (by decide) (by decide)
      obtain ⟨b527, g527⟩ : ∃ z, z = h523.size := ⟨_, rfl⟩
      rw [← g527] at A527 D527 U527 st527
      refine own_Go.st st527 ?_
      have z527 : h523.size ≤ h527.size := E527.1
      have lt_b527 : @LT.lt Nat _ b527 h527.size := A527.lt
      have f528 : Fld Z h527 b527 "java/lang/String" "value" "[B" .null := D527 (Or.inr (hw _ (List.mem_of_getElem? (i := 24) rfl))) (ty := (.array .byte)) (by decide)
      have f529 : Fld Z h527 b527 "java/lang/String" "coder" "B" (.int (0 : Int32)) := D527 (Or.inr (hw _ (List.mem_of_getElem? (i := 25) rfl))) (ty := .byte) (by decide)
      have R527 : CHr Z consts_1 s.vm h0 s.vm h527 := R523.trans (CHr.ext E527 R523.1)
      have Sf527 : Safe Z consts_1 s.vm h527 b527 := (Safe.new (Nat.le_of_eq g527.symm)).ext E527 R523.1
      show own_Go _ _ _ _ (T527.setTop (mkF m 165 #[.val (.int p1), .val (.int p2), .val (.int p3), .val (.int p4), .val (.int (3 : Int32)), .val (.ref b323), .val (.ref x_506), .unset, .unset, .unset, .unset, .unset, .unset] [(.ref b527)]))
      refine own_Go.st (fun _ k => XS.dup X527.here hx rfl (hb hby at_165) rfl rfl k) ?_
      show own_Go _ _ _ _ (T527.setTop (mkF m 166 #[.val (.int p1), .val (.int p2), .val (.int p3), .val (.int p4), .val (.int (3 : Int32)), .val (.ref b323), .val (.ref x_506), .unset, .unset, .unset, .unset, .unset, .unset] [(.ref b527), (.ref b527)]))
      refine own_Go.st (fun _ k => XS.aload X527.here hx rfl (hb hby at_166) rfl rfl k) ?_
      show own_Go _ _ _ _ (T527.setTop (mkF m 168 #[.val (.int p1), .val (.int p2), .val (.int p3), .val (.int p4), .val (.int (3 : Int32)), .val (.ref b323), .val (.ref x_506), .unset, .unset, .unset, .unset, .unset, .unset] [(.ref x_506), (.ref b527), (.ref b527)]))
      have f531 : Arv Z h527 x_506 k_506 .char (3 : Int32) [(.int c_325), (.int c_331), (.int c_337)] (.int (0 : Int32)) := f526.ext E527
      have f532 : Old Z Z.heap.size T506.heap := f507.keep K506 all0
      have f533 : Old Z Z.heap.size h511 := f532.wr W511 (by omega)
      have f534 : Old Z Z.heap.size h517 := f533.wr W517 (by omega)
      have f535 : Old Z Z.heap.size h523 := f534.wr W523 (by omega)
      have f536 : Old Z Z.heap.size h527 := f535.ext E527
      have hp530 : ∀ c ∈ ([c_325, c_331, c_337] : List Int32), ¬ c < 0 ∧ ¬ (255 : Int32) < c := (own_aS pr325_0 (own_aS pr331_0 (own_aS pr337_0 own_a0)))
      obtain ⟨_, _, ⟨T530, L530, k530, n530⟩, -, X530, ⟨Lc530, hQ530, l530, y530, z530⟩, st530⟩ := X527.specialBack hx (y := (⟨"java/lang/String", "<init>", "([C)V"⟩ : MethodName)) rfl hown (mvT hZ (hw _ (List.mem_of_getElem? (i := 12) rfl))) (mvT hZ (hw _ (List.mem_of_getElem? (i := 13) rfl))) (mvT hZ (hw _ (List.mem_of_getElem? (i := 14) rfl))) (by decide) (StrChars.Road.backV (W := 1) hZ (own_hws hw) (kI := 4) (hw _ (List.mem_of_getElem? (i := 10) rfl)) (cs := ([c_325, c_331, c_337] : List Int32)) (bs := (([c_325, c_331, c_337] : List Int32)).map (fun c => c.toInt8.toInt32)) (n := 3) (n0 := Z.heap.size) (by omega) (by omega) A527 f528 f529 f531 (st_COMPACT_STRINGS.ext f536.2) hzc rfl rfl (by decide) (by decide) hp530 rfl (by decide) (by decide)) (g := (mkF m 168 #[.val (.int p1), .val (.int p2), .val (.int p3), .val (.int p4), .val (.int (3 : Int32)), .val (.ref b323), .val (.ref x_506), .unset, .unset, .unset, .unset, .unset, .unset] [(.ref x_506), (.ref b527), (.ref b527)])) rfl (by rw [hml]; rfl) (Steps.refl _) (a := b527) (argsL := [(.ref x_506)]) (rest := [(.ref b527)]) (lenOf pd_405 rfl) rfl (by show 2 * 0 + _ ≤ _; exact Nat.le_of_eq rfl) (hb hby at_168) (fun _ _ => ⟨rfl, e527, (by decide : 3 + 1 ≤ _), (by decide : 16 + 3 ≤ _)⟩)
      dsimp only [Pt.U, Pt.locs, Pt.cells, Pt.slots] at X530 l530 y530 z530 st530 hQ530
      subst l530 y530 z530
      obtain ⟨rfl, N530q, K530, Ex530, Cd530, t530, kb530, u530, v530, w530, Vl530, Ar530⟩ := hQ530
      have N530 := Fr.app N523 N530q
      have z530 : h527.size ≤ T530.heap.size := K530.1
      have R530 : CHr Z consts_1 s.vm h0 s.vm T530.heap := R527.trans (CHr.keep K530 (sfS Sf527 sf0) R527.1)
      have Sf537 : Safe Z consts_1 s.vm T530.heap b527 := Safe.keep K530 (sfS Sf527 sf0) R527.1 Sf527
      have fT530 : own_Str Z T530.heap b527 t530 ([c_325, c_331, c_337] : List Int32) := ⟨kb530, 0, (3 : Int32), _, Ex530, Vl530, Cd530, Ar530, StrChars.Road.codOf rfl (fun c q => (hp530 c q).2), own_upL hp530, (Nat.le_of_ble_eq_true rfl)⟩
      have lt530 : @LT.lt Nat _ t530 T530.heap.size := fT530.ltv
      refine own_Go.tr st530 ?_
      show own_Go _ _ _ _ (T530.setTop (mkF m 171 #[.val (.int p1), .val (.int p2), .val (.int p3), .val (.int p4), .val (.int (3 : Int32)), .val (.ref b323), .val (.ref x_506), .unset, .unset, .unset, .unset, .unset, .unset] [(.ref b527)]))
      have f538 : Arv Z h523 b323 k323 .char (6 : Int32) [(.int c_325), (.int c_331), (.int c_337), (.int c_343), (.int c_349), (.int c_355)] (.int (0 : Int32)) := f521.other W523 (by show @Ne Nat b323 x_506; omega)
      have f539 : Arv Z h527 b323 k323 .char (6 : Int32) [(.int c_325), (.int c_331), (.int c_337), (.int c_343), (.int c_349), (.int c_355)] (.int (0 : Int32)) := f538.ext E527
      have f540 : Arv Z T530.heap b323 k323 .char (6 : Int32) [(.int c_325), (.int c_331), (.int c_337), (.int c_343), (.int c_349), (.int c_355)] (.int (0 : Int32)) := f539.keep K530 (ninS (by show @Ne Nat b323 b527; omega) nin0)
      have K541 : Keep h0 h323 [] := (Keep.refl h0 []).ext E323
      have K542 : Keep h0 h327 [] := K541.wr W327 (Or.inr (by omega))
      have K543 : Keep h0 h333 [] := K542.wr W333 (Or.inr (by omega))
      have K544 : Keep h0 h339 [] := K543.wr W339 (Or.inr (by omega))
      have K545 : Keep h0 h345 [] := K544.wr W345 (Or.inr (by omega))
      have K546 : Keep h0 h351 [] := K545.wr W351 (Or.inr (by omega))
      have K547 : Keep h0 h357 [] := K546.wr W357 (Or.inr (by omega))
      have K548 : Keep h0 T506.heap [] := K547.trans K506 all0
      have K549 : Keep h0 h511 [] := K548.wr W511 (Or.inr (by omega))
      have K550 : Keep h0 h517 [] := K549.wr W517 (Or.inr (by omega))
      have K551 : Keep h0 h523 [] := K550.wr W523 (Or.inr (by omega))
      have K552 : Keep h0 h527 [] := K551.ext E527
      have K553 : Keep h0 T530.heap [] := K552.trans K530 (allS (Or.inr (by omega)) all0)
      have f554 : Old Z Z.heap.size T530.heap := f536.keep K530 (allS (by omega) all0)
      exact HJ361 [c_325, c_331, c_337, c_343, c_349, c_355] 3 b527 t530 x_506 T530 T530.heap _ s.vm _ rfl rfl (by decide) ((own_aS pr325_0 (own_aS pr331_0 (own_aS pr337_0 (own_aS pr343_0 (own_aS pr349_0 (own_aS pr355_0 own_a0))))))) (own_standW X530 (by decide) (by decide)) rfl N530 K553 f554 (by omega) R530 hS0 (by omega) hZ hown f540 fT530
    ·
      show own_Go _ _ _ _ (T357.setTop (mkF m 72 #[.val (.int p1), .val (.int p2), .val (.int p3), .val (.int p4), .val (.int (4 : Int32)), .val (.ref b323), .unset, .unset, .unset, .unset, .unset, .unset, .unset] []))
      refine own_Go.st (fun _ k => XS.iload X357.here hx rfl (hb hby at_72) rfl k) ?_
      show own_Go _ _ _ _ (T357.setTop (mkF m 74 #[.val (.int p1), .val (.int p2), .val (.int p3), .val (.int p4), .val (.int (4 : Int32)), .val (.ref b323), .unset, .unset, .unset, .unset, .unset, .unset, .unset] [(.int (4 : Int32))]))
      have f556 : Old Z Z.heap.size h357 := f356.wr W357 (by omega)
      obtain ⟨_, _, ⟨T555, L555, k555, n555⟩, -, X555, ⟨Lc555, hQ555, l555, y555, z555⟩, st555⟩ := Jvm.LawKit.callS X357 hx (y := (⟨"com/example/keep_to_layer/keeptolayer/model/ClassNamesOutermostOfPinLaw", "make", "(I)[C"⟩ : MethodName)) hown (mvT hZ (hw _ (List.mem_of_getElem? (i := 6) rfl))) (mvT hZ (hw _ (List.mem_of_getElem? (i := 7) rfl))) (mvT hZ (hw _ (List.mem_of_getElem? (i := 4) rfl))) (mvT hZ (hw _ (List.mem_of_getElem? (i := 8) rfl))) (by decide) (backOf (W := 0) (rm_make l Z a0 hw [] (4 : Int32) h357 f556 (by decide)) hZ (hw _ (List.mem_of_getElem? (i := 8) rfl)) (hw _ (List.mem_of_getElem? (i := 4) rfl)) (by decide) (by decide)) (g := (mkF m 74 #[.val (.int p1), .val (.int p2), .val (.int p3), .val (.int p4), .val (.int (4 : Int32)), .val (.ref b323), .unset, .unset, .unset, .unset, .unset, .unset, .unset] [(.int (4 : Int32))])) rfl (by rw [hml]; rfl) (argsL := [(.int (4 : Int32))]) (rest := []) (lenOf pd_404 rfl) rfl (by show 2 * 0 + _ ≤ _; exact Nat.le_of_eq rfl) (hb hby at_74) (fun _ _ => ⟨rfl, e357, (by decide : 1 + 1 ≤ _), (by decide : 6 + 6 ≤ _)⟩)
      dsimp only [Pt.U, Pt.locs, Pt.cells, Pt.slots] at X555 l555 y555 z555 st555 hQ555
      subst l555 y555 z555
      obtain ⟨x_555, k_555, rfl, N555q, K555, f555_0, pr555_0⟩ := hQ555
      have N555 := Fr.app N357 N555q
      have z555 : h357.size ≤ T555.heap.size := K555.1
      have R555 : CHr Z consts_1 s.vm h0 s.vm T555.heap := R357.trans (CHr.keep K555 sf0 R357.1)
      have lt555_0 : @LT.lt Nat _ x_555 T555.heap.size := f555_0.lt
      have f557 : Arv Z T555.heap x_555 k_555 .char (4 : Int32) [(.int (0 : Int32)), (.int (0 : Int32)), (.int (0 : Int32)), (.int (0 : Int32))] (.int (0 : Int32)) := Arv.pad f555_0 (pad_rep [] _ 4)
      refine own_Go.st st555 ?_
      show own_Go _ _ _ _ (T555.setTop (mkF m 77 #[.val (.int p1), .val (.int p2), .val (.int p3), .val (.int p4), .val (.int (4 : Int32)), .val (.ref b323), .unset, .unset, .unset, .unset, .unset, .unset, .unset] [(.ref x_555)]))
      refine own_Go.st (fun _ k => XS.astore X555.here hx rfl (hb hby at_77) rfl rfl (l' := #[.val (.int p1), .val (.int p2), .val (.int p3), .val (.int p4), .val (.int (4 : Int32)), .val (.ref b323), .val (.ref x_555), .unset, .unset, .unset, .unset, .unset, .unset]) rfl k) ?_
      show own_Go _ _ _ _ (T555.setTop (mkF m 79 #[.val (.int p1), .val (.int p2), .val (.int p3), .val (.int p4), .val (.int (4 : Int32)), .val (.ref b323), .val (.ref x_555), .unset, .unset, .unset, .unset, .unset, .unset] []))
      refine own_Go.st (fun _ k => XS.iload X555.here hx rfl (hb hby at_79) rfl k) ?_
      show own_Go _ _ _ _ (T555.setTop (mkF m 81 #[.val (.int p1), .val (.int p2), .val (.int p3), .val (.int p4), .val (.int (4 : Int32)), .val (.ref b323), .val (.ref x_555), .unset, .unset, .unset, .unset, .unset, .unset] [(.int (4 : Int32))]))
      refine own_Go.st (fun _ k => XS.ifNo X555.here hx rfl (hb hby at_81) rfl ((if0 _ _).trans (tlt (by decide : (0 : Int32) < (4 : Int32))).2.2.2) k) ?_
      show own_Go _ _ _ _ (T555.setTop (mkF m 84 #[.val (.int p1), .val (.int p2), .val (.int p3), .val (.int p4), .val (.int (4 : Int32)), .val (.ref b323), .val (.ref x_555), .unset, .unset, .unset, .unset, .unset, .unset] []))
      refine own_Go.st (fun _ k => XS.aload X555.here hx rfl (hb hby at_84) rfl rfl k) ?_
      show own_Go _ _ _ _ (T555.setTop (mkF m 86 #[.val (.int p1), .val (.int p2), .val (.int p3), .val (.int p4), .val (.int (4 : Int32)), .val (.ref b323), .val (.ref x_555), .unset, .unset, .unset, .unset, .unset, .unset] [(.ref x_555)]))
      refine own_Go.st (fun _ k => XS.iconst X555.here hx rfl (hb hby at_86) k) ?_
      show own_Go _ _ _ _ (T555.setTop (mkF m 87 #[.val (.int p1), .val (.int p2), .val (.int p3), .val (.int p4), .val (.int (4 : Int32)), .val (.ref b323), .val (.ref x_555), .unset, .unset, .unset, .unset, .unset, .unset] [(.int (0 : Int32)), (.ref x_555)]))
      refine own_Go.st (fun _ k => XS.aload X555.here hx rfl (hb hby at_87) rfl rfl k) ?_
      show own_Go _ _ _ _ (T555.setTop (mkF m 89 #[.val (.int p1), .val (.int p2), .val (.int p3), .val (.int p4), .val (.int (4 : Int32)), .val (.ref b323), .val (.ref x_555), .unset, .unset, .unset, .unset, .unset, .unset] [(.ref b323), (.int (0 : Int32)), (.ref x_555)]))
      refine own_Go.st (fun _ k => XS.iconst X555.here hx rfl (hb hby at_89) k) ?_
      show own_Go _ _ _ _ (T555.setTop (mkF m 90 #[.val (.int p1), .val (.int p2), .val (.int p3), .val (.int p4), .val (.int (4 : Int32)), .val (.ref b323), .val (.ref x_555), .unset, .unset, .unset, .unset, .unset, .unset] [(.int (0 : Int32)), (.ref b323), (.int (0 : Int32)), (.ref x_555)]))
      have f558 : Arv Z T555.heap b323 k323 .char (6 : Int32) [(.int c_325), (.int c_331), (.int c_337), (.int c_343), (.int c_349), (.int c_355)] (.int (0 : Int32)) := f360.keep K555 nin0
      obtain ⟨c559, Ar559, q559, S559, Nn559, H559, G559⟩ := id f558
      have hin559 : ¬ ((0 : Int32) < 0 ∨ c559.slots.size ≤ ((0 : Int32)).toNatClampNeg) := inb_of S559 ⟨by decide, by decide⟩
      have hat559 : c559.slots[((0 : Int32)).toNatClampNeg]? = some (.int c_325) := H559.at hin559 rfl
      refine own_Go.st (X555.caload hx (j := (0 : Int32)) (v := (.int c_325)) (own_rwE rfl Ar559.1) (State.isArrayOf_alike hZ.alike Ar559.2.1) Ar559.2.2 hin559 hat559 (g := (mkF m 90 #[.val (.int p1), .val (.int p2), .val (.int p3), .val (.int p4), .val (.int (4 : Int32)), .val (.ref b323), .val (.ref x_555), .unset, .unset, .unset, .unset, .unset, .unset] [(.int (0 : Int32)), (.ref b323), (.int (0 : Int32)), (.ref x_555)])) rfl rfl (hb hby at_90)) ?_
      show own_Go _ _ _ _ (T555.setTop (mkF m 91 #[.val (.int p1), .val (.int p2), .val (.int p3), .val (.int p4), .val (.int (4 : Int32)), .val (.ref b323), .val (.ref x_555), .unset, .unset, .unset, .unset, .unset, .unset] [(.int c_325), (.int (0 : Int32)), (.ref x_555)]))
      obtain ⟨c560, Ar560, q560, S560, Nn560, H560, G560⟩ := id f557
      have hin560 : ¬ ((0 : Int32) < 0 ∨ c560.slots.size ≤ ((0 : Int32)).toNatClampNeg) := inb_of S560 ⟨by decide, by decide⟩
      obtain ⟨T560, h560, X560, e560, W560, st560⟩ := stC X555 hx hZ rfl Ar560 (j := (0 : Int32)) hin560 (g := (mkF m 91 #[.val (.int p1), .val (.int p2), .val (.int p3), .val (.int p4), .val (.int (4 : Int32)), .val (.ref b323), .val (.ref x_555), .unset, .unset, .unset, .unset, .unset, .unset] [(.int c_325), (.int (0 : Int32)), (.ref x_555)])) rfl rfl (hb hby at_91)
      refine own_Go.st st560 ?_
      have N560 := Fr.snoc X560 N555 (by omega)
      have Sf562 : Safe Z consts_1 s.vm T555.heap x_555 := Safe.arv hZ.alike f557 (by decide)
      have z560 : T555.heap.size ≤ h560.size := Nat.le_of_eq W560.size.symm
      have f561 := Arv.set Ar560 q560 S560 Nn560 H560 G560 (fits_nar_char _) W560 0 rfl (Nat.le_of_ble_eq_true rfl)
      rw [own_nar (own_up pr325_0)] at f561
      have f563 : Arv Z h560 x_555 k_555 .char (4 : Int32) [(.int c_325), (.int (0 : Int32)), (.int (0 : Int32)), (.int (0 : Int32))] (.int (0 : Int32)) := f561
      have R560 : CHr Z consts_1 s.vm h0 s.vm h560 := R555.trans (CHr.wr W560 Sf562 R555.1)
      show own_Go _ _ _ _ (T560.setTop (mkF m 92 #[.val (.int p1), .val (.int p2), .val (.int p3), .val (.int p4), .val (.int (4 : Int32)), .val (.ref b323), .val (.ref x_555), .unset, .unset, .unset, .unset, .unset, .unset] []))
      refine own_Go.st (fun _ k => XS.iload X560.here hx rfl (hb hby at_92) rfl k) ?_
      show own_Go _ _ _ _ (T560.setTop (mkF m 94 #[.val (.int p1), .val (.int p2), .val (.int p3), .val (.int p4), .val (.int (4 : Int32)), .val (.ref b323), .val (.ref x_555), .unset, .unset, .unset, .unset, .unset, .unset] [(.int (4 : Int32))]))
      refine own_Go.st (fun _ k => XS.iconst X560.here hx rfl (hb hby at_94) k) ?_
      show own_Go _ _ _ _ (T560.setTop (mkF m 95 #[.val (.int p1), .val (.int p2), .val (.int p3), .val (.int p4), .val (.int (4 : Int32)), .val (.ref b323), .val (.ref x_555), .unset, .unset, .unset, .unset, .unset, .unset] [(.int (1 : Int32)), (.int (4 : Int32))]))
      refine own_Go.st (fun _ k => XS.icmpNo X560.here hx rfl (hb hby at_95) rfl (tlt (by decide : (1 : Int32) < (4 : Int32))).2.2.2 k) ?_
      show own_Go _ _ _ _ (T560.setTop (mkF m 98 #[.val (.int p1), .val (.int p2), .val (.int p3), .val (.int p4), .val (.int (4 : Int32)), .val (.ref b323), .val (.ref x_555), .unset, .unset, .unset, .unset, .unset, .unset] []))
      refine own_Go.st (fun _ k => XS.aload X560.here hx rfl (hb hby at_98) rfl rfl k) ?_
      show own_Go _ _ _ _ (T560.setTop (mkF m 100 #[.val (.int p1), .val (.int p2), .val (.int p3), .val (.int p4), .val (.int (4 : Int32)), .val (.ref b323), .val (.ref x_555), .unset, .unset, .unset, .unset, .unset, .unset] [(.ref x_555)]))
      refine own_Go.st (fun _ k => XS.iconst X560.here hx rfl (hb hby at_100) k) ?_
      show own_Go _ _ _ _ (T560.setTop (mkF m 101 #[.val (.int p1), .val (.int p2), .val (.int p3), .val (.int p4), .val (.int (4 : Int32)), .val (.ref b323), .val (.ref x_555), .unset, .unset, .unset, .unset, .unset, .unset] [(.int (1 : Int32)), (.ref x_555)]))
      refine own_Go.st (fun _ k => XS.aload X560.here hx rfl (hb hby at_101) rfl rfl k) ?_
      show own_Go _ _ _ _ (T560.setTop (mkF m 103 #[.val (.int p1), .val (.int p2), .val (.int p3), .val (.int p4), .val (.int (4 : Int32)), .val (.ref b323), .val (.ref x_555), .unset, .unset, .unset, .unset, .unset, .unset] [(.ref b323), (.int (1 : Int32)), (.ref x_555)]))
      refine own_Go.st (fun _ k => XS.iconst X560.here hx rfl (hb hby at_103) k) ?_
      show own_Go _ _ _ _ (T560.setTop (mkF m 104 #[.val (.int p1), .val (.int p2), .val (.int p3), .val (.int p4), .val (.int (4 : Int32)), .val (.ref b323), .val (.ref x_555), .unset, .unset, .unset, .unset, .unset, .unset] [(.int (1 : Int32)), (.ref b323), (.int (1 : Int32)), (.ref x_555)]))
      have f564 : Arv Z h560 b323 k323 .char (6 : Int32) [(.int c_325), (.int c_331), (.int c_337), (.int c_343), (.int c_349), (.int c_355)] (.int (0 : Int32)) := f558.other W560 (by show @Ne Nat b323 x_555; omega)
      obtain ⟨c565, Ar565, q565, S565, Nn565, H565, G565⟩ := id f564
      have hin565 : ¬ ((1 : Int32) < 0 ∨ c565.slots.size ≤ ((1 : Int32)).toNatClampNeg) := inb_of S565 ⟨by decide, by decide⟩
      have hat565 : c565.slots[((1 : Int32)).toNatClampNeg]? = some (.int c_331) := H565.at hin565 rfl
      refine own_Go.st (X560.caload hx (j := (1 : Int32)) (v := (.int c_331)) (own_rwE e560 Ar565.1) (State.isArrayOf_alike hZ.alike Ar565.2.1) Ar565.2.2 hin565 hat565 (g := (mkF m 104 #[.val (.int p1), .val (.int p2), .val (.int p3), .val (.int p4), .val (.int (4 : Int32)), .val (.ref b323), .val (.ref x_555), .unset, .unset, .unset, .unset, .unset, .unset] [(.int (1 : Int32)), (.ref b323), (.int (1 : Int32)), (.ref x_555)])) rfl rfl (hb hby at_104)) ?_
      show own_Go _ _ _ _ (T560.setTop (mkF m 105 #[.val (.int p1), .val (.int p2), .val (.int p3), .val (.int p4), .val (.int (4 : Int32)), .val (.ref b323), .val (.ref x_555), .unset, .unset, .unset, .unset, .unset, .unset] [(.int c_331), (.int (1 : Int32)), (.ref x_555)]))
      obtain ⟨c566, Ar566, q566, S566, Nn566, H566, G566⟩ := id f563
      have hin566 : ¬ ((1 : Int32) < 0 ∨ c566.slots.size ≤ ((1 : Int32)).toNatClampNeg) := inb_of S566 ⟨by decide, by decide⟩
      obtain ⟨T566, h566, X566, e566, W566, st566⟩ := stC X560 hx hZ e560 Ar566 (j := (1 : Int32)) hin566 (g := (mkF m 105 #[.val (.int p1), .val (.int p2), .val (.int p3), .val (.int p4), .val (.int (4 : Int32)), .val (.ref b323), .val (.ref x_555), .unset, .unset, .unset, .unset, .unset, .unset] [(.int c_331), (.int (1 : Int32)), (.ref x_555)])) rfl rfl (hb hby at_105)
      refine own_Go.st st566 ?_
      have N566 := Fr.snoc X566 N560 (by omega)
      have Sf568 : Safe Z consts_1 s.vm h560 x_555 := Safe.arv hZ.alike f563 (by decide)
      have z566 : h560.size ≤ h566.size := Nat.le_of_eq W566.size.symm
      have f567 := Arv.set Ar566 q566 S566 Nn566 H566 G566 (fits_nar_char _) W566 1 rfl (Nat.le_of_ble_eq_true rfl)
      rw [own_nar (own_up pr331_0)] at f567
      have f569 : Arv Z h566 x_555 k_555 .char (4 : Int32) [(.int c_325), (.int c_331), (.int (0 : Int32)), (.int (0 : Int32))] (.int (0 : Int32)) := f567
      have R566 : CHr Z consts_1 s.vm h0 s.vm h566 := R560.trans (CHr.wr W566 Sf568 R560.1)
      show own_Go _ _ _ _ (T566.setTop (mkF m 106 #[.val (.int p1), .val (.int p2), .val (.int p3), .val (.int p4), .val (.int (4 : Int32)), .val (.ref b323), .val (.ref x_555), .unset, .unset, .unset, .unset, .unset, .unset] []))
      refine own_Go.st (fun _ k => XS.iload X566.here hx rfl (hb hby at_106) rfl k) ?_
      show own_Go _ _ _ _ (T566.setTop (mkF m 108 #[.val (.int p1), .val (.int p2), .val (.int p3), .val (.int p4), .val (.int (4 : Int32)), .val (.ref b323), .val (.ref x_555), .unset, .unset, .unset, .unset, .unset, .unset] [(.int (4 : Int32))]))
      refine own_Go.st (fun _ k => XS.iconst X566.here hx rfl (hb hby at_108) k) ?_
      show own_Go _ _ _ _ (T566.setTop (mkF m 109 #[.val (.int p1), .val (.int p2), .val (.int p3), .val (.int p4), .val (.int (4 : Int32)), .val (.ref b323), .val (.ref x_555), .unset, .unset, .unset, .unset, .unset, .unset] [(.int (2 : Int32)), (.int (4 : Int32))]))
      refine own_Go.st (fun _ k => XS.icmpNo X566.here hx rfl (hb hby at_109) rfl (tlt (by decide : (2 : Int32) < (4 : Int32))).2.2.2 k) ?_
      show own_Go _ _ _ _ (T566.setTop (mkF m 112 #[.val (.int p1), .val (.int p2), .val (.int p3), .val (.int p4), .val (.int (4 : Int32)), .val (.ref b323), .val (.ref x_555), .unset, .unset, .unset, .unset, .unset, .unset] []))
      refine own_Go.st (fun _ k => XS.aload X566.here hx rfl (hb hby at_112) rfl rfl k) ?_
      show own_Go _ _ _ _ (T566.setTop (mkF m 114 #[.val (.int p1), .val (.int p2), .val (.int p3), .val (.int p4), .val (.int (4 : Int32)), .val (.ref b323), .val (.ref x_555), .unset, .unset, .unset, .unset, .unset, .unset] [(.ref x_555)]))
      refine own_Go.st (fun _ k => XS.iconst X566.here hx rfl (hb hby at_114) k) ?_
      show own_Go _ _ _ _ (T566.setTop (mkF m 115 #[.val (.int p1), .val (.int p2), .val (.int p3), .val (.int p4), .val (.int (4 : Int32)), .val (.ref b323), .val (.ref x_555), .unset, .unset, .unset, .unset, .unset, .unset] [(.int (2 : Int32)), (.ref x_555)]))
      refine own_Go.st (fun _ k => XS.aload X566.here hx rfl (hb hby at_115) rfl rfl k) ?_
      show own_Go _ _ _ _ (T566.setTop (mkF m 117 #[.val (.int p1), .val (.int p2), .val (.int p3), .val (.int p4), .val (.int (4 : Int32)), .val (.ref b323), .val (.ref x_555), .unset, .unset, .unset, .unset, .unset, .unset] [(.ref b323), (.int (2 : Int32)), (.ref x_555)]))
      refine own_Go.st (fun _ k => XS.iconst X566.here hx rfl (hb hby at_117) k) ?_
      show own_Go _ _ _ _ (T566.setTop (mkF m 118 #[.val (.int p1), .val (.int p2), .val (.int p3), .val (.int p4), .val (.int (4 : Int32)), .val (.ref b323), .val (.ref x_555), .unset, .unset, .unset, .unset, .unset, .unset] [(.int (2 : Int32)), (.ref b323), (.int (2 : Int32)), (.ref x_555)]))
      have f570 : Arv Z h566 b323 k323 .char (6 : Int32) [(.int c_325), (.int c_331), (.int c_337), (.int c_343), (.int c_349), (.int c_355)] (.int (0 : Int32)) := f564.other W566 (by show @Ne Nat b323 x_555; omega)
      obtain ⟨c571, Ar571, q571, S571, Nn571, H571, G571⟩ := id f570
      have hin571 : ¬ ((2 : Int32) < 0 ∨ c571.slots.size ≤ ((2 : Int32)).toNatClampNeg) := inb_of S571 ⟨by decide, by decide⟩
      have hat571 : c571.slots[((2 : Int32)).toNatClampNeg]? = some (.int c_337) := H571.at hin571 rfl
      refine own_Go.st (X566.caload hx (j := (2 : Int32)) (v := (.int c_337)) (own_rwE e566 Ar571.1) (State.isArrayOf_alike hZ.alike Ar571.2.1) Ar571.2.2 hin571 hat571 (g := (mkF m 118 #[.val (.int p1), .val (.int p2), .val (.int p3), .val (.int p4), .val (.int (4 : Int32)), .val (.ref b323), .val (.ref x_555), .unset, .unset, .unset, .unset, .unset, .unset] [(.int (2 : Int32)), (.ref b323), (.int (2 : Int32)), (.ref x_555)])) rfl rfl (hb hby at_118)) ?_
      show own_Go _ _ _ _ (T566.setTop (mkF m 119 #[.val (.int p1), .val (.int p2), .val (.int p3), .val (.int p4), .val (.int (4 : Int32)), .val (.ref b323), .val (.ref x_555), .unset, .unset, .unset, .unset, .unset, .unset] [(.int c_337), (.int (2 : Int32)), (.ref x_555)]))
      obtain ⟨c572, Ar572, q572, S572, Nn572, H572, G572⟩ := id f569
      have hin572 : ¬ ((2 : Int32) < 0 ∨ c572.slots.size ≤ ((2 : Int32)).toNatClampNeg) := inb_of S572 ⟨by decide, by decide⟩
      obtain ⟨T572, h572, X572, e572, W572, st572⟩ := stC X566 hx hZ e566 Ar572 (j := (2 : Int32)) hin572 (g := (mkF m 119 #[.val (.int p1), .val (.int p2), .val (.int p3), .val (.int p4), .val (.int (4 : Int32)), .val (.ref b323), .val (.ref x_555), .unset, .unset, .unset, .unset, .unset, .unset] [(.int c_337), (.int (2 : Int32)), (.ref x_555)])) rfl rfl (hb hby at_119)
      refine own_Go.st st572 ?_
      have N572 := Fr.snoc X572 N566 (by omega)
      have Sf574 : Safe Z consts_1 s.vm h566 x_555 := Safe.arv hZ.alike f569 (by decide)
      have z572 : h566.size ≤ h572.size := Nat.le_of_eq W572.size.symm
      have f573 := Arv.set Ar572 q572 S572 Nn572 H572 G572 (fits_nar_char _) W572 2 rfl (Nat.le_of_ble_eq_true rfl)
      rw [own_nar (own_up pr337_0)] at f573
      have f575 : Arv Z h572 x_555 k_555 .char (4 : Int32) [(.int c_325), (.int c_331), (.int c_337), (.int (0 : Int32))] (.int (0 : Int32)) := f573
      have R572 : CHr Z consts_1 s.vm h0 s.vm h572 := R566.trans (CHr.wr W572 Sf574 R566.1)
      show own_Go _ _ _ _ (T572.setTop (mkF m 120 #[.val (.int p1), .val (.int p2), .val (.int p3), .val (.int p4), .val (.int (4 : Int32)), .val (.ref b323), .val (.ref x_555), .unset, .unset, .unset, .unset, .unset, .unset] []))
      refine own_Go.st (fun _ k => XS.iload X572.here hx rfl (hb hby at_120) rfl k) ?_
      show own_Go _ _ _ _ (T572.setTop (mkF m 122 #[.val (.int p1), .val (.int p2), .val (.int p3), .val (.int p4), .val (.int (4 : Int32)), .val (.ref b323), .val (.ref x_555), .unset, .unset, .unset, .unset, .unset, .unset] [(.int (4 : Int32))]))
      refine own_Go.st (fun _ k => XS.iconst X572.here hx rfl (hb hby at_122) k) ?_
      show own_Go _ _ _ _ (T572.setTop (mkF m 123 #[.val (.int p1), .val (.int p2), .val (.int p3), .val (.int p4), .val (.int (4 : Int32)), .val (.ref b323), .val (.ref x_555), .unset, .unset, .unset, .unset, .unset, .unset] [(.int (3 : Int32)), (.int (4 : Int32))]))
      refine own_Go.st (fun _ k => XS.icmpNo X572.here hx rfl (hb hby at_123) rfl (tlt (by decide : (3 : Int32) < (4 : Int32))).2.2.2 k) ?_
      show own_Go _ _ _ _ (T572.setTop (mkF m 126 #[.val (.int p1), .val (.int p2), .val (.int p3), .val (.int p4), .val (.int (4 : Int32)), .val (.ref b323), .val (.ref x_555), .unset, .unset, .unset, .unset, .unset, .unset] []))
      refine own_Go.st (fun _ k => XS.aload X572.here hx rfl (hb hby at_126) rfl rfl k) ?_
      show own_Go _ _ _ _ (T572.setTop (mkF m 128 #[.val (.int p1), .val (.int p2), .val (.int p3), .val (.int p4), .val (.int (4 : Int32)), .val (.ref b323), .val (.ref x_555), .unset, .unset, .unset, .unset, .unset, .unset] [(.ref x_555)]))
      refine own_Go.st (fun _ k => XS.iconst X572.here hx rfl (hb hby at_128) k) ?_
      show own_Go _ _ _ _ (T572.setTop (mkF m 129 #[.val (.int p1), .val (.int p2), .val (.int p3), .val (.int p4), .val (.int (4 : Int32)), .val (.ref b323), .val (.ref x_555), .unset, .unset, .unset, .unset, .unset, .unset] [(.int (3 : Int32)), (.ref x_555)]))
      refine own_Go.st (fun _ k => XS.aload X572.here hx rfl (hb hby at_129) rfl rfl k) ?_
      show own_Go _ _ _ _ (T572.setTop (mkF m 131 #[.val (.int p1), .val (.int p2), .val (.int p3), .val (.int p4), .val (.int (4 : Int32)), .val (.ref b323), .val (.ref x_555), .unset, .unset, .unset, .unset, .unset, .unset] [(.ref b323), (.int (3 : Int32)), (.ref x_555)]))
      refine own_Go.st (fun _ k => XS.iconst X572.here hx rfl (hb hby at_131) k) ?_
      show own_Go _ _ _ _ (T572.setTop (mkF m 132 #[.val (.int p1), .val (.int p2), .val (.int p3), .val (.int p4), .val (.int (4 : Int32)), .val (.ref b323), .val (.ref x_555), .unset, .unset, .unset, .unset, .unset, .unset] [(.int (3 : Int32)), (.ref b323), (.int (3 : Int32)), (.ref x_555)]))
      have f576 : Arv Z h572 b323 k323 .char (6 : Int32) [(.int c_325), (.int c_331), (.int c_337), (.int c_343), (.int c_349), (.int c_355)] (.int (0 : Int32)) := f570.other W572 (by show @Ne Nat b323 x_555; omega)
      obtain ⟨c577, Ar577, q577, S577, Nn577, H577, G577⟩ := id f576
      have hin577 : ¬ ((3 : Int32) < 0 ∨ c577.slots.size ≤ ((3 : Int32)).toNatClampNeg) := inb_of S577 ⟨by decide, by decide⟩
      have hat577 : c577.slots[((3 : Int32)).toNatClampNeg]? = some (.int c_343) := H577.at hin577 rfl
      refine own_Go.st (X572.caload hx (j := (3 : Int32)) (v := (.int c_343)) (own_rwE e572 Ar577.1) (State.isArrayOf_alike hZ.alike Ar577.2.1) Ar577.2.2 hin577 hat577 (g := (mkF m 132 #[.val (.int p1), .val (.int p2), .val (.int p3), .val (.int p4), .val (.int (4 : Int32)), .val (.ref b323), .val (.ref x_555), .unset, .unset, .unset, .unset, .unset, .unset] [(.int (3 : Int32)), (.ref b323), (.int (3 : Int32)), (.ref x_555)])) rfl rfl (hb hby at_132)) ?_
      show own_Go _ _ _ _ (T572.setTop (mkF m 133 #[.val (.int p1), .val (.int p2), .val (.int p3), .val (.int p4), .val (.int (4 : Int32)), .val (.ref b323), .val (.ref x_555), .unset, .unset, .unset, .unset, .unset, .unset] [(.int c_343), (.int (3 : Int32)), (.ref x_555)]))
      obtain ⟨c578, Ar578, q578, S578, Nn578, H578, G578⟩ := id f575
      have hin578 : ¬ ((3 : Int32) < 0 ∨ c578.slots.size ≤ ((3 : Int32)).toNatClampNeg) := inb_of S578 ⟨by decide, by decide⟩
      obtain ⟨T578, h578, X578, e578, W578, st578⟩ := stC X572 hx hZ e572 Ar578 (j := (3 : Int32)) hin578 (g := (mkF m 133 #[.val (.int p1), .val (.int p2), .val (.int p3), .val (.int p4), .val (.int (4 : Int32)), .val (.ref b323), .val (.ref x_555), .unset, .unset, .unset, .unset, .unset, .unset] [(.int c_343), (.int (3 : Int32)), (.ref x_555)])) rfl rfl (hb hby at_133)
      refine own_Go.st st578 ?_
      have N578 := Fr.snoc X578 N572 (by omega)
      have Sf580 : Safe Z consts_1 s.vm h572 x_555 := Safe.arv hZ.alike f575 (by decide)
      have z578 : h572.size ≤ h578.size := Nat.le_of_eq W578.size.symm
      have f579 := Arv.set Ar578 q578 S578 Nn578 H578 G578 (fits_nar_char _) W578 3 rfl (Nat.le_of_ble_eq_true rfl)
      rw [own_nar (own_up pr343_0)] at f579
      have f581 : Arv Z h578 x_555 k_555 .char (4 : Int32) [(.int c_325), (.int c_331), (.int c_337), (.int c_343)] (.int (0 : Int32)) := f579
      have R578 : CHr Z consts_1 s.vm h0 s.vm h578 := R572.trans (CHr.wr W578 Sf580 R572.1)
      show own_Go _ _ _ _ (T578.setTop (mkF m 134 #[.val (.int p1), .val (.int p2), .val (.int p3), .val (.int p4), .val (.int (4 : Int32)), .val (.ref b323), .val (.ref x_555), .unset, .unset, .unset, .unset, .unset, .unset] []))
      refine own_Go.st (fun _ k => XS.iload X578.here hx rfl (hb hby at_134) rfl k) ?_
      show own_Go _ _ _ _ (T578.setTop (mkF m 136 #[.val (.int p1), .val (.int p2), .val (.int p3), .val (.int p4), .val (.int (4 : Int32)), .val (.ref b323), .val (.ref x_555), .unset, .unset, .unset, .unset, .unset, .unset] [(.int (4 : Int32))]))
      refine own_Go.st (fun _ k => XS.iconst X578.here hx rfl (hb hby at_136) k) ?_
      show own_Go _ _ _ _ (T578.setTop (mkF m 137 #[.val (.int p1), .val (.int p2), .val (.int p3), .val (.int p4), .val (.int (4 : Int32)), .val (.ref b323), .val (.ref x_555), .unset, .unset, .unset, .unset, .unset, .unset] [(.int (4 : Int32)), (.int (4 : Int32))]))
      refine own_Go.st (fun _ k => XS.icmpYes X578.here hx rfl (pc0 := 137) (pc' := 148) rfl (hb hby at_137) rfl (flt (by decide : ¬ ((4 : Int32) < (4 : Int32)))).2.2.2 (by decide) (by decide) k) ?_
      show own_Go _ _ _ _ (T578.setTop (mkF m 148 #[.val (.int p1), .val (.int p2), .val (.int p3), .val (.int p4), .val (.int (4 : Int32)), .val (.ref b323), .val (.ref x_555), .unset, .unset, .unset, .unset, .unset, .unset] []))
      refine own_Go.st (fun _ k => XS.iload X578.here hx rfl (hb hby at_148) rfl k) ?_
      show own_Go _ _ _ _ (T578.setTop (mkF m 150 #[.val (.int p1), .val (.int p2), .val (.int p3), .val (.int p4), .val (.int (4 : Int32)), .val (.ref b323), .val (.ref x_555), .unset, .unset, .unset, .unset, .unset, .unset] [(.int (4 : Int32))]))
      refine own_Go.st (fun _ k => XS.iconst X578.here hx rfl (hb hby at_150) k) ?_
      show own_Go _ _ _ _ (T578.setTop (mkF m 151 #[.val (.int p1), .val (.int p2), .val (.int p3), .val (.int p4), .val (.int (4 : Int32)), .val (.ref b323), .val (.ref x_555), .unset, .unset, .unset, .unset, .unset, .unset] [(.int (5 : Int32)), (.int (4 : Int32))]))
      refine own_Go.st (fun _ k => XS.icmpYes X578.here hx rfl (pc0 := 151) (pc' := 162) rfl (hb hby at_151) rfl (flt (by decide : ¬ ((5 : Int32) < (4 : Int32)))).2.2.2 (by decide) (by decide) k) ?_
      show own_Go _ _ _ _ (T578.setTop (mkF m 162 #[.val (.int p1), .val (.int p2), .val (.int p3), .val (.int p4), .val (.int (4 : Int32)), .val (.ref b323), .val (.ref x_555), .unset, .unset, .unset, .unset, .unset, .unset] []))
      obtain ⟨T582, h582, X582, e582, E582, A582, D582, U582, st582⟩ := newO X578 hx hZ hown (hw _ (List.mem_of_getElem? (i := 9) rfl)) (hw _ (List.mem_of_getElem? (i := 10) rfl)) (hw _ (List.mem_of_getElem? (i := 11) rfl)) e578 (g := (mkF m 162 #[.val (.int p1), .val (.int p2), .val (.int p3), .val (.int p4), .val (.int (4 : Int32)), .val (.ref b323), .val (.ref x_555), .unset, .unset, .unset, .unset, .unset, .unset] [])) rfl (hb hby at_162) (by decide) (by decide)
      obtain ⟨b582, g582⟩ : ∃ z, z = h578.size := ⟨_, rfl⟩
      rw [← g582] at A582 D582 U582 st582
      refine own_Go.st st582 ?_
      have z582 : h578.size ≤ h582.size := E582.1
      have lt_b582 : @LT.lt Nat _ b582 h582.size := A582.lt
      have f583 : Fld Z h582 b582 "java/lang/String" "value" "[B" .null := D582 (Or.inr (hw _ (List.mem_of_getElem? (i := 24) rfl))) (ty := (.array .byte)) (by decide)
      have f584 : Fld Z h582 b582 "java/lang/String" "coder" "B" (.int (0 : Int32)) := D582 (Or.inr (hw _ (List.mem_of_getElem? (i := 25) rfl))) (ty := .byte) (by decide)
      have R582 : CHr Z consts_1 s.vm h0 s.vm h582 := R578.trans (CHr.ext E582 R578.1)
      have Sf582 : Safe Z consts_1 s.vm h582 b582 := (Safe.new (Nat.le_of_eq g582.symm)).ext E582 R578.1
      show own_Go _ _ _ _ (T582.setTop (mkF m 165 #[.val (.int p1), .val (.int p2), .val (.int p3), .val (.int p4), .val (.int (4 : Int32)), .val (.ref b323), .val (.ref x_555), .unset, .unset, .unset, .unset, .unset, .unset] [(.ref b582)]))
      refine own_Go.st (fun _ k => XS.dup X582.here hx rfl (hb hby at_165) rfl rfl k) ?_
      show own_Go _ _ _ _ (T582.setTop (mkF m 166 #[.val (.int p1), .val (.int p2), .val (.int p3), .val (.int p4), .val (.int (4 : Int32)), .val (.ref b323), .val (.ref x_555), .unset, .unset, .unset, .unset, .unset, .unset] [(.ref b582), (.ref b582)]))
      refine own_Go.st (fun _ k => XS.aload X582.here hx rfl (hb hby at_166) rfl rfl k) ?_
      show own_Go _ _ _ _ (T582.setTop (mkF m 168 #[.val (.int p1), .val (.int p2), .val (.int p3), .val (.int p4), .val (.int (4 : Int32)), .val (.ref b323), .val (.ref x_555), .unset, .unset, .unset, .unset, .unset, .unset] [(.ref x_555), (.ref b582), (.ref b582)]))
      have f586 : Arv Z h582 x_555 k_555 .char (4 : Int32) [(.int c_325), (.int c_331), (.int c_337), (.int c_343)] (.int (0 : Int32)) := f581.ext E582
      have f587 : Old Z Z.heap.size T555.heap := f556.keep K555 all0
      have f588 : Old Z Z.heap.size h560 := f587.wr W560 (by omega)
      have f589 : Old Z Z.heap.size h566 := f588.wr W566 (by omega)
      have f590 : Old Z Z.heap.size h572 := f589.wr W572 (by omega)
      have f591 : Old Z Z.heap.size h578 := f590.wr W578 (by omega)
      have f592 : Old Z Z.heap.size h582 := f591.ext E582
      have hp585 : ∀ c ∈ ([c_325, c_331, c_337, c_343] : List Int32), ¬ c < 0 ∧ ¬ (255 : Int32) < c := (own_aS pr325_0 (own_aS pr331_0 (own_aS pr337_0 (own_aS pr343_0 own_a0))))
      obtain ⟨_, _, ⟨T585, L585, k585, n585⟩, -, X585, ⟨Lc585, hQ585, l585, y585, z585⟩, st585⟩ := X582.specialBack hx (y := (⟨"java/lang/String", "<init>", "([C)V"⟩ : MethodName)) rfl hown (mvT hZ (hw _ (List.mem_of_getElem? (i := 12) rfl))) (mvT hZ (hw _ (List.mem_of_getElem? (i := 13) rfl))) (mvT hZ (hw _ (List.mem_of_getElem? (i := 14) rfl))) (by decide) (StrChars.Road.backV (W := 1) hZ (own_hws hw) (kI := 4) (hw _ (List.mem_of_getElem? (i := 10) rfl)) (cs := ([c_325, c_331, c_337, c_343] : List Int32)) (bs := (([c_325, c_331, c_337, c_343] : List Int32)).map (fun c => c.toInt8.toInt32)) (n := 4) (n0 := Z.heap.size) (by omega) (by omega) A582 f583 f584 f586 (st_COMPACT_STRINGS.ext f592.2) hzc rfl rfl (by decide) (by decide) hp585 rfl (by decide) (by decide)) (g := (mkF m 168 #[.val (.int p1), .val (.int p2), .val (.int p3), .val (.int p4), .val (.int (4 : Int32)), .val (.ref b323), .val (.ref x_555), .unset, .unset, .unset, .unset, .unset, .unset] [(.ref x_555), (.ref b582), (.ref b582)])) rfl (by rw [hml]; rfl) (Steps.refl _) (a := b582) (argsL := [(.ref x_555)]) (rest := [(.ref b582)]) (lenOf pd_405 rfl) rfl (by show 2 * 0 + _ ≤ _; exact Nat.le_of_eq rfl) (hb hby at_168) (fun _ _ => ⟨rfl, e582, (by decide : 3 + 1 ≤ _), (by decide : 16 + 4 ≤ _)⟩)
      dsimp only [Pt.U, Pt.locs, Pt.cells, Pt.slots] at X585 l585 y585 z585 st585 hQ585
      subst l585 y585 z585
      obtain ⟨rfl, N585q, K585, Ex585, Cd585, t585, kb585, u585, v585, w585, Vl585, Ar585⟩ := hQ585
      have N585 := Fr.app N578 N585q
      have z585 : h582.size ≤ T585.heap.size := K585.1
      have R585 : CHr Z consts_1 s.vm h0 s.vm T585.heap := R582.trans (CHr.keep K585 (sfS Sf582 sf0) R582.1)
      have Sf593 : Safe Z consts_1 s.vm T585.heap b582 := Safe.keep K585 (sfS Sf582 sf0) R582.1 Sf582
      have fT585 : own_Str Z T585.heap b582 t585 ([c_325, c_331, c_337, c_343] : List Int32) := ⟨kb585, 0, (4 : Int32), _, Ex585, Vl585, Cd585, Ar585, StrChars.Road.codOf rfl (fun c q => (hp585 c q).2), own_upL hp585, (Nat.le_of_ble_eq_true rfl)⟩
      have lt585 : @LT.lt Nat _ t585 T585.heap.size := fT585.ltv
      refine own_Go.tr st585 ?_
      show own_Go _ _ _ _ (T585.setTop (mkF m 171 #[.val (.int p1), .val (.int p2), .val (.int p3), .val (.int p4), .val (.int (4 : Int32)), .val (.ref b323), .val (.ref x_555), .unset, .unset, .unset, .unset, .unset, .unset] [(.ref b582)]))
      have f594 : Arv Z h578 b323 k323 .char (6 : Int32) [(.int c_325), (.int c_331), (.int c_337), (.int c_343), (.int c_349), (.int c_355)] (.int (0 : Int32)) := f576.other W578 (by show @Ne Nat b323 x_555; omega)
      have f595 : Arv Z h582 b323 k323 .char (6 : Int32) [(.int c_325), (.int c_331), (.int c_337), (.int c_343), (.int c_349), (.int c_355)] (.int (0 : Int32)) := f594.ext E582
      have f596 : Arv Z T585.heap b323 k323 .char (6 : Int32) [(.int c_325), (.int c_331), (.int c_337), (.int c_343), (.int c_349), (.int c_355)] (.int (0 : Int32)) := f595.keep K585 (ninS (by show @Ne Nat b323 b582; omega) nin0)
      have K597 : Keep h0 h323 [] := (Keep.refl h0 []).ext E323
      have K598 : Keep h0 h327 [] := K597.wr W327 (Or.inr (by omega))
      have K599 : Keep h0 h333 [] := K598.wr W333 (Or.inr (by omega))
      have K600 : Keep h0 h339 [] := K599.wr W339 (Or.inr (by omega))
      have K601 : Keep h0 h345 [] := K600.wr W345 (Or.inr (by omega))
      have K602 : Keep h0 h351 [] := K601.wr W351 (Or.inr (by omega))
      have K603 : Keep h0 h357 [] := K602.wr W357 (Or.inr (by omega))
      have K604 : Keep h0 T555.heap [] := K603.trans K555 all0
      have K605 : Keep h0 h560 [] := K604.wr W560 (Or.inr (by omega))
      have K606 : Keep h0 h566 [] := K605.wr W566 (Or.inr (by omega))
      have K607 : Keep h0 h572 [] := K606.wr W572 (Or.inr (by omega))
      have K608 : Keep h0 h578 [] := K607.wr W578 (Or.inr (by omega))
      have K609 : Keep h0 h582 [] := K608.ext E582
      have K610 : Keep h0 T585.heap [] := K609.trans K585 (allS (Or.inr (by omega)) all0)
      have f611 : Old Z Z.heap.size T585.heap := f592.keep K585 (allS (by omega) all0)
      exact HJ361 [c_325, c_331, c_337, c_343, c_349, c_355] 4 b582 t585 x_555 T585 T585.heap _ s.vm _ rfl rfl (by decide) ((own_aS pr325_0 (own_aS pr331_0 (own_aS pr337_0 (own_aS pr343_0 (own_aS pr349_0 (own_aS pr355_0 own_a0))))))) (own_standW X585 (by decide) (by decide)) rfl N585 K610 f611 (by omega) R585 hS0 (by omega) hZ hown f596 fT585
    ·
      show own_Go _ _ _ _ (T357.setTop (mkF m 72 #[.val (.int p1), .val (.int p2), .val (.int p3), .val (.int p4), .val (.int (5 : Int32)), .val (.ref b323), .unset, .unset, .unset, .unset, .unset, .unset, .unset] []))
      refine own_Go.st (fun _ k => XS.iload X357.here hx rfl (hb hby at_72) rfl k) ?_
      show own_Go _ _ _ _ (T357.setTop (mkF m 74 #[.val (.int p1), .val (.int p2), .val (.int p3), .val (.int p4), .val (.int (5 : Int32)), .val (.ref b323), .unset, .unset, .unset, .unset, .unset, .unset, .unset] [(.int (5 : Int32))]))
      have f613 : Old Z Z.heap.size h357 := f356.wr W357 (by omega)
      obtain ⟨_, _, ⟨T612, L612, k612, n612⟩, -, X612, ⟨Lc612, hQ612, l612, y612, z612⟩, st612⟩ := Jvm.LawKit.callS X357 hx (y := (⟨"com/example/keep_to_layer/keeptolayer/model/ClassNamesOutermostOfPinLaw", "make", "(I)[C"⟩ : MethodName)) hown (mvT hZ (hw _ (List.mem_of_getElem? (i := 6) rfl))) (mvT hZ (hw _ (List.mem_of_getElem? (i := 7) rfl))) (mvT hZ (hw _ (List.mem_of_getElem? (i := 4) rfl))) (mvT hZ (hw _ (List.mem_of_getElem? (i := 8) rfl))) (by decide) (backOf (W := 0) (rm_make l Z a0 hw [] (5 : Int32) h357 f613 (by decide)) hZ (hw _ (List.mem_of_getElem? (i := 8) rfl)) (hw _ (List.mem_of_getElem? (i := 4) rfl)) (by decide) (by decide)) (g := (mkF m 74 #[.val (.int p1), .val (.int p2), .val (.int p3), .val (.int p4), .val (.int (5 : Int32)), .val (.ref b323), .unset, .unset, .unset, .unset, .unset, .unset, .unset] [(.int (5 : Int32))])) rfl (by rw [hml]; rfl) (argsL := [(.int (5 : Int32))]) (rest := []) (lenOf pd_404 rfl) rfl (by show 2 * 0 + _ ≤ _; exact Nat.le_of_eq rfl) (hb hby at_74) (fun _ _ => ⟨rfl, e357, (by decide : 1 + 1 ≤ _), (by decide : 6 + 6 ≤ _)⟩)
      dsimp only [Pt.U, Pt.locs, Pt.cells, Pt.slots] at X612 l612 y612 z612 st612 hQ612
      subst l612 y612 z612
      obtain ⟨x_612, k_612, rfl, N612q, K612, f612_0, pr612_0⟩ := hQ612
      have N612 := Fr.app N357 N612q
      have z612 : h357.size ≤ T612.heap.size := K612.1
      have R612 : CHr Z consts_1 s.vm h0 s.vm T612.heap := R357.trans (CHr.keep K612 sf0 R357.1)
      have lt612_0 : @LT.lt Nat _ x_612 T612.heap.size := f612_0.lt
      have f614 : Arv Z T612.heap x_612 k_612 .char (5 : Int32) [(.int (0 : Int32)), (.int (0 : Int32)), (.int (0 : Int32)), (.int (0 : Int32)), (.int (0 : Int32))] (.int (0 : Int32)) := Arv.pad f612_0 (pad_rep [] _ 5)
      refine own_Go.st st612 ?_
      show own_Go _ _ _ _ (T612.setTop (mkF m 77 #[.val (.int p1), .val (.int p2), .val (.int p3), .val (.int p4), .val (.int (5 : Int32)), .val (.ref b323), .unset, .unset, .unset, .unset, .unset, .unset, .unset] [(.ref x_612)]))
      refine own_Go.st (fun _ k => XS.astore X612.here hx rfl (hb hby at_77) rfl rfl (l' := #[.val (.int p1), .val (.int p2), .val (.int p3), .val (.int p4), .val (.int (5 : Int32)), .val (.ref b323), .val (.ref x_612), .unset, .unset, .unset, .unset, .unset, .unset]) rfl k) ?_
      show own_Go _ _ _ _ (T612.setTop (mkF m 79 #[.val (.int p1), .val (.int p2), .val (.int p3), .val (.int p4), .val (.int (5 : Int32)), .val (.ref b323), .val (.ref x_612), .unset, .unset, .unset, .unset, .unset, .unset] []))
      refine own_Go.st (fun _ k => XS.iload X612.here hx rfl (hb hby at_79) rfl k) ?_
      show own_Go _ _ _ _ (T612.setTop (mkF m 81 #[.val (.int p1), .val (.int p2), .val (.int p3), .val (.int p4), .val (.int (5 : Int32)), .val (.ref b323), .val (.ref x_612), .unset, .unset, .unset, .unset, .unset, .unset] [(.int (5 : Int32))]))
      refine own_Go.st (fun _ k => XS.ifNo X612.here hx rfl (hb hby at_81) rfl ((if0 _ _).trans (tlt (by decide : (0 : Int32) < (5 : Int32))).2.2.2) k) ?_
      show own_Go _ _ _ _ (T612.setTop (mkF m 84 #[.val (.int p1), .val (.int p2), .val (.int p3), .val (.int p4), .val (.int (5 : Int32)), .val (.ref b323), .val (.ref x_612), .unset, .unset, .unset, .unset, .unset, .unset] []))
      refine own_Go.st (fun _ k => XS.aload X612.here hx rfl (hb hby at_84) rfl rfl k) ?_
      show own_Go _ _ _ _ (T612.setTop (mkF m 86 #[.val (.int p1), .val (.int p2), .val (.int p3), .val (.int p4), .val (.int (5 : Int32)), .val (.ref b323), .val (.ref x_612), .unset, .unset, .unset, .unset, .unset, .unset] [(.ref x_612)]))
      refine own_Go.st (fun _ k => XS.iconst X612.here hx rfl (hb hby at_86) k) ?_
      show own_Go _ _ _ _ (T612.setTop (mkF m 87 #[.val (.int p1), .val (.int p2), .val (.int p3), .val (.int p4), .val (.int (5 : Int32)), .val (.ref b323), .val (.ref x_612), .unset, .unset, .unset, .unset, .unset, .unset] [(.int (0 : Int32)), (.ref x_612)]))
      refine own_Go.st (fun _ k => XS.aload X612.here hx rfl (hb hby at_87) rfl rfl k) ?_
      show own_Go _ _ _ _ (T612.setTop (mkF m 89 #[.val (.int p1), .val (.int p2), .val (.int p3), .val (.int p4), .val (.int (5 : Int32)), .val (.ref b323), .val (.ref x_612), .unset, .unset, .unset, .unset, .unset, .unset] [(.ref b323), (.int (0 : Int32)), (.ref x_612)]))
      refine own_Go.st (fun _ k => XS.iconst X612.here hx rfl (hb hby at_89) k) ?_
      show own_Go _ _ _ _ (T612.setTop (mkF m 90 #[.val (.int p1), .val (.int p2), .val (.int p3), .val (.int p4), .val (.int (5 : Int32)), .val (.ref b323), .val (.ref x_612), .unset, .unset, .unset, .unset, .unset, .unset] [(.int (0 : Int32)), (.ref b323), (.int (0 : Int32)), (.ref x_612)]))
      have f615 : Arv Z T612.heap b323 k323 .char (6 : Int32) [(.int c_325), (.int c_331), (.int c_337), (.int c_343), (.int c_349), (.int c_355)] (.int (0 : Int32)) := f360.keep K612 nin0
      obtain ⟨c616, Ar616, q616, S616, Nn616, H616, G616⟩ := id f615
      have hin616 : ¬ ((0 : Int32) < 0 ∨ c616.slots.size ≤ ((0 : Int32)).toNatClampNeg) := inb_of S616 ⟨by decide, by decide⟩
      have hat616 : c616.slots[((0 : Int32)).toNatClampNeg]? = some (.int c_325) := H616.at hin616 rfl
      refine own_Go.st (X612.caload hx (j := (0 : Int32)) (v := (.int c_325)) (own_rwE rfl Ar616.1) (State.isArrayOf_alike hZ.alike Ar616.2.1) Ar616.2.2 hin616 hat616 (g := (mkF m 90 #[.val (.int p1), .val (.int p2), .val (.int p3), .val (.int p4), .val (.int (5 : Int32)), .val (.ref b323), .val (.ref x_612), .unset, .unset, .unset, .unset, .unset, .unset] [(.int (0 : Int32)), (.ref b323), (.int (0 : Int32)), (.ref x_612)])) rfl rfl (hb hby at_90)) ?_
      show own_Go _ _ _ _ (T612.setTop (mkF m 91 #[.val (.int p1), .val (.int p2), .val (.int p3), .val (.int p4), .val (.int (5 : Int32)), .val (.ref b323), .val (.ref x_612), .unset, .unset, .unset, .unset, .unset, .unset] [(.int c_325), (.int (0 : Int32)), (.ref x_612)]))
      obtain ⟨c617, Ar617, q617, S617, Nn617, H617, G617⟩ := id f614
      have hin617 : ¬ ((0 : Int32) < 0 ∨ c617.slots.size ≤ ((0 : Int32)).toNatClampNeg) := inb_of S617 ⟨by decide, by decide⟩
      obtain ⟨T617, h617, X617, e617, W617, st617⟩ := stC X612 hx hZ rfl Ar617 (j := (0 : Int32)) hin617 (g := (mkF m 91 #[.val (.int p1), .val (.int p2), .val (.int p3), .val (.int p4), .val (.int (5 : Int32)), .val (.ref b323), .val (.ref x_612), .unset, .unset, .unset, .unset, .unset, .unset] [(.int c_325), (.int (0 : Int32)), (.ref x_612)])) rfl rfl (hb hby at_91)
      refine own_Go.st st617 ?_
      have N617 := Fr.snoc X617 N612 (by omega)
      have Sf619 : Safe Z consts_1 s.vm T612.heap x_612 := Safe.arv hZ.alike f614 (by decide)
      have z617 : T612.heap.size ≤ h617.size := Nat.le_of_eq W617.size.symm
      have f618 := Arv.set Ar617 q617 S617 Nn617 H617 G617 (fits_nar_char _) W617 0 rfl (Nat.le_of_ble_eq_true rfl)
      rw [own_nar (own_up pr325_0)] at f618
      have f620 : Arv Z h617 x_612 k_612 .char (5 : Int32) [(.int c_325), (.int (0 : Int32)), (.int (0 : Int32)), (.int (0 : Int32)), (.int (0 : Int32))] (.int (0 : Int32)) := f618
      have R617 : CHr Z consts_1 s.vm h0 s.vm h617 := R612.trans (CHr.wr W617 Sf619 R612.1)
      show own_Go _ _ _ _ (T617.setTop (mkF m 92 #[.val (.int p1), .val (.int p2), .val (.int p3), .val (.int p4), .val (.int (5 : Int32)), .val (.ref b323), .val (.ref x_612), .unset, .unset, .unset, .unset, .unset, .unset] []))
      refine own_Go.st (fun _ k => XS.iload X617.here hx rfl (hb hby at_92) rfl k) ?_
      show own_Go _ _ _ _ (T617.setTop (mkF m 94 #[.val (.int p1), .val (.int p2), .val (.int p3), .val (.int p4), .val (.int (5 : Int32)), .val (.ref b323), .val (.ref x_612), .unset, .unset, .unset, .unset, .unset, .unset] [(.int (5 : Int32))]))
      refine own_Go.st (fun _ k => XS.iconst X617.here hx rfl (hb hby at_94) k) ?_
      show own_Go _ _ _ _ (T617.setTop (mkF m 95 #[.val (.int p1), .val (.int p2), .val (.int p3), .val (.int p4), .val (.int (5 : Int32)), .val (.ref b323), .val (.ref x_612), .unset, .unset, .unset, .unset, .unset, .unset] [(.int (1 : Int32)), (.int (5 : Int32))]))
      refine own_Go.st (fun _ k => XS.icmpNo X617.here hx rfl (hb hby at_95) rfl (tlt (by decide : (1 : Int32) < (5 : Int32))).2.2.2 k) ?_
      show own_Go _ _ _ _ (T617.setTop (mkF m 98 #[.val (.int p1), .val (.int p2), .val (.int p3), .val (.int p4), .val (.int (5 : Int32)), .val (.ref b323), .val (.ref x_612), .unset, .unset, .unset, .unset, .unset, .unset] []))
      refine own_Go.st (fun _ k => XS.aload X617.here hx rfl (hb hby at_98) rfl rfl k) ?_
      show own_Go _ _ _ _ (T617.setTop (mkF m 100 #[.val (.int p1), .val (.int p2), .val (.int p3), .val (.int p4), .val (.int (5 : Int32)), .val (.ref b323), .val (.ref x_612), .unset, .unset, .unset, .unset, .unset, .unset] [(.ref x_612)]))
      refine own_Go.st (fun _ k => XS.iconst X617.here hx rfl (hb hby at_100) k) ?_
      show own_Go _ _ _ _ (T617.setTop (mkF m 101 #[.val (.int p1), .val (.int p2), .val (.int p3), .val (.int p4), .val (.int (5 : Int32)), .val (.ref b323), .val (.ref x_612), .unset, .unset, .unset, .unset, .unset, .unset] [(.int (1 : Int32)), (.ref x_612)]))
      refine own_Go.st (fun _ k => XS.aload X617.here hx rfl (hb hby at_101) rfl rfl k) ?_
      show own_Go _ _ _ _ (T617.setTop (mkF m 103 #[.val (.int p1), .val (.int p2), .val (.int p3), .val (.int p4), .val (.int (5 : Int32)), .val (.ref b323), .val (.ref x_612), .unset, .unset, .unset, .unset, .unset, .unset] [(.ref b323), (.int (1 : Int32)), (.ref x_612)]))
      refine own_Go.st (fun _ k => XS.iconst X617.here hx rfl (hb hby at_103) k) ?_
      show own_Go _ _ _ _ (T617.setTop (mkF m 104 #[.val (.int p1), .val (.int p2), .val (.int p3), .val (.int p4), .val (.int (5 : Int32)), .val (.ref b323), .val (.ref x_612), .unset, .unset, .unset, .unset, .unset, .unset] [(.int (1 : Int32)), (.ref b323), (.int (1 : Int32)), (.ref x_612)]))
      have f621 : Arv Z h617 b323 k323 .char (6 : Int32) [(.int c_325), (.int c_331), (.int c_337), (.int c_343), (.int c_349), (.int c_355)] (.int (0 : Int32)) := f615.other W617 (by show @Ne Nat b323 x_612; omega)
      obtain ⟨c622, Ar622, q622, S622, Nn622, H622, G622⟩ := id f621
      have hin622 : ¬ ((1 : Int32) < 0 ∨ c622.slots.size ≤ ((1 : Int32)).toNatClampNeg) := inb_of S622 ⟨by decide, by decide⟩
      have hat622 : c622.slots[((1 : Int32)).toNatClampNeg]? = some (.int c_331) := H622.at hin622 rfl
      refine own_Go.st (X617.caload hx (j := (1 : Int32)) (v := (.int c_331)) (own_rwE e617 Ar622.1) (State.isArrayOf_alike hZ.alike Ar622.2.1) Ar622.2.2 hin622 hat622 (g := (mkF m 104 #[.val (.int p1), .val (.int p2), .val (.int p3), .val (.int p4), .val (.int (5 : Int32)), .val (.ref b323), .val (.ref x_612), .unset, .unset, .unset, .unset, .unset, .unset] [(.int (1 : Int32)), (.ref b323), (.int (1 : Int32)), (.ref x_612)])) rfl rfl (hb hby at_104)) ?_
      show own_Go _ _ _ _ (T617.setTop (mkF m 105 #[.val (.int p1), .val (.int p2), .val (.int p3), .val (.int p4), .val (.int (5 : Int32)), .val (.ref b323), .val (.ref x_612), .unset, .unset, .unset, .unset, .unset, .unset] [(.int c_331), (.int (1 : Int32)), (.ref x_612)]))
      obtain ⟨c623, Ar623, q623, S623, Nn623, H623, G623⟩ := id f620
      have hin623 : ¬ ((1 : Int32) < 0 ∨ c623.slots.size ≤ ((1 : Int32)).toNatClampNeg) := inb_of S623 ⟨by decide, by decide⟩
      obtain ⟨T623, h623, X623, e623, W623, st623⟩ := stC X617 hx hZ e617 Ar623 (j := (1 : Int32)) hin623 (g := (mkF m 105 #[.val (.int p1), .val (.int p2), .val (.int p3), .val (.int p4), .val (.int (5 : Int32)), .val (.ref b323), .val (.ref x_612), .unset, .unset, .unset, .unset, .unset, .unset] [(.int c_331), (.int (1 : Int32)), (.ref x_612)])) rfl rfl (hb hby at_105)
      refine own_Go.st st623 ?_
      have N623 := Fr.snoc X623 N617 (by omega)
      have Sf625 : Safe Z consts_1 s.vm h617 x_612 := Safe.arv hZ.alike f620 (by decide)
      have z623 : h617.size ≤ h623.size := Nat.le_of_eq W623.size.symm
      have f624 := Arv.set Ar623 q623 S623 Nn623 H623 G623 (fits_nar_char _) W623 1 rfl (Nat.le_of_ble_eq_true rfl)
      rw [own_nar (own_up pr331_0)] at f624
      have f626 : Arv Z h623 x_612 k_612 .char (5 : Int32) [(.int c_325), (.int c_331), (.int (0 : Int32)), (.int (0 : Int32)), (.int (0 : Int32))] (.int (0 : Int32)) := f624
      have R623 : CHr Z consts_1 s.vm h0 s.vm h623 := R617.trans (CHr.wr W623 Sf625 R617.1)
      show own_Go _ _ _ _ (T623.setTop (mkF m 106 #[.val (.int p1), .val (.int p2), .val (.int p3), .val (.int p4), .val (.int (5 : Int32)), .val (.ref b323), .val (.ref x_612), .unset, .unset, .unset, .unset, .unset, .unset] []))
      refine own_Go.st (fun _ k => XS.iload X623.here hx rfl (hb hby at_106) rfl k) ?_
      show own_Go _ _ _ _ (T623.setTop (mkF m 108 #[.val (.int p1), .val (.int p2), .val (.int p3), .val (.int p4), .val (.int (5 : Int32)), .val (.ref b323), .val (.ref x_612), .unset, .unset, .unset, .unset, .unset, .unset] [(.int (5 : Int32))]))
      refine own_Go.st (fun _ k => XS.iconst X623.here hx rfl (hb hby at_108) k) ?_
      show own_Go _ _ _ _ (T623.setTop (mkF m 109 #[.val (.int p1), .val (.int p2), .val (.int p3), .val (.int p4), .val (.int (5 : Int32)), .val (.ref b323), .val (.ref x_612), .unset, .unset, .unset, .unset, .unset, .unset] [(.int (2 : Int32)), (.int (5 : Int32))]))
      refine own_Go.st (fun _ k => XS.icmpNo X623.here hx rfl (hb hby at_109) rfl (tlt (by decide : (2 : Int32) < (5 : Int32))).2.2.2 k) ?_
      show own_Go _ _ _ _ (T623.setTop (mkF m 112 #[.val (.int p1), .val (.int p2), .val (.int p3), .val (.int p4), .val (.int (5 : Int32)), .val (.ref b323), .val (.ref x_612), .unset, .unset, .unset, .unset, .unset, .unset] []))
      refine own_Go.st (fun _ k => XS.aload X623.here hx rfl (hb hby at_112) rfl rfl k) ?_
      show own_Go _ _ _ _ (T623.setTop (mkF m 114 #[.val (.int p1), .val (.int p2), .val (.int p3), .val (.int p4), .val (.int (5 : Int32)), .val (.ref b323), .val (.ref x_612), .unset, .unset, .unset, .unset, .unset, .unset] [(.ref x_612)]))
      refine own_Go.st (fun _ k => XS.iconst X623.here hx rfl (hb hby at_114) k) ?_
      show own_Go _ _ _ _ (T623.setTop (mkF m 115 #[.val (.int p1), .val (.int p2), .val (.int p3), .val (.int p4), .val (.int (5 : Int32)), .val (.ref b323), .val (.ref x_612), .unset, .unset, .unset, .unset, .unset, .unset] [(.int (2 : Int32)), (.ref x_612)]))
      refine own_Go.st (fun _ k => XS.aload X623.here hx rfl (hb hby at_115) rfl rfl k) ?_
      show own_Go _ _ _ _ (T623.setTop (mkF m 117 #[.val (.int p1), .val (.int p2), .val (.int p3), .val (.int p4), .val (.int (5 : Int32)), .val (.ref b323), .val (.ref x_612), .unset, .unset, .unset, .unset, .unset, .unset] [(.ref b323), (.int (2 : Int32)), (.ref x_612)]))
      refine own_Go.st (fun _ k => XS.iconst X623.here hx rfl (hb hby at_117) k) ?_
      show own_Go _ _ _ _ (T623.setTop (mkF m 118 #[.val (.int p1), .val (.int p2), .val (.int p3), .val (.int p4), .val (.int (5 : Int32)), .val (.ref b323), .val (.ref x_612), .unset, .unset, .unset, .unset, .unset, .unset] [(.int (2 : Int32)), (.ref b323), (.int (2 : Int32)), (.ref x_612)]))
      have f627 : Arv Z h623 b323 k323 .char (6 : Int32) [(.int c_325), (.int c_331), (.int c_337), (.int c_343), (.int c_349), (.int c_355)] (.int (0 : Int32)) := f621.other W623 (by show @Ne Nat b323 x_612; omega)
      obtain ⟨c628, Ar628, q628, S628, Nn628, H628, G628⟩ := id f627
      have hin628 : ¬ ((2 : Int32) < 0 ∨ c628.slots.size ≤ ((2 : Int32)).toNatClampNeg) := inb_of S628 ⟨by decide, by decide⟩
      have hat628 : c628.slots[((2 : Int32)).toNatClampNeg]? = some (.int c_337) := H628.at hin628 rfl
      refine own_Go.st (X623.caload hx (j := (2 : Int32)) (v := (.int c_337)) (own_rwE e623 Ar628.1) (State.isArrayOf_alike hZ.alike Ar628.2.1) Ar628.2.2 hin628 hat628 (g := (mkF m 118 #[.val (.int p1), .val (.int p2), .val (.int p3), .val (.int p4), .val (.int (5 : Int32)), .val (.ref b323), .val (.ref x_612), .unset, .unset, .unset, .unset, .unset, .unset] [(.int (2 : Int32)), (.ref b323), (.int (2 : Int32)), (.ref x_612)])) rfl rfl (hb hby at_118)) ?_
      show own_Go _ _ _ _ (T623.setTop (mkF m 119 #[.val (.int p1), .val (.int p2), .val (.int p3), .val (.int p4), .val (.int (5 : Int32)), .val (.ref b323), .val (.ref x_612), .unset, .unset, .unset, .unset, .unset, .unset] [(.int c_337), (.int (2 : Int32)), (.ref x_612)]))
      obtain ⟨c629, Ar629, q629, S629, Nn629, H629, G629⟩ := id f626
      have hin629 : ¬ ((2 : Int32) < 0 ∨ c629.slots.size ≤ ((2 : Int32)).toNatClampNeg) := inb_of S629 ⟨by decide, by decide⟩
      obtain ⟨T629, h629, X629, e629, W629, st629⟩ := stC X623 hx hZ e623 Ar629 (j := (2 : Int32)) hin629 (g := (mkF m 119 #[.val (.int p1), .val (.int p2), .val (.int p3), .val (.int p4), .val (.int (5 : Int32)), .val (.ref b323), .val (.ref x_612), .unset, .unset, .unset, .unset, .unset, .unset] [(.int c_337), (.int (2 : Int32)), (.ref x_612)])) rfl rfl (hb hby at_119)
      refine own_Go.st st629 ?_
      have N629 := Fr.snoc X629 N623 (by omega)
      have Sf631 : Safe Z consts_1 s.vm h623 x_612 := Safe.arv hZ.alike f626 (by decide)
      have z629 : h623.size ≤ h629.size := Nat.le_of_eq W629.size.symm
      have f630 := Arv.set Ar629 q629 S629 Nn629 H629 G629 (fits_nar_char _) W629 2 rfl (Nat.le_of_ble_eq_true rfl)
      rw [own_nar (own_up pr337_0)] at f630
      have f632 : Arv Z h629 x_612 k_612 .char (5 : Int32) [(.int c_325), (.int c_331), (.int c_337), (.int (0 : Int32)), (.int (0 : Int32))] (.int (0 : Int32)) := f630
      have R629 : CHr Z consts_1 s.vm h0 s.vm h629 := R623.trans (CHr.wr W629 Sf631 R623.1)
      show own_Go _ _ _ _ (T629.setTop (mkF m 120 #[.val (.int p1), .val (.int p2), .val (.int p3), .val (.int p4), .val (.int (5 : Int32)), .val (.ref b323), .val (.ref x_612), .unset, .unset, .unset, .unset, .unset, .unset] []))
      refine own_Go.st (fun _ k => XS.iload X629.here hx rfl (hb hby at_120) rfl k) ?_
      show own_Go _ _ _ _ (T629.setTop (mkF m 122 #[.val (.int p1), .val (.int p2), .val (.int p3), .val (.int p4), .val (.int (5 : Int32)), .val (.ref b323), .val (.ref x_612), .unset, .unset, .unset, .unset, .unset, .unset] [(.int (5 : Int32))]))
      refine own_Go.st (fun _ k => XS.iconst X629.here hx rfl (hb hby at_122) k) ?_
      show own_Go _ _ _ _ (T629.setTop (mkF m 123 #[.val (.int p1), .val (.int p2), .val (.int p3), .val (.int p4), .val (.int (5 : Int32)), .val (.ref b323), .val (.ref x_612), .unset, .unset, .unset, .unset, .unset, .unset] [(.int (3 : Int32)), (.int (5 : Int32))]))
      refine own_Go.st (fun _ k => XS.icmpNo X629.here hx rfl (hb hby at_123) rfl (tlt (by decide : (3 : Int32) < (5 : Int32))).2.2.2 k) ?_
      show own_Go _ _ _ _ (T629.setTop (mkF m 126 #[.val (.int p1), .val (.int p2), .val (.int p3), .val (.int p4), .val (.int (5 : Int32)), .val (.ref b323), .val (.ref x_612), .unset, .unset, .unset, .unset, .unset, .unset] []))
      refine own_Go.st (fun _ k => XS.aload X629.here hx rfl (hb hby at_126) rfl rfl k) ?_
      show own_Go _ _ _ _ (T629.setTop (mkF m 128 #[.val (.int p1), .val (.int p2), .val (.int p3), .val (.int p4), .val (.int (5 : Int32)), .val (.ref b323), .val (.ref x_612), .unset, .unset, .unset, .unset, .unset, .unset] [(.ref x_612)]))
      refine own_Go.st (fun _ k => XS.iconst X629.here hx rfl (hb hby at_128) k) ?_
      show own_Go _ _ _ _ (T629.setTop (mkF m 129 #[.val (.int p1), .val (.int p2), .val (.int p3), .val (.int p4), .val (.int (5 : Int32)), .val (.ref b323), .val (.ref x_612), .unset, .unset, .unset, .unset, .unset, .unset] [(.int (3 : Int32)), (.ref x_612)]))
      refine own_Go.st (fun _ k => XS.aload X629.here hx rfl (hb hby at_129) rfl rfl k) ?_
      show own_Go _ _ _ _ (T629.setTop (mkF m 131 #[.val (.int p1), .val (.int p2), .val (.int p3), .val (.int p4), .val (.int (5 : Int32)), .val (.ref b323), .val (.ref x_612), .unset, .unset, .unset, .unset, .unset, .unset] [(.ref b323), (.int (3 : Int32)), (.ref x_612)]))
      refine own_Go.st (fun _ k => XS.iconst X629.here hx rfl (hb hby at_131) k) ?_
      show own_Go _ _ _ _ (T629.setTop (mkF m 132 #[.val (.int p1), .val (.int p2), .val (.int p3), .val (.int p4), .val (.int (5 : Int32)), .val (.ref b323), .val (.ref x_612), .unset, .unset, .unset, .unset, .unset, .unset] [(.int (3 : Int32)), (.ref b323), (.int (3 : Int32)), (.ref x_612)]))
      have f633 : Arv Z h629 b323 k323 .char (6 : Int32) [(.int c_325), (.int c_331), (.int c_337), (.int c_343), (.int c_349), (.int c_355)] (.int (0 : Int32)) := f627.other W629 (by show @Ne Nat b323 x_612; omega)
      obtain ⟨c634, Ar634, q634, S634, Nn634, H634, G634⟩ := id f633
      have hin634 : ¬ ((3 : Int32) < 0 ∨ c634.slots.size ≤ ((3 : Int32)).toNatClampNeg) := inb_of S634 ⟨by decide, by decide⟩
      have hat634 : c634.slots[((3 : Int32)).toNatClampNeg]? = some (.int c_343) := H634.at hin634 rfl
      refine own_Go.st (X629.caload hx (j := (3 : Int32)) (v := (.int c_343)) (own_rwE e629 Ar634.1) (State.isArrayOf_alike hZ.alike Ar634.2.1) Ar634.2.2 hin634 hat634 (g := (mkF m 132 #[.val (.int p1), .val (.int p2), .val (.int p3), .val (.int p4), .val (.int (5 : Int32)), .val (.ref b323), .val (.ref x_612), .unset, .unset, .unset, .unset, .unset, .unset] [(.int (3 : Int32)), (.ref b323), (.int (3 : Int32)), (.ref x_612)])) rfl rfl (hb hby at_132)) ?_
      show own_Go _ _ _ _ (T629.setTop (mkF m 133 #[.val (.int p1), .val (.int p2), .val (.int p3), .val (.int p4), .val (.int (5 : Int32)), .val (.ref b323), .val (.ref x_612), .unset, .unset, .unset, .unset, .unset, .unset] [(.int c_343), (.int (3 : Int32)), (.ref x_612)]))
      obtain ⟨c635, Ar635, q635, S635, Nn635, H635, G635⟩ := id f632
      have hin635 : ¬ ((3 : Int32) < 0 ∨ c635.slots.size ≤ ((3 : Int32)).toNatClampNeg) := inb_of S635 ⟨by decide, by decide⟩
      obtain ⟨T635, h635, X635, e635, W635, st635⟩ := stC X629 hx hZ e629 Ar635 (j := (3 : Int32)) hin635 (g := (mkF m 133 #[.val (.int p1), .val (.int p2), .val (.int p3), .val (.int p4), .val (.int (5 : Int32)), .val (.ref b323), .val (.ref x_612), .unset, .unset, .unset, .unset, .unset, .unset] [(.int c_343), (.int (3 : Int32)), (.ref x_612)])) rfl rfl (hb hby at_133)
      refine own_Go.st st635 ?_
      have N635 := Fr.snoc X635 N629 (by omega)
      have Sf637 : Safe Z consts_1 s.vm h629 x_612 := Safe.arv hZ.alike f632 (by decide)
      have z635 : h629.size ≤ h635.size := Nat.le_of_eq W635.size.symm
      have f636 := Arv.set Ar635 q635 S635 Nn635 H635 G635 (fits_nar_char _) W635 3 rfl (Nat.le_of_ble_eq_true rfl)
      rw [own_nar (own_up pr343_0)] at f636
      have f638 : Arv Z h635 x_612 k_612 .char (5 : Int32) [(.int c_325), (.int c_331), (.int c_337), (.int c_343), (.int (0 : Int32))] (.int (0 : Int32)) := f636
      have R635 : CHr Z consts_1 s.vm h0 s.vm h635 := R629.trans (CHr.wr W635 Sf637 R629.1)
      show own_Go _ _ _ _ (T635.setTop (mkF m 134 #[.val (.int p1), .val (.int p2), .val (.int p3), .val (.int p4), .val (.int (5 : Int32)), .val (.ref b323), .val (.ref x_612), .unset, .unset, .unset, .unset, .unset, .unset] []))
      refine own_Go.st (fun _ k => XS.iload X635.here hx rfl (hb hby at_134) rfl k) ?_
      show own_Go _ _ _ _ (T635.setTop (mkF m 136 #[.val (.int p1), .val (.int p2), .val (.int p3), .val (.int p4), .val (.int (5 : Int32)), .val (.ref b323), .val (.ref x_612), .unset, .unset, .unset, .unset, .unset, .unset] [(.int (5 : Int32))]))
      refine own_Go.st (fun _ k => XS.iconst X635.here hx rfl (hb hby at_136) k) ?_
      show own_Go _ _ _ _ (T635.setTop (mkF m 137 #[.val (.int p1), .val (.int p2), .val (.int p3), .val (.int p4), .val (.int (5 : Int32)), .val (.ref b323), .val (.ref x_612), .unset, .unset, .unset, .unset, .unset, .unset] [(.int (4 : Int32)), (.int (5 : Int32))]))
      refine own_Go.st (fun _ k => XS.icmpNo X635.here hx rfl (hb hby at_137) rfl (tlt (by decide : (4 : Int32) < (5 : Int32))).2.2.2 k) ?_
      show own_Go _ _ _ _ (T635.setTop (mkF m 140 #[.val (.int p1), .val (.int p2), .val (.int p3), .val (.int p4), .val (.int (5 : Int32)), .val (.ref b323), .val (.ref x_612), .unset, .unset, .unset, .unset, .unset, .unset] []))
      refine own_Go.st (fun _ k => XS.aload X635.here hx rfl (hb hby at_140) rfl rfl k) ?_
      show own_Go _ _ _ _ (T635.setTop (mkF m 142 #[.val (.int p1), .val (.int p2), .val (.int p3), .val (.int p4), .val (.int (5 : Int32)), .val (.ref b323), .val (.ref x_612), .unset, .unset, .unset, .unset, .unset, .unset] [(.ref x_612)]))
      refine own_Go.st (fun _ k => XS.iconst X635.here hx rfl (hb hby at_142) k) ?_
      show own_Go _ _ _ _ (T635.setTop (mkF m 143 #[.val (.int p1), .val (.int p2), .val (.int p3), .val (.int p4), .val (.int (5 : Int32)), .val (.ref b323), .val (.ref x_612), .unset, .unset, .unset, .unset, .unset, .unset] [(.int (4 : Int32)), (.ref x_612)]))
      refine own_Go.st (fun _ k => XS.aload X635.here hx rfl (hb hby at_143) rfl rfl k) ?_
      show own_Go _ _ _ _ (T635.setTop (mkF m 145 #[.val (.int p1), .val (.int p2), .val (.int p3), .val (.int p4), .val (.int (5 : Int32)), .val (.ref b323), .val (.ref x_612), .unset, .unset, .unset, .unset, .unset, .unset] [(.ref b323), (.int (4 : Int32)), (.ref x_612)]))
      refine own_Go.st (fun _ k => XS.iconst X635.here hx rfl (hb hby at_145) k) ?_
      show own_Go _ _ _ _ (T635.setTop (mkF m 146 #[.val (.int p1), .val (.int p2), .val (.int p3), .val (.int p4), .val (.int (5 : Int32)), .val (.ref b323), .val (.ref x_612), .unset, .unset, .unset, .unset, .unset, .unset] [(.int (4 : Int32)), (.ref b323), (.int (4 : Int32)), (.ref x_612)]))
      have f639 : Arv Z h635 b323 k323 .char (6 : Int32) [(.int c_325), (.int c_331), (.int c_337), (.int c_343), (.int c_349), (.int c_355)] (.int (0 : Int32)) := f633.other W635 (by show @Ne Nat b323 x_612; omega)
      obtain ⟨c640, Ar640, q640, S640, Nn640, H640, G640⟩ := id f639
      have hin640 : ¬ ((4 : Int32) < 0 ∨ c640.slots.size ≤ ((4 : Int32)).toNatClampNeg) := inb_of S640 ⟨by decide, by decide⟩
      have hat640 : c640.slots[((4 : Int32)).toNatClampNeg]? = some (.int c_349) := H640.at hin640 rfl
      refine own_Go.st (X635.caload hx (j := (4 : Int32)) (v := (.int c_349)) (own_rwE e635 Ar640.1) (State.isArrayOf_alike hZ.alike Ar640.2.1) Ar640.2.2 hin640 hat640 (g := (mkF m 146 #[.val (.int p1), .val (.int p2), .val (.int p3), .val (.int p4), .val (.int (5 : Int32)), .val (.ref b323), .val (.ref x_612), .unset, .unset, .unset, .unset, .unset, .unset] [(.int (4 : Int32)), (.ref b323), (.int (4 : Int32)), (.ref x_612)])) rfl rfl (hb hby at_146)) ?_
      show own_Go _ _ _ _ (T635.setTop (mkF m 147 #[.val (.int p1), .val (.int p2), .val (.int p3), .val (.int p4), .val (.int (5 : Int32)), .val (.ref b323), .val (.ref x_612), .unset, .unset, .unset, .unset, .unset, .unset] [(.int c_349), (.int (4 : Int32)), (.ref x_612)]))
      obtain ⟨c641, Ar641, q641, S641, Nn641, H641, G641⟩ := id f638
      have hin641 : ¬ ((4 : Int32) < 0 ∨ c641.slots.size ≤ ((4 : Int32)).toNatClampNeg) := inb_of S641 ⟨by decide, by decide⟩
      obtain ⟨T641, h641, X641, e641, W641, st641⟩ := stC X635 hx hZ e635 Ar641 (j := (4 : Int32)) hin641 (g := (mkF m 147 #[.val (.int p1), .val (.int p2), .val (.int p3), .val (.int p4), .val (.int (5 : Int32)), .val (.ref b323), .val (.ref x_612), .unset, .unset, .unset, .unset, .unset, .unset] [(.int c_349), (.int (4 : Int32)), (.ref x_612)])) rfl rfl (hb hby at_147)
      refine own_Go.st st641 ?_
      have N641 := Fr.snoc X641 N635 (by omega)
      have Sf643 : Safe Z consts_1 s.vm h635 x_612 := Safe.arv hZ.alike f638 (by decide)
      have z641 : h635.size ≤ h641.size := Nat.le_of_eq W641.size.symm
      have f642 := Arv.set Ar641 q641 S641 Nn641 H641 G641 (fits_nar_char _) W641 4 rfl (Nat.le_of_ble_eq_true rfl)
      rw [own_nar (own_up pr349_0)] at f642
      have f644 : Arv Z h641 x_612 k_612 .char (5 : Int32) [(.int c_325), (.int c_331), (.int c_337), (.int c_343), (.int c_349)] (.int (0 : Int32)) := f642
      have R641 : CHr Z consts_1 s.vm h0 s.vm h641 := R635.trans (CHr.wr W641 Sf643 R635.1)
      show own_Go _ _ _ _ (T641.setTop (mkF m 148 #[.val (.int p1), .val (.int p2), .val (.int p3), .val (.int p4), .val (.int (5 : Int32)), .val (.ref b323), .val (.ref x_612), .unset, .unset, .unset, .unset, .unset, .unset] []))
      refine own_Go.st (fun _ k => XS.iload X641.here hx rfl (hb hby at_148) rfl k) ?_
      show own_Go _ _ _ _ (T641.setTop (mkF m 150 #[.val (.int p1), .val (.int p2), .val (.int p3), .val (.int p4), .val (.int (5 : Int32)), .val (.ref b323), .val (.ref x_612), .unset, .unset, .unset, .unset, .unset, .unset] [(.int (5 : Int32))]))
      refine own_Go.st (fun _ k => XS.iconst X641.here hx rfl (hb hby at_150) k) ?_
      show own_Go _ _ _ _ (T641.setTop (mkF m 151 #[.val (.int p1), .val (.int p2), .val (.int p3), .val (.int p4), .val (.int (5 : Int32)), .val (.ref b323), .val (.ref x_612), .unset, .unset, .unset, .unset, .unset, .unset] [(.int (5 : Int32)), (.int (5 : Int32))]))
      refine own_Go.st (fun _ k => XS.icmpYes X641.here hx rfl (pc0 := 151) (pc' := 162) rfl (hb hby at_151) rfl (flt (by decide : ¬ ((5 : Int32) < (5 : Int32)))).2.2.2 (by decide) (by decide) k) ?_
      show own_Go _ _ _ _ (T641.setTop (mkF m 162 #[.val (.int p1), .val (.int p2), .val (.int p3), .val (.int p4), .val (.int (5 : Int32)), .val (.ref b323), .val (.ref x_612), .unset, .unset, .unset, .unset, .unset, .unset] []))
      obtain ⟨T645, h645, X645, e645, E645, A645, D645, U645, st645⟩ := newO X641 hx hZ hown (hw _ (List.mem_of_getElem? (i := 9) rfl)) (hw _ (List.mem_of_getElem? (i := 10) rfl)) (hw _ (List.mem_of_getElem? (i := 11) rfl)) e641 (g := (mkF m 162 #[.val (.int p1), .val (.int p2), .val (.int p3), .val (.int p4), .val (.int (5 : Int32)), .val (.ref b323), .val (.ref x_612), .unset, .unset, .unset, .unset, .unset, .unset] [])) rfl (hb hby at_162) (by decide) (by decide)
      obtain ⟨b645, g645⟩ : ∃ z, z = h641.size := ⟨_, rfl⟩
      rw [← g645] at A645 D645 U645 st645
      refine own_Go.st st645 ?_
      have z645 : h641.size ≤ h645.size := E645.1
      have lt_b645 : @LT.lt Nat _ b645 h645.size := A645.lt
      have f646 : Fld Z h645 b645 "java/lang/String" "value" "[B" .null := D645 (Or.inr (hw _ (List.mem_of_getElem? (i := 24) rfl))) (ty := (.array .byte)) (by decide)
      have f647 : Fld Z h645 b645 "java/lang/String" "coder" "B" (.int (0 : Int32)) := D645 (Or.inr (hw _ (List.mem_of_getElem? (i := 25) rfl))) (ty := .byte) (by decide)
      have R645 : CHr Z consts_1 s.vm h0 s.vm h645 := R641.trans (CHr.ext E645 R641.1)
      have Sf645 : Safe Z consts_1 s.vm h645 b645 := (Safe.new (Nat.le_of_eq g645.symm)).ext E645 R641.1
      show own_Go _ _ _ _ (T645.setTop (mkF m 165 #[.val (.int p1), .val (.int p2), .val (.int p3), .val (.int p4), .val (.int (5 : Int32)), .val (.ref b323), .val (.ref x_612), .unset, .unset, .unset, .unset, .unset, .unset] [(.ref b645)]))
      refine own_Go.st (fun _ k => XS.dup X645.here hx rfl (hb hby at_165) rfl rfl k) ?_
      show own_Go _ _ _ _ (T645.setTop (mkF m 166 #[.val (.int p1), .val (.int p2), .val (.int p3), .val (.int p4), .val (.int (5 : Int32)), .val (.ref b323), .val (.ref x_612), .unset, .unset, .unset, .unset, .unset, .unset] [(.ref b645), (.ref b645)]))
      refine own_Go.st (fun _ k => XS.aload X645.here hx rfl (hb hby at_166) rfl rfl k) ?_
      show own_Go _ _ _ _ (T645.setTop (mkF m 168 #[.val (.int p1), .val (.int p2), .val (.int p3), .val (.int p4), .val (.int (5 : Int32)), .val (.ref b323), .val (.ref x_612), .unset, .unset, .unset, .unset, .unset, .unset] [(.ref x_612), (.ref b645), (.ref b645)]))
      have f649 : Arv Z h645 x_612 k_612 .char (5 : Int32) [(.int c_325), (.int c_331), (.int c_337), (.int c_343), (.int c_349)] (.int (0 : Int32)) := f644.ext E645
      have f650 : Old Z Z.heap.size T612.heap := f613.keep K612 all0
      have f651 : Old Z Z.heap.size h617 := f650.wr W617 (by omega)
      have f652 : Old Z Z.heap.size h623 := f651.wr W623 (by omega)
      have f653 : Old Z Z.heap.size h629 := f652.wr W629 (by omega)
      have f654 : Old Z Z.heap.size h635 := f653.wr W635 (by omega)
      have f655 : Old Z Z.heap.size h641 := f654.wr W641 (by omega)
      have f656 : Old Z Z.heap.size h645 := f655.ext E645
      have hp648 : ∀ c ∈ ([c_325, c_331, c_337, c_343, c_349] : List Int32), ¬ c < 0 ∧ ¬ (255 : Int32) < c := (own_aS pr325_0 (own_aS pr331_0 (own_aS pr337_0 (own_aS pr343_0 (own_aS pr349_0 own_a0)))))
      obtain ⟨_, _, ⟨T648, L648, k648, n648⟩, -, X648, ⟨Lc648, hQ648, l648, y648, z648⟩, st648⟩ := X645.specialBack hx (y := (⟨"java/lang/String", "<init>", "([C)V"⟩ : MethodName)) rfl hown (mvT hZ (hw _ (List.mem_of_getElem? (i := 12) rfl))) (mvT hZ (hw _ (List.mem_of_getElem? (i := 13) rfl))) (mvT hZ (hw _ (List.mem_of_getElem? (i := 14) rfl))) (by decide) (StrChars.Road.backV (W := 1) hZ (own_hws hw) (kI := 4) (hw _ (List.mem_of_getElem? (i := 10) rfl)) (cs := ([c_325, c_331, c_337, c_343, c_349] : List Int32)) (bs := (([c_325, c_331, c_337, c_343, c_349] : List Int32)).map (fun c => c.toInt8.toInt32)) (n := 5) (n0 := Z.heap.size) (by omega) (by omega) A645 f646 f647 f649 (st_COMPACT_STRINGS.ext f656.2) hzc rfl rfl (by decide) (by decide) hp648 rfl (by decide) (by decide)) (g := (mkF m 168 #[.val (.int p1), .val (.int p2), .val (.int p3), .val (.int p4), .val (.int (5 : Int32)), .val (.ref b323), .val (.ref x_612), .unset, .unset, .unset, .unset, .unset, .unset] [(.ref x_612), (.ref b645), (.ref b645)])) rfl (by rw [hml]; rfl) (Steps.refl _) (a := b645) (argsL := [(.ref x_612)]) (rest := [(.ref b645)]) (lenOf pd_405 rfl) rfl (by show 2 * 0 + _ ≤ _; exact Nat.le_of_eq rfl) (hb hby at_168) (fun _ _ => ⟨rfl, e645, (by decide : 3 + 1 ≤ _), (by decide : 16 + 5 ≤ _)⟩)
      dsimp only [Pt.U, Pt.locs, Pt.cells, Pt.slots] at X648 l648 y648 z648 st648 hQ648
      subst l648 y648 z648
      obtain ⟨rfl, N648q, K648, Ex648, Cd648, t648, kb648, u648, v648, w648, Vl648, Ar648⟩ := hQ648
      have N648 := Fr.app N641 N648q
      have z648 : h645.size ≤ T648.heap.size := K648.1
      have R648 : CHr Z consts_1 s.vm h0 s.vm T648.heap := R645.trans (CHr.keep K648 (sfS Sf645 sf0) R645.1)
      have Sf657 : Safe Z consts_1 s.vm T648.heap b645 := Safe.keep K648 (sfS Sf645 sf0) R645.1 Sf645
      have fT648 : own_Str Z T648.heap b645 t648 ([c_325, c_331, c_337, c_343, c_349] : List Int32) := ⟨kb648, 0, (5 : Int32), _, Ex648, Vl648, Cd648, Ar648, StrChars.Road.codOf rfl (fun c q => (hp648 c q).2), own_upL hp648, (Nat.le_of_ble_eq_true rfl)⟩
      have lt648 : @LT.lt Nat _ t648 T648.heap.size := fT648.ltv
      refine own_Go.tr st648 ?_
      show own_Go _ _ _ _ (T648.setTop (mkF m 171 #[.val (.int p1), .val (.int p2), .val (.int p3), .val (.int p4), .val (.int (5 : Int32)), .val (.ref b323), .val (.ref x_612), .unset, .unset, .unset, .unset, .unset, .unset] [(.ref b645)]))
      have f658 : Arv Z h641 b323 k323 .char (6 : Int32) [(.int c_325), (.int c_331), (.int c_337), (.int c_343), (.int c_349), (.int c_355)] (.int (0 : Int32)) := f639.other W641 (by show @Ne Nat b323 x_612; omega)
      have f659 : Arv Z h645 b323 k323 .char (6 : Int32) [(.int c_325), (.int c_331), (.int c_337), (.int c_343), (.int c_349), (.int c_355)] (.int (0 : Int32)) := f658.ext E645
      have f660 : Arv Z T648.heap b323 k323 .char (6 : Int32) [(.int c_325), (.int c_331), (.int c_337), (.int c_343), (.int c_349), (.int c_355)] (.int (0 : Int32)) := f659.keep K648 (ninS (by show @Ne Nat b323 b645; omega) nin0)
      have K661 : Keep h0 h323 [] := (Keep.refl h0 []).ext E323
      have K662 : Keep h0 h327 [] := K661.wr W327 (Or.inr (by omega))
      have K663 : Keep h0 h333 [] := K662.wr W333 (Or.inr (by omega))
      have K664 : Keep h0 h339 [] := K663.wr W339 (Or.inr (by omega))
      have K665 : Keep h0 h345 [] := K664.wr W345 (Or.inr (by omega))
      have K666 : Keep h0 h351 [] := K665.wr W351 (Or.inr (by omega))
      have K667 : Keep h0 h357 [] := K666.wr W357 (Or.inr (by omega))
      have K668 : Keep h0 T612.heap [] := K667.trans K612 all0
      have K669 : Keep h0 h617 [] := K668.wr W617 (Or.inr (by omega))
      have K670 : Keep h0 h623 [] := K669.wr W623 (Or.inr (by omega))
      have K671 : Keep h0 h629 [] := K670.wr W629 (Or.inr (by omega))
      have K672 : Keep h0 h635 [] := K671.wr W635 (Or.inr (by omega))
      have K673 : Keep h0 h641 [] := K672.wr W641 (Or.inr (by omega))
      have K674 : Keep h0 h645 [] := K673.ext E645
      have K675 : Keep h0 T648.heap [] := K674.trans K648 (allS (Or.inr (by omega)) all0)
      have f676 : Old Z Z.heap.size T648.heap := f656.keep K648 (allS (by omega) all0)
      exact HJ361 [c_325, c_331, c_337, c_343, c_349, c_355] 5 b645 t648 x_612 T648 T648.heap _ s.vm _ rfl rfl (by decide) ((own_aS pr325_0 (own_aS pr331_0 (own_aS pr337_0 (own_aS pr343_0 (own_aS pr349_0 (own_aS pr355_0 own_a0))))))) (own_standW X648 (by decide) (by decide)) rfl N648 K675 f676 (by omega) R648 hS0 (by omega) hZ hown f660 fT648
    ·
      show own_Go _ _ _ _ (T357.setTop (mkF m 72 #[.val (.int p1), .val (.int p2), .val (.int p3), .val (.int p4), .val (.int (6 : Int32)), .val (.ref b323), .unset, .unset, .unset, .unset, .unset, .unset, .unset] []))
      refine own_Go.st (fun _ k => XS.iload X357.here hx rfl (hb hby at_72) rfl k) ?_
      show own_Go _ _ _ _ (T357.setTop (mkF m 74 #[.val (.int p1), .val (.int p2), .val (.int p3), .val (.int p4), .val (.int (6 : Int32)), .val (.ref b323), .unset, .unset, .unset, .unset, .unset, .unset, .unset] [(.int (6 : Int32))]))
      have f678 : Old Z Z.heap.size h357 := f356.wr W357 (by omega)
      obtain ⟨_, _, ⟨T677, L677, k677, n677⟩, -, X677, ⟨Lc677, hQ677, l677, y677, z677⟩, st677⟩ := Jvm.LawKit.callS X357 hx (y := (⟨"com/example/keep_to_layer/keeptolayer/model/ClassNamesOutermostOfPinLaw", "make", "(I)[C"⟩ : MethodName)) hown (mvT hZ (hw _ (List.mem_of_getElem? (i := 6) rfl))) (mvT hZ (hw _ (List.mem_of_getElem? (i := 7) rfl))) (mvT hZ (hw _ (List.mem_of_getElem? (i := 4) rfl))) (mvT hZ (hw _ (List.mem_of_getElem? (i := 8) rfl))) (by decide) (backOf (W := 0) (rm_make l Z a0 hw [] (6 : Int32) h357 f678 (by decide)) hZ (hw _ (List.mem_of_getElem? (i := 8) rfl)) (hw _ (List.mem_of_getElem? (i := 4) rfl)) (by decide) (by decide)) (g := (mkF m 74 #[.val (.int p1), .val (.int p2), .val (.int p3), .val (.int p4), .val (.int (6 : Int32)), .val (.ref b323), .unset, .unset, .unset, .unset, .unset, .unset, .unset] [(.int (6 : Int32))])) rfl (by rw [hml]; rfl) (argsL := [(.int (6 : Int32))]) (rest := []) (lenOf pd_404 rfl) rfl (by show 2 * 0 + _ ≤ _; exact Nat.le_of_eq rfl) (hb hby at_74) (fun _ _ => ⟨rfl, e357, (by decide : 1 + 1 ≤ _), (by decide : 6 + 6 ≤ _)⟩)
      dsimp only [Pt.U, Pt.locs, Pt.cells, Pt.slots] at X677 l677 y677 z677 st677 hQ677
      subst l677 y677 z677
      obtain ⟨x_677, k_677, rfl, N677q, K677, f677_0, pr677_0⟩ := hQ677
      have N677 := Fr.app N357 N677q
      have z677 : h357.size ≤ T677.heap.size := K677.1
      have R677 : CHr Z consts_1 s.vm h0 s.vm T677.heap := R357.trans (CHr.keep K677 sf0 R357.1)
      have lt677_0 : @LT.lt Nat _ x_677 T677.heap.size := f677_0.lt
      have f679 : Arv Z T677.heap x_677 k_677 .char (6 : Int32) [(.int (0 : Int32)), (.int (0 : Int32)), (.int (0 : Int32)), (.int (0 : Int32)), (.int (0 : Int32)), (.int (0 : Int32))] (.int (0 : Int32)) := Arv.pad f677_0 (pad_rep [] _ 6)
      refine own_Go.st st677 ?_
      show own_Go _ _ _ _ (T677.setTop (mkF m 77 #[.val (.int p1), .val (.int p2), .val (.int p3), .val (.int p4), .val (.int (6 : Int32)), .val (.ref b323), .unset, .unset, .unset, .unset, .unset, .unset, .unset] [(.ref x_677)]))
      refine own_Go.st (fun _ k => XS.astore X677.here hx rfl (hb hby at_77) rfl rfl (l' := #[.val (.int p1), .val (.int p2), .val (.int p3), .val (.int p4), .val (.int (6 : Int32)), .val (.ref b323), .val (.ref x_677), .unset, .unset, .unset, .unset, .unset, .unset]) rfl k) ?_
      show own_Go _ _ _ _ (T677.setTop (mkF m 79 #[.val (.int p1), .val (.int p2), .val (.int p3), .val (.int p4), .val (.int (6 : Int32)), .val (.ref b323), .val (.ref x_677), .unset, .unset, .unset, .unset, .unset, .unset] []))
      refine own_Go.st (fun _ k => XS.iload X677.here hx rfl (hb hby at_79) rfl k) ?_
      show own_Go _ _ _ _ (T677.setTop (mkF m 81 #[.val (.int p1), .val (.int p2), .val (.int p3), .val (.int p4), .val (.int (6 : Int32)), .val (.ref b323), .val (.ref x_677), .unset, .unset, .unset, .unset, .unset, .unset] [(.int (6 : Int32))]))
      refine own_Go.st (fun _ k => XS.ifNo X677.here hx rfl (hb hby at_81) rfl ((if0 _ _).trans (tlt (by decide : (0 : Int32) < (6 : Int32))).2.2.2) k) ?_
      show own_Go _ _ _ _ (T677.setTop (mkF m 84 #[.val (.int p1), .val (.int p2), .val (.int p3), .val (.int p4), .val (.int (6 : Int32)), .val (.ref b323), .val (.ref x_677), .unset, .unset, .unset, .unset, .unset, .unset] []))
      refine own_Go.st (fun _ k => XS.aload X677.here hx rfl (hb hby at_84) rfl rfl k) ?_
      show own_Go _ _ _ _ (T677.setTop (mkF m 86 #[.val (.int p1), .val (.int p2), .val (.int p3), .val (.int p4), .val (.int (6 : Int32)), .val (.ref b323), .val (.ref x_677), .unset, .unset, .unset, .unset, .unset, .unset] [(.ref x_677)]))
      refine own_Go.st (fun _ k => XS.iconst X677.here hx rfl (hb hby at_86) k) ?_
      show own_Go _ _ _ _ (T677.setTop (mkF m 87 #[.val (.int p1), .val (.int p2), .val (.int p3), .val (.int p4), .val (.int (6 : Int32)), .val (.ref b323), .val (.ref x_677), .unset, .unset, .unset, .unset, .unset, .unset] [(.int (0 : Int32)), (.ref x_677)]))
      refine own_Go.st (fun _ k => XS.aload X677.here hx rfl (hb hby at_87) rfl rfl k) ?_
      show own_Go _ _ _ _ (T677.setTop (mkF m 89 #[.val (.int p1), .val (.int p2), .val (.int p3), .val (.int p4), .val (.int (6 : Int32)), .val (.ref b323), .val (.ref x_677), .unset, .unset, .unset, .unset, .unset, .unset] [(.ref b323), (.int (0 : Int32)), (.ref x_677)]))
      refine own_Go.st (fun _ k => XS.iconst X677.here hx rfl (hb hby at_89) k) ?_
      show own_Go _ _ _ _ (T677.setTop (mkF m 90 #[.val (.int p1), .val (.int p2), .val (.int p3), .val (.int p4), .val (.int (6 : Int32)), .val (.ref b323), .val (.ref x_677), .unset, .unset, .unset, .unset, .unset, .unset] [(.int (0 : Int32)), (.ref b323), (.int (0 : Int32)), (.ref x_677)]))
      have f680 : Arv Z T677.heap b323 k323 .char (6 : Int32) [(.int c_325), (.int c_331), (.int c_337), (.int c_343), (.int c_349), (.int c_355)] (.int (0 : Int32)) := f360.keep K677 nin0
      obtain ⟨c681, Ar681, q681, S681, Nn681, H681, G681⟩ := id f680
      have hin681 : ¬ ((0 : Int32) < 0 ∨ c681.slots.size ≤ ((0 : Int32)).toNatClampNeg) := inb_of S681 ⟨by decide, by decide⟩
      have hat681 : c681.slots[((0 : Int32)).toNatClampNeg]? = some (.int c_325) := H681.at hin681 rfl
      refine own_Go.st (X677.caload hx (j := (0 : Int32)) (v := (.int c_325)) (own_rwE rfl Ar681.1) (State.isArrayOf_alike hZ.alike Ar681.2.1) Ar681.2.2 hin681 hat681 (g := (mkF m 90 #[.val (.int p1), .val (.int p2), .val (.int p3), .val (.int p4), .val (.int (6 : Int32)), .val (.ref b323), .val (.ref x_677), .unset, .unset, .unset, .unset, .unset, .unset] [(.int (0 : Int32)), (.ref b323), (.int (0 : Int32)), (.ref x_677)])) rfl rfl (hb hby at_90)) ?_
      show own_Go _ _ _ _ (T677.setTop (mkF m 91 #[.val (.int p1), .val (.int p2), .val (.int p3), .val (.int p4), .val (.int (6 : Int32)), .val (.ref b323), .val (.ref x_677), .unset, .unset, .unset, .unset, .unset, .unset] [(.int c_325), (.int (0 : Int32)), (.ref x_677)]))
      obtain ⟨c682, Ar682, q682, S682, Nn682, H682, G682⟩ := id f679
      have hin682 : ¬ ((0 : Int32) < 0 ∨ c682.slots.size ≤ ((0 : Int32)).toNatClampNeg) := inb_of S682 ⟨by decide, by decide⟩
      obtain ⟨T682, h682, X682, e682, W682, st682⟩ := stC X677 hx hZ rfl Ar682 (j := (0 : Int32)) hin682 (g := (mkF m 91 #[.val (.int p1), .val (.int p2), .val (.int p3), .val (.int p4), .val (.int (6 : Int32)), .val (.ref b323), .val (.ref x_677), .unset, .unset, .unset, .unset, .unset, .unset] [(.int c_325), (.int (0 : Int32)), (.ref x_677)])) rfl rfl (hb hby at_91)
      refine own_Go.st st682 ?_
      have N682 := Fr.snoc X682 N677 (by omega)
      have Sf684 : Safe Z consts_1 s.vm T677.heap x_677 := Safe.arv hZ.alike f679 (by decide)
      have z682 : T677.heap.size ≤ h682.size := Nat.le_of_eq W682.size.symm
      have f683 := Arv.set Ar682 q682 S682 Nn682 H682 G682 (fits_nar_char _) W682 0 rfl (Nat.le_of_ble_eq_true rfl)
      rw [own_nar (own_up pr325_0)] at f683
      have f685 : Arv Z h682 x_677 k_677 .char (6 : Int32) [(.int c_325), (.int (0 : Int32)), (.int (0 : Int32)), (.int (0 : Int32)), (.int (0 : Int32)), (.int (0 : Int32))] (.int (0 : Int32)) := f683
      have R682 : CHr Z consts_1 s.vm h0 s.vm h682 := R677.trans (CHr.wr W682 Sf684 R677.1)
      show own_Go _ _ _ _ (T682.setTop (mkF m 92 #[.val (.int p1), .val (.int p2), .val (.int p3), .val (.int p4), .val (.int (6 : Int32)), .val (.ref b323), .val (.ref x_677), .unset, .unset, .unset, .unset, .unset, .unset] []))
      refine own_Go.st (fun _ k => XS.iload X682.here hx rfl (hb hby at_92) rfl k) ?_
      show own_Go _ _ _ _ (T682.setTop (mkF m 94 #[.val (.int p1), .val (.int p2), .val (.int p3), .val (.int p4), .val (.int (6 : Int32)), .val (.ref b323), .val (.ref x_677), .unset, .unset, .unset, .unset, .unset, .unset] [(.int (6 : Int32))]))
      refine own_Go.st (fun _ k => XS.iconst X682.here hx rfl (hb hby at_94) k) ?_
      show own_Go _ _ _ _ (T682.setTop (mkF m 95 #[.val (.int p1), .val (.int p2), .val (.int p3), .val (.int p4), .val (.int (6 : Int32)), .val (.ref b323), .val (.ref x_677), .unset, .unset, .unset, .unset, .unset, .unset] [(.int (1 : Int32)), (.int (6 : Int32))]))
      refine own_Go.st (fun _ k => XS.icmpNo X682.here hx rfl (hb hby at_95) rfl (tlt (by decide : (1 : Int32) < (6 : Int32))).2.2.2 k) ?_
      show own_Go _ _ _ _ (T682.setTop (mkF m 98 #[.val (.int p1), .val (.int p2), .val (.int p3), .val (.int p4), .val (.int (6 : Int32)), .val (.ref b323), .val (.ref x_677), .unset, .unset, .unset, .unset, .unset, .unset] []))
      refine own_Go.st (fun _ k => XS.aload X682.here hx rfl (hb hby at_98) rfl rfl k) ?_
      show own_Go _ _ _ _ (T682.setTop (mkF m 100 #[.val (.int p1), .val (.int p2), .val (.int p3), .val (.int p4), .val (.int (6 : Int32)), .val (.ref b323), .val (.ref x_677), .unset, .unset, .unset, .unset, .unset, .unset] [(.ref x_677)]))
      refine own_Go.st (fun _ k => XS.iconst X682.here hx rfl (hb hby at_100) k) ?_
      show own_Go _ _ _ _ (T682.setTop (mkF m 101 #[.val (.int p1), .val (.int p2), .val (.int p3), .val (.int p4), .val (.int (6 : Int32)), .val (.ref b323), .val (.ref x_677), .unset, .unset, .unset, .unset, .unset, .unset] [(.int (1 : Int32)), (.ref x_677)]))
      refine own_Go.st (fun _ k => XS.aload X682.here hx rfl (hb hby at_101) rfl rfl k) ?_
      show own_Go _ _ _ _ (T682.setTop (mkF m 103 #[.val (.int p1), .val (.int p2), .val (.int p3), .val (.int p4), .val (.int (6 : Int32)), .val (.ref b323), .val (.ref x_677), .unset, .unset, .unset, .unset, .unset, .unset] [(.ref b323), (.int (1 : Int32)), (.ref x_677)]))
      refine own_Go.st (fun _ k => XS.iconst X682.here hx rfl (hb hby at_103) k) ?_
      show own_Go _ _ _ _ (T682.setTop (mkF m 104 #[.val (.int p1), .val (.int p2), .val (.int p3), .val (.int p4), .val (.int (6 : Int32)), .val (.ref b323), .val (.ref x_677), .unset, .unset, .unset, .unset, .unset, .unset] [(.int (1 : Int32)), (.ref b323), (.int (1 : Int32)), (.ref x_677)]))
      have f686 : Arv Z h682 b323 k323 .char (6 : Int32) [(.int c_325), (.int c_331), (.int c_337), (.int c_343), (.int c_349), (.int c_355)] (.int (0 : Int32)) := f680.other W682 (by show @Ne Nat b323 x_677; omega)
      obtain ⟨c687, Ar687, q687, S687, Nn687, H687, G687⟩ := id f686
      have hin687 : ¬ ((1 : Int32) < 0 ∨ c687.slots.size ≤ ((1 : Int32)).toNatClampNeg) := inb_of S687 ⟨by decide, by decide⟩
      have hat687 : c687.slots[((1 : Int32)).toNatClampNeg]? = some (.int c_331) := H687.at hin687 rfl
      refine own_Go.st (X682.caload hx (j := (1 : Int32)) (v := (.int c_331)) (own_rwE e682 Ar687.1) (State.isArrayOf_alike hZ.alike Ar687.2.1) Ar687.2.2 hin687 hat687 (g := (mkF m 104 #[.val (.int p1), .val (.int p2), .val (.int p3), .val (.int p4), .val (.int (6 : Int32)), .val (.ref b323), .val (.ref x_677), .unset, .unset, .unset, .unset, .unset, .unset] [(.int (1 : Int32)), (.ref b323), (.int (1 : Int32)), (.ref x_677)])) rfl rfl (hb hby at_104)) ?_
      show own_Go _ _ _ _ (T682.setTop (mkF m 105 #[.val (.int p1), .val (.int p2), .val (.int p3), .val (.int p4), .val (.int (6 : Int32)), .val (.ref b323), .val (.ref x_677), .unset, .unset, .unset, .unset, .unset, .unset] [(.int c_331), (.int (1 : Int32)), (.ref x_677)]))
      obtain ⟨c688, Ar688, q688, S688, Nn688, H688, G688⟩ := id f685
      have hin688 : ¬ ((1 : Int32) < 0 ∨ c688.slots.size ≤ ((1 : Int32)).toNatClampNeg) := inb_of S688 ⟨by decide, by decide⟩
      obtain ⟨T688, h688, X688, e688, W688, st688⟩ := stC X682 hx hZ e682 Ar688 (j := (1 : Int32)) hin688 (g := (mkF m 105 #[.val (.int p1), .val (.int p2), .val (.int p3), .val (.int p4), .val (.int (6 : Int32)), .val (.ref b323), .val (.ref x_677), .unset, .unset, .unset, .unset, .unset, .unset] [(.int c_331), (.int (1 : Int32)), (.ref x_677)])) rfl rfl (hb hby at_105)
      refine own_Go.st st688 ?_
      have N688 := Fr.snoc X688 N682 (by omega)
      have Sf690 : Safe Z consts_1 s.vm h682 x_677 := Safe.arv hZ.alike f685 (by decide)
      have z688 : h682.size ≤ h688.size := Nat.le_of_eq W688.size.symm
      have f689 := Arv.set Ar688 q688 S688 Nn688 H688 G688 (fits_nar_char _) W688 1 rfl (Nat.le_of_ble_eq_true rfl)
      rw [own_nar (own_up pr331_0)] at f689
      have f691 : Arv Z h688 x_677 k_677 .char (6 : Int32) [(.int c_325), (.int c_331), (.int (0 : Int32)), (.int (0 : Int32)), (.int (0 : Int32)), (.int (0 : Int32))] (.int (0 : Int32)) := f689
      have R688 : CHr Z consts_1 s.vm h0 s.vm h688 := R682.trans (CHr.wr W688 Sf690 R682.1)
      show own_Go _ _ _ _ (T688.setTop (mkF m 106 #[.val (.int p1), .val (.int p2), .val (.int p3), .val (.int p4), .val (.int (6 : Int32)), .val (.ref b323), .val (.ref x_677), .unset, .unset, .unset, .unset, .unset, .unset] []))
      refine own_Go.st (fun _ k => XS.iload X688.here hx rfl (hb hby at_106) rfl k) ?_
      show own_Go _ _ _ _ (T688.setTop (mkF m 108 #[.val (.int p1), .val (.int p2), .val (.int p3), .val (.int p4), .val (.int (6 : Int32)), .val (.ref b323), .val (.ref x_677), .unset, .unset, .unset, .unset, .unset, .unset] [(.int (6 : Int32))]))
      refine own_Go.st (fun _ k => XS.iconst X688.here hx rfl (hb hby at_108) k) ?_
      show own_Go _ _ _ _ (T688.setTop (mkF m 109 #[.val (.int p1), .val (.int p2), .val (.int p3), .val (.int p4), .val (.int (6 : Int32)), .val (.ref b323), .val (.ref x_677), .unset, .unset, .unset, .unset, .unset, .unset] [(.int (2 : Int32)), (.int (6 : Int32))]))
      refine own_Go.st (fun _ k => XS.icmpNo X688.here hx rfl (hb hby at_109) rfl (tlt (by decide : (2 : Int32) < (6 : Int32))).2.2.2 k) ?_
      show own_Go _ _ _ _ (T688.setTop (mkF m 112 #[.val (.int p1), .val (.int p2), .val (.int p3), .val (.int p4), .val (.int (6 : Int32)), .val (.ref b323), .val (.ref x_677), .unset, .unset, .unset, .unset, .unset, .unset] []))
      refine own_Go.st (fun _ k => XS.aload X688.here hx rfl (hb hby at_112) rfl rfl k) ?_
      show own_Go _ _ _ _ (T688.setTop (mkF m 114 #[.val (.int p1), .val (.int p2), .val (.int p3), .val (.int p4), .val (.int (6 : Int32)), .val (.ref b323), .val (.ref x_677), .unset, .unset, .unset, .unset, .unset, .unset] [(.ref x_677)]))
      refine own_Go.st (fun _ k => XS.iconst X688.here hx rfl (hb hby at_114) k) ?_
      show own_Go _ _ _ _ (T688.setTop (mkF m 115 #[.val (.int p1), .val (.int p2), .val (.int p3), .val (.int p4), .val (.int (6 : Int32)), .val (.ref b323), .val (.ref x_677), .unset, .unset, .unset, .unset, .unset, .unset] [(.int (2 : Int32)), (.ref x_677)]))
      refine own_Go.st (fun _ k => XS.aload X688.here hx rfl (hb hby at_115) rfl rfl k) ?_
      show own_Go _ _ _ _ (T688.setTop (mkF m 117 #[.val (.int p1), .val (.int p2), .val (.int p3), .val (.int p4), .val (.int (6 : Int32)), .val (.ref b323), .val (.ref x_677), .unset, .unset, .unset, .unset, .unset, .unset] [(.ref b323), (.int (2 : Int32)), (.ref x_677)]))
      refine own_Go.st (fun _ k => XS.iconst X688.here hx rfl (hb hby at_117) k) ?_
      show own_Go _ _ _ _ (T688.setTop (mkF m 118 #[.val (.int p1), .val (.int p2), .val (.int p3), .val (.int p4), .val (.int (6 : Int32)), .val (.ref b323), .val (.ref x_677), .unset, .unset, .unset, .unset, .unset, .unset] [(.int (2 : Int32)), (.ref b323), (.int (2 : Int32)), (.ref x_677)]))
      have f692 : Arv Z h688 b323 k323 .char (6 : Int32) [(.int c_325), (.int c_331), (.int c_337), (.int c_343), (.int c_349), (.int c_355)] (.int (0 : Int32)) := f686.other W688 (by show @Ne Nat b323 x_677; omega)
      obtain ⟨c693, Ar693, q693, S693, Nn693, H693, G693⟩ := id f692
      have hin693 : ¬ ((2 : Int32) < 0 ∨ c693.slots.size ≤ ((2 : Int32)).toNatClampNeg) := inb_of S693 ⟨by decide, by decide⟩
      have hat693 : c693.slots[((2 : Int32)).toNatClampNeg]? = some (.int c_337) := H693.at hin693 rfl
      refine own_Go.st (X688.caload hx (j := (2 : Int32)) (v := (.int c_337)) (own_rwE e688 Ar693.1) (State.isArrayOf_alike hZ.alike Ar693.2.1) Ar693.2.2 hin693 hat693 (g := (mkF m 118 #[.val (.int p1), .val (.int p2), .val (.int p3), .val (.int p4), .val (.int (6 : Int32)), .val (.ref b323), .val (.ref x_677), .unset, .unset, .unset, .unset, .unset, .unset] [(.int (2 : Int32)), (.ref b323), (.int (2 : Int32)), (.ref x_677)])) rfl rfl (hb hby at_118)) ?_
      show own_Go _ _ _ _ (T688.setTop (mkF m 119 #[.val (.int p1), .val (.int p2), .val (.int p3), .val (.int p4), .val (.int (6 : Int32)), .val (.ref b323), .val (.ref x_677), .unset, .unset, .unset, .unset, .unset, .unset] [(.int c_337), (.int (2 : Int32)), (.ref x_677)]))
      obtain ⟨c694, Ar694, q694, S694, Nn694, H694, G694⟩ := id f691
      have hin694 : ¬ ((2 : Int32) < 0 ∨ c694.slots.size ≤ ((2 : Int32)).toNatClampNeg) := inb_of S694 ⟨by decide, by decide⟩
      obtain ⟨T694, h694, X694, e694, W694, st694⟩ := stC X688 hx hZ e688 Ar694 (j := (2 : Int32)) hin694 (g := (mkF m 119 #[.val (.int p1), .val (.int p2), .val (.int p3), .val (.int p4), .val (.int (6 : Int32)), .val (.ref b323), .val (.ref x_677), .unset, .unset, .unset, .unset, .unset, .unset] [(.int c_337), (.int (2 : Int32)), (.ref x_677)])) rfl rfl (hb hby at_119)
      refine own_Go.st st694 ?_
      have N694 := Fr.snoc X694 N688 (by omega)
      have Sf696 : Safe Z consts_1 s.vm h688 x_677 := Safe.arv hZ.alike f691 (by decide)
      have z694 : h688.size ≤ h694.size := Nat.le_of_eq W694.size.symm
      have f695 := Arv.set Ar694 q694 S694 Nn694 H694 G694 (fits_nar_char _) W694 2 rfl (Nat.le_of_ble_eq_true rfl)
      rw [own_nar (own_up pr337_0)] at f695
      have f697 : Arv Z h694 x_677 k_677 .char (6 : Int32) [(.int c_325), (.int c_331), (.int c_337), (.int (0 : Int32)), (.int (0 : Int32)), (.int (0 : Int32))] (.int (0 : Int32)) := f695
      have R694 : CHr Z consts_1 s.vm h0 s.vm h694 := R688.trans (CHr.wr W694 Sf696 R688.1)
      show own_Go _ _ _ _ (T694.setTop (mkF m 120 #[.val (.int p1), .val (.int p2), .val (.int p3), .val (.int p4), .val (.int (6 : Int32)), .val (.ref b323), .val (.ref x_677), .unset, .unset, .unset, .unset, .unset, .unset] []))
      refine own_Go.st (fun _ k => XS.iload X694.here hx rfl (hb hby at_120) rfl k) ?_
      show own_Go _ _ _ _ (T694.setTop (mkF m 122 #[.val (.int p1), .val (.int p2), .val (.int p3), .val (.int p4), .val (.int (6 : Int32)), .val (.ref b323), .val (.ref x_677), .unset, .unset, .unset, .unset, .unset, .unset] [(.int (6 : Int32))]))
      refine own_Go.st (fun _ k => XS.iconst X694.here hx rfl (hb hby at_122) k) ?_
      show own_Go _ _ _ _ (T694.setTop (mkF m 123 #[.val (.int p1), .val (.int p2), .val (.int p3), .val (.int p4), .val (.int (6 : Int32)), .val (.ref b323), .val (.ref x_677), .unset, .unset, .unset, .unset, .unset, .unset] [(.int (3 : Int32)), (.int (6 : Int32))]))
      refine own_Go.st (fun _ k => XS.icmpNo X694.here hx rfl (hb hby at_123) rfl (tlt (by decide : (3 : Int32) < (6 : Int32))).2.2.2 k) ?_
      show own_Go _ _ _ _ (T694.setTop (mkF m 126 #[.val (.int p1), .val (.int p2), .val (.int p3), .val (.int p4), .val (.int (6 : Int32)), .val (.ref b323), .val (.ref x_677), .unset, .unset, .unset, .unset, .unset, .unset] []))
      refine own_Go.st (fun _ k => XS.aload X694.here hx rfl (hb hby at_126) rfl rfl k) ?_
      show own_Go _ _ _ _ (T694.setTop (mkF m 128 #[.val (.int p1), .val (.int p2), .val (.int p3), .val (.int p4), .val (.int (6 : Int32)), .val (.ref b323), .val (.ref x_677), .unset, .unset, .unset, .unset, .unset, .unset] [(.ref x_677)]))
      refine own_Go.st (fun _ k => XS.iconst X694.here hx rfl (hb hby at_128) k) ?_
      show own_Go _ _ _ _ (T694.setTop (mkF m 129 #[.val (.int p1), .val (.int p2), .val (.int p3), .val (.int p4), .val (.int (6 : Int32)), .val (.ref b323), .val (.ref x_677), .unset, .unset, .unset, .unset, .unset, .unset] [(.int (3 : Int32)), (.ref x_677)]))
      refine own_Go.st (fun _ k => XS.aload X694.here hx rfl (hb hby at_129) rfl rfl k) ?_
      show own_Go _ _ _ _ (T694.setTop (mkF m 131 #[.val (.int p1), .val (.int p2), .val (.int p3), .val (.int p4), .val (.int (6 : Int32)), .val (.ref b323), .val (.ref x_677), .unset, .unset, .unset, .unset, .unset, .unset] [(.ref b323), (.int (3 : Int32)), (.ref x_677)]))
      refine own_Go.st (fun _ k => XS.iconst X694.here hx rfl (hb hby at_131) k) ?_
      show own_Go _ _ _ _ (T694.setTop (mkF m 132 #[.val (.int p1), .val (.int p2), .val (.int p3), .val (.int p4), .val (.int (6 : Int32)), .val (.ref b323), .val (.ref x_677), .unset, .unset, .unset, .unset, .unset, .unset] [(.int (3 : Int32)), (.ref b323), (.int (3 : Int32)), (.ref x_677)]))
      have f698 : Arv Z h694 b323 k323 .char (6 : Int32) [(.int c_325), (.int c_331), (.int c_337), (.int c_343), (.int c_349), (.int c_355)] (.int (0 : Int32)) := f692.other W694 (by show @Ne Nat b323 x_677; omega)
      obtain ⟨c699, Ar699, q699, S699, Nn699, H699, G699⟩ := id f698
      have hin699 : ¬ ((3 : Int32) < 0 ∨ c699.slots.size ≤ ((3 : Int32)).toNatClampNeg) := inb_of S699 ⟨by decide, by decide⟩
      have hat699 : c699.slots[((3 : Int32)).toNatClampNeg]? = some (.int c_343) := H699.at hin699 rfl
      refine own_Go.st (X694.caload hx (j := (3 : Int32)) (v := (.int c_343)) (own_rwE e694 Ar699.1) (State.isArrayOf_alike hZ.alike Ar699.2.1) Ar699.2.2 hin699 hat699 (g := (mkF m 132 #[.val (.int p1), .val (.int p2), .val (.int p3), .val (.int p4), .val (.int (6 : Int32)), .val (.ref b323), .val (.ref x_677), .unset, .unset, .unset, .unset, .unset, .unset] [(.int (3 : Int32)), (.ref b323), (.int (3 : Int32)), (.ref x_677)])) rfl rfl (hb hby at_132)) ?_
      show own_Go _ _ _ _ (T694.setTop (mkF m 133 #[.val (.int p1), .val (.int p2), .val (.int p3), .val (.int p4), .val (.int (6 : Int32)), .val (.ref b323), .val (.ref x_677), .unset, .unset, .unset, .unset, .unset, .unset] [(.int c_343), (.int (3 : Int32)), (.ref x_677)]))
      obtain ⟨c700, Ar700, q700, S700, Nn700, H700, G700⟩ := id f697
      have hin700 : ¬ ((3 : Int32) < 0 ∨ c700.slots.size ≤ ((3 : Int32)).toNatClampNeg) := inb_of S700 ⟨by decide, by decide⟩
      obtain ⟨T700, h700, X700, e700, W700, st700⟩ := stC X694 hx hZ e694 Ar700 (j := (3 : Int32)) hin700 (g := (mkF m 133 #[.val (.int p1), .val (.int p2), .val (.int p3), .val (.int p4), .val (.int (6 : Int32)), .val (.ref b323), .val (.ref x_677), .unset, .unset, .unset, .unset, .unset, .unset] [(.int c_343), (.int (3 : Int32)), (.ref x_677)])) rfl rfl (hb hby at_133)
      refine own_Go.st st700 ?_
      have N700 := Fr.snoc X700 N694 (by omega)
      have Sf702 : Safe Z consts_1 s.vm h694 x_677 := Safe.arv hZ.alike f697 (by decide)
      have z700 : h694.size ≤ h700.size := Nat.le_of_eq W700.size.symm
      have f701 := Arv.set Ar700 q700 S700 Nn700 H700 G700 (fits_nar_char _) W700 3 rfl (Nat.le_of_ble_eq_true rfl)
      rw [own_nar (own_up pr343_0)] at f701
      have f703 : Arv Z h700 x_677 k_677 .char (6 : Int32) [(.int c_325), (.int c_331), (.int c_337), (.int c_343), (.int (0 : Int32)), (.int (0 : Int32))] (.int (0 : Int32)) := f701
      have R700 : CHr Z consts_1 s.vm h0 s.vm h700 := R694.trans (CHr.wr W700 Sf702 R694.1)
      show own_Go _ _ _ _ (T700.setTop (mkF m 134 #[.val (.int p1), .val (.int p2), .val (.int p3), .val (.int p4), .val (.int (6 : Int32)), .val (.ref b323), .val (.ref x_677), .unset, .unset, .unset, .unset, .unset, .unset] []))
      refine own_Go.st (fun _ k => XS.iload X700.here hx rfl (hb hby at_134) rfl k) ?_
      show own_Go _ _ _ _ (T700.setTop (mkF m 136 #[.val (.int p1), .val (.int p2), .val (.int p3), .val (.int p4), .val (.int (6 : Int32)), .val (.ref b323), .val (.ref x_677), .unset, .unset, .unset, .unset, .unset, .unset] [(.int (6 : Int32))]))
      refine own_Go.st (fun _ k => XS.iconst X700.here hx rfl (hb hby at_136) k) ?_
      show own_Go _ _ _ _ (T700.setTop (mkF m 137 #[.val (.int p1), .val (.int p2), .val (.int p3), .val (.int p4), .val (.int (6 : Int32)), .val (.ref b323), .val (.ref x_677), .unset, .unset, .unset, .unset, .unset, .unset] [(.int (4 : Int32)), (.int (6 : Int32))]))
      refine own_Go.st (fun _ k => XS.icmpNo X700.here hx rfl (hb hby at_137) rfl (tlt (by decide : (4 : Int32) < (6 : Int32))).2.2.2 k) ?_
      show own_Go _ _ _ _ (T700.setTop (mkF m 140 #[.val (.int p1), .val (.int p2), .val (.int p3), .val (.int p4), .val (.int (6 : Int32)), .val (.ref b323), .val (.ref x_677), .unset, .unset, .unset, .unset, .unset, .unset] []))
      refine own_Go.st (fun _ k => XS.aload X700.here hx rfl (hb hby at_140) rfl rfl k) ?_
      show own_Go _ _ _ _ (T700.setTop (mkF m 142 #[.val (.int p1), .val (.int p2), .val (.int p3), .val (.int p4), .val (.int (6 : Int32)), .val (.ref b323), .val (.ref x_677), .unset, .unset, .unset, .unset, .unset, .unset] [(.ref x_677)]))
      refine own_Go.st (fun _ k => XS.iconst X700.here hx rfl (hb hby at_142) k) ?_
      show own_Go _ _ _ _ (T700.setTop (mkF m 143 #[.val (.int p1), .val (.int p2), .val (.int p3), .val (.int p4), .val (.int (6 : Int32)), .val (.ref b323), .val (.ref x_677), .unset, .unset, .unset, .unset, .unset, .unset] [(.int (4 : Int32)), (.ref x_677)]))
      refine own_Go.st (fun _ k => XS.aload X700.here hx rfl (hb hby at_143) rfl rfl k) ?_
      show own_Go _ _ _ _ (T700.setTop (mkF m 145 #[.val (.int p1), .val (.int p2), .val (.int p3), .val (.int p4), .val (.int (6 : Int32)), .val (.ref b323), .val (.ref x_677), .unset, .unset, .unset, .unset, .unset, .unset] [(.ref b323), (.int (4 : Int32)), (.ref x_677)]))
      refine own_Go.st (fun _ k => XS.iconst X700.here hx rfl (hb hby at_145) k) ?_
      show own_Go _ _ _ _ (T700.setTop (mkF m 146 #[.val (.int p1), .val (.int p2), .val (.int p3), .val (.int p4), .val (.int (6 : Int32)), .val (.ref b323), .val (.ref x_677), .unset, .unset, .unset, .unset, .unset, .unset] [(.int (4 : Int32)), (.ref b323), (.int (4 : Int32)), (.ref x_677)]))
      have f704 : Arv Z h700 b323 k323 .char (6 : Int32) [(.int c_325), (.int c_331), (.int c_337), (.int c_343), (.int c_349), (.int c_355)] (.int (0 : Int32)) := f698.other W700 (by show @Ne Nat b323 x_677; omega)
      obtain ⟨c705, Ar705, q705, S705, Nn705, H705, G705⟩ := id f704
      have hin705 : ¬ ((4 : Int32) < 0 ∨ c705.slots.size ≤ ((4 : Int32)).toNatClampNeg) := inb_of S705 ⟨by decide, by decide⟩
      have hat705 : c705.slots[((4 : Int32)).toNatClampNeg]? = some (.int c_349) := H705.at hin705 rfl
      refine own_Go.st (X700.caload hx (j := (4 : Int32)) (v := (.int c_349)) (own_rwE e700 Ar705.1) (State.isArrayOf_alike hZ.alike Ar705.2.1) Ar705.2.2 hin705 hat705 (g := (mkF m 146 #[.val (.int p1), .val (.int p2), .val (.int p3), .val (.int p4), .val (.int (6 : Int32)), .val (.ref b323), .val (.ref x_677), .unset, .unset, .unset, .unset, .unset, .unset] [(.int (4 : Int32)), (.ref b323), (.int (4 : Int32)), (.ref x_677)])) rfl rfl (hb hby at_146)) ?_
      show own_Go _ _ _ _ (T700.setTop (mkF m 147 #[.val (.int p1), .val (.int p2), .val (.int p3), .val (.int p4), .val (.int (6 : Int32)), .val (.ref b323), .val (.ref x_677), .unset, .unset, .unset, .unset, .unset, .unset] [(.int c_349), (.int (4 : Int32)), (.ref x_677)]))
      obtain ⟨c706, Ar706, q706, S706, Nn706, H706, G706⟩ := id f703
      have hin706 : ¬ ((4 : Int32) < 0 ∨ c706.slots.size ≤ ((4 : Int32)).toNatClampNeg) := inb_of S706 ⟨by decide, by decide⟩
      obtain ⟨T706, h706, X706, e706, W706, st706⟩ := stC X700 hx hZ e700 Ar706 (j := (4 : Int32)) hin706 (g := (mkF m 147 #[.val (.int p1), .val (.int p2), .val (.int p3), .val (.int p4), .val (.int (6 : Int32)), .val (.ref b323), .val (.ref x_677), .unset, .unset, .unset, .unset, .unset, .unset] [(.int c_349), (.int (4 : Int32)), (.ref x_677)])) rfl rfl (hb hby at_147)
      refine own_Go.st st706 ?_
      have N706 := Fr.snoc X706 N700 (by omega)
      have Sf708 : Safe Z consts_1 s.vm h700 x_677 := Safe.arv hZ.alike f703 (by decide)
      have z706 : h700.size ≤ h706.size := Nat.le_of_eq W706.size.symm
      have f707 := Arv.set Ar706 q706 S706 Nn706 H706 G706 (fits_nar_char _) W706 4 rfl (Nat.le_of_ble_eq_true rfl)
      rw [own_nar (own_up pr349_0)] at f707
      have f709 : Arv Z h706 x_677 k_677 .char (6 : Int32) [(.int c_325), (.int c_331), (.int c_337), (.int c_343), (.int c_349), (.int (0 : Int32))] (.int (0 : Int32)) := f707
      have R706 : CHr Z consts_1 s.vm h0 s.vm h706 := R700.trans (CHr.wr W706 Sf708 R700.1)
      show own_Go _ _ _ _ (T706.setTop (mkF m 148 #[.val (.int p1), .val (.int p2), .val (.int p3), .val (.int p4), .val (.int (6 : Int32)), .val (.ref b323), .val (.ref x_677), .unset, .unset, .unset, .unset, .unset, .unset] []))
      refine own_Go.st (fun _ k => XS.iload X706.here hx rfl (hb hby at_148) rfl k) ?_
      show own_Go _ _ _ _ (T706.setTop (mkF m 150 #[.val (.int p1), .val (.int p2), .val (.int p3), .val (.int p4), .val (.int (6 : Int32)), .val (.ref b323), .val (.ref x_677), .unset, .unset, .unset, .unset, .unset, .unset] [(.int (6 : Int32))]))
      refine own_Go.st (fun _ k => XS.iconst X706.here hx rfl (hb hby at_150) k) ?_
      show own_Go _ _ _ _ (T706.setTop (mkF m 151 #[.val (.int p1), .val (.int p2), .val (.int p3), .val (.int p4), .val (.int (6 : Int32)), .val (.ref b323), .val (.ref x_677), .unset, .unset, .unset, .unset, .unset, .unset] [(.int (5 : Int32)), (.int (6 : Int32))]))
      refine own_Go.st (fun _ k => XS.icmpNo X706.here hx rfl (hb hby at_151) rfl (tlt (by decide : (5 : Int32) < (6 : Int32))).2.2.2 k) ?_
      show own_Go _ _ _ _ (T706.setTop (mkF m 154 #[.val (.int p1), .val (.int p2), .val (.int p3), .val (.int p4), .val (.int (6 : Int32)), .val (.ref b323), .val (.ref x_677), .unset, .unset, .unset, .unset, .unset, .unset] []))
      refine own_Go.st (fun _ k => XS.aload X706.here hx rfl (hb hby at_154) rfl rfl k) ?_
      show own_Go _ _ _ _ (T706.setTop (mkF m 156 #[.val (.int p1), .val (.int p2), .val (.int p3), .val (.int p4), .val (.int (6 : Int32)), .val (.ref b323), .val (.ref x_677), .unset, .unset, .unset, .unset, .unset, .unset] [(.ref x_677)]))
      refine own_Go.st (fun _ k => XS.iconst X706.here hx rfl (hb hby at_156) k) ?_
      show own_Go _ _ _ _ (T706.setTop (mkF m 157 #[.val (.int p1), .val (.int p2), .val (.int p3), .val (.int p4), .val (.int (6 : Int32)), .val (.ref b323), .val (.ref x_677), .unset, .unset, .unset, .unset, .unset, .unset] [(.int (5 : Int32)), (.ref x_677)]))
      refine own_Go.st (fun _ k => XS.aload X706.here hx rfl (hb hby at_157) rfl rfl k) ?_
      show own_Go _ _ _ _ (T706.setTop (mkF m 159 #[.val (.int p1), .val (.int p2), .val (.int p3), .val (.int p4), .val (.int (6 : Int32)), .val (.ref b323), .val (.ref x_677), .unset, .unset, .unset, .unset, .unset, .unset] [(.ref b323), (.int (5 : Int32)), (.ref x_677)]))
      refine own_Go.st (fun _ k => XS.iconst X706.here hx rfl (hb hby at_159) k) ?_
      show own_Go _ _ _ _ (T706.setTop (mkF m 160 #[.val (.int p1), .val (.int p2), .val (.int p3), .val (.int p4), .val (.int (6 : Int32)), .val (.ref b323), .val (.ref x_677), .unset, .unset, .unset, .unset, .unset, .unset] [(.int (5 : Int32)), (.ref b323), (.int (5 : Int32)), (.ref x_677)]))
      have f710 : Arv Z h706 b323 k323 .char (6 : Int32) [(.int c_325), (.int c_331), (.int c_337), (.int c_343), (.int c_349), (.int c_355)] (.int (0 : Int32)) := f704.other W706 (by show @Ne Nat b323 x_677; omega)
      obtain ⟨c711, Ar711, q711, S711, Nn711, H711, G711⟩ := id f710
      have hin711 : ¬ ((5 : Int32) < 0 ∨ c711.slots.size ≤ ((5 : Int32)).toNatClampNeg) := inb_of S711 ⟨by decide, by decide⟩
      have hat711 : c711.slots[((5 : Int32)).toNatClampNeg]? = some (.int c_355) := H711.at hin711 rfl
      refine own_Go.st (X706.caload hx (j := (5 : Int32)) (v := (.int c_355)) (own_rwE e706 Ar711.1) (State.isArrayOf_alike hZ.alike Ar711.2.1) Ar711.2.2 hin711 hat711 (g := (mkF m 160 #[.val (.int p1), .val (.int p2), .val (.int p3), .val (.int p4), .val (.int (6 : Int32)), .val (.ref b323), .val (.ref x_677), .unset, .unset, .unset, .unset, .unset, .unset] [(.int (5 : Int32)), (.ref b323), (.int (5 : Int32)), (.ref x_677)])) rfl rfl (hb hby at_160)) ?_
      show own_Go _ _ _ _ (T706.setTop (mkF m 161 #[.val (.int p1), .val (.int p2), .val (.int p3), .val (.int p4), .val (.int (6 : Int32)), .val (.ref b323), .val (.ref x_677), .unset, .unset, .unset, .unset, .unset, .unset] [(.int c_355), (.int (5 : Int32)), (.ref x_677)]))
      obtain ⟨c712, Ar712, q712, S712, Nn712, H712, G712⟩ := id f709
      have hin712 : ¬ ((5 : Int32) < 0 ∨ c712.slots.size ≤ ((5 : Int32)).toNatClampNeg) := inb_of S712 ⟨by decide, by decide⟩
      obtain ⟨T712, h712, X712, e712, W712, st712⟩ := stC X706 hx hZ e706 Ar712 (j := (5 : Int32)) hin712 (g := (mkF m 161 #[.val (.int p1), .val (.int p2), .val (.int p3), .val (.int p4), .val (.int (6 : Int32)), .val (.ref b323), .val (.ref x_677), .unset, .unset, .unset, .unset, .unset, .unset] [(.int c_355), (.int (5 : Int32)), (.ref x_677)])) rfl rfl (hb hby at_161)
      refine own_Go.st st712 ?_
      have N712 := Fr.snoc X712 N706 (by omega)
      have Sf714 : Safe Z consts_1 s.vm h706 x_677 := Safe.arv hZ.alike f709 (by decide)
      have z712 : h706.size ≤ h712.size := Nat.le_of_eq W712.size.symm
      have f713 := Arv.set Ar712 q712 S712 Nn712 H712 G712 (fits_nar_char _) W712 5 rfl (Nat.le_of_ble_eq_true rfl)
      rw [own_nar (own_up pr355_0)] at f713
      have f715 : Arv Z h712 x_677 k_677 .char (6 : Int32) [(.int c_325), (.int c_331), (.int c_337), (.int c_343), (.int c_349), (.int c_355)] (.int (0 : Int32)) := f713
      have R712 : CHr Z consts_1 s.vm h0 s.vm h712 := R706.trans (CHr.wr W712 Sf714 R706.1)
      show own_Go _ _ _ _ (T712.setTop (mkF m 162 #[.val (.int p1), .val (.int p2), .val (.int p3), .val (.int p4), .val (.int (6 : Int32)), .val (.ref b323), .val (.ref x_677), .unset, .unset, .unset, .unset, .unset, .unset] []))
      obtain ⟨T716, h716, X716, e716, E716, A716, D716, U716, st716⟩ := newO X712 hx hZ hown (hw _ (List.mem_of_getElem? (i := 9) rfl)) (hw _ (List.mem_of_getElem? (i := 10) rfl)) (hw _ (List.mem_of_getElem? (i := 11) rfl)) e712 (g := (mkF m 162 #[.val (.int p1), .val (.int p2), .val (.int p3), .val (.int p4), .val (.int (6 : Int32)), .val (.ref b323), .val (.ref x_677), .unset, .unset, .unset, .unset, .unset, .unset] [])) rfl (hb hby at_162) (by decide) (by decide)
      obtain ⟨b716, g716⟩ : ∃ z, z = h712.size := ⟨_, rfl⟩
      rw [← g716] at A716 D716 U716 st716
      refine own_Go.st st716 ?_
      have z716 : h712.size ≤ h716.size := E716.1
      have lt_b716 : @LT.lt Nat _ b716 h716.size := A716.lt
      have f717 : Fld Z h716 b716 "java/lang/String" "value" "[B" .null := D716 (Or.inr (hw _ (List.mem_of_getElem? (i := 24) rfl))) (ty := (.array .byte)) (by decide)
      have f718 : Fld Z h716 b716 "java/lang/String" "coder" "B" (.int (0 : Int32)) := D716 (Or.inr (hw _ (List.mem_of_getElem? (i := 25) rfl))) (ty := .byte) (by decide)
      have R716 : CHr Z consts_1 s.vm h0 s.vm h716 := R712.trans (CHr.ext E716 R712.1)
      have Sf716 : Safe Z consts_1 s.vm h716 b716 := (Safe.new (Nat.le_of_eq g716.symm)).ext E716 R712.1
      show own_Go _ _ _ _ (T716.setTop (mkF m 165 #[.val (.int p1), .val (.int p2), .val (.int p3), .val (.int p4), .val (.int (6 : Int32)), .val (.ref b323), .val (.ref x_677), .unset, .unset, .unset, .unset, .unset, .unset] [(.ref b716)]))
      refine own_Go.st (fun _ k => XS.dup X716.here hx rfl (hb hby at_165) rfl rfl k) ?_
      show own_Go _ _ _ _ (T716.setTop (mkF m 166 #[.val (.int p1), .val (.int p2), .val (.int p3), .val (.int p4), .val (.int (6 : Int32)), .val (.ref b323), .val (.ref x_677), .unset, .unset, .unset, .unset, .unset, .unset] [(.ref b716), (.ref b716)]))
      refine own_Go.st (fun _ k => XS.aload X716.here hx rfl (hb hby at_166) rfl rfl k) ?_
      show own_Go _ _ _ _ (T716.setTop (mkF m 168 #[.val (.int p1), .val (.int p2), .val (.int p3), .val (.int p4), .val (.int (6 : Int32)), .val (.ref b323), .val (.ref x_677), .unset, .unset, .unset, .unset, .unset, .unset] [(.ref x_677), (.ref b716), (.ref b716)]))
      have f720 : Arv Z h716 x_677 k_677 .char (6 : Int32) [(.int c_325), (.int c_331), (.int c_337), (.int c_343), (.int c_349), (.int c_355)] (.int (0 : Int32)) := f715.ext E716
      have f721 : Old Z Z.heap.size T677.heap := f678.keep K677 all0
      have f722 : Old Z Z.heap.size h682 := f721.wr W682 (by omega)
      have f723 : Old Z Z.heap.size h688 := f722.wr W688 (by omega)
      have f724 : Old Z Z.heap.size h694 := f723.wr W694 (by omega)
      have f725 : Old Z Z.heap.size h700 := f724.wr W700 (by omega)
      have f726 : Old Z Z.heap.size h706 := f725.wr W706 (by omega)
      have f727 : Old Z Z.heap.size h712 := f726.wr W712 (by omega)
      have f728 : Old Z Z.heap.size h716 := f727.ext E716
      have hp719 : ∀ c ∈ ([c_325, c_331, c_337, c_343, c_349, c_355] : List Int32), ¬ c < 0 ∧ ¬ (255 : Int32) < c := (own_aS pr325_0 (own_aS pr331_0 (own_aS pr337_0 (own_aS pr343_0 (own_aS pr349_0 (own_aS pr355_0 own_a0))))))
      obtain ⟨_, _, ⟨T719, L719, k719, n719⟩, -, X719, ⟨Lc719, hQ719, l719, y719, z719⟩, st719⟩ := X716.specialBack hx (y := (⟨"java/lang/String", "<init>", "([C)V"⟩ : MethodName)) rfl hown (mvT hZ (hw _ (List.mem_of_getElem? (i := 12) rfl))) (mvT hZ (hw _ (List.mem_of_getElem? (i := 13) rfl))) (mvT hZ (hw _ (List.mem_of_getElem? (i := 14) rfl))) (by decide) (StrChars.Road.backV (W := 1) hZ (own_hws hw) (kI := 4) (hw _ (List.mem_of_getElem? (i := 10) rfl)) (cs := ([c_325, c_331, c_337, c_343, c_349, c_355] : List Int32)) (bs := (([c_325, c_331, c_337, c_343, c_349, c_355] : List Int32)).map (fun c => c.toInt8.toInt32)) (n := 6) (n0 := Z.heap.size) (by omega) (by omega) A716 f717 f718 f720 (st_COMPACT_STRINGS.ext f728.2) hzc rfl rfl (by decide) (by decide) hp719 rfl (by decide) (by decide)) (g := (mkF m 168 #[.val (.int p1), .val (.int p2), .val (.int p3), .val (.int p4), .val (.int (6 : Int32)), .val (.ref b323), .val (.ref x_677), .unset, .unset, .unset, .unset, .unset, .unset] [(.ref x_677), (.ref b716), (.ref b716)])) rfl (by rw [hml]; rfl) (Steps.refl _) (a := b716) (argsL := [(.ref x_677)]) (rest := [(.ref b716)]) (lenOf pd_405 rfl) rfl (by show 2 * 0 + _ ≤ _; exact Nat.le_of_eq rfl) (hb hby at_168) (fun _ _ => ⟨rfl, e716, (by decide : 3 + 1 ≤ _), (by decide : 16 + 6 ≤ _)⟩)
      dsimp only [Pt.U, Pt.locs, Pt.cells, Pt.slots] at X719 l719 y719 z719 st719 hQ719
      subst l719 y719 z719
      obtain ⟨rfl, N719q, K719, Ex719, Cd719, t719, kb719, u719, v719, w719, Vl719, Ar719⟩ := hQ719
      have N719 := Fr.app N712 N719q
      have z719 : h716.size ≤ T719.heap.size := K719.1
      have R719 : CHr Z consts_1 s.vm h0 s.vm T719.heap := R716.trans (CHr.keep K719 (sfS Sf716 sf0) R716.1)
      have Sf729 : Safe Z consts_1 s.vm T719.heap b716 := Safe.keep K719 (sfS Sf716 sf0) R716.1 Sf716
      have fT719 : own_Str Z T719.heap b716 t719 ([c_325, c_331, c_337, c_343, c_349, c_355] : List Int32) := ⟨kb719, 0, (6 : Int32), _, Ex719, Vl719, Cd719, Ar719, StrChars.Road.codOf rfl (fun c q => (hp719 c q).2), own_upL hp719, (Nat.le_of_ble_eq_true rfl)⟩
      have lt719 : @LT.lt Nat _ t719 T719.heap.size := fT719.ltv
      refine own_Go.tr st719 ?_
      show own_Go _ _ _ _ (T719.setTop (mkF m 171 #[.val (.int p1), .val (.int p2), .val (.int p3), .val (.int p4), .val (.int (6 : Int32)), .val (.ref b323), .val (.ref x_677), .unset, .unset, .unset, .unset, .unset, .unset] [(.ref b716)]))
      have f730 : Arv Z h712 b323 k323 .char (6 : Int32) [(.int c_325), (.int c_331), (.int c_337), (.int c_343), (.int c_349), (.int c_355)] (.int (0 : Int32)) := f710.other W712 (by show @Ne Nat b323 x_677; omega)
      have f731 : Arv Z h716 b323 k323 .char (6 : Int32) [(.int c_325), (.int c_331), (.int c_337), (.int c_343), (.int c_349), (.int c_355)] (.int (0 : Int32)) := f730.ext E716
      have f732 : Arv Z T719.heap b323 k323 .char (6 : Int32) [(.int c_325), (.int c_331), (.int c_337), (.int c_343), (.int c_349), (.int c_355)] (.int (0 : Int32)) := f731.keep K719 (ninS (by show @Ne Nat b323 b716; omega) nin0)
      have K733 : Keep h0 h323 [] := (Keep.refl h0 []).ext E323
      have K734 : Keep h0 h327 [] := K733.wr W327 (Or.inr (by omega))
      have K735 : Keep h0 h333 [] := K734.wr W333 (Or.inr (by omega))
      have K736 : Keep h0 h339 [] := K735.wr W339 (Or.inr (by omega))
      have K737 : Keep h0 h345 [] := K736.wr W345 (Or.inr (by omega))
      have K738 : Keep h0 h351 [] := K737.wr W351 (Or.inr (by omega))
      have K739 : Keep h0 h357 [] := K738.wr W357 (Or.inr (by omega))
      have K740 : Keep h0 T677.heap [] := K739.trans K677 all0
      have K741 : Keep h0 h682 [] := K740.wr W682 (Or.inr (by omega))
      have K742 : Keep h0 h688 [] := K741.wr W688 (Or.inr (by omega))
      have K743 : Keep h0 h694 [] := K742.wr W694 (Or.inr (by omega))
      have K744 : Keep h0 h700 [] := K743.wr W700 (Or.inr (by omega))
      have K745 : Keep h0 h706 [] := K744.wr W706 (Or.inr (by omega))
      have K746 : Keep h0 h712 [] := K745.wr W712 (Or.inr (by omega))
      have K747 : Keep h0 h716 [] := K746.ext E716
      have K748 : Keep h0 T719.heap [] := K747.trans K719 (allS (Or.inr (by omega)) all0)
      have f749 : Old Z Z.heap.size T719.heap := f728.keep K719 (allS (by omega) all0)
      exact HJ361 [c_325, c_331, c_337, c_343, c_349, c_355] 6 b716 t719 x_677 T719 T719.heap _ s.vm _ rfl rfl (by decide) ((own_aS pr325_0 (own_aS pr331_0 (own_aS pr337_0 (own_aS pr343_0 (own_aS pr349_0 (own_aS pr355_0 own_a0))))))) (own_standW X719 (by decide) (by decide)) rfl N719 K748 f749 (by omega) R719 hS0 (by omega) hZ hown f732 fT719
  refine own_Go.st (fun _ k => XS.iloadN X0.here hx rfl (hb hby at_0) rfl k) ?_
  show own_Go _ _ _ _ (s₁.setTop (mkF m 1 #[.val (.int p1), .val (.int p2), .val (.int p3), .val (.int p4), .unset, .unset, .unset, .unset, .unset, .unset, .unset, .unset, .unset] [(.int p1)]))
  refine own_Go.st (X0.ldcInt hx hown (mvT hZ (hw _ (List.mem_of_getElem? (i := 0) rfl))) (g := (mkF m 1 #[.val (.int p1), .val (.int p2), .val (.int p3), .val (.int p4), .unset, .unset, .unset, .unset, .unset, .unset, .unset, .unset, .unset] [(.int p1)])) rfl (hb hby at_1)) ?_
  show own_Go _ _ _ _ (s₁.setTop (mkF m 3 #[.val (.int p1), .val (.int p2), .val (.int p3), .val (.int p4), .unset, .unset, .unset, .unset, .unset, .unset, .unset, .unset, .unset] [(.int (2147483647 : Int32)), (.int p1)]))
  refine own_Go.st (fun _ k => XS.iand X0.here hx rfl (hb hby at_3) rfl k) ?_
  show own_Go _ _ _ _ (s₁.setTop (mkF m 4 #[.val (.int p1), .val (.int p2), .val (.int p3), .val (.int p4), .unset, .unset, .unset, .unset, .unset, .unset, .unset, .unset, .unset] [(.int (p1 &&& (2147483647 : Int32)))]))
  refine own_Go.st (fun _ k => XS.bipush X0.here hx rfl (hb hby at_4) k) ?_
  show own_Go _ _ _ _ (s₁.setTop (mkF m 6 #[.val (.int p1), .val (.int p2), .val (.int p3), .val (.int p4), .unset, .unset, .unset, .unset, .unset, .unset, .unset, .unset, .unset] [(.int (7 : Int32)), (.int (p1 &&& (2147483647 : Int32)))]))
  refine own_Go.st (fun _ k => iremM (g := (mkF m 6 #[.val (.int p1), .val (.int p2), .val (.int p3), .val (.int p4), .unset, .unset, .unset, .unset, .unset, .unset, .unset, .unset, .unset] [(.int (7 : Int32)), (.int (p1 &&& (2147483647 : Int32)))])) X0 hx rfl (hb hby at_6) rfl (by decide) k) ?_
  show own_Go _ _ _ _ (s₁.setTop (mkF m 7 #[.val (.int p1), .val (.int p2), .val (.int p3), .val (.int p4), .unset, .unset, .unset, .unset, .unset, .unset, .unset, .unset, .unset] [(.int ((p1 &&& (2147483647 : Int32)) % (7 : Int32)))]))
  refine own_Go.st (fun _ k => XS.istore X0.here hx rfl (hb hby at_7) rfl (l' := #[.val (.int p1), .val (.int p2), .val (.int p3), .val (.int p4), .val (.int ((p1 &&& (2147483647 : Int32)) % (7 : Int32))), .unset, .unset, .unset, .unset, .unset, .unset, .unset, .unset]) rfl k) ?_
  show own_Go _ _ _ _ (s₁.setTop (mkF m 9 #[.val (.int p1), .val (.int p2), .val (.int p3), .val (.int p4), .val (.int ((p1 &&& (2147483647 : Int32)) % (7 : Int32))), .unset, .unset, .unset, .unset, .unset, .unset, .unset, .unset] []))
  exact J322 ((p1 &&& (2147483647 : Int32)) % (7 : Int32)) (own_n7 _)
set_option maxRecDepth 65536 in
set_option maxHeartbeats 40000000 in
theorem comes_1 {Post : Tables → Env → Array Value → State → Outcome → State → Prop} (hpost : ∀ tb e args s v u, (limb_1_1.after args s (.returned v) u = true ∧ limb_1_2.after args s (.returned v) u = true ∧ True) → ReturnedEndW s (.returned v) u (Jvm.fieldLocs frame_1_writes args s ++ Jvm.arrayLocs frame_1_arrays args s ++ Jvm.staticLocs frame_1_statics s) 24 1152 → Post tb e args s (.returned v) u) :
    ArmFor flags0 classFile x code maxLocals ret World_1 tables_1 room_1 Calls_1 rest_1 Pre_1 Post := by
  intro l hfl _ _ p e ha hc hk s m args below hf hA hF happ hP
  obtain ⟨hcalls, hrest, hpre⟩ := hP
  obtain ⟨-, -, -, hnamed, -, -, -, hat⟩ := (Spec.applies_iff hf).mp happ
  obtain ⟨hg, hn⟩ := and_e (Cond.before_iff.mp (show (Jvm.Cond.and given_1 narrow_1).before args s = true from hpre))
  obtain ⟨g0, r0⟩ := and_e hg
  obtain ⟨g1, r1⟩ := and_e r0
  obtain ⟨g2, r2⟩ := and_e r1
  obtain ⟨g3, r3⟩ := and_e r2
  obtain ⟨w0, w1, w2, w3, rfl⟩ : ∃ w0 w1 w2 w3 : Value, args = #[w0, w1, w2, w3] := by
    have hs : args.size = 4 := by simpa [Cond.value, given_1] using g0
    obtain ⟨L⟩ := args
    match L, hs with
    | [w0, w1, w2, w3], _ => exact ⟨w0, w1, w2, w3, rfl⟩
  have hw := fun d (hd : d ∈ tables_1) => atoms_spec (ws := Jvm.Cond.code x code maxLocals ret :: tables_1) hat d (List.mem_cons_of_mem _ hd)
  obtain ⟨hsets, hown0⟩ := atoms_of _ (rest_1_c_eq ▸ (show rest_1_c.before _ s = true from hrest))
  have hfit : Fit s := fun {y c} hc i hi => by
    obtain ⟨ha, rfl⟩ := Array.getElem?_eq_some_iff.mp hc
    have q := List.all_eq_true.mp ((Array.all_eq_true_iff_forall_mem.mp hF) _ (Array.getElem_mem ha)) i (List.mem_range.mpr hi)
    simpa [Array.getElem?_eq_getElem hi] using q
  obtain ⟨i0, e0⟩ := is_v g1
  obtain rfl : w0 = (.int i0) := Option.some.inj e0
  obtain ⟨i1, e1⟩ := is_v g2
  obtain rfl : w1 = (.int i1) := Option.some.inj e1
  obtain ⟨i2, e2⟩ := is_v g3
  obtain rfl : w2 = (.int i2) := Option.some.inj e2
  obtain ⟨i3, e3⟩ := is_v r3
  obtain rfl : w3 = (.int i3) := Option.some.inj e3
  obtain ⟨zc, ez⟩ := is_v (Cond.before_iff.mp (hsets _ (List.mem_of_getElem? (i := 1) rfl)))
  have st_zc : Sta s s.heap "java/lang/String" "COMPACT_STRINGS" "Z" (.int zc) := Sta.start ez (Or.inl (hsets _ (List.mem_of_getElem? (i := 0) rfl)))
  have hzc : ¬ (zc = (0 : Int32)) := gotF (Cond.eq_ints ez (Term.int_eval (0))) (not_v (Cond.before_iff.mp (hsets _ (List.mem_of_getElem? (i := 2) rfl))))
  obtain ⟨fm, ef, hfm⟩ := isR_v (Cond.before_iff.mp (hsets _ (List.mem_of_getElem? (i := 8) rfl)))
  have st_fm : Sta s s.heap "jdk/internal/util/Preconditions" "SIOOBE_FORMATTER" "Ljava/util/function/BiFunction;" fm := Sta.start ef (Or.inl (hsets _ (List.mem_of_getElem? (i := 7) rfl)))
  have hEL : EW s _ consts_1 := (EW.cons (hw _ (List.mem_of_getElem? (i := 22) rfl)) (by decide) EW.nil)
  have hC0 : CHv s consts_1 s.vm s.heap := CHv.start hEL (fun p hp => hcalls.1 p hp) (hsets _ (List.mem_of_getElem? (i := 2) rfl)) (hw _ (List.mem_of_getElem? (i := 23) rfl)) (hw _ (List.mem_of_getElem? (i := 10) rfl))
  obtain ⟨n, o, h1, h2, h3, _, L, rfl, ⟨rfl, N, -⟩, -, hq⟩ := rm_law l s _ hw tables_1 i0 i1 i2 i3 zc fm s.heap hEL (Old.start s) st_zc st_fm hzc hfm p e ha hc hk s m _ below hf ((Spec.applies_iff_loose hf).mp happ).1 ⟨rfl, State.Warmed39.refl s, rfl, hC0⟩ trivial
  refine ⟨n, _, h1, h2, h3, hpost _ _ _ _ _ _ ⟨Cond.after_iff.mpr rfl, Cond.after_iff.mpr (eq_i res_at (Term.int_eval (1)) rfl), trivial⟩ ⟨hq.1, hq.2.1, hq.2.2.1, (hq.2.2.2.sift fun y hy => Or.inr (N y hy)).mono (by decide) (by decide)⟩⟩
theorem main_1_1 : Claimed_1_1 := comes_1 fun _ _ _ _ _ _ h hF => ⟨h.1, hF⟩
theorem main_1_2 : Claimed_1_2 := comes_1 fun _ _ _ _ _ _ h hF => ⟨h.2.1, hF⟩
end Jvm.Pilot.@@N@@
namespace Jvm.Pilot.@@N@@
open Jvm Jvm.ClassFile Sem Op Lib Jvm.Free Jvm.Stand Jvm.Pilot.@@N@@.Jvm.D
/-! MADE BY PROGRAM (witnessworld.py) out of the Statement's table words and the real class files: 23 classes; the members and pool entries that the words name. The judged class is class 1, her method 1. -/
namespace start1
open Jvm.ClassFile
def u (s : String) : CpInfo := .utf8 (stringToUtf16 s)
/-- a pool by its gaps: so many unusable entries, then the entry; so many at the end -/
def gap : Nat → List CpInfo → List CpInfo
  | 0, r => r
  | n + 1, r => .unusable :: gap n r
def poolList (es : List (Nat × CpInfo)) (last : Nat) : List CpInfo := es.foldr (fun e r => gap e.1 (e.2 :: r)) (gap last [])
def pool (es : List (Nat × CpInfo)) (last : Nat) : Array CpInfo := ⟨poolList es last⟩
def fileOf (pool : Array CpInfo) (this : Nat) (attrs : Array Attribute := #[]) (ms : Array MethodInfo := #[]) (fl : Nat := 33) (sup : Nat := 0) (ifs : Array Nat := #[]) (fds : Array FieldInfo := #[]) : ClassFile where
  minorVersion := 0
  majorVersion := 65
  constantPool := pool
  accessFlags := fl
  thisClass := this
  superClass := sup
  interfaces := ifs
  fields := fds
  methods := ms
  attributes := attrs
def plain (name : String) (sup : Option ClassId) : Class where
  name := name
  kind := .ordinary
  loader := none
  accessFlags := 33
  super := sup
  interfaces := #[]
  cf := none
  fields := #[]
  methods := #[]
  instanceTypes := #[]
  staticTypes := #[]
  resolved := #[]
  callSites := []
  init := .initialized
  statics := none
  mirror := none

def pool0 : Array CpInfo := pool [(5, u "<init>"), (0, u "()V"), (1, .class_ 10), (1, u "java/lang/Object")] 113

def k0c0 : Code := { maxStack := 0, maxLocals := 1, code := object_method_1_code, exceptionTable := #[], attributes := #[] }
def k0m0 : Method := { name := "<init>", desc := "()V", sig := { parameters := [], returnType := none }, accessFlags := 1, code := some k0c0 }
/-- java/lang/Object -/
def k0 : Class := { plain "java/lang/Object" none with
  accessFlags := 33
  interfaces := #[]
  cf := some (fileOf pool0 8 #[] #[{ accessFlags := 1, nameIndex := 5, descriptorIndex := 6, attributes := #[] }] 33 0 #[] #[])
  fields := #[]
  methods := #[k0m0]
  instanceTypes := #[]
  staticTypes := #[]
  resolved := Array.replicate 124 none
  statics := none }

def pool1 : Array CpInfo := pool [(2, .class_ 4), (1, u "java/lang/Object"), (0, u "<init>"), (0, u "()V"), (0, .integer 2147483647), (0, .methodref 9 10), (0, .class_ 11), (0, .nameAndType 12 13), (0, u "com/example/keep_to_layer/keeptolayer/model/ClassNamesOutermostOfPinLaw"), (0, u "pick"), (0, u "(I)C"), (0, .methodref 9 15), (0, .nameAndType 16 17), (0, u "make"), (0, u "(I)[C"), (0, .class_ 19), (0, u "java/lang/String"), (0, .methodref 18 21), (0, .nameAndType 5 22), (0, u "([C)V"), (0, .methodref 24 25), (0, .class_ 26), (0, .nameAndType 27 28), (0, u "com/example/keep_to_layer/keeptolayer/model/ClassNames"), (0, u "outermostOf"), (0, u "(Ljava/lang/String;)Ljava/lang/String;"), (0, .methodref 9 30), (0, .nameAndType 31 32), (0, u "is"), (0, u "([CIIC)Z"), (0, .methodref 18 34), (0, .nameAndType 35 36), (0, u "length"), (0, u "()I"), (0, .methodref 9 38), (0, .nameAndType 39 40), (0, u "same"), (0, u "(Ljava/lang/String;[CII)Z"), (0, .methodref 18 42), (0, .nameAndType 43 13), (0, u "charAt"), (2, u "law"), (0, u "(IIII)Z")] 5

def k1m0 : Method := { name := "<init>", desc := "()V", sig := { parameters := [], returnType := none }, accessFlags := 2, code := none }
def k1c1 : Code := { maxStack := 4, maxLocals := 13, code := code, exceptionTable := #[], attributes := #[] }
def k1m1 : Method := { name := "law", desc := "(IIII)Z", sig := { parameters := [.int, .int, .int, .int], returnType := some .boolean }, accessFlags := 9, code := some k1c1 }
def k1c2 : Code := { maxStack := 2, maxLocals := 4, code := method_3_code, exceptionTable := #[], attributes := #[] }
def k1m2 : Method := { name := "is", desc := "([CIIC)Z", sig := { parameters := [(.array .char), .int, .int, .char], returnType := some .boolean }, accessFlags := 10, code := some k1c2 }
def k1c3 : Code := { maxStack := 2, maxLocals := 2, code := method_4_code, exceptionTable := #[], attributes := #[] }
def k1m3 : Method := { name := "pick", desc := "(I)C", sig := { parameters := [.int], returnType := some .char }, accessFlags := 10, code := some k1c3 }
def k1c4 : Code := { maxStack := 2, maxLocals := 1, code := method_5_code, exceptionTable := #[], attributes := #[] }
def k1m4 : Method := { name := "make", desc := "(I)[C", sig := { parameters := [.int], returnType := some (.array .char) }, accessFlags := 10, code := some k1c4 }
def k1c5 : Code := { maxStack := 3, maxLocals := 4, code := method_6_code, exceptionTable := #[], attributes := #[] }
def k1m5 : Method := { name := "same", desc := "(Ljava/lang/String;[CII)Z", sig := { parameters := [(.object "java/lang/String"), (.array .char), .int, .int], returnType := some .boolean }, accessFlags := 10, code := some k1c5 }
/-- com/example/keep_to_layer/keeptolayer/model/ClassNamesOutermostOfPinLaw -/
def k1 : Class := { plain "com/example/keep_to_layer/keeptolayer/model/ClassNamesOutermostOfPinLaw" (some 0) with
  accessFlags := 49
  interfaces := #[]
  cf := some (fileOf pool1 9 #[] #[{ accessFlags := 2, nameIndex := 5, descriptorIndex := 6, attributes := #[] }, { accessFlags := 9, nameIndex := 46, descriptorIndex := 47, attributes := #[] }, { accessFlags := 10, nameIndex := 31, descriptorIndex := 32, attributes := #[] }, { accessFlags := 10, nameIndex := 12, descriptorIndex := 13, attributes := #[] }, { accessFlags := 10, nameIndex := 16, descriptorIndex := 17, attributes := #[] }, { accessFlags := 10, nameIndex := 39, descriptorIndex := 40, attributes := #[] }] 49 2 #[] #[])
  fields := #[]
  methods := #[k1m0, k1m1, k1m2, k1m3, k1m4, k1m5]
  instanceTypes := #[]
  staticTypes := #[]
  resolved := Array.replicate 53 none
  statics := none }

def pool2 : Array CpInfo := pool [(1, .class_ 2), (0, u "java/io/Serializable"), (0, .class_ 4), (0, u "java/lang/Object")] 2

/-- java/io/Serializable -/
def k2 : Class := { plain "java/io/Serializable" (some 0) with
  accessFlags := 1537
  interfaces := #[]
  cf := some (fileOf pool2 1 #[] #[] 1537 3 #[] #[])
  fields := #[]
  methods := #[]
  instanceTypes := #[]
  staticTypes := #[]
  resolved := Array.replicate 7 none
  statics := none }

def pool3 : Array CpInfo := pool [(1, .class_ 2), (0, u "java/lang/Comparable"), (0, .class_ 4), (0, u "java/lang/Object")] 7

/-- java/lang/Comparable -/
def k3 : Class := { plain "java/lang/Comparable" (some 0) with
  accessFlags := 1537
  interfaces := #[]
  cf := some (fileOf pool3 1 #[] #[] 1537 3 #[] #[])
  fields := #[]
  methods := #[]
  instanceTypes := #[]
  staticTypes := #[]
  resolved := Array.replicate 12 none
  statics := none }

def pool4 : Array CpInfo := pool [(2, .class_ 4), (1, u "java/lang/CharSequence"), (42, .class_ 48), (0, u "java/lang/CharSequence$1CodePointIterator"), (10, .class_ 60), (0, u "java/lang/CharSequence$1CharIterator"), (5, .class_ 67), (0, u "java/lang/Object")] 63

/-- java/lang/CharSequence -/
def k4 : Class := { plain "java/lang/CharSequence" (some 0) with
  accessFlags := 1537
  interfaces := #[]
  cf := some (fileOf pool4 2 #[.nestMembers #[47, 59]] #[] 1537 66 #[] #[])
  fields := #[]
  methods := #[]
  instanceTypes := #[]
  staticTypes := #[]
  resolved := Array.replicate 131 none
  statics := none }

def pool5 : Array CpInfo := pool [(1, .class_ 2), (0, u "java/lang/constant/Constable"), (0, .class_ 4), (0, u "java/lang/Object")] 6

/-- java/lang/constant/Constable -/
def k5 : Class := { plain "java/lang/constant/Constable" (some 0) with
  accessFlags := 1537
  interfaces := #[]
  cf := some (fileOf pool5 1 #[] #[] 1537 3 #[] #[])
  fields := #[]
  methods := #[]
  instanceTypes := #[]
  staticTypes := #[]
  resolved := Array.replicate 11 none
  statics := none }

def pool6 : Array CpInfo := pool [(1, .class_ 2), (0, u "java/lang/constant/ConstantDesc"), (0, .class_ 4), (0, u "java/lang/Object")] 32

/-- java/lang/constant/ConstantDesc -/
def k6 : Class := { plain "java/lang/constant/ConstantDesc" (some 0) with
  accessFlags := 1537
  interfaces := #[]
  cf := some (fileOf pool6 1 #[] #[] 1537 3 #[] #[])
  fields := #[]
  methods := #[]
  instanceTypes := #[]
  staticTypes := #[]
  resolved := Array.replicate 37 none
  statics := none }

def pool7 : Array CpInfo := pool [(1, .methodref 2 3), (0, .class_ 4), (0, .nameAndType 5 6), (0, u "java/lang/Object"), (0, u "<init>"), (0, u "()V"), (0, .string 8), (0, u ""), (0, .fieldref 10 11), (0, .class_ 12), (0, .nameAndType 13 14), (0, u "java/lang/String"), (0, u "value"), (0, u "[B"), (0, .fieldref 10 16), (0, .nameAndType 17 18), (0, u "coder"), (0, u "B"), (2, u "hash"), (0, u "I"), (2, u "hashIsZero"), (0, u "Z"), (0, .methodref 10 28), (0, .nameAndType 5 29), (0, u "([CIILjava/lang/Void;)V"), (8, .fieldref 10 39), (0, .nameAndType 40 26), (0, u "COMPACT_STRINGS"), (1, .class_ 44), (1, u "java/lang/StringUTF16"), (0, u "compress"), (1, .methodref 42 48), (0, .nameAndType 49 50), (0, u "coderFromArrayLen"), (0, u "([BI)B"), (46, u "([BII)I"), (9, .class_ 109), (1, u "java/lang/StringLatin1"), (32, u "()Z"), (34, .methodref 42 178), (0, .nameAndType 45 179), (0, u "([CII)[B"), (31, u "([BB)V"), (122, u "()I"), (0, .methodref 10 336), (0, .nameAndType 17 337), (0, u "()B"), (25, u "([BI)C"), (27, u "(II)V"), (35, u "(I)C"), (64, .methodref 10 493), (0, .nameAndType 494 142), (0, u "isLatin1"), (0, .methodref 107 496), (0, .nameAndType 497 363), (0, u "charAt"), (3, u "checkIndex"), (3, .methodref 10 506), (0, .nameAndType 507 334), (0, u "length"), (5, u "checkFromToIndex"), (7, .methodref 10 522), (0, .nameAndType 523 524), (0, u "checkBoundsBeginEnd"), (0, u "(III)V"), (50, .class_ 576), (0, u "java/lang/CharSequence"), (22, u "CASE_INSENSITIVE_ORDER"), (0, u "Ljava/util/Comparator;"), (34, u "indexOf"), (0, u "(II)I"), (0, .methodref 107 638), (0, .nameAndType 635 639), (0, u "([BIII)I"), (1, .methodref 10 642), (0, .nameAndType 643 636), (0, u "lastIndexOf"), (0, .methodref 107 645), (0, .nameAndType 643 97), (37, u "substring"), (0, u "(II)Ljava/lang/String;"), (0, .methodref 107 686), (0, .nameAndType 687 688), (0, u "newString"), (0, u "([BII)Ljava/lang/String;"), (76, u "(I)I"), (244, u "([C)V"), (42, .fieldref 1054 1055), (0, .class_ 1056), (0, .nameAndType 1057 1058), (0, u "jdk/internal/util/Preconditions"), (0, u "SIOOBE_FORMATTER"), (0, u "Ljava/util/function/BiFunction;"), (0, .methodref 1054 1060), (0, .nameAndType 501 1061), (0, u "(IILjava/util/function/BiFunction;)I"), (0, .methodref 1054 1063), (0, .nameAndType 513 1064), (0, u "(IIILjava/util/function/BiFunction;)I"), (36, u "serialPersistentFields"), (0, u "[Ljava/io/ObjectStreamField;"), (0, .class_ 1104), (0, u "java/lang/String$CaseInsensitiveComparator"), (1, .class_ 1107), (0, u "java/io/Serializable"), (0, .class_ 1109), (0, u "java/lang/Comparable"), (0, .class_ 1111), (0, u "java/lang/constant/Constable"), (0, .class_ 1113), (0, u "java/lang/constant/ConstantDesc"), (2, u "serialVersionUID"), (0, u "J"), (3, u "REPL"), (0, u "C"), (2, u "LATIN1"), (1, u "UTF16")] 323

def k7m0 : Method := { name := "<init>", desc := "()V", sig := { parameters := [], returnType := none }, accessFlags := 1, code := none }
def k7c1 : Code := { maxStack := 5, maxLocals := 2, code := jdk_42_method_3_code, exceptionTable := #[], attributes := #[] }
def k7m1 : Method := { name := "<init>", desc := "([C)V", sig := { parameters := [(.array .char)], returnType := none }, accessFlags := 1, code := some k7c1 }
def k7c2 : Code := { maxStack := 2, maxLocals := 1, code := jdk_42_method_54_code, exceptionTable := #[], attributes := #[] }
def k7m2 : Method := { name := "length", desc := "()I", sig := { parameters := [], returnType := some .int }, accessFlags := 1, code := some k7c2 }
def k7c3 : Code := { maxStack := 2, maxLocals := 2, code := jdk_42_method_56_code, exceptionTable := #[], attributes := #[] }
def k7m3 : Method := { name := "charAt", desc := "(I)C", sig := { parameters := [.int], returnType := some .char }, accessFlags := 1, code := some k7c3 }
def k7c4 : Code := { maxStack := 4, maxLocals := 3, code := jdk_42_method_80_code, exceptionTable := #[], attributes := #[] }
def k7m4 : Method := { name := "indexOf", desc := "(II)I", sig := { parameters := [.int, .int], returnType := some .int }, accessFlags := 1, code := some k7c4 }
def k7c5 : Code := { maxStack := 4, maxLocals := 2, code := jdk_42_method_82_code, exceptionTable := #[], attributes := #[] }
def k7m5 : Method := { name := "lastIndexOf", desc := "(I)I", sig := { parameters := [.int], returnType := some .int }, accessFlags := 1, code := some k7c5 }
def k7c6 : Code := { maxStack := 3, maxLocals := 3, code := jdk_42_method_83_code, exceptionTable := #[], attributes := #[] }
def k7m6 : Method := { name := "lastIndexOf", desc := "(II)I", sig := { parameters := [.int, .int], returnType := some .int }, accessFlags := 1, code := some k7c6 }
def k7c7 : Code := { maxStack := 3, maxLocals := 5, code := jdk_42_method_92_code, exceptionTable := #[], attributes := #[] }
def k7m7 : Method := { name := "substring", desc := "(II)Ljava/lang/String;", sig := { parameters := [.int, .int], returnType := some (.object "java/lang/String") }, accessFlags := 1, code := some k7c7 }
def k7c8 : Code := { maxStack := 4, maxLocals := 6, code := jdk_42_method_149_code, exceptionTable := #[], attributes := #[] }
def k7m8 : Method := { name := "<init>", desc := "([CIILjava/lang/Void;)V", sig := { parameters := [(.array .char), .int, .int, (.object "java/lang/Void")], returnType := none }, accessFlags := 2, code := some k7c8 }
def k7c9 : Code := { maxStack := 2, maxLocals := 3, code := jdk_42_method_151_code, exceptionTable := #[], attributes := #[] }
def k7m9 : Method := { name := "<init>", desc := "([BB)V", sig := { parameters := [(.array .byte), .byte], returnType := none }, accessFlags := 0, code := some k7c9 }
def k7c10 : Code := { maxStack := 1, maxLocals := 1, code := jdk_42_method_152_code, exceptionTable := #[], attributes := #[] }
def k7m10 : Method := { name := "coder", desc := "()B", sig := { parameters := [], returnType := some .byte }, accessFlags := 0, code := some k7c10 }
def k7c11 : Code := { maxStack := 1, maxLocals := 1, code := jdk_42_method_154_code, exceptionTable := #[], attributes := #[] }
def k7m11 : Method := { name := "isLatin1", desc := "()Z", sig := { parameters := [], returnType := some .boolean }, accessFlags := 0, code := some k7c11 }
def k7c12 : Code := { maxStack := 3, maxLocals := 2, code := jdk_42_method_155_code, exceptionTable := #[], attributes := #[] }
def k7m12 : Method := { name := "checkIndex", desc := "(II)V", sig := { parameters := [.int, .int], returnType := none }, accessFlags := 8, code := some k7c12 }
def k7c13 : Code := { maxStack := 4, maxLocals := 3, code := jdk_42_method_158_code, exceptionTable := #[], attributes := #[] }
def k7m13 : Method := { name := "checkBoundsBeginEnd", desc := "(III)V", sig := { parameters := [.int, .int, .int], returnType := none }, accessFlags := 8, code := some k7c13 }
/-- java/lang/String -/
def k7 : Class := { plain "java/lang/String" (some 0) with
  accessFlags := 49
  interfaces := #[2, 3, 4, 5, 6]
  cf := some (fileOf pool7 10 #[.nestMembers #[1103]] #[{ accessFlags := 1, nameIndex := 5, descriptorIndex := 6, attributes := #[] }, { accessFlags := 1, nameIndex := 5, descriptorIndex := 1010, attributes := #[] }, { accessFlags := 1, nameIndex := 507, descriptorIndex := 334, attributes := #[] }, { accessFlags := 1, nameIndex := 497, descriptorIndex := 427, attributes := #[] }, { accessFlags := 1, nameIndex := 635, descriptorIndex := 636, attributes := #[] }, { accessFlags := 1, nameIndex := 643, descriptorIndex := 765, attributes := #[] }, { accessFlags := 1, nameIndex := 643, descriptorIndex := 636, attributes := #[] }, { accessFlags := 1, nameIndex := 683, descriptorIndex := 684, attributes := #[] }, { accessFlags := 2, nameIndex := 5, descriptorIndex := 29, attributes := #[] }, { accessFlags := 0, nameIndex := 5, descriptorIndex := 211, attributes := #[] }, { accessFlags := 0, nameIndex := 17, descriptorIndex := 337, attributes := #[] }, { accessFlags := 0, nameIndex := 494, descriptorIndex := 142, attributes := #[] }, { accessFlags := 8, nameIndex := 501, descriptorIndex := 391, attributes := #[] }, { accessFlags := 8, nameIndex := 523, descriptorIndex := 524, attributes := #[] }] 49 2 #[1106, 1108, 575, 1110, 1112] #[{ accessFlags := 18, nameIndex := 13, descriptorIndex := 14, attributes := #[] }, { accessFlags := 18, nameIndex := 17, descriptorIndex := 18, attributes := #[] }, { accessFlags := 2, nameIndex := 21, descriptorIndex := 22, attributes := #[] }, { accessFlags := 2, nameIndex := 25, descriptorIndex := 26, attributes := #[] }, { accessFlags := 26, nameIndex := 1116, descriptorIndex := 1117, attributes := #[] }, { accessFlags := 24, nameIndex := 40, descriptorIndex := 26, attributes := #[] }, { accessFlags := 26, nameIndex := 1101, descriptorIndex := 1102, attributes := #[] }, { accessFlags := 26, nameIndex := 1121, descriptorIndex := 1122, attributes := #[] }, { accessFlags := 25, nameIndex := 599, descriptorIndex := 600, attributes := #[] }, { accessFlags := 24, nameIndex := 1125, descriptorIndex := 18, attributes := #[] }, { accessFlags := 24, nameIndex := 1127, descriptorIndex := 18, attributes := #[] }])
  fields := #[{ name := "value", type := (.array .byte), accessFlags := 18, slot := 0, constantValue := 0 }, { name := "coder", type := .byte, accessFlags := 18, slot := 1, constantValue := 0 }, { name := "hash", type := .int, accessFlags := 2, slot := 2, constantValue := 0 }, { name := "hashIsZero", type := .boolean, accessFlags := 2, slot := 3, constantValue := 0 }, { name := "serialVersionUID", type := .long, accessFlags := 26, slot := 0, constantValue := 0 }, { name := "COMPACT_STRINGS", type := .boolean, accessFlags := 24, slot := 1, constantValue := 0 }, { name := "serialPersistentFields", type := (.array (.object "java/io/ObjectStreamField")), accessFlags := 26, slot := 2, constantValue := 0 }, { name := "REPL", type := .char, accessFlags := 26, slot := 3, constantValue := 0 }, { name := "CASE_INSENSITIVE_ORDER", type := (.object "java/util/Comparator"), accessFlags := 25, slot := 4, constantValue := 0 }, { name := "LATIN1", type := .byte, accessFlags := 24, slot := 5, constantValue := 0 }, { name := "UTF16", type := .byte, accessFlags := 24, slot := 6, constantValue := 0 }]
  methods := #[k7m0, k7m1, k7m2, k7m3, k7m4, k7m5, k7m6, k7m7, k7m8, k7m9, k7m10, k7m11, k7m12, k7m13]
  instanceTypes := #[(.array .byte), .byte, .int, .boolean]
  staticTypes := #[.long, .boolean, (.array (.object "java/io/ObjectStreamField")), .char, (.object "java/util/Comparator"), .byte, .byte]
  resolved := Array.replicate 1451 none
  statics := some 0 }

def pool8 : Array CpInfo := pool [(2, .class_ 4), (1, u "java/lang/Object"), (0, u "<init>"), (0, u "()V"), (3, .class_ 12), (1, u "java/lang/String"), (9, u "(I)I"), (25, u "(Ljava/lang/String;)Ljava/lang/String;"), (10, .methodref 10 60), (0, .nameAndType 61 22), (0, u "lastIndexOf"), (5, u "(II)I"), (0, .methodref 10 69), (0, .nameAndType 70 71), (0, u "substring"), (0, u "(II)Ljava/lang/String;"), (0, .methodref 10 73), (0, .nameAndType 74 67), (0, u "indexOf"), (1, .class_ 78), (1, u "com/example/keep_to_layer/keeptolayer/model/ClassNames"), (0, u "outermostOf")] 70

def k8m0 : Method := { name := "<init>", desc := "()V", sig := { parameters := [], returnType := none }, accessFlags := 2, code := none }
def k8c1 : Code := { maxStack := 4, maxLocals := 3, code := prog_14_method_5_code, exceptionTable := #[], attributes := #[] }
def k8m1 : Method := { name := "outermostOf", desc := "(Ljava/lang/String;)Ljava/lang/String;", sig := { parameters := [(.object "java/lang/String")], returnType := some (.object "java/lang/String") }, accessFlags := 9, code := some k8c1 }
/-- com/example/keep_to_layer/keeptolayer/model/ClassNames -/
def k8 : Class := { plain "com/example/keep_to_layer/keeptolayer/model/ClassNames" (some 0) with
  accessFlags := 33
  interfaces := #[]
  cf := some (fileOf pool8 76 #[] #[{ accessFlags := 2, nameIndex := 5, descriptorIndex := 6, attributes := #[] }, { accessFlags := 9, nameIndex := 79, descriptorIndex := 48, attributes := #[] }] 33 2 #[] #[])
  fields := #[]
  methods := #[k8m0, k8m1]
  instanceTypes := #[]
  staticTypes := #[]
  resolved := Array.replicate 150 none
  statics := none }

def pool9 : Array CpInfo := pool [(1, .class_ 2), (0, u "java/lang/String"), (1, .class_ 6), (1, u "java/lang/Object"), (0, u "<init>"), (0, u "()V"), (0, .methodref 1 10), (0, .nameAndType 11 12), (0, u "checkIndex"), (0, u "(II)V"), (1, .class_ 16), (1, u "java/lang/StringLatin1"), (21, .methodref 39 40), (0, .class_ 41), (0, .nameAndType 42 43), (0, u "java/lang/Math"), (0, u "min"), (0, u "(II)I"), (9, u "([BI)C"), (34, .methodref 14 89), (0, .nameAndType 90 91), (0, u "canEncode"), (0, u "(I)Z"), (0, .methodref 39 93), (0, .nameAndType 94 43), (0, u "max"), (0, .methodref 14 96), (0, .nameAndType 97 98), (0, u "indexOfChar"), (0, u "([BIII)I"), (2, u "indexOf"), (10, .methodref 1 113), (0, .nameAndType 7 114), (0, u "([BB)V"), (6, u "$assertionsDisabled"), (0, u "Z"), (8, .class_ 133), (1, u "java/util/Arrays"), (62, u "newString"), (0, u "([BII)Ljava/lang/String;"), (23, .class_ 223), (1, u "java/lang/StringLatin1$LinesSpliterator"), (8, .methodref 131 233), (0, .nameAndType 234 235), (0, u "copyOfRange"), (0, u "([BII)[B"), (16, u "charAt"), (8, u "([BII)I"), (47, u "lastIndexOf"), (80, .class_ 391), (0, u "java/lang/StringLatin1$CharsSpliterator")] 3

def k9m0 : Method := { name := "<init>", desc := "()V", sig := { parameters := [], returnType := none }, accessFlags := 0, code := none }
def k9c1 : Code := { maxStack := 2, maxLocals := 2, code := jdk_43_method_2_code, exceptionTable := #[], attributes := #[] }
def k9m1 : Method := { name := "charAt", desc := "([BI)C", sig := { parameters := [(.array .byte), .int], returnType := some .char }, accessFlags := 9, code := some k9c1 }
def k9c2 : Code := { maxStack := 2, maxLocals := 1, code := jdk_43_method_4_code, exceptionTable := #[], attributes := #[] }
def k9m2 : Method := { name := "canEncode", desc := "(I)Z", sig := { parameters := [.int], returnType := some .boolean }, accessFlags := 9, code := some k9c2 }
def k9c3 : Code := { maxStack := 4, maxLocals := 4, code := jdk_43_method_22_code, exceptionTable := #[], attributes := #[] }
def k9m3 : Method := { name := "indexOf", desc := "([BIII)I", sig := { parameters := [(.array .byte), .int, .int, .int], returnType := some .int }, accessFlags := 9, code := some k9c3 }
def k9c4 : Code := { maxStack := 2, maxLocals := 6, code := jdk_43_method_23_code, exceptionTable := #[], attributes := #[] }
def k9m4 : Method := { name := "indexOfChar", desc := "([BIII)I", sig := { parameters := [(.array .byte), .int, .int, .int], returnType := some .int }, accessFlags := 10, code := some k9c4 }
def k9c5 : Code := { maxStack := 3, maxLocals := 4, code := jdk_43_method_27_code, exceptionTable := #[], attributes := #[] }
def k9m5 : Method := { name := "lastIndexOf", desc := "([BII)I", sig := { parameters := [(.array .byte), .int, .int], returnType := some .int }, accessFlags := 9, code := some k9c5 }
def k9c6 : Code := { maxStack := 6, maxLocals := 3, code := jdk_43_method_47_code, exceptionTable := #[], attributes := #[] }
def k9m6 : Method := { name := "newString", desc := "([BII)Ljava/lang/String;", sig := { parameters := [(.array .byte), .int, .int], returnType := some (.object "java/lang/String") }, accessFlags := 9, code := some k9c6 }
/-- java/lang/StringLatin1 -/
def k9 : Class := { plain "java/lang/StringLatin1" (some 0) with
  accessFlags := 48
  interfaces := #[]
  cf := some (fileOf pool9 14 #[.nestMembers #[390, 221]] #[{ accessFlags := 0, nameIndex := 7, descriptorIndex := 8, attributes := #[] }, { accessFlags := 9, nameIndex := 252, descriptorIndex := 53, attributes := #[] }, { accessFlags := 9, nameIndex := 90, descriptorIndex := 91, attributes := #[] }, { accessFlags := 9, nameIndex := 101, descriptorIndex := 98, attributes := #[] }, { accessFlags := 10, nameIndex := 97, descriptorIndex := 98, attributes := #[] }, { accessFlags := 9, nameIndex := 309, descriptorIndex := 261, attributes := #[] }, { accessFlags := 9, nameIndex := 196, descriptorIndex := 197, attributes := #[] }] 48 4 #[] #[{ accessFlags := 4120, nameIndex := 121, descriptorIndex := 122, attributes := #[] }])
  fields := #[{ name := "$assertionsDisabled", type := .boolean, accessFlags := 4120, slot := 0, constantValue := 0 }]
  methods := #[k9m0, k9m1, k9m2, k9m3, k9m4, k9m5, k9m6]
  instanceTypes := #[]
  staticTypes := #[.boolean]
  resolved := Array.replicate 395 none
  statics := none }

def pool10 : Array CpInfo := pool [(1, .class_ 2), (0, u "java/lang/Math"), (1, .class_ 6), (1, u "java/lang/Object"), (0, u "<init>"), (0, u "()V"), (89, .class_ 100), (1, u "java/lang/Math$RandomNumberGeneratorHolder"), (71, u "negativeZeroFloatBits"), (0, u "J"), (2, u "negativeZeroDoubleBits"), (21, u "max"), (2, u "min"), (43, u "$assertionsDisabled"), (0, u "Z"), (88, u "(II)I"), (2, u "twoToTheDoubleScaleDown"), (0, u "D"), (4, u "twoToTheDoubleScaleUp"), (9, u "E"), (3, u "PI"), (2, u "TAU"), (2, u "DEGREES_TO_RADIANS"), (0, u "RADIANS_TO_DEGREES")] 94

def k10m0 : Method := { name := "<init>", desc := "()V", sig := { parameters := [], returnType := none }, accessFlags := 2, code := none }
def k10c1 : Code := { maxStack := 2, maxLocals := 2, code := jdk_29_method_65_code, exceptionTable := #[], attributes := #[] }
def k10m1 : Method := { name := "max", desc := "(II)I", sig := { parameters := [.int, .int], returnType := some .int }, accessFlags := 9, code := some k10c1 }
def k10c2 : Code := { maxStack := 2, maxLocals := 2, code := jdk_29_method_69_code, exceptionTable := #[], attributes := #[] }
def k10m2 : Method := { name := "min", desc := "(II)I", sig := { parameters := [.int, .int], returnType := some .int }, accessFlags := 9, code := some k10c2 }
/-- java/lang/Math -/
def k10 : Class := { plain "java/lang/Math" (some 0) with
  accessFlags := 49
  interfaces := #[]
  cf := some (fileOf pool10 1 #[.nestMembers #[98]] #[{ accessFlags := 2, nameIndex := 7, descriptorIndex := 8, attributes := #[] }, { accessFlags := 9, nameIndex := 198, descriptorIndex := 335, attributes := #[] }, { accessFlags := 9, nameIndex := 201, descriptorIndex := 335, attributes := #[] }] 49 4 #[] #[{ accessFlags := 25, nameIndex := 354, descriptorIndex := 339, attributes := #[] }, { accessFlags := 25, nameIndex := 358, descriptorIndex := 339, attributes := #[] }, { accessFlags := 25, nameIndex := 361, descriptorIndex := 339, attributes := #[] }, { accessFlags := 26, nameIndex := 364, descriptorIndex := 339, attributes := #[] }, { accessFlags := 26, nameIndex := 365, descriptorIndex := 339, attributes := #[] }, { accessFlags := 26, nameIndex := 172, descriptorIndex := 173, attributes := #[] }, { accessFlags := 26, nameIndex := 176, descriptorIndex := 173, attributes := #[] }, { accessFlags := 8, nameIndex := 344, descriptorIndex := 339, attributes := #[] }, { accessFlags := 8, nameIndex := 338, descriptorIndex := 339, attributes := #[] }, { accessFlags := 4120, nameIndex := 245, descriptorIndex := 246, attributes := #[] }])
  fields := #[{ name := "E", type := .double, accessFlags := 25, slot := 0, constantValue := 0 }, { name := "PI", type := .double, accessFlags := 25, slot := 1, constantValue := 0 }, { name := "TAU", type := .double, accessFlags := 25, slot := 2, constantValue := 0 }, { name := "DEGREES_TO_RADIANS", type := .double, accessFlags := 26, slot := 3, constantValue := 0 }, { name := "RADIANS_TO_DEGREES", type := .double, accessFlags := 26, slot := 4, constantValue := 0 }, { name := "negativeZeroFloatBits", type := .long, accessFlags := 26, slot := 5, constantValue := 0 }, { name := "negativeZeroDoubleBits", type := .long, accessFlags := 26, slot := 6, constantValue := 0 }, { name := "twoToTheDoubleScaleUp", type := .double, accessFlags := 8, slot := 7, constantValue := 0 }, { name := "twoToTheDoubleScaleDown", type := .double, accessFlags := 8, slot := 8, constantValue := 0 }, { name := "$assertionsDisabled", type := .boolean, accessFlags := 4120, slot := 9, constantValue := 0 }]
  methods := #[k10m0, k10m1, k10m2]
  instanceTypes := #[]
  staticTypes := #[.double, .double, .double, .double, .double, .long, .long, .double, .double, .boolean]
  resolved := Array.replicate 460 none
  statics := none }

def pool11 : Array CpInfo := pool [(6, .class_ 8), (1, u "java/lang/Object"), (0, u "<init>"), (0, u "()V"), (1, .class_ 14), (1, u "java/lang/StringUTF16"), (31, u "$assertionsDisabled"), (0, u "Z"), (13, u "HI_BYTE_SHIFT"), (0, u "I"), (2, u "LO_BYTE_SHIFT"), (49, .methodref 12 116), (0, .nameAndType 117 118), (0, u "compress"), (0, u "([CI[BII)I"), (3, u "([CII)[B"), (138, u "coderFromArrayLen"), (0, u "([BI)B"), (106, .class_ 371), (1, u "java/lang/StringUTF16$LinesSpliterator"), (58, u "MAX_LENGTH"), (196, .class_ 628), (0, u "java/lang/StringUTF16$CodePointsSpliterator"), (0, .class_ 630), (0, u "java/lang/StringUTF16$CharsSpliterator")] 4

def k11m0 : Method := { name := "<init>", desc := "()V", sig := { parameters := [], returnType := none }, accessFlags := 0, code := none }
def k11c1 : Code := { maxStack := 2, maxLocals := 2, code := jdk_52_method_15_code, exceptionTable := #[], attributes := #[] }
def k11m1 : Method := { name := "coderFromArrayLen", desc := "([BI)B", sig := { parameters := [(.array .byte), .int], returnType := some .byte }, accessFlags := 8, code := some k11c1 }
def k11c2 : Code := { maxStack := 5, maxLocals := 6, code := jdk_52_method_16_code, exceptionTable := #[], attributes := #[] }
def k11m2 : Method := { name := "compress", desc := "([CII)[B", sig := { parameters := [(.array .char), .int, .int], returnType := some (.array .byte) }, accessFlags := 9, code := some k11c2 }
def k11c3 : Code := { maxStack := 3, maxLocals := 7, code := jdk_52_method_21_code, exceptionTable := #[], attributes := #[] }
def k11m3 : Method := { name := "compress", desc := "([CI[BII)I", sig := { parameters := [(.array .char), .int, (.array .byte), .int, .int], returnType := some .int }, accessFlags := 9, code := some k11c3 }
/-- java/lang/StringUTF16 -/
def k11 : Class := { plain "java/lang/StringUTF16" (some 0) with
  accessFlags := 48
  interfaces := #[]
  cf := some (fileOf pool11 12 #[.nestMembers #[627, 629, 369]] #[{ accessFlags := 0, nameIndex := 9, descriptorIndex := 10, attributes := #[] }, { accessFlags := 8, nameIndex := 261, descriptorIndex := 262, attributes := #[] }, { accessFlags := 9, nameIndex := 117, descriptorIndex := 122, attributes := #[] }, { accessFlags := 9, nameIndex := 117, descriptorIndex := 118, attributes := #[] }] 48 6 #[] #[{ accessFlags := 26, nameIndex := 61, descriptorIndex := 62, attributes := #[] }, { accessFlags := 26, nameIndex := 65, descriptorIndex := 62, attributes := #[] }, { accessFlags := 24, nameIndex := 430, descriptorIndex := 62, attributes := #[] }, { accessFlags := 4120, nameIndex := 46, descriptorIndex := 47, attributes := #[] }])
  fields := #[{ name := "HI_BYTE_SHIFT", type := .int, accessFlags := 26, slot := 0, constantValue := 0 }, { name := "LO_BYTE_SHIFT", type := .int, accessFlags := 26, slot := 1, constantValue := 0 }, { name := "MAX_LENGTH", type := .int, accessFlags := 24, slot := 2, constantValue := 0 }, { name := "$assertionsDisabled", type := .boolean, accessFlags := 4120, slot := 3, constantValue := 0 }]
  methods := #[k11m0, k11m1, k11m2, k11m3]
  instanceTypes := #[]
  staticTypes := #[.int, .int, .int, .boolean]
  resolved := Array.replicate 635 none
  statics := none }

def pool12 : Array CpInfo := pool [(2, .class_ 4), (1, u "java/lang/Object"), (0, u "<init>"), (0, u "()V"), (17, .class_ 26), (1, u "jdk/internal/util/Preconditions"), (6, u "checkIndex"), (13, u "checkFromToIndex"), (7, .class_ 56), (0, u "jdk/internal/util/Preconditions$4"), (57, .class_ 115), (0, u "jdk/internal/util/Preconditions$1"), (7, u "SIOOBE_FORMATTER"), (0, u "Ljava/util/function/BiFunction;"), (0, .class_ 126), (0, u "jdk/internal/util/Preconditions$2"), (3, u "AIOOBE_FORMATTER"), (0, .class_ 132), (0, u "jdk/internal/util/Preconditions$3"), (3, u "IOOBE_FORMATTER"), (41, u "(IILjava/util/function/BiFunction;)I"), (4, u "(IIILjava/util/function/BiFunction;)I")] 10

def k12m0 : Method := { name := "<init>", desc := "()V", sig := { parameters := [], returnType := none }, accessFlags := 1, code := none }
def k12c1 : Code := { maxStack := 3, maxLocals := 3, code := jdk_41_method_11_code, exceptionTable := #[], attributes := #[] }
def k12m1 : Method := { name := "checkIndex", desc := "(IILjava/util/function/BiFunction;)I", sig := { parameters := [.int, .int, (.object "java/util/function/BiFunction")], returnType := some .int }, accessFlags := 9, code := some k12c1 }
def k12c2 : Code := { maxStack := 4, maxLocals := 4, code := jdk_41_method_12_code, exceptionTable := #[], attributes := #[] }
def k12m2 : Method := { name := "checkFromToIndex", desc := "(IIILjava/util/function/BiFunction;)I", sig := { parameters := [.int, .int, .int, (.object "java/util/function/BiFunction")], returnType := some .int }, accessFlags := 9, code := some k12c2 }
/-- jdk/internal/util/Preconditions -/
def k12 : Class := { plain "jdk/internal/util/Preconditions" (some 0) with
  accessFlags := 33
  interfaces := #[]
  cf := some (fileOf pool12 24 #[.nestMembers #[55, 131, 125, 114]] #[{ accessFlags := 1, nameIndex := 5, descriptorIndex := 6, attributes := #[] }, { accessFlags := 9, nameIndex := 33, descriptorIndex := 178, attributes := #[] }, { accessFlags := 9, nameIndex := 47, descriptorIndex := 183, attributes := #[] }] 33 2 #[] #[{ accessFlags := 25, nameIndex := 123, descriptorIndex := 124, attributes := #[] }, { accessFlags := 25, nameIndex := 130, descriptorIndex := 124, attributes := #[] }, { accessFlags := 25, nameIndex := 136, descriptorIndex := 124, attributes := #[] }])
  fields := #[{ name := "SIOOBE_FORMATTER", type := (.object "java/util/function/BiFunction"), accessFlags := 25, slot := 0, constantValue := 0 }, { name := "AIOOBE_FORMATTER", type := (.object "java/util/function/BiFunction"), accessFlags := 25, slot := 1, constantValue := 0 }, { name := "IOOBE_FORMATTER", type := (.object "java/util/function/BiFunction"), accessFlags := 25, slot := 2, constantValue := 0 }]
  methods := #[k12m0, k12m1, k12m2]
  instanceTypes := #[]
  staticTypes := #[(.object "java/util/function/BiFunction"), (.object "java/util/function/BiFunction"), (.object "java/util/function/BiFunction")]
  resolved := Array.replicate 194 none
  statics := some 1 }

def pool13 : Array CpInfo := pool [(2, .class_ 4), (1, u "java/lang/Object"), (0, u "<init>"), (0, u "()V"), (7, .class_ 16), (1, u "java/util/Arrays"), (57, .class_ 76), (1, u "java/util/Arrays$NaturalOrder"), (36, .class_ 115), (1, u "java/util/Arrays$LegacyMergeSort"), (1, u "Z"), (21, u "copyOfRange"), (10, .methodref 151 152), (0, .class_ 153), (0, .nameAndType 154 155), (0, u "java/lang/System"), (0, u "arraycopy"), (0, u "(Ljava/lang/Object;ILjava/lang/Object;II)V"), (148, .methodref 305 306), (0, .class_ 307), (0, .nameAndType 308 309), (0, u "java/lang/Math"), (0, u "min"), (0, u "(II)I"), (29, .methodref 14 340), (0, .nameAndType 341 342), (0, u "copyOfRangeByte"), (0, u "([BII)[B"), (0, .methodref 14 344), (0, .nameAndType 345 346), (0, u "checkLength"), (0, u "(II)V"), (28, .class_ 376), (0, u "java/util/Arrays$ArrayList"), (68, u "$assertionsDisabled"), (269, u "MIN_ARRAY_SORT_GRAN"), (0, u "I"), (2, u "INSERTIONSORT_THRESHOLD"), (255, .class_ 976), (0, u "java/util/Arrays$ArrayItr")] 52

def k13m0 : Method := { name := "<init>", desc := "()V", sig := { parameters := [], returnType := none }, accessFlags := 2, code := none }
def k13c1 : Code := { maxStack := 4, maxLocals := 2, code := jdk_65_method_131_code, exceptionTable := #[], attributes := #[] }
def k13m1 : Method := { name := "checkLength", desc := "(II)V", sig := { parameters := [.int, .int], returnType := none }, accessFlags := 10, code := some k13c1 }
def k13c2 : Code := { maxStack := 3, maxLocals := 3, code := jdk_65_method_132_code, exceptionTable := #[], attributes := #[] }
def k13m2 : Method := { name := "copyOfRange", desc := "([BII)[B", sig := { parameters := [(.array .byte), .int, .int], returnType := some (.array .byte) }, accessFlags := 9, code := some k13c2 }
def k13c3 : Code := { maxStack := 6, maxLocals := 5, code := jdk_65_method_133_code, exceptionTable := #[], attributes := #[] }
def k13m3 : Method := { name := "copyOfRangeByte", desc := "([BII)[B", sig := { parameters := [(.array .byte), .int, .int], returnType := some (.array .byte) }, accessFlags := 10, code := some k13c3 }
/-- java/util/Arrays -/
def k13 : Class := { plain "java/util/Arrays" (some 0) with
  accessFlags := 49
  interfaces := #[]
  cf := some (fileOf pool13 14 #[.nestMembers #[975, 375, 113, 74]] #[{ accessFlags := 2, nameIndex := 5, descriptorIndex := 6, attributes := #[] }, { accessFlags := 10, nameIndex := 345, descriptorIndex := 346, attributes := #[] }, { accessFlags := 9, nameIndex := 139, descriptorIndex := 342, attributes := #[] }, { accessFlags := 10, nameIndex := 341, descriptorIndex := 342, attributes := #[] }] 49 2 #[] #[{ accessFlags := 26, nameIndex := 715, descriptorIndex := 716, attributes := #[] }, { accessFlags := 26, nameIndex := 719, descriptorIndex := 716, attributes := #[] }, { accessFlags := 4120, nameIndex := 445, descriptorIndex := 117, attributes := #[] }])
  fields := #[{ name := "MIN_ARRAY_SORT_GRAN", type := .int, accessFlags := 26, slot := 0, constantValue := 0 }, { name := "INSERTIONSORT_THRESHOLD", type := .int, accessFlags := 26, slot := 1, constantValue := 0 }, { name := "$assertionsDisabled", type := .boolean, accessFlags := 4120, slot := 2, constantValue := 0 }]
  methods := #[k13m0, k13m1, k13m2, k13m3]
  instanceTypes := #[]
  staticTypes := #[.int, .int, .boolean]
  resolved := Array.replicate 1029 none
  statics := none }

def pool14 : Array CpInfo := pool [(2, .class_ 4), (1, u "java/lang/Object"), (0, u "<init>"), (0, u "()V"), (1, .class_ 10), (1, u "java/lang/System"), (0, u "allowSecurityManager"), (0, u "I"), (16, u "cons"), (0, u "Ljava/io/Console;"), (77, .class_ 110), (1, u "java/lang/System$CallersHolder"), (43, u "initialErrStream"), (0, u "Ljava/io/PrintStream;"), (19, u "security"), (0, u "Ljava/lang/SecurityManager;"), (31, .class_ 209), (0, u "java/lang/System$1"), (7, u "props"), (0, u "Ljava/util/Properties;"), (2, u "lineSeparator"), (0, u "Ljava/lang/String;"), (96, .class_ 321), (1, u "java/lang/System$LoggerFinder"), (5, .class_ 328), (0, u "java/lang/System$Logger"), (67, u "err"), (2, u "out"), (91, u "notSupportedJnuEncoding"), (15, u "in"), (17, u "initialIn"), (0, u "Ljava/io/InputStream;"), (35, u "bootLayer"), (0, u "Ljava/lang/ModuleLayer;"), (99, .class_ 664), (0, u "java/lang/System$2"), (9, u "NEVER"), (2, u "MAYBE"), (49, u "arraycopy"), (0, u "(Ljava/lang/Object;ILjava/lang/Object;II)V"), (72, .class_ 802), (0, u "java/lang/System$Logger$Level")] 31

def k14m0 : Method := { name := "<init>", desc := "()V", sig := { parameters := [], returnType := none }, accessFlags := 2, code := none }
def k14m1 : Method := { name := "arraycopy", desc := "(Ljava/lang/Object;ILjava/lang/Object;II)V", sig := { parameters := [(.object "java/lang/Object"), .int, (.object "java/lang/Object"), .int, .int], returnType := none }, accessFlags := 265, code := none }
/-- java/lang/System -/
def k14 : Class := { plain "java/lang/System" (some 0) with
  accessFlags := 49
  interfaces := #[]
  cf := some (fileOf pool14 8 #[.nestMembers #[319, 327, 801, 108, 663, 208]] #[{ accessFlags := 2, nameIndex := 5, descriptorIndex := 6, attributes := #[] }, { accessFlags := 265, nameIndex := 727, descriptorIndex := 728, attributes := #[] }] 49 2 #[] #[{ accessFlags := 25, nameIndex := 507, descriptorIndex := 526, attributes := #[] }, { accessFlags := 25, nameIndex := 399, descriptorIndex := 155, attributes := #[] }, { accessFlags := 25, nameIndex := 396, descriptorIndex := 155, attributes := #[] }, { accessFlags := 10, nameIndex := 525, descriptorIndex := 526, attributes := #[] }, { accessFlags := 26, nameIndex := 674, descriptorIndex := 12, attributes := #[] }, { accessFlags := 26, nameIndex := 677, descriptorIndex := 12, attributes := #[] }, { accessFlags := 10, nameIndex := 11, descriptorIndex := 12, attributes := #[] }, { accessFlags := 74, nameIndex := 175, descriptorIndex := 176, attributes := #[] }, { accessFlags := 10, nameIndex := 491, descriptorIndex := 222, attributes := #[] }, { accessFlags := 74, nameIndex := 29, descriptorIndex := 30, attributes := #[] }, { accessFlags := 74, nameIndex := 154, descriptorIndex := 155, attributes := #[] }, { accessFlags := 10, nameIndex := 217, descriptorIndex := 218, attributes := #[] }, { accessFlags := 10, nameIndex := 221, descriptorIndex := 222, attributes := #[] }, { accessFlags := 8, nameIndex := 562, descriptorIndex := 563, attributes := #[] }])
  fields := #[{ name := "in", type := (.object "java/io/InputStream"), accessFlags := 25, slot := 0, constantValue := 0 }, { name := "out", type := (.object "java/io/PrintStream"), accessFlags := 25, slot := 1, constantValue := 0 }, { name := "err", type := (.object "java/io/PrintStream"), accessFlags := 25, slot := 2, constantValue := 0 }, { name := "initialIn", type := (.object "java/io/InputStream"), accessFlags := 10, slot := 3, constantValue := 0 }, { name := "NEVER", type := .int, accessFlags := 26, slot := 4, constantValue := 0 }, { name := "MAYBE", type := .int, accessFlags := 26, slot := 5, constantValue := 0 }, { name := "allowSecurityManager", type := .int, accessFlags := 10, slot := 6, constantValue := 0 }, { name := "security", type := (.object "java/lang/SecurityManager"), accessFlags := 74, slot := 7, constantValue := 0 }, { name := "notSupportedJnuEncoding", type := (.object "java/lang/String"), accessFlags := 10, slot := 8, constantValue := 0 }, { name := "cons", type := (.object "java/io/Console"), accessFlags := 74, slot := 9, constantValue := 0 }, { name := "initialErrStream", type := (.object "java/io/PrintStream"), accessFlags := 74, slot := 10, constantValue := 0 }, { name := "props", type := (.object "java/util/Properties"), accessFlags := 10, slot := 11, constantValue := 0 }, { name := "lineSeparator", type := (.object "java/lang/String"), accessFlags := 10, slot := 12, constantValue := 0 }, { name := "bootLayer", type := (.object "java/lang/ModuleLayer"), accessFlags := 8, slot := 13, constantValue := 0 }]
  methods := #[k14m0, k14m1]
  instanceTypes := #[]
  staticTypes := #[(.object "java/io/InputStream"), (.object "java/io/PrintStream"), (.object "java/io/PrintStream"), (.object "java/io/InputStream"), .int, .int, .int, (.object "java/lang/SecurityManager"), (.object "java/lang/String"), (.object "java/io/Console"), (.object "java/io/PrintStream"), (.object "java/util/Properties"), (.object "java/lang/String"), (.object "java/lang/ModuleLayer")]
  resolved := Array.replicate 834 none
  statics := none }

def pool15 : Array CpInfo := pool [(9, u "<init>"), (6, .class_ 18), (1, u "java/lang/Object"), (0, u "()V"), (1, .class_ 23), (1, u "jdk/internal/util/ArraysSupport"), (0, u "LOG2_ARRAY_LONG_INDEX_SCALE"), (0, u "I"), (2, u "U"), (0, u "Ljdk/internal/misc/Unsafe;"), (8, u "BIG_ENDIAN"), (0, u "Z"), (8, u "LOG2_BYTE_BIT_SIZE"), (4, u "LOG2_ARRAY_INT_INDEX_SCALE"), (54, u "JLA"), (0, u "Ljdk/internal/access/JavaLangAccess;"), (11, u "LOG2_ARRAY_BOOLEAN_INDEX_SCALE"), (9, u "LOG2_ARRAY_BYTE_INDEX_SCALE"), (5, u "LOG2_ARRAY_CHAR_INDEX_SCALE"), (5, u "LOG2_ARRAY_SHORT_INDEX_SCALE"), (18, u "LOG2_ARRAY_FLOAT_INDEX_SCALE"), (24, u "LOG2_ARRAY_DOUBLE_INDEX_SCALE"), (89, u "T_BOOLEAN"), (2, u "T_CHAR"), (1, u "T_FLOAT"), (1, u "T_DOUBLE"), (1, u "T_BYTE"), (1, u "T_SHORT"), (1, u "T_INT"), (1, u "T_LONG"), (1, u "SOFT_MAX_ARRAY_LENGTH")] 83

def k15m0 : Method := { name := "<init>", desc := "()V", sig := { parameters := [], returnType := none }, accessFlags := 2, code := none }
/-- jdk/internal/util/ArraysSupport -/
def k15 : Class := { plain "jdk/internal/util/ArraysSupport" (some 0) with
  accessFlags := 33
  interfaces := #[]
  cf := some (fileOf pool15 21 #[] #[{ accessFlags := 2, nameIndex := 9, descriptorIndex := 19, attributes := #[] }] 33 16 #[] #[{ accessFlags := 24, nameIndex := 28, descriptorIndex := 29, attributes := #[] }, { accessFlags := 26, nameIndex := 38, descriptorIndex := 39, attributes := #[] }, { accessFlags := 25, nameIndex := 121, descriptorIndex := 25, attributes := #[] }, { accessFlags := 25, nameIndex := 131, descriptorIndex := 25, attributes := #[] }, { accessFlags := 25, nameIndex := 137, descriptorIndex := 25, attributes := #[] }, { accessFlags := 25, nameIndex := 143, descriptorIndex := 25, attributes := #[] }, { accessFlags := 25, nameIndex := 53, descriptorIndex := 25, attributes := #[] }, { accessFlags := 25, nameIndex := 24, descriptorIndex := 25, attributes := #[] }, { accessFlags := 25, nameIndex := 162, descriptorIndex := 25, attributes := #[] }, { accessFlags := 25, nameIndex := 187, descriptorIndex := 25, attributes := #[] }, { accessFlags := 26, nameIndex := 48, descriptorIndex := 25, attributes := #[] }, { accessFlags := 25, nameIndex := 277, descriptorIndex := 25, attributes := #[] }, { accessFlags := 25, nameIndex := 280, descriptorIndex := 25, attributes := #[] }, { accessFlags := 25, nameIndex := 282, descriptorIndex := 25, attributes := #[] }, { accessFlags := 25, nameIndex := 284, descriptorIndex := 25, attributes := #[] }, { accessFlags := 25, nameIndex := 286, descriptorIndex := 25, attributes := #[] }, { accessFlags := 25, nameIndex := 288, descriptorIndex := 25, attributes := #[] }, { accessFlags := 25, nameIndex := 290, descriptorIndex := 25, attributes := #[] }, { accessFlags := 25, nameIndex := 292, descriptorIndex := 25, attributes := #[] }, { accessFlags := 26, nameIndex := 108, descriptorIndex := 109, attributes := #[] }, { accessFlags := 25, nameIndex := 294, descriptorIndex := 25, attributes := #[] }])
  fields := #[{ name := "U", type := (.object "jdk/internal/misc/Unsafe"), accessFlags := 24, slot := 0, constantValue := 0 }, { name := "BIG_ENDIAN", type := .boolean, accessFlags := 26, slot := 1, constantValue := 0 }, { name := "LOG2_ARRAY_BOOLEAN_INDEX_SCALE", type := .int, accessFlags := 25, slot := 2, constantValue := 0 }, { name := "LOG2_ARRAY_BYTE_INDEX_SCALE", type := .int, accessFlags := 25, slot := 3, constantValue := 0 }, { name := "LOG2_ARRAY_CHAR_INDEX_SCALE", type := .int, accessFlags := 25, slot := 4, constantValue := 0 }, { name := "LOG2_ARRAY_SHORT_INDEX_SCALE", type := .int, accessFlags := 25, slot := 5, constantValue := 0 }, { name := "LOG2_ARRAY_INT_INDEX_SCALE", type := .int, accessFlags := 25, slot := 6, constantValue := 0 }, { name := "LOG2_ARRAY_LONG_INDEX_SCALE", type := .int, accessFlags := 25, slot := 7, constantValue := 0 }, { name := "LOG2_ARRAY_FLOAT_INDEX_SCALE", type := .int, accessFlags := 25, slot := 8, constantValue := 0 }, { name := "LOG2_ARRAY_DOUBLE_INDEX_SCALE", type := .int, accessFlags := 25, slot := 9, constantValue := 0 }, { name := "LOG2_BYTE_BIT_SIZE", type := .int, accessFlags := 26, slot := 10, constantValue := 0 }, { name := "T_BOOLEAN", type := .int, accessFlags := 25, slot := 11, constantValue := 0 }, { name := "T_CHAR", type := .int, accessFlags := 25, slot := 12, constantValue := 0 }, { name := "T_FLOAT", type := .int, accessFlags := 25, slot := 13, constantValue := 0 }, { name := "T_DOUBLE", type := .int, accessFlags := 25, slot := 14, constantValue := 0 }, { name := "T_BYTE", type := .int, accessFlags := 25, slot := 15, constantValue := 0 }, { name := "T_SHORT", type := .int, accessFlags := 25, slot := 16, constantValue := 0 }, { name := "T_INT", type := .int, accessFlags := 25, slot := 17, constantValue := 0 }, { name := "T_LONG", type := .int, accessFlags := 25, slot := 18, constantValue := 0 }, { name := "JLA", type := (.object "jdk/internal/access/JavaLangAccess"), accessFlags := 26, slot := 19, constantValue := 0 }, { name := "SOFT_MAX_ARRAY_LENGTH", type := .int, accessFlags := 25, slot := 20, constantValue := 0 }]
  methods := #[k15m0]
  instanceTypes := #[]
  staticTypes := #[(.object "jdk/internal/misc/Unsafe"), .boolean, .int, .int, .int, .int, .int, .int, .int, .int, .int, .int, .int, .int, .int, .int, .int, .int, .int, (.object "jdk/internal/access/JavaLangAccess"), .int]
  resolved := Array.replicate 378 none
  statics := none }

def pool16 : Array CpInfo := pool [(1, u "java/lang/Cloneable"), (0, .class_ 1), (0, u "java/lang/Object"), (0, .class_ 3)] 3

/-- java/lang/Cloneable -/
def k16 : Class := { plain "java/lang/Cloneable" (some 0) with
  accessFlags := 1537
  interfaces := #[]
  cf := some (fileOf pool16 2 #[] #[] 1537 4 #[] #[])
  fields := #[]
  methods := #[]
  instanceTypes := #[]
  staticTypes := #[]
  resolved := Array.replicate 8 none
  statics := none }

/-- the primitive byte -/
def k17 : Class := { plain "byte" none with kind := .primitive 'B', accessFlags := 0x411 }
/-- [B -/
def k18 : Class := { plain "[B" (some 0) with kind := .array 17 .byte, interfaces := #[16, 2], accessFlags := 1041 }

/-- the primitive char -/
def k19 : Class := { plain "char" none with kind := .primitive 'C', accessFlags := 0x411 }
/-- [C -/
def k20 : Class := { plain "[C" (some 0) with kind := .array 19 .char, interfaces := #[16, 2], accessFlags := 1041 }

/-- the primitive int -/
def k21 : Class := { plain "int" none with kind := .primitive 'I', accessFlags := 0x411 }
/-- [I -/
def k22 : Class := { plain "[I" (some 0) with kind := .array 21 .int, interfaces := #[16, 2], accessFlags := 1041 }

def heap : Heap := #[{ cls := 7, slots := #[.long 0, .int 1, .null, .int 0, .null, .int 0, .int 0], vm := .statics 7 },
  { cls := 12, slots := #[.null, .null, .null], vm := .statics 12 }]
def classes : Array Class := #[k0, k1, k2, k3, k4, k5, k6, k7, k8, k9, k10, k11, k12, k13, k14, k15, k16, k17, k18, k19, k20, k21, k22]
def interned : List (Array UInt16 × Addr) := []
def slotsUsed : Nat := 10
def theMethod : MethodId := ⟨1, 1⟩
def args0 : Array Value := #[.int 5, .int 66, .int 67, .int 68]
def aboutOver (below : List Frame) : State where
  vm := { classes := classes, interned := interned.toArray }
  heap := heap
  slotsUsed := slotsUsed
  threads := #[{ frames := .invoking theMethod args0 :: below }]
def below0 : List Frame := [.native { method := ⟨0, 0⟩, args := #[] }]
def about1 : State := aboutOver below0
def p0 : Program := .bare "" "" ""
def e0 : Env := launch0.env 0 0 0
theorem w_frames : about1.frames = Frame.invoking theMethod args0 :: below0 := rfl
set_option maxRecDepth 65536 in
theorem w_args : argsFit about1.vm theMethod args0 = true := by decide +kernel
set_option maxRecDepth 65536 in
theorem w_heap : heapFits about1 = true := by decide +kernel
set_option maxRecDepth 65536 in
theorem w_runnable : about1.curStatus? = some .runnable := by decide +kernel
set_option maxRecDepth 65536 in
theorem w_alone : about1.alone = true := by decide +kernel
set_option maxRecDepth 65536 in
theorem w_named : about1.methodNamed? x = some theMethod := by decide +kernel
set_option maxRecDepth 65536 in
theorem w_hears : about1.hears theMethod below0 = true := by decide +kernel
set_option maxRecDepth 65536 in
theorem w_ripe : about1.ripe theMethod args0 below0 = true := by decide +kernel
theorem w_running : about1.status = .running := rfl
set_option maxRecDepth 65536 in
theorem w_room : about1.hasRoom e0.platform room_1 = true :=
  launch0.hasRoom_least _ room_1 (by decide +kernel) (by decide +kernel) (by decide +kernel) (by decide +kernel) (by decide +kernel) (by decide +kernel)
theorem allAtoms_all (ts : List Jvm.Cond) (a : Array Jvm.Value) (st : Jvm.State) : (allAtoms ts).before a st = ts.all (fun c => c.before a st) := by
  induction ts with
  | nil => rfl
  | cons c t ih =>
    show (Jvm.Cond.and c (allAtoms t)).before a st = _
    rw [Jvm.Cond.before_and, ih, List.all_cons]
def words1 : List Jvm.Cond := Jvm.Cond.code x code maxLocals ret :: tables_1
/-- a 'code' word, met by the world's own term for the bytes: nothing is compared byte by byte -/
theorem code_word {y : MethodName} {bytes : ByteArray} {mx : Nat} {rt : Option FieldType} {a : Array Value} {s : State} {m : MethodId} {meth : Method} {c : Code} (h1 : s.methodNamed? y = some m) (h2 : s.vm.method? m = some meth) (h3 : meth.code = some c) (h4 : c.code = bytes)
    (h5 : (c.maxLocals == mx && c.exceptionTable.isEmpty && decide (c.maxStack ≤ mostOperands) && decide (meth.sig.returnType = rt) && !meth.locks && decide (parseMethodDescriptor y.desc = some meth.sig)) = true) : (Jvm.Cond.code y bytes mx rt).before a s = true := by
  simp only [Bool.and_eq_true, beq_iff_eq, Bool.not_eq_true', decide_eq_true_eq] at h5
  obtain ⟨⟨⟨⟨⟨g1, g2⟩, g3⟩, g4⟩, g5⟩, g6⟩ := h5
  simp [Cond.before, Cond.holds, Cond.value, h1, h2, h3, h4, g1, g2, g3, g4, g5, g6]
def isCode : Jvm.Cond → Bool
  | .code _ _ _ _ => true
  | _ => false
theorem all_split {L : List Jvm.Cond} {P : Jvm.Cond → Bool} (h1 : L.all (fun c => isCode c || P c) = true) (h2 : ∀ c ∈ L.filter isCode, P c = true) : L.all P = true := by
  refine List.all_eq_true.mpr fun c hc => ?_
  have h := List.all_eq_true.mp h1 c hc
  rcases Bool.eq_false_or_eq_true (isCode c) with hi | hi
  · exact h2 c (List.mem_filter.mpr ⟨hc, hi⟩)
  · simpa [hi] using h
set_option maxRecDepth 65536 in
theorem w_c0 : (Jvm.Cond.code x code maxLocals ret).before args0 about1 = true := code_word (m := ⟨1, 1⟩) (meth := k1m1) (c := k1c1) (by decide +kernel) rfl rfl rfl (by decide +kernel)
set_option maxRecDepth 65536 in
theorem w_c1 : (Jvm.Cond.code ({ cls := "com/example/keep_to_layer/keeptolayer/model/ClassNamesOutermostOfPinLaw", name := "pick", desc := "(I)C" } : Jvm.MethodName) method_4_code (2 : Nat) (Option.some Jvm.ClassFile.FieldType.char)).before args0 about1 = true := code_word (m := ⟨1, 3⟩) (meth := k1m3) (c := k1c3) (by decide +kernel) rfl rfl rfl (by decide +kernel)
set_option maxRecDepth 65536 in
theorem w_c2 : (Jvm.Cond.code ({ cls := "com/example/keep_to_layer/keeptolayer/model/ClassNamesOutermostOfPinLaw", name := "make", desc := "(I)[C" } : Jvm.MethodName) method_5_code (1 : Nat) (Option.some (Jvm.ClassFile.FieldType.array Jvm.ClassFile.FieldType.char))).before args0 about1 = true := code_word (m := ⟨1, 4⟩) (meth := k1m4) (c := k1c4) (by decide +kernel) rfl rfl rfl (by decide +kernel)
set_option maxRecDepth 65536 in
theorem w_c3 : (Jvm.Cond.code ({ cls := "java/lang/String", name := "<init>", desc := "([C)V" } : Jvm.MethodName) jdk_42_method_3_code (2 : Nat) (Option.none : Option Jvm.ClassFile.FieldType)).before args0 about1 = true := code_word (m := ⟨7, 1⟩) (meth := k7m1) (c := k7c1) (by decide +kernel) rfl rfl rfl (by decide +kernel)
set_option maxRecDepth 65536 in
theorem w_c4 : (Jvm.Cond.code ({ cls := "java/lang/String", name := "<init>", desc := "([CIILjava/lang/Void;)V" } : Jvm.MethodName) jdk_42_method_149_code (6 : Nat) (Option.none : Option Jvm.ClassFile.FieldType)).before args0 about1 = true := code_word (m := ⟨7, 8⟩) (meth := k7m8) (c := k7c8) (by decide +kernel) rfl rfl rfl (by decide +kernel)
set_option maxRecDepth 65536 in
theorem w_c5 : (Jvm.Cond.code ({ cls := "java/lang/Object", name := "<init>", desc := "()V" } : Jvm.MethodName) object_method_1_code (1 : Nat) (Option.none : Option Jvm.ClassFile.FieldType)).before args0 about1 = true := code_word (m := ⟨0, 0⟩) (meth := k0m0) (c := k0c0) (by decide +kernel) rfl rfl rfl (by decide +kernel)
set_option maxRecDepth 65536 in
theorem w_c6 : (Jvm.Cond.code ({ cls := "com/example/keep_to_layer/keeptolayer/model/ClassNames", name := "outermostOf", desc := "(Ljava/lang/String;)Ljava/lang/String;" } : Jvm.MethodName) prog_14_method_5_code (3 : Nat) (Option.some (Jvm.ClassFile.FieldType.object "java/lang/String"))).before args0 about1 = true := code_word (m := ⟨8, 1⟩) (meth := k8m1) (c := k8c1) (by decide +kernel) rfl rfl rfl (by decide +kernel)
set_option maxRecDepth 65536 in
theorem w_c7 : (Jvm.Cond.code ({ cls := "java/lang/String", name := "lastIndexOf", desc := "(I)I" } : Jvm.MethodName) jdk_42_method_82_code (2 : Nat) (Option.some Jvm.ClassFile.FieldType.int)).before args0 about1 = true := code_word (m := ⟨7, 5⟩) (meth := k7m5) (c := k7c5) (by decide +kernel) rfl rfl rfl (by decide +kernel)
set_option maxRecDepth 65536 in
theorem w_c8 : (Jvm.Cond.code ({ cls := "java/lang/String", name := "length", desc := "()I" } : Jvm.MethodName) jdk_42_method_54_code (1 : Nat) (Option.some Jvm.ClassFile.FieldType.int)).before args0 about1 = true := code_word (m := ⟨7, 2⟩) (meth := k7m2) (c := k7c2) (by decide +kernel) rfl rfl rfl (by decide +kernel)
set_option maxRecDepth 65536 in
theorem w_c9 : (Jvm.Cond.code ({ cls := "java/lang/String", name := "coder", desc := "()B" } : Jvm.MethodName) jdk_42_method_152_code (1 : Nat) (Option.some Jvm.ClassFile.FieldType.byte)).before args0 about1 = true := code_word (m := ⟨7, 10⟩) (meth := k7m10) (c := k7c10) (by decide +kernel) rfl rfl rfl (by decide +kernel)
set_option maxRecDepth 65536 in
theorem w_c10 : (Jvm.Cond.code ({ cls := "java/lang/String", name := "lastIndexOf", desc := "(II)I" } : Jvm.MethodName) jdk_42_method_83_code (3 : Nat) (Option.some Jvm.ClassFile.FieldType.int)).before args0 about1 = true := code_word (m := ⟨7, 6⟩) (meth := k7m6) (c := k7c6) (by decide +kernel) rfl rfl rfl (by decide +kernel)
set_option maxRecDepth 65536 in
theorem w_c11 : (Jvm.Cond.code ({ cls := "java/lang/String", name := "isLatin1", desc := "()Z" } : Jvm.MethodName) jdk_42_method_154_code (1 : Nat) (Option.some Jvm.ClassFile.FieldType.boolean)).before args0 about1 = true := code_word (m := ⟨7, 11⟩) (meth := k7m11) (c := k7c11) (by decide +kernel) rfl rfl rfl (by decide +kernel)
set_option maxRecDepth 65536 in
theorem w_c12 : (Jvm.Cond.code ({ cls := "java/lang/StringLatin1", name := "lastIndexOf", desc := "([BII)I" } : Jvm.MethodName) jdk_43_method_27_code (4 : Nat) (Option.some Jvm.ClassFile.FieldType.int)).before args0 about1 = true := code_word (m := ⟨9, 5⟩) (meth := k9m5) (c := k9c5) (by decide +kernel) rfl rfl rfl (by decide +kernel)
set_option maxRecDepth 65536 in
theorem w_c13 : (Jvm.Cond.code ({ cls := "java/lang/StringLatin1", name := "canEncode", desc := "(I)Z" } : Jvm.MethodName) jdk_43_method_4_code (1 : Nat) (Option.some Jvm.ClassFile.FieldType.boolean)).before args0 about1 = true := code_word (m := ⟨9, 2⟩) (meth := k9m2) (c := k9c2) (by decide +kernel) rfl rfl rfl (by decide +kernel)
set_option maxRecDepth 65536 in
theorem w_c14 : (Jvm.Cond.code ({ cls := "java/lang/Math", name := "min", desc := "(II)I" } : Jvm.MethodName) jdk_29_method_69_code (2 : Nat) (Option.some Jvm.ClassFile.FieldType.int)).before args0 about1 = true := code_word (m := ⟨10, 2⟩) (meth := k10m2) (c := k10c2) (by decide +kernel) rfl rfl rfl (by decide +kernel)
set_option maxRecDepth 65536 in
theorem w_c15 : (Jvm.Cond.code ({ cls := "java/lang/String", name := "indexOf", desc := "(II)I" } : Jvm.MethodName) jdk_42_method_80_code (3 : Nat) (Option.some Jvm.ClassFile.FieldType.int)).before args0 about1 = true := code_word (m := ⟨7, 4⟩) (meth := k7m4) (c := k7c4) (by decide +kernel) rfl rfl rfl (by decide +kernel)
set_option maxRecDepth 65536 in
theorem w_c16 : (Jvm.Cond.code ({ cls := "java/lang/StringLatin1", name := "indexOf", desc := "([BIII)I" } : Jvm.MethodName) jdk_43_method_22_code (4 : Nat) (Option.some Jvm.ClassFile.FieldType.int)).before args0 about1 = true := code_word (m := ⟨9, 3⟩) (meth := k9m3) (c := k9c3) (by decide +kernel) rfl rfl rfl (by decide +kernel)
set_option maxRecDepth 65536 in
theorem w_c17 : (Jvm.Cond.code ({ cls := "java/lang/Math", name := "max", desc := "(II)I" } : Jvm.MethodName) jdk_29_method_65_code (2 : Nat) (Option.some Jvm.ClassFile.FieldType.int)).before args0 about1 = true := code_word (m := ⟨10, 1⟩) (meth := k10m1) (c := k10c1) (by decide +kernel) rfl rfl rfl (by decide +kernel)
set_option maxRecDepth 65536 in
theorem w_c18 : (Jvm.Cond.code ({ cls := "com/example/keep_to_layer/keeptolayer/model/ClassNamesOutermostOfPinLaw", name := "is", desc := "([CIIC)Z" } : Jvm.MethodName) method_3_code (4 : Nat) (Option.some Jvm.ClassFile.FieldType.boolean)).before args0 about1 = true := code_word (m := ⟨1, 2⟩) (meth := k1m2) (c := k1c2) (by decide +kernel) rfl rfl rfl (by decide +kernel)
set_option maxRecDepth 65536 in
theorem w_c19 : (Jvm.Cond.code ({ cls := "com/example/keep_to_layer/keeptolayer/model/ClassNamesOutermostOfPinLaw", name := "same", desc := "(Ljava/lang/String;[CII)Z" } : Jvm.MethodName) method_6_code (4 : Nat) (Option.some Jvm.ClassFile.FieldType.boolean)).before args0 about1 = true := code_word (m := ⟨1, 5⟩) (meth := k1m5) (c := k1c5) (by decide +kernel) rfl rfl rfl (by decide +kernel)
set_option maxRecDepth 65536 in
theorem w_c20 : (Jvm.Cond.code ({ cls := "java/lang/StringUTF16", name := "compress", desc := "([CII)[B" } : Jvm.MethodName) jdk_52_method_16_code (6 : Nat) (Option.some (Jvm.ClassFile.FieldType.array Jvm.ClassFile.FieldType.byte))).before args0 about1 = true := code_word (m := ⟨11, 2⟩) (meth := k11m2) (c := k11c2) (by decide +kernel) rfl rfl rfl (by decide +kernel)
set_option maxRecDepth 65536 in
theorem w_c21 : (Jvm.Cond.code ({ cls := "java/lang/StringUTF16", name := "compress", desc := "([CI[BII)I" } : Jvm.MethodName) jdk_52_method_21_code (7 : Nat) (Option.some Jvm.ClassFile.FieldType.int)).before args0 about1 = true := code_word (m := ⟨11, 3⟩) (meth := k11m3) (c := k11c3) (by decide +kernel) rfl rfl rfl (by decide +kernel)
set_option maxRecDepth 65536 in
theorem w_c22 : (Jvm.Cond.code ({ cls := "java/lang/StringUTF16", name := "coderFromArrayLen", desc := "([BI)B" } : Jvm.MethodName) jdk_52_method_15_code (2 : Nat) (Option.some Jvm.ClassFile.FieldType.byte)).before args0 about1 = true := code_word (m := ⟨11, 1⟩) (meth := k11m1) (c := k11c1) (by decide +kernel) rfl rfl rfl (by decide +kernel)
set_option maxRecDepth 65536 in
theorem w_c23 : (Jvm.Cond.code ({ cls := "java/lang/String", name := "charAt", desc := "(I)C" } : Jvm.MethodName) jdk_42_method_56_code (2 : Nat) (Option.some Jvm.ClassFile.FieldType.char)).before args0 about1 = true := code_word (m := ⟨7, 3⟩) (meth := k7m3) (c := k7c3) (by decide +kernel) rfl rfl rfl (by decide +kernel)
set_option maxRecDepth 65536 in
theorem w_c24 : (Jvm.Cond.code ({ cls := "java/lang/StringLatin1", name := "charAt", desc := "([BI)C" } : Jvm.MethodName) jdk_43_method_2_code (2 : Nat) (Option.some Jvm.ClassFile.FieldType.char)).before args0 about1 = true := code_word (m := ⟨9, 1⟩) (meth := k9m1) (c := k9c1) (by decide +kernel) rfl rfl rfl (by decide +kernel)
set_option maxRecDepth 65536 in
theorem w_c25 : (Jvm.Cond.code ({ cls := "java/lang/String", name := "checkIndex", desc := "(II)V" } : Jvm.MethodName) jdk_42_method_155_code (2 : Nat) (Option.none : Option Jvm.ClassFile.FieldType)).before args0 about1 = true := code_word (m := ⟨7, 12⟩) (meth := k7m12) (c := k7c12) (by decide +kernel) rfl rfl rfl (by decide +kernel)
set_option maxRecDepth 65536 in
theorem w_c26 : (Jvm.Cond.code ({ cls := "jdk/internal/util/Preconditions", name := "checkIndex", desc := "(IILjava/util/function/BiFunction;)I" } : Jvm.MethodName) jdk_41_method_11_code (3 : Nat) (Option.some Jvm.ClassFile.FieldType.int)).before args0 about1 = true := code_word (m := ⟨12, 1⟩) (meth := k12m1) (c := k12c1) (by decide +kernel) rfl rfl rfl (by decide +kernel)
set_option maxRecDepth 65536 in
theorem w_c27 : (Jvm.Cond.code ({ cls := "java/lang/StringLatin1", name := "indexOfChar", desc := "([BIII)I" } : Jvm.MethodName) jdk_43_method_23_code (6 : Nat) (Option.some Jvm.ClassFile.FieldType.int)).before args0 about1 = true := code_word (m := ⟨9, 4⟩) (meth := k9m4) (c := k9c4) (by decide +kernel) rfl rfl rfl (by decide +kernel)
set_option maxRecDepth 65536 in
theorem w_c28 : (Jvm.Cond.code ({ cls := "java/lang/String", name := "substring", desc := "(II)Ljava/lang/String;" } : Jvm.MethodName) jdk_42_method_92_code (5 : Nat) (Option.some (Jvm.ClassFile.FieldType.object "java/lang/String"))).before args0 about1 = true := code_word (m := ⟨7, 7⟩) (meth := k7m7) (c := k7c7) (by decide +kernel) rfl rfl rfl (by decide +kernel)
set_option maxRecDepth 65536 in
theorem w_c29 : (Jvm.Cond.code ({ cls := "java/lang/String", name := "checkBoundsBeginEnd", desc := "(III)V" } : Jvm.MethodName) jdk_42_method_158_code (3 : Nat) (Option.none : Option Jvm.ClassFile.FieldType)).before args0 about1 = true := code_word (m := ⟨7, 13⟩) (meth := k7m13) (c := k7c13) (by decide +kernel) rfl rfl rfl (by decide +kernel)
set_option maxRecDepth 65536 in
theorem w_c30 : (Jvm.Cond.code ({ cls := "jdk/internal/util/Preconditions", name := "checkFromToIndex", desc := "(IIILjava/util/function/BiFunction;)I" } : Jvm.MethodName) jdk_41_method_12_code (4 : Nat) (Option.some Jvm.ClassFile.FieldType.int)).before args0 about1 = true := code_word (m := ⟨12, 2⟩) (meth := k12m2) (c := k12c2) (by decide +kernel) rfl rfl rfl (by decide +kernel)
set_option maxRecDepth 65536 in
theorem w_c31 : (Jvm.Cond.code ({ cls := "java/lang/StringLatin1", name := "newString", desc := "([BII)Ljava/lang/String;" } : Jvm.MethodName) jdk_43_method_47_code (3 : Nat) (Option.some (Jvm.ClassFile.FieldType.object "java/lang/String"))).before args0 about1 = true := code_word (m := ⟨9, 6⟩) (meth := k9m6) (c := k9c6) (by decide +kernel) rfl rfl rfl (by decide +kernel)
set_option maxRecDepth 65536 in
theorem w_c32 : (Jvm.Cond.code ({ cls := "java/util/Arrays", name := "copyOfRange", desc := "([BII)[B" } : Jvm.MethodName) jdk_65_method_132_code (3 : Nat) (Option.some (Jvm.ClassFile.FieldType.array Jvm.ClassFile.FieldType.byte))).before args0 about1 = true := code_word (m := ⟨13, 2⟩) (meth := k13m2) (c := k13c2) (by decide +kernel) rfl rfl rfl (by decide +kernel)
set_option maxRecDepth 65536 in
theorem w_c33 : (Jvm.Cond.code ({ cls := "java/util/Arrays", name := "copyOfRangeByte", desc := "([BII)[B" } : Jvm.MethodName) jdk_65_method_133_code (5 : Nat) (Option.some (Jvm.ClassFile.FieldType.array Jvm.ClassFile.FieldType.byte))).before args0 about1 = true := code_word (m := ⟨13, 3⟩) (meth := k13m3) (c := k13c3) (by decide +kernel) rfl rfl rfl (by decide +kernel)
set_option maxRecDepth 65536 in
theorem w_c34 : (Jvm.Cond.code ({ cls := "java/util/Arrays", name := "checkLength", desc := "(II)V" } : Jvm.MethodName) jdk_65_method_131_code (2 : Nat) (Option.none : Option Jvm.ClassFile.FieldType)).before args0 about1 = true := code_word (m := ⟨13, 1⟩) (meth := k13m1) (c := k13c1) (by decide +kernel) rfl rfl rfl (by decide +kernel)
set_option maxRecDepth 65536 in
theorem w_c35 : (Jvm.Cond.code ({ cls := "java/lang/String", name := "<init>", desc := "([BB)V" } : Jvm.MethodName) jdk_42_method_151_code (3 : Nat) (Option.none : Option Jvm.ClassFile.FieldType)).before args0 about1 = true := code_word (m := ⟨7, 9⟩) (meth := k7m9) (c := k7c9) (by decide +kernel) rfl rfl rfl (by decide +kernel)
def codes1 : List Jvm.Cond := [Jvm.Cond.code x code maxLocals ret, Jvm.Cond.code ({ cls := "com/example/keep_to_layer/keeptolayer/model/ClassNamesOutermostOfPinLaw", name := "pick", desc := "(I)C" } : Jvm.MethodName) method_4_code (2 : Nat) (Option.some Jvm.ClassFile.FieldType.char), Jvm.Cond.code ({ cls := "com/example/keep_to_layer/keeptolayer/model/ClassNamesOutermostOfPinLaw", name := "make", desc := "(I)[C" } : Jvm.MethodName) method_5_code (1 : Nat) (Option.some (Jvm.ClassFile.FieldType.array Jvm.ClassFile.FieldType.char)), Jvm.Cond.code ({ cls := "java/lang/String", name := "<init>", desc := "([C)V" } : Jvm.MethodName) jdk_42_method_3_code (2 : Nat) (Option.none : Option Jvm.ClassFile.FieldType), Jvm.Cond.code ({ cls := "java/lang/String", name := "<init>", desc := "([CIILjava/lang/Void;)V" } : Jvm.MethodName) jdk_42_method_149_code (6 : Nat) (Option.none : Option Jvm.ClassFile.FieldType), Jvm.Cond.code ({ cls := "java/lang/Object", name := "<init>", desc := "()V" } : Jvm.MethodName) object_method_1_code (1 : Nat) (Option.none : Option Jvm.ClassFile.FieldType), Jvm.Cond.code ({ cls := "com/example/keep_to_layer/keeptolayer/model/ClassNames", name := "outermostOf", desc := "(Ljava/lang/String;)Ljava/lang/String;" } : Jvm.MethodName) prog_14_method_5_code (3 : Nat) (Option.some (Jvm.ClassFile.FieldType.object "java/lang/String")), Jvm.Cond.code ({ cls := "java/lang/String", name := "lastIndexOf", desc := "(I)I" } : Jvm.MethodName) jdk_42_method_82_code (2 : Nat) (Option.some Jvm.ClassFile.FieldType.int), Jvm.Cond.code ({ cls := "java/lang/String", name := "length", desc := "()I" } : Jvm.MethodName) jdk_42_method_54_code (1 : Nat) (Option.some Jvm.ClassFile.FieldType.int), Jvm.Cond.code ({ cls := "java/lang/String", name := "coder", desc := "()B" } : Jvm.MethodName) jdk_42_method_152_code (1 : Nat) (Option.some Jvm.ClassFile.FieldType.byte), Jvm.Cond.code ({ cls := "java/lang/String", name := "lastIndexOf", desc := "(II)I" } : Jvm.MethodName) jdk_42_method_83_code (3 : Nat) (Option.some Jvm.ClassFile.FieldType.int), Jvm.Cond.code ({ cls := "java/lang/String", name := "isLatin1", desc := "()Z" } : Jvm.MethodName) jdk_42_method_154_code (1 : Nat) (Option.some Jvm.ClassFile.FieldType.boolean), Jvm.Cond.code ({ cls := "java/lang/StringLatin1", name := "lastIndexOf", desc := "([BII)I" } : Jvm.MethodName) jdk_43_method_27_code (4 : Nat) (Option.some Jvm.ClassFile.FieldType.int), Jvm.Cond.code ({ cls := "java/lang/StringLatin1", name := "canEncode", desc := "(I)Z" } : Jvm.MethodName) jdk_43_method_4_code (1 : Nat) (Option.some Jvm.ClassFile.FieldType.boolean), Jvm.Cond.code ({ cls := "java/lang/Math", name := "min", desc := "(II)I" } : Jvm.MethodName) jdk_29_method_69_code (2 : Nat) (Option.some Jvm.ClassFile.FieldType.int), Jvm.Cond.code ({ cls := "java/lang/String", name := "indexOf", desc := "(II)I" } : Jvm.MethodName) jdk_42_method_80_code (3 : Nat) (Option.some Jvm.ClassFile.FieldType.int), Jvm.Cond.code ({ cls := "java/lang/StringLatin1", name := "indexOf", desc := "([BIII)I" } : Jvm.MethodName) jdk_43_method_22_code (4 : Nat) (Option.some Jvm.ClassFile.FieldType.int), Jvm.Cond.code ({ cls := "java/lang/Math", name := "max", desc := "(II)I" } : Jvm.MethodName) jdk_29_method_65_code (2 : Nat) (Option.some Jvm.ClassFile.FieldType.int), Jvm.Cond.code ({ cls := "com/example/keep_to_layer/keeptolayer/model/ClassNamesOutermostOfPinLaw", name := "is", desc := "([CIIC)Z" } : Jvm.MethodName) method_3_code (4 : Nat) (Option.some Jvm.ClassFile.FieldType.boolean), Jvm.Cond.code ({ cls := "com/example/keep_to_layer/keeptolayer/model/ClassNamesOutermostOfPinLaw", name := "same", desc := "(Ljava/lang/String;[CII)Z" } : Jvm.MethodName) method_6_code (4 : Nat) (Option.some Jvm.ClassFile.FieldType.boolean), Jvm.Cond.code ({ cls := "java/lang/StringUTF16", name := "compress", desc := "([CII)[B" } : Jvm.MethodName) jdk_52_method_16_code (6 : Nat) (Option.some (Jvm.ClassFile.FieldType.array Jvm.ClassFile.FieldType.byte)), Jvm.Cond.code ({ cls := "java/lang/StringUTF16", name := "compress", desc := "([CI[BII)I" } : Jvm.MethodName) jdk_52_method_21_code (7 : Nat) (Option.some Jvm.ClassFile.FieldType.int), Jvm.Cond.code ({ cls := "java/lang/StringUTF16", name := "coderFromArrayLen", desc := "([BI)B" } : Jvm.MethodName) jdk_52_method_15_code (2 : Nat) (Option.some Jvm.ClassFile.FieldType.byte), Jvm.Cond.code ({ cls := "java/lang/String", name := "charAt", desc := "(I)C" } : Jvm.MethodName) jdk_42_method_56_code (2 : Nat) (Option.some Jvm.ClassFile.FieldType.char), Jvm.Cond.code ({ cls := "java/lang/StringLatin1", name := "charAt", desc := "([BI)C" } : Jvm.MethodName) jdk_43_method_2_code (2 : Nat) (Option.some Jvm.ClassFile.FieldType.char), Jvm.Cond.code ({ cls := "java/lang/String", name := "checkIndex", desc := "(II)V" } : Jvm.MethodName) jdk_42_method_155_code (2 : Nat) (Option.none : Option Jvm.ClassFile.FieldType), Jvm.Cond.code ({ cls := "jdk/internal/util/Preconditions", name := "checkIndex", desc := "(IILjava/util/function/BiFunction;)I" } : Jvm.MethodName) jdk_41_method_11_code (3 : Nat) (Option.some Jvm.ClassFile.FieldType.int), Jvm.Cond.code ({ cls := "java/lang/StringLatin1", name := "indexOfChar", desc := "([BIII)I" } : Jvm.MethodName) jdk_43_method_23_code (6 : Nat) (Option.some Jvm.ClassFile.FieldType.int), Jvm.Cond.code ({ cls := "java/lang/String", name := "substring", desc := "(II)Ljava/lang/String;" } : Jvm.MethodName) jdk_42_method_92_code (5 : Nat) (Option.some (Jvm.ClassFile.FieldType.object "java/lang/String")), Jvm.Cond.code ({ cls := "java/lang/String", name := "checkBoundsBeginEnd", desc := "(III)V" } : Jvm.MethodName) jdk_42_method_158_code (3 : Nat) (Option.none : Option Jvm.ClassFile.FieldType), Jvm.Cond.code ({ cls := "jdk/internal/util/Preconditions", name := "checkFromToIndex", desc := "(IIILjava/util/function/BiFunction;)I" } : Jvm.MethodName) jdk_41_method_12_code (4 : Nat) (Option.some Jvm.ClassFile.FieldType.int), Jvm.Cond.code ({ cls := "java/lang/StringLatin1", name := "newString", desc := "([BII)Ljava/lang/String;" } : Jvm.MethodName) jdk_43_method_47_code (3 : Nat) (Option.some (Jvm.ClassFile.FieldType.object "java/lang/String")), Jvm.Cond.code ({ cls := "java/util/Arrays", name := "copyOfRange", desc := "([BII)[B" } : Jvm.MethodName) jdk_65_method_132_code (3 : Nat) (Option.some (Jvm.ClassFile.FieldType.array Jvm.ClassFile.FieldType.byte)), Jvm.Cond.code ({ cls := "java/util/Arrays", name := "copyOfRangeByte", desc := "([BII)[B" } : Jvm.MethodName) jdk_65_method_133_code (5 : Nat) (Option.some (Jvm.ClassFile.FieldType.array Jvm.ClassFile.FieldType.byte)), Jvm.Cond.code ({ cls := "java/util/Arrays", name := "checkLength", desc := "(II)V" } : Jvm.MethodName) jdk_65_method_131_code (2 : Nat) (Option.none : Option Jvm.ClassFile.FieldType), Jvm.Cond.code ({ cls := "java/lang/String", name := "<init>", desc := "([BB)V" } : Jvm.MethodName) jdk_42_method_151_code (3 : Nat) (Option.none : Option Jvm.ClassFile.FieldType)]
set_option maxRecDepth 65536 in
theorem codes_eq : words1.filter isCode = codes1 := rfl
theorem w_codes : ∀ c ∈ words1.filter isCode, c.before args0 about1 = true := by
  rw [codes_eq]
  intro c hc
  simp only [codes1, List.mem_cons, List.not_mem_nil, or_false] at hc
  rcases hc with rfl | rfl | rfl | rfl | rfl | rfl | rfl | rfl | rfl | rfl | rfl | rfl | rfl | rfl | rfl | rfl | rfl | rfl | rfl | rfl | rfl | rfl | rfl | rfl | rfl | rfl | rfl | rfl | rfl | rfl | rfl | rfl | rfl | rfl | rfl | rfl
  · exact w_c0
  · exact w_c1
  · exact w_c2
  · exact w_c3
  · exact w_c4
  · exact w_c5
  · exact w_c6
  · exact w_c7
  · exact w_c8
  · exact w_c9
  · exact w_c10
  · exact w_c11
  · exact w_c12
  · exact w_c13
  · exact w_c14
  · exact w_c15
  · exact w_c16
  · exact w_c17
  · exact w_c18
  · exact w_c19
  · exact w_c20
  · exact w_c21
  · exact w_c22
  · exact w_c23
  · exact w_c24
  · exact w_c25
  · exact w_c26
  · exact w_c27
  · exact w_c28
  · exact w_c29
  · exact w_c30
  · exact w_c31
  · exact w_c32
  · exact w_c33
  · exact w_c34
  · exact w_c35
set_option maxRecDepth 65536 in
theorem w_t1 : (words1.take 24).all (fun c => isCode c || c.before args0 about1) = true := by decide +kernel
set_option maxRecDepth 65536 in
theorem w_t2 : ((words1.drop 24).take 24).all (fun c => isCode c || c.before args0 about1) = true := by decide +kernel
set_option maxRecDepth 65536 in
theorem w_t3 : (((words1.drop 24).drop 24).take 24).all (fun c => isCode c || c.before args0 about1) = true := by decide +kernel
set_option maxRecDepth 65536 in
theorem w_t4 : ((((words1.drop 24).drop 24).drop 24).take 24).all (fun c => isCode c || c.before args0 about1) = true := by decide +kernel
set_option maxRecDepth 65536 in
theorem w_t5 : (((((words1.drop 24).drop 24).drop 24).drop 24).take 24).all (fun c => isCode c || c.before args0 about1) = true := by decide +kernel
set_option maxRecDepth 65536 in
theorem w_t6 : ((((((words1.drop 24).drop 24).drop 24).drop 24).drop 24).take 24).all (fun c => isCode c || c.before args0 about1) = true := by decide +kernel
set_option maxRecDepth 65536 in
theorem w_t7 : ((((((words1.drop 24).drop 24).drop 24).drop 24).drop 24).drop 24).all (fun c => isCode c || c.before args0 about1) = true := by decide +kernel
theorem w_tables : (allAtoms (Jvm.Cond.code x code maxLocals ret :: tables_1)).before args0 about1 = true := by
  rw [allAtoms_all]
  show words1.all (fun c => c.before args0 about1) = true
  refine all_split ?_ w_codes
  rw [← List.take_append_drop 24 words1, List.all_append, w_t1, ← List.take_append_drop 24 (words1.drop 24), List.all_append, w_t2, ← List.take_append_drop 24 ((words1.drop 24).drop 24), List.all_append, w_t3, ← List.take_append_drop 24 (((words1.drop 24).drop 24).drop 24), List.all_append, w_t4, ← List.take_append_drop 24 ((((words1.drop 24).drop 24).drop 24).drop 24), List.all_append, w_t5, ← List.take_append_drop 24 (((((words1.drop 24).drop 24).drop 24).drop 24).drop 24), List.all_append, w_t6, w_t7]
  rfl
set_option maxRecDepth 65536 in
theorem w_rest : rest_1_c.before args0 about1 = true := by decide +kernel
set_option maxRecDepth 65536 in
theorem w_case : (Jvm.Cond.and given_1 narrow_1).before args0 about1 = true := by decide +kernel
set_option maxRecDepth 65536 in
theorem w_consts : constsHeld consts_1 about1 := Jvm.Lit.constsHeldB_iff.mp (by decide +kernel)
theorem w_applies : (headSpec (Jvm.Cond.code x code maxLocals ret :: tables_1) room_1).applies x e0.platform about1 = true :=
  (Spec.applies_iff w_frames).mpr ⟨w_running, w_runnable, w_alone, w_named, w_hears, w_ripe, w_room, w_tables⟩
theorem atStart : AtStart classFile x code maxLocals ret World_1 tables_1 room_1 Calls_1 rest_1 Pre_1 launch0 p0 e0 about1 theMethod args0 below0 :=
  ⟨lists_1, trivial, launch0.admits_env _ _ _, launch0.least_env, fairChoices_fair.cas, fairChoices_fair.clock, w_frames, w_args, w_heap, w_applies, ⟨w_consts, trivial⟩, w_rest, w_case⟩
end start1
theorem witness_1 : WitnessClaimed_1 := ⟨start1.p0, start1.e0, start1.about1, start1.theMethod, start1.args0, start1.below0, start1.atStart⟩
end Jvm.Pilot.@@N@@
