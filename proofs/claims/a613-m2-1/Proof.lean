import JvmDerived
import JvmDerived.Pilot.@@N@@Statement
import JvmDerived.Pilot.@@N@@Code
set_option linter.unusedVariables false
set_option linter.unusedSimpArgs false

/- laws to paste: Road.backV, Road.lenW, Road.codOf (cut by pick.py; bodies as the Statement names them) -/
namespace Jvm.Pilot.@@N@@
namespace StrChars
open Jvm Sem ClassFile Op Lib Jvm.Stand Jvm.Free.XT Jvm.Free.ALB Jvm.Free.JM Jvm.Free
open Jvm.Lib.Cold (StaticIs)
/-- a char array whose places are chars -/
def Ch (a : Addr) (A : Cell) (U : State) : Prop := Arr .char a A U ∧ Typed .char A
theorem Ch.mv {a : Addr} {A : Cell} {U U' : State} (h : Ch a A U) (hal : U.vm.Alike U'.vm) (hh : U'.heap = U.heap) : Ch a A U' := ⟨h.1.mv hal hh, h.2⟩
theorem Ch.keep {a : Addr} {A : Cell} {U U' : State} (h : Ch a A U) (hal : U.vm.Alike U'.vm) (hk : U'.heap[a]? = some A) : Ch a A U' := ⟨h.1.keep hal hk, h.2⟩
/-- what place i of a char[]'s cell holds -/
def cv (A : Cell) (i : Nat) : Int32 := match A.slots[i]? with | some (.int x) => x | _ => 0
theorem Ch.get {a : Addr} {A : Cell} {U : State} (h : Ch a A U) {i : Nat} (hi : i < A.slots.size) : A.slots[i]? = some (.int (cv A i)) := by
  have e := Array.getElem?_eq_getElem hi
  have f := h.2 i _ e
  unfold cv; rw [e]
  generalize A.slots[i] = v at f
  cases v <;> simp [fits] at f ⊢
/-- the byte that i2b leaves of a char -/
def lo8 (x : Int32) : Int32 := x.toInt8.toInt32
theorem fits_lo8 (y : Int32) : fits .byte (.int (lo8 y)) = true := by
  have h1 := y.toInt8.le_toInt
  have h2 := y.toInt8.toInt_lt
  simp only [lo8, fits, Bool.and_eq_true, decide_eq_true_eq, Int32.le_iff_toInt_le, Int8.toInt_toInt32, show (-128 : Int32).toInt = -128 from by decide, show (127 : Int32).toInt = 127 from by decide]
  omega
/-- A' is A but that each place j of lo .. hi - 1 holds f j -/
def Laid (A A' : Cell) (lo hi : Nat) (f : Nat → Value) : Prop := A'.cls = A.cls ∧ A'.vm = A.vm ∧ A'.slots.size = A.slots.size ∧ ∀ i, A'.slots[i]? = if lo ≤ i ∧ i < hi then some (f i) else A.slots[i]?
theorem Laid.zero (A : Cell) (lo : Nat) (f : Nat → Value) : Laid A A lo (lo + 0) f := ⟨rfl, rfl, rfl, fun i => by rw [if_neg (by omega)]⟩
theorem Laid.step {A Ak : Cell} {lo k : Nat} {f : Nat → Value} {v : Value} (h : Laid A Ak lo k f) (hlo : lo ≤ k) (hk : k < Ak.slots.size) (hv : v = f k) : Laid A (Ak.setSlot k v) lo (k + 1) f := by
  refine ⟨h.1, h.2.1, by simpa [Cell.setSlot] using h.2.2.1, fun i => ?_⟩
  by_cases e : k = i
  · subst e; rw [Cell.slots_setSlot_self v hk, if_pos (by omega), hv]
  · rw [Cell.slots_setSlot_ne v e, h.2.2.2 i]
    by_cases q : lo ≤ i ∧ i < k
    · rw [if_pos q, if_pos (by omega)]
    · rw [if_neg q, if_neg (by omega)]
def U16 : String := "java/lang/StringUTF16"
namespace Cmp5
def yN : MethodName := ⟨"java/lang/StringUTF16", "compress", "([CI[BII)I"⟩
abbrev yB : ByteArray := jdk_52_method_21_code
theorem d0 : decode yB 0 = .ok (.iconst 0, 1) := by decide +kernel
theorem d1 : decode yB 1 = .ok (.istore 5, 2) := by decide +kernel
theorem d3 : decode yB 3 = .ok (.iload 5, 2) := by decide +kernel
theorem d5 : decode yB 5 = .ok (.iload 4, 2) := by decide +kernel
theorem d7 : decode yB 7 = .ok (.if_icmp (.ge) 37, 3) := by decide +kernel
theorem d10 : decode yB 10 = .ok (.aload_n 0, 1) := by decide +kernel
theorem d11 : decode yB 11 = .ok (.iload_n 1, 1) := by decide +kernel
theorem d12 : decode yB 12 = .ok (.caload, 1) := by decide +kernel
theorem d13 : decode yB 13 = .ok (.istore 6, 2) := by decide +kernel
theorem d15 : decode yB 15 = .ok (.iload 6, 2) := by decide +kernel
theorem d17 : decode yB 17 = .ok (.sipush 255, 3) := by decide +kernel
theorem d20 : decode yB 20 = .ok (.if_icmp (.le) 6, 3) := by decide +kernel
theorem d26 : decode yB 26 = .ok (.aload_n 2, 1) := by decide +kernel
theorem d27 : decode yB 27 = .ok (.iload_n 3, 1) := by decide +kernel
theorem d28 : decode yB 28 = .ok (.iload 6, 2) := by decide +kernel
theorem d30 : decode yB 30 = .ok (.i2b, 1) := by decide +kernel
theorem d31 : decode yB 31 = .ok (.bastore, 1) := by decide +kernel
theorem d32 : decode yB 32 = .ok (.iinc 1 1, 3) := by decide +kernel
theorem d35 : decode yB 35 = .ok (.iinc 3 1, 3) := by decide +kernel
theorem d38 : decode yB 38 = .ok (.iinc 5 1, 3) := by decide +kernel
theorem d41 : decode yB 41 = .ok (.goto (-38), 3) := by decide +kernel
theorem d44 : decode yB 44 = .ok (.iload 4, 2) := by decide +kernel
theorem d46 : decode yB 46 = .ok (.ireturn, 1) := by decide +kernel
def site : List Cond := []
def tab : Cond := tabOf yN yB 7 (some .int) site
def P (b : Addr) (A : Cell) (d : Addr) (B : Cell) (o q len : Nat) (args : Array Value) (s : State) : Prop := args = #[.ref b, .int (Int32.ofNat o), .ref d, .int (Int32.ofNat q), .int (Int32.ofNat len)] ∧ Ch b A s ∧ Arr .byte d B s ∧ b ≠ d ∧ o + len ≤ A.slots.size ∧ q + len ≤ B.slots.size ∧ ∀ i, i < len → ¬ 255 < cv A (o + i)
def E (b : Addr) (A : Cell) (d : Addr) (B : Cell) (o q len : Nat) (r : Option Value) (s u : State) : Prop := r = some (.int (Int32.ofNat len)) ∧ ∃ B', Put d B' s u ∧ Laid B B' q (q + len) (fun j => Value.int (lo8 (cv A (o + (j - q)))))
/-- no char of the range above 255: len; the places written hold each char's low byte -/
theorem law (l : Launch) (b : Addr) (A : Cell) (d : Addr) (B : Cell) (o q len : Nat) : Law l yN 5 5 0 0 yB 7 (some .int) site (P b A d B o q len) (E b A d B o q len) (copyLocs d q len) 0 0 := by
  refine Law.of_walk (plainFor_of_name (by decide +kernel)) (by decide +kernel) (by decide +kernel) (by decide) (fun _ _ h => by rw [h.1]; rfl) (fun _ U U' hal hh h => ⟨h.1, h.2.1.mv hal hh, h.2.2.1.mv hal hh, h.2.2.2⟩) (fun r U U' V V' h1 hal h2 h => ⟨h.1, h.2.elim fun B' q => ⟨B', q.1.mv h1 h2, q.2⟩⟩) ?_
  intro p e s m args below meth c s₁ X0 hexec hbytes hml hret hlk hnm hown hh0 W hP
  obtain ⟨rfl, hA, hB, hne, l1, l2, hp⟩ := hP
  have c1 : Steps p.tables e below (s₁.setTop (entryFrame m #[.ref b, .int (Int32.ofNat o), .ref d, .int (Int32.ofNat q), .int (Int32.ofNat len)] 7)) (s₁.setTop (mkF m 0 #[.val (.ref b), .val (.int (Int32.ofNat o)), .val (.ref d), .val (.int (Int32.ofNat q)), .val (.int (Int32.ofNat len)), .unset, .unset] [])) := entry rfl
  have hA0 := hA.1.mv X0.warmed.alike hh0
  have hB0 := hB.mv X0.warmed.alike hh0
  have a31 := hA.1.2.2.2
  have c2 : Steps p.tables e below (s₁.setTop (entryFrame m #[.ref b, .int (Int32.ofNat o), .ref d, .int (Int32.ofNat q), .int (Int32.ofNat len)] 7)) (s₁.setTop (mkF m 3 #[.val (.ref b), .val (.int (Int32.ofNat o)), .val (.ref d), .val (.int (Int32.ofNat q)), .val (.int (Int32.ofNat len)), .val (.int 0), .unset] [])) := c1.trans (by
    refine iconstV X0.here hexec rfl 0 (hb hbytes d0) (by decide) ?_
    refine XS.istore X0.here hexec rfl (hb hbytes d1) rfl rfl ?_
    exact Steps.refl _)
  have loop : ∀ (r i : Nat), i + r = len → ∀ (z : Slot), (z = .unset ∨ ∃ w, z = .val w ∧ w.category = 1) → ∀ (Tl : State) (Bk : Cell), Stand p l e { frames := 0, locals := 0, cells := 0, slots := 0 } s m #[.ref b, .int (Int32.ofNat o), .ref d, .int (Int32.ofNat q), .int (Int32.ofNat len)] below meth c Tl ([] ++ copyLocs d q i) 0 0 → Put d Bk s₁ Tl → Laid B Bk q (q + i) (fun j => Value.int (lo8 (cv A (o + (j - q))))) →
      Steps p.tables e below (s₁.setTop (entryFrame m #[.ref b, .int (Int32.ofNat o), .ref d, .int (Int32.ofNat q), .int (Int32.ofNat len)] 7)) (Tl.setTop (mkF m 3 #[.val (.ref b), .val (.int (Int32.ofNat (o + i))), .val (.ref d), .val (.int (Int32.ofNat (q + i))), .val (.int (Int32.ofNat len)), .val (.int (Int32.ofNat i)), z] [])) → ∃ (T' : State) (B' : Cell) (z' : Slot), Stand p l e { frames := 0, locals := 0, cells := 0, slots := 0 } s m #[.ref b, .int (Int32.ofNat o), .ref d, .int (Int32.ofNat q), .int (Int32.ofNat len)] below meth c T' ([] ++ copyLocs d q len) 0 0 ∧ Put d B' s₁ T' ∧ Laid B B' q (q + len) (fun j => Value.int (lo8 (cv A (o + (j - q))))) ∧
      Steps p.tables e below (s₁.setTop (entryFrame m #[.ref b, .int (Int32.ofNat o), .ref d, .int (Int32.ofNat q), .int (Int32.ofNat len)] 7)) (T'.setTop (mkF m 3 #[.val (.ref b), .val (.int (Int32.ofNat (o + len))), .val (.ref d), .val (.int (Int32.ofNat (q + len))), .val (.int (Int32.ofNat len)), .val (.int (Int32.ofNat len)), z'] [])) := by
    intro r
    induction r with
    | zero =>
      intro i hi z hz Tl Bk Xl pl fl cl
      have hil : i = len := by omega
      rw [hil] at Xl fl cl
      exact ⟨Tl, Bk, z, Xl, pl, fl, cl⟩
    | succ r ih =>
      intro i hi z hz Tl Bk Xl pl fl cl
      have all := X0.warmed.alike.symm.trans Xl.warmed.alike
      have hAl := hA0.keep all (pl.other hne hA0.1)
      have hBk := hB0.like all pl.1 fl.1 fl.2.1 fl.2.2.1
      have hlt : q + i < Bk.slots.size := by rw [fl.2.2.1]; omega
      have c3 : Steps p.tables e below (s₁.setTop (entryFrame m #[.ref b, .int (Int32.ofNat o), .ref d, .int (Int32.ofNat q), .int (Int32.ofNat len)] 7)) (Tl.setTop (mkF m 12 #[.val (.ref b), .val (.int (Int32.ofNat (o + i))), .val (.ref d), .val (.int (Int32.ofNat (q + i))), .val (.int (Int32.ofNat len)), .val (.int (Int32.ofNat i)), z] [.int (Int32.ofNat (o + i)), .ref b])) := cl.trans (by
        refine XS.iload Xl.here hexec rfl (hb hbytes d3) rfl ?_
        refine XS.iload Xl.here hexec rfl (hb hbytes d5) rfl ?_
        refine XS.icmpNo Xl.here hexec rfl (hb hbytes d7) rfl (ii_ge_f (lt32 (by omega) (by omega))) ?_
        refine XS.aloadN Xl.here hexec rfl (hb hbytes d10) rfl rfl ?_
        refine XS.iloadN Xl.here hexec rfl (hb hbytes d11) rfl ?_
        exact Steps.refl _)
      have c4 : Steps p.tables e below (s₁.setTop (entryFrame m #[.ref b, .int (Int32.ofNat o), .ref d, .int (Int32.ofNat q), .int (Int32.ofNat len)] 7)) (Tl.setTop (mkF m 13 #[.val (.ref b), .val (.int (Int32.ofNat (o + i))), .val (.ref d), .val (.int (Int32.ofNat (q + i))), .val (.int (Int32.ofNat len)), .val (.int (Int32.ofNat i)), z] [.int (cv A (o + i))])) := c3.trans (by
        refine Xl.aget hexec hAl rfl (hA.get (i := o + i) (by omega)) rfl rfl (hb hbytes d12) ?_
        exact Steps.refl _)
      have c5 : Steps p.tables e below (s₁.setTop (entryFrame m #[.ref b, .int (Int32.ofNat o), .ref d, .int (Int32.ofNat q), .int (Int32.ofNat len)] 7)) (Tl.setTop (mkF m 15 #[.val (.ref b), .val (.int (Int32.ofNat (o + i))), .val (.ref d), .val (.int (Int32.ofNat (q + i))), .val (.int (Int32.ofNat len)), .val (.int (Int32.ofNat i)), .val (.int (cv A (o + i)))] [])) := c4.trans (by
        refine XS.istoreS Xl.here hexec rfl (hb hbytes d13) rfl rfl hz ?_
        exact Steps.refl _)
      have c6 : Steps p.tables e below (s₁.setTop (entryFrame m #[.ref b, .int (Int32.ofNat o), .ref d, .int (Int32.ofNat q), .int (Int32.ofNat len)] 7)) (Tl.setTop (mkF m 31 #[.val (.ref b), .val (.int (Int32.ofNat (o + i))), .val (.ref d), .val (.int (Int32.ofNat (q + i))), .val (.int (Int32.ofNat len)), .val (.int (Int32.ofNat i)), .val (.int (cv A (o + i)))] [.int (lo8 (cv A (o + i))), .int (Int32.ofNat (q + i)), .ref d])) := c5.trans (by
        refine XS.iload Xl.here hexec rfl (hb hbytes d15) rfl ?_
        refine sipushV Xl.here hexec rfl 255 (hb hbytes d17) (by decide) ?_
        refine XS.icmpYes Xl.here hexec rfl (pc0 := 20) rfl (hb hbytes d20) rfl (ii_le_t (hp i (by omega))) (by decide) rfl ?_
        refine XS.aloadN Xl.here hexec rfl (hb hbytes d26) rfl rfl ?_
        refine XS.iloadN Xl.here hexec rfl (hb hbytes d27) rfl ?_
        refine XS.iload Xl.here hexec rfl (hb hbytes d28) rfl ?_
        refine i2b Xl.here hexec rfl (hb hbytes d30) rfl ?_
        exact Steps.refl _)
      obtain ⟨T7, X7, p7, st7⟩ := Xl.aput hexec hBk rfl hlt rfl (fits_lo8 (cv A (o + i))) (g := (mkF m 31 #[.val (.ref b), .val (.int (Int32.ofNat (o + i))), .val (.ref d), .val (.int (Int32.ofNat (q + i))), .val (.int (Int32.ofNat len)), .val (.int (Int32.ofNat i)), .val (.int (cv A (o + i)))] [.int (lo8 (cv A (o + i))), .int (Int32.ofNat (q + i)), .ref d])) rfl (rest := []) rfl (hb hbytes d31)
      have c8 : Steps p.tables e below (s₁.setTop (entryFrame m #[.ref b, .int (Int32.ofNat o), .ref d, .int (Int32.ofNat q), .int (Int32.ofNat len)] 7)) (T7.setTop (mkF m 32 #[.val (.ref b), .val (.int (Int32.ofNat (o + i))), .val (.ref d), .val (.int (Int32.ofNat (q + i))), .val (.int (Int32.ofNat len)), .val (.int (Int32.ofNat i)), .val (.int (cv A (o + i)))] [])) := c6.trans (st7 _ (Steps.refl _))
      have c9 : Steps p.tables e below (s₁.setTop (entryFrame m #[.ref b, .int (Int32.ofNat o), .ref d, .int (Int32.ofNat q), .int (Int32.ofNat len)] 7)) (T7.setTop (mkF m 3 #[.val (.ref b), .val (.int (Int32.ofNat (o + i) + 1)), .val (.ref d), .val (.int (Int32.ofNat (q + i) + 1)), .val (.int (Int32.ofNat len)), .val (.int (Int32.ofNat i + 1)), .val (.int (cv A (o + i)))] [])) := c8.trans (by
        refine iincV X7.here hexec rfl 1 (hb hbytes d32) (by decide) rfl rfl ?_
        refine iincV X7.here hexec rfl 1 (hb hbytes d35) (by decide) rfl rfl ?_
        refine iincV X7.here hexec rfl 1 (hb hbytes d38) (by decide) rfl rfl ?_
        refine XS.goto X7.here hexec rfl (pc0 := 41) rfl (hb hbytes d41) (by decide) rfl ?_
        exact Steps.refl _)
      have c10 : Steps p.tables e below (s₁.setTop (entryFrame m #[.ref b, .int (Int32.ofNat o), .ref d, .int (Int32.ofNat q), .int (Int32.ofNat len)] 7)) (T7.setTop (mkF m 3 #[.val (.ref b), .val (.int (Int32.ofNat (o + (i + 1)))), .val (.ref d), .val (.int (Int32.ofNat (q + (i + 1)))), .val (.int (Int32.ofNat len)), .val (.int (Int32.ofNat (i + 1))), .val (.int (cv A (o + i)))] [])) := by
        have := c9
        rw [succ32, succ32, succ32] at this
        exact this
      exact ih (i + 1) (by omega) _ (Or.inr ⟨_, rfl, rfl⟩) T7 _ (by rw [copyLocs_step, ← List.append_assoc]; exact X7) (pl.trans p7) (fl.step (by omega) hlt (by simp)) c10
  obtain ⟨T9, B9, z9, X9, p9, f9, g9⟩ := loop len 0 (by omega) .unset (Or.inl rfl) s₁ B (by simpa [copyLocs] using X0) ⟨hB0.1, fun _ _ => rfl, rfl⟩ (Laid.zero _ _ _) c2
  have c11 : Steps p.tables e below (s₁.setTop (entryFrame m #[.ref b, .int (Int32.ofNat o), .ref d, .int (Int32.ofNat q), .int (Int32.ofNat len)] 7)) (T9.setTop (mkF m 46 #[.val (.ref b), .val (.int (Int32.ofNat (o + len))), .val (.ref d), .val (.int (Int32.ofNat (q + len))), .val (.int (Int32.ofNat len)), .val (.int (Int32.ofNat len)), z9] [.int (Int32.ofNat len)])) := g9.trans (by
    refine XS.iload X9.here hexec rfl (hb hbytes d3) rfl ?_
    refine XS.iload X9.here hexec rfl (hb hbytes d5) rfl ?_
    refine XS.icmpYes X9.here hexec rfl (pc0 := 7) rfl (hb hbytes d7) rfl (ii_ge_t (nlt32 (by omega) (Nat.le_refl _))) (by decide) rfl ?_
    refine XS.iload X9.here hexec rfl (hb hbytes d44) rfl ?_
    exact Steps.refl _)
  exact ⟨T9, some (.int (Int32.ofNat len)), _, _, _, X9, by simp, rfl, rfl, (fun h => by cases h), ⟨rfl, B9, p9.from hh0, f9⟩, fun fs hl => c11.trans (X9.ireturnOut hexec hret rfl (Or.inl rfl) (hb hbytes d46) hl)⟩
end Cmp5
namespace Cmp3
def yN : MethodName := ⟨"java/lang/StringUTF16", "compress", "([CII)[B"⟩
abbrev yB : ByteArray := jdk_52_method_16_code
theorem d0 : decode yB 0 = .ok (.iload_n 2, 1) := by decide +kernel
theorem d1 : decode yB 1 = .ok (.newarray .byte, 2) := by decide +kernel
theorem d3 : decode yB 3 = .ok (.astore_n 3, 1) := by decide +kernel
theorem d4 : decode yB 4 = .ok (.aload_n 0, 1) := by decide +kernel
theorem d5 : decode yB 5 = .ok (.iload_n 1, 1) := by decide +kernel
theorem d6 : decode yB 6 = .ok (.aload_n 3, 1) := by decide +kernel
theorem d7 : decode yB 7 = .ok (.iconst 0, 1) := by decide +kernel
theorem d8 : decode yB 8 = .ok (.iload_n 2, 1) := by decide +kernel
theorem d9 : decode yB 9 = .ok (.invokestatic 115, 3) := by decide +kernel
theorem d12 : decode yB 12 = .ok (.istore 4, 2) := by decide +kernel
theorem d14 : decode yB 14 = .ok (.iload 4, 2) := by decide +kernel
theorem d16 : decode yB 16 = .ok (.iload_n 2, 1) := by decide +kernel
theorem d17 : decode yB 17 = .ok (.if_icmp (.eq) 40, 3) := by decide +kernel
theorem d57 : decode yB 57 = .ok (.aload_n 3, 1) := by decide +kernel
theorem d58 : decode yB 58 = .ok (.areturn, 1) := by decide +kernel
def site : List Cond := [.arrayClass .byte, Cmp5.tab] ++ staticW U16 115 Cmp5.yN
def tab : Cond := tabOf yN yB 6 (some (.array .byte)) site
def P (b : Addr) (A : Cell) (o len : Nat) (args : Array Value) (s : State) : Prop := args = #[.ref b, .int (Int32.ofNat o), .int (Int32.ofNat len)] ∧ Ch b A s ∧ o + len ≤ A.slots.size ∧ len ≤ 536870912 ∧ ∀ i, i < len → ¬ 255 < cv A (o + i)
def E (b : Addr) (A : Cell) (o len : Nat) (r : Option Value) (s u : State) : Prop := NewArr .byte "[B" len (fun j => .int (lo8 (cv A (o + j)))) r s u ∧ u.heap.size = s.heap.size + 1
/-- no char of the range above 255: a new byte[] of their low bytes -/
theorem law (l : Launch) (b : Addr) (A : Cell) (o len : Nat) : Law l yN 3 3 1 18 yB 6 (some (.array .byte)) site (P b A o len) (E b A o len) [] 1 len := by
  refine Law.of_walk (plainFor_of_name (by decide +kernel)) (by decide +kernel) (by decide +kernel) (by decide) (fun _ _ h => by rw [h.1]; rfl) (fun _ U U' hal hh h => ⟨h.1, h.2.1.mv hal hh, h.2.2⟩) (fun r U U' V V' h1 hal h2 h => ⟨NewArr.mv r U U' V V' h1 hal h2 h.1, by rw [h1, h2]; exact h.2⟩) ?_
  intro p e s m args below meth c s₁ X0 hexec hbytes hml hret hlk hnm hown hh0 W hP
  obtain ⟨rfl, hA, l1, l2, hp⟩ := hP
  have a31 := hA.1.2.2.2
  have c1 : Steps p.tables e below (s₁.setTop (entryFrame m #[.ref b, .int (Int32.ofNat o), .int (Int32.ofNat len)] 6)) (s₁.setTop (mkF m 0 #[.val (.ref b), .val (.int (Int32.ofNat o)), .val (.int (Int32.ofNat len)), .unset, .unset, .unset] [])) := entry rfl
  have c2 : Steps p.tables e below (s₁.setTop (entryFrame m #[.ref b, .int (Int32.ofNat o), .int (Int32.ofNat len)] 6)) (s₁.setTop (mkF m 1 #[.val (.ref b), .val (.int (Int32.ofNat o)), .val (.int (Int32.ofNat len)), .unset, .unset, .unset] [.int (Int32.ofNat len)])) := c1.trans (by
    refine XS.iloadN X0.here hexec rfl (hb hbytes d0) rfl ?_
    exact Steps.refl _)
  obtain ⟨T3, B3, X3, ba3, bs3, bv3, bh3, bf3, st3⟩ := X0.anew hexec (atype := .byte) (wk W (.arrayClass .byte)) rfl (by show len * 1 ≤ _; omega) (by omega) (g := (mkF m 1 #[.val (.ref b), .val (.int (Int32.ofNat o)), .val (.int (Int32.ofNat len)), .unset, .unset, .unset] [.int (Int32.ofNat len)])) rfl (hb hbytes d1) (rest := []) rfl (Nat.le_refl _) (by show 0 + len ≤ len; omega)
  rw [hh0] at ba3 st3
  have kp3 : XT.Kept s T3 := (XT.Kept.of_eq hh0).push bh3
  have hA3 := hA.keep X3.warmed.alike (kp3 _ _ hA.1.1)
  have hne : b ≠ s.heap.size := hA.1.ne
  have c4 : Steps p.tables e below (s₁.setTop (entryFrame m #[.ref b, .int (Int32.ofNat o), .int (Int32.ofNat len)] 6)) (T3.setTop (mkF m 3 #[.val (.ref b), .val (.int (Int32.ofNat o)), .val (.int (Int32.ofNat len)), .unset, .unset, .unset] [.ref s.heap.size])) := c2.trans (st3 _ (Steps.refl _))
  have c5 : Steps p.tables e below (s₁.setTop (entryFrame m #[.ref b, .int (Int32.ofNat o), .int (Int32.ofNat len)] 6)) (T3.setTop (mkF m 9 #[.val (.ref b), .val (.int (Int32.ofNat o)), .val (.int (Int32.ofNat len)), .val (.ref s.heap.size), .unset, .unset] [.int (Int32.ofNat len), .int 0, .ref s.heap.size, .int (Int32.ofNat o), .ref b])) := c4.trans (by
    refine XS.astoreN X3.here hexec rfl (hb hbytes d3) rfl rfl rfl ?_
    refine XS.aloadN X3.here hexec rfl (hb hbytes d4) rfl rfl ?_
    refine XS.iloadN X3.here hexec rfl (hb hbytes d5) rfl ?_
    refine XS.aloadN X3.here hexec rfl (hb hbytes d6) rfl rfl ?_
    refine iconstV X3.here hexec rfl 0 (hb hbytes d7) (by decide) ?_
    refine XS.iloadN X3.here hexec rfl (hb hbytes d8) rfl ?_
    exact Steps.refl _)
  obtain ⟨v6, T6, X6, E6, g6⟩ := X3.callS hexec (Cmp5.law l b A s.heap.size B3 o 0 len) hown (wks W (staticW U16 115 Cmp5.yN)) (wk W Cmp5.tab) (W := 0) (Nat.le_of_ble_eq_true rfl) (Nat.le_of_ble_eq_true rfl) (Nat.le_refl _) (by show 0 + len + 0 ≤ len; omega) (g := (mkF m 9 #[.val (.ref b), .val (.int (Int32.ofNat o)), .val (.int (Int32.ofNat len)), .val (.ref s.heap.size), .unset, .unset] [.int (Int32.ofNat len), .int (Int32.ofNat 0), .ref s.heap.size, .int (Int32.ofNat o), .ref b])) rfl (by rw [hml]; rfl) c5 (argsL := [.ref b, .int (Int32.ofNat o), .ref s.heap.size, .int (Int32.ofNat 0), .int (Int32.ofNat len)]) (rest := []) rfl rfl (by show 2 * 0 + 0 ≤ _; decide) (hb hbytes d9) (⟨rfl, hA3, ba3, hne, l1, by rw [bs3]; simp, hp⟩)
  obtain ⟨rfl, B6, p6, f6⟩ := E6
  have c7 : Steps p.tables e below (s₁.setTop (entryFrame m #[.ref b, .int (Int32.ofNat o), .int (Int32.ofNat len)] 6)) (T6.setTop (mkF m 12 #[.val (.ref b), .val (.int (Int32.ofNat o)), .val (.int (Int32.ofNat len)), .val (.ref s.heap.size), .unset, .unset] [.int (Int32.ofNat len)])) := g6
  have c8 : Steps p.tables e below (s₁.setTop (entryFrame m #[.ref b, .int (Int32.ofNat o), .int (Int32.ofNat len)] 6)) (T6.setTop (mkF m 58 #[.val (.ref b), .val (.int (Int32.ofNat o)), .val (.int (Int32.ofNat len)), .val (.ref s.heap.size), .val (.int (Int32.ofNat len)), .unset] [.ref s.heap.size])) := c7.trans (by
    refine XS.istore X6.here hexec rfl (hb hbytes d12) rfl rfl ?_
    refine XS.iload X6.here hexec rfl (hb hbytes d14) rfl ?_
    refine XS.iloadN X6.here hexec rfl (hb hbytes d16) rfl ?_
    refine XS.icmpYes X6.here hexec rfl (pc0 := 17) rfl (hb hbytes d17) rfl (ii_eq_t rfl) (by decide) rfl ?_
    refine XS.aloadN X6.here hexec rfl (hb hbytes d57) rfl rfl ?_
    exact Steps.refl _)
  have X8 := X6.wide (L' := []) (cells' := 1) (slots' := len) (fun x hx hlt => by
    simp only [List.nil_append, copyLocs, List.mem_map, List.mem_range] at hx
    obtain ⟨i, -, rfl⟩ := hx
    exact absurd hlt (Nat.lt_irrefl _)) (Nat.le_refl _) (by omega)
  exact ⟨T6, some (.ref s.heap.size), _, _, _, X8, rfl, rfl, rfl, (fun h => by cases h), ⟨⟨rfl, B6, ba3.like (X3.warmed.alike.symm.trans X6.warmed.alike) p6.1 f6.1 f6.2.1 f6.2.2.1, f6.2.1.trans bv3, by rw [X6.warmed.alike.findClass, f6.1]; exact bf3, by rw [f6.2.2.1, bs3]; simp, fun j hj => by rw [f6.2.2.2 j, if_pos (by omega)]; rfl, kp3.put p6 (Nat.le_refl _)⟩, by rw [p6.2.2, bh3, hh0]; simp⟩, fun fs hl => c8.trans (X8.areturnOut hexec rfl hret rfl (hb hbytes d58) hl)⟩
end Cmp3
namespace CodL
def yN : MethodName := ⟨"java/lang/StringUTF16", "coderFromArrayLen", "([BI)B"⟩
abbrev yB : ByteArray := jdk_52_method_15_code
theorem d0 : decode yB 0 = .ok (.iload_n 1, 1) := by decide +kernel
theorem d1 : decode yB 1 = .ok (.aload_n 0, 1) := by decide +kernel
theorem d2 : decode yB 2 = .ok (.arraylength, 1) := by decide +kernel
theorem d3 : decode yB 3 = .ok (.isub, 1) := by decide +kernel
theorem d4 : decode yB 4 = .ok (.bipush 31, 2) := by decide +kernel
theorem d6 : decode yB 6 = .ok (.iushr, 1) := by decide +kernel
theorem d7 : decode yB 7 = .ok (.i2b, 1) := by decide +kernel
theorem d8 : decode yB 8 = .ok (.ireturn, 1) := by decide +kernel
def site : List Cond := []
def tab : Cond := tabOf yN yB 2 (some .byte) site
def P (d : Addr) (B : Cell) (args : Array Value) (s : State) : Prop := args = #[.ref d, .int (Int32.ofNat B.slots.size)] ∧ Arr .byte d B s
def E (r : Option Value) (s u : State) : Prop := XT.PureE (some (.int 0)) r s u
/-- an array as long as the number of chars: LATIN1 -/
theorem law (l : Launch) (d : Addr) (B : Cell) : Law l yN 2 2 0 0 yB 2 (some .byte) site (P d B) E [] 0 0 := by
  refine Law.of_walk (plainFor_of_name (by decide +kernel)) (by decide +kernel) (by decide +kernel) (by decide) (fun _ _ h => by rw [h.1]; rfl) (fun _ U U' hal hh h => ⟨h.1, h.2.mv hal hh⟩) (fun r U U' V V' h1 hal h2 h => XT.PureE.mv r U U' V V' h1 hal h2 h) ?_
  intro p e s m args below meth c s₁ X0 hexec hbytes hml hret hlk hnm hown hh0 W hP
  obtain ⟨rfl, hB⟩ := hP
  have hB0 := hB.mv X0.warmed.alike hh0
  have c1 : Steps p.tables e below (s₁.setTop (entryFrame m #[.ref d, .int (Int32.ofNat B.slots.size)] 2)) (s₁.setTop (mkF m 0 #[.val (.ref d), .val (.int (Int32.ofNat B.slots.size))] [])) := entry rfl
  have c2 : Steps p.tables e below (s₁.setTop (entryFrame m #[.ref d, .int (Int32.ofNat B.slots.size)] 2)) (s₁.setTop (mkF m 2 #[.val (.ref d), .val (.int (Int32.ofNat B.slots.size))] [.ref d, .int (Int32.ofNat B.slots.size)])) := c1.trans (by
    refine XS.iloadN X0.here hexec rfl (hb hbytes d0) rfl ?_
    refine XS.aloadN X0.here hexec rfl (hb hbytes d1) rfl rfl ?_
    exact Steps.refl _)
  have c3 : Steps p.tables e below (s₁.setTop (entryFrame m #[.ref d, .int (Int32.ofNat B.slots.size)] 2)) (s₁.setTop (mkF m 8 #[.val (.ref d), .val (.int (Int32.ofNat B.slots.size))] [.int (lo8 (ushr (Int32.ofNat B.slots.size - Int32.ofNat B.slots.size) 31))])) := c2.trans (by
    refine X0.alen hexec hB0 rfl rfl (hb hbytes d2) ?_
    refine XS.isub X0.here hexec rfl (hb hbytes d3) rfl ?_
    refine bipushV X0.here hexec rfl 31 (hb hbytes d4) (by decide) ?_
    refine iushr X0.here hexec rfl (hb hbytes d6) rfl ?_
    refine i2b X0.here hexec rfl (hb hbytes d7) rfl ?_
    exact Steps.refl _)
  have e0 : lo8 (ushr (Int32.ofNat B.slots.size - Int32.ofNat B.slots.size) 31) = 0 := by rw [Int32.sub_self]; decide
  rw [e0] at c3
  exact ⟨s₁, some (.int 0), _, _, _, X0, rfl, rfl, rfl, (fun h => by cases h), ⟨rfl, hh0⟩, fun fs hl => c3.trans (X0.ireturnOut hexec hret rfl (Or.inr (Or.inr (Or.inl rfl))) (hb hbytes d8) hl)⟩
end CodL
/-- the String at a is Latin-1 over a new byte[] (the heap's one new cell): the low bytes of the len chars of A from o on; every cell but a is kept -/
def Got (a : Addr) (D : Cell) (fV fC : Field) (A : Cell) (o len : Nat) (r : Option Value) (s u : State) : Prop := r = none ∧ ∃ D' V : Cell, Blank "java/lang/String" a D' u ∧ Same D D' [fV.slot, fC.slot] ∧ D'.slots[fV.slot]? = some (.ref s.heap.size) ∧ D'.slots[fC.slot]? = some (.int 0) ∧ Arr .byte s.heap.size V u ∧ V.vm = .none ∧ u.vm.findClass "[B" = some V.cls ∧ V.slots.size = len ∧ (∀ j, j < len → V.slots[j]? = some (.int (lo8 (cv A (o + j))))) ∧ (∀ (y : Addr) (c : Cell), y ≠ a → s.heap[y]? = some c → u.heap[y]? = some c) ∧ u.heap.size = s.heap.size + 1
theorem Got.mv {a : Addr} {D A : Cell} {fV fC : Field} {o len : Nat} : ∀ r (U U' V V' : State), U'.heap = U.heap → V.vm.Alike V'.vm → V'.heap = V.heap → Got a D fV fC A o len r U V → Got a D fV fC A o len r U' V' :=
  fun r U U' V V' h1 hal h2 ⟨e0, D', X, a1, a2, a3, a4, a5, a6, a7, a8, a9, a10, a11⟩ => ⟨e0, D', X, a1.mv hal h2, a2, by rw [h1]; exact a3, a4, by rw [h1]; exact a5.mv hal h2, a6, by rw [hal.findClass]; exact a7, a8, a9, by rw [h1, h2]; exact a10, by rw [h1, h2]; exact a11⟩
namespace New4
def yN : MethodName := ⟨"java/lang/String", "<init>", "([CIILjava/lang/Void;)V"⟩
abbrev yB : ByteArray := jdk_42_method_149_code
theorem d0 : decode yB 0 = .ok (.aload_n 0, 1) := by decide +kernel
theorem d1 : decode yB 1 = .ok (.invokespecial 1, 3) := by decide +kernel
theorem d4 : decode yB 4 = .ok (.iload_n 3, 1) := by decide +kernel
theorem d5 : decode yB 5 = .ok (.ifCond (.ne) 22, 3) := by decide +kernel
theorem d27 : decode yB 27 = .ok (.getstatic 38, 3) := by decide +kernel
theorem d30 : decode yB 30 = .ok (.ifCond (.eq) 28, 3) := by decide +kernel
theorem d33 : decode yB 33 = .ok (.aload_n 1, 1) := by decide +kernel
theorem d34 : decode yB 34 = .ok (.iload_n 2, 1) := by decide +kernel
theorem d35 : decode yB 35 = .ok (.iload_n 3, 1) := by decide +kernel
theorem d36 : decode yB 36 = .ok (.invokestatic 177, 3) := by decide +kernel
theorem d39 : decode yB 39 = .ok (.astore 5, 2) := by decide +kernel
theorem d41 : decode yB 41 = .ok (.aload_n 0, 1) := by decide +kernel
theorem d42 : decode yB 42 = .ok (.aload 5, 2) := by decide +kernel
theorem d44 : decode yB 44 = .ok (.iload_n 3, 1) := by decide +kernel
theorem d45 : decode yB 45 = .ok (.invokestatic 47, 3) := by decide +kernel
theorem d48 : decode yB 48 = .ok (.putfield 15, 3) := by decide +kernel
theorem d51 : decode yB 51 = .ok (.aload_n 0, 1) := by decide +kernel
theorem d52 : decode yB 52 = .ok (.aload 5, 2) := by decide +kernel
theorem d54 : decode yB 54 = .ok (.putfield 9, 3) := by decide +kernel
theorem d57 : decode yB 57 = .ok (.return_, 1) := by decide +kernel
def site : List Cond := [.fieldLink "java/lang/String" 38 "java/lang/String" "COMPACT_STRINGS" "Z", Cmp3.tab, CodL.tab, .laysFinal "java/lang/String" "java/lang/String" "value" "[B", .fieldLink "java/lang/String" 9 "java/lang/String" "value" "[B", .laysFinal "java/lang/String" "java/lang/String" "coder" "B", .fieldLink "java/lang/String" 15 "java/lang/String" "coder" "B"] ++ objW "java/lang/String" 1 ++ staticW "java/lang/String" 177 Cmp3.yN ++ staticW "java/lang/String" 47 CodL.yN
def tab : Cond := tabOf yN yB 6 none site
def P (a : Addr) (D : Cell) (fV fC : Field) (b : Addr) (A : Cell) (z : Int32) (o len : Nat) (args : Array Value) (s : State) : Prop := args = #[.ref a, .ref b, .int (Int32.ofNat o), .int (Int32.ofNat len), .null] ∧ Blank "java/lang/String" a D s ∧ Found "java/lang/String" "value" "[B" fV s ∧ Found "java/lang/String" "coder" "B" fC s ∧ Ch b A s ∧ StaticIs s "java/lang/String" "COMPACT_STRINGS" "Z" (.int z) ∧ ¬ z = 0 ∧ 0 < len ∧ o + len ≤ A.slots.size ∧ len ≤ 536870912 ∧ ∀ i, i < len → ¬ 255 < cv A (o + i)
def E (a : Addr) (D : Cell) (fV fC : Field) (A : Cell) (o len : Nat) (r : Option Value) (s u : State) : Prop := Got a D fV fC A o len r s u
/-- len > 0, no char of the range above 255: a Latin-1 String of their low bytes -/
theorem law (l : Launch) (a : Addr) (D : Cell) (fV fC : Field) (b : Addr) (A : Cell) (z : Int32) (o len : Nat) : Law l yN 5 4 2 35 yB 6 none site (P a D fV fC b A z o len) (E a D fV fC A o len) [⟨a, fC.slot⟩, ⟨a, fV.slot⟩] 1 len := by
  refine Law.of_walk (plainFor_of_name (by decide +kernel)) (by decide +kernel) (by decide +kernel) (by decide) (fun _ _ h => by rw [h.1]; rfl) (fun _ U U' hal hh h => ⟨h.1, h.2.1.mv hal hh, h.2.2.1.al hal, h.2.2.2.1.al hal, h.2.2.2.2.1.mv hal hh, h.2.2.2.2.2.1.there hal hh, h.2.2.2.2.2.2⟩) (fun r U U' V V' h1 hal h2 h => Got.mv r U U' V V' h1 hal h2 h) ?_
  intro p e s m args below meth c s₁ X0 hexec hbytes hml hret hlk hnm hown hh0 W hP
  obtain ⟨rfl, hB, f1, f2, hA, s1, hz, l0, l1, l2, hp⟩ := hP
  have a31 := hA.1.2.2.2
  have c1 : Steps p.tables e below (s₁.setTop (entryFrame m #[.ref a, .ref b, .int (Int32.ofNat o), .int (Int32.ofNat len), .null] 6)) (s₁.setTop (mkF m 0 #[.val (.ref a), .val (.ref b), .val (.int (Int32.ofNat o)), .val (.int (Int32.ofNat len)), .val .null, .unset] [])) := entry rfl
  have c2 : Steps p.tables e below (s₁.setTop (entryFrame m #[.ref a, .ref b, .int (Int32.ofNat o), .int (Int32.ofNat len), .null] 6)) (s₁.setTop (mkF m 1 #[.val (.ref a), .val (.ref b), .val (.int (Int32.ofNat o)), .val (.int (Int32.ofNat len)), .val .null, .unset] [.ref a])) := c1.trans (by
    refine XS.aloadN X0.here hexec rfl (hb hbytes d0) rfl rfl ?_
    exact Steps.refl _)
  obtain ⟨T3, X3, q3, st3⟩ := X0.oinit hexec hown (wks W (objW "java/lang/String" 1)) (g := (mkF m 1 #[.val (.ref a), .val (.ref b), .val (.int (Int32.ofNat o)), .val (.int (Int32.ofNat len)), .val .null, .unset] [.ref a])) rfl (by rw [hml]; rfl) (rest := []) rfl (hb hbytes d1) (W := 0) (by show 2 * 0 + 0 ≤ _; decide) (Nat.le_of_ble_eq_true rfl) (Nat.le_of_ble_eq_true rfl)
  have hh3 := q3.trans hh0
  have c4 : Steps p.tables e below (s₁.setTop (entryFrame m #[.ref a, .ref b, .int (Int32.ofNat o), .int (Int32.ofNat len), .null] 6)) (T3.setTop (mkF m 27 #[.val (.ref a), .val (.ref b), .val (.int (Int32.ofNat o)), .val (.int (Int32.ofNat len)), .val .null, .unset] [])) := (c2.trans (st3 _ (Steps.refl _))).trans (by
    refine XS.iloadN X3.here hexec rfl (hb hbytes d4) rfl ?_
    refine XS.ifYes X3.here hexec rfl (pc0 := 5) rfl (hb hbytes d5) rfl (i0_ne_t (nz32 (by omega) l0)) (by decide) rfl ?_
    exact Steps.refl _)
  obtain ⟨T5, X5, q5, st5⟩ := X3.sget hexec hown (wk W (.fieldLink "java/lang/String" 38 "java/lang/String" "COMPACT_STRINGS" "Z")) s1 (fun _ _ h => by rw [hh3]; exact h) (g := (mkF m 27 #[.val (.ref a), .val (.ref b), .val (.int (Int32.ofNat o)), .val (.int (Int32.ofNat len)), .val .null, .unset] [])) rfl (hb hbytes d27)
  have hh5 := q5.trans hh3
  have c6 : Steps p.tables e below (s₁.setTop (entryFrame m #[.ref a, .ref b, .int (Int32.ofNat o), .int (Int32.ofNat len), .null] 6)) (T5.setTop (mkF m 30 #[.val (.ref a), .val (.ref b), .val (.int (Int32.ofNat o)), .val (.int (Int32.ofNat len)), .val .null, .unset] [.int z])) := c4.trans (st5 _ (Steps.refl _))
  have c7 : Steps p.tables e below (s₁.setTop (entryFrame m #[.ref a, .ref b, .int (Int32.ofNat o), .int (Int32.ofNat len), .null] 6)) (T5.setTop (mkF m 36 #[.val (.ref a), .val (.ref b), .val (.int (Int32.ofNat o)), .val (.int (Int32.ofNat len)), .val .null, .unset] [.int (Int32.ofNat len), .int (Int32.ofNat o), .ref b])) := c6.trans (by
    refine XS.ifNo X5.here hexec rfl (hb hbytes d30) rfl (i0_eq_f hz) ?_
    refine XS.aloadN X5.here hexec rfl (hb hbytes d33) rfl rfl ?_
    refine XS.iloadN X5.here hexec rfl (hb hbytes d34) rfl ?_
    refine XS.iloadN X5.here hexec rfl (hb hbytes d35) rfl ?_
    exact Steps.refl _)
  obtain ⟨v8, T8, X8, E8, g8⟩ := X5.callS hexec (Cmp3.law l b A o len) hown (wks W (staticW "java/lang/String" 177 Cmp3.yN)) (wk W Cmp3.tab) (W := 0) (Nat.le_of_ble_eq_true rfl) (Nat.le_of_ble_eq_true rfl) (Nat.le_refl _) (by show 0 + len ≤ len; omega) (g := (mkF m 36 #[.val (.ref a), .val (.ref b), .val (.int (Int32.ofNat o)), .val (.int (Int32.ofNat len)), .val .null, .unset] [.int (Int32.ofNat len), .int (Int32.ofNat o), .ref b])) rfl (by rw [hml]; rfl) c7 (argsL := [.ref b, .int (Int32.ofNat o), .int (Int32.ofNat len)]) (rest := []) rfl rfl (by show 2 * 0 + 0 ≤ _; decide) (hb hbytes d36) (⟨rfl, hA.mv X5.warmed.alike hh5, l1, l2, hp⟩)
  obtain ⟨e8, z8⟩ := E8
  obtain ⟨rfl, N, n1, n2, n3, n4, n5, n6⟩ := NewArr.mv _ T5 s _ _ hh5.symm (Vm.Alike.refl _) rfl e8
  rw [hh5] at z8
  have hB1 := hB.keep X8.warmed.alike (n6 _ _ hB.1)
  have hne : s.heap.size ≠ a := (Nat.ne_of_lt (Array.getElem?_eq_some_iff.mp hB.1).1).symm
  have c9 : Steps p.tables e below (s₁.setTop (entryFrame m #[.ref a, .ref b, .int (Int32.ofNat o), .int (Int32.ofNat len), .null] 6)) (T8.setTop (mkF m 39 #[.val (.ref a), .val (.ref b), .val (.int (Int32.ofNat o)), .val (.int (Int32.ofNat len)), .val .null, .unset] [.ref s.heap.size])) := g8
  have c10 : Steps p.tables e below (s₁.setTop (entryFrame m #[.ref a, .ref b, .int (Int32.ofNat o), .int (Int32.ofNat len), .null] 6)) (T8.setTop (mkF m 45 #[.val (.ref a), .val (.ref b), .val (.int (Int32.ofNat o)), .val (.int (Int32.ofNat len)), .val .null, .val (.ref s.heap.size)] [.int (Int32.ofNat N.slots.size), .ref s.heap.size, .ref a])) := by
    have hc : Steps p.tables e below (s₁.setTop (entryFrame m #[.ref a, .ref b, .int (Int32.ofNat o), .int (Int32.ofNat len), .null] 6)) (T8.setTop (mkF m 45 #[.val (.ref a), .val (.ref b), .val (.int (Int32.ofNat o)), .val (.int (Int32.ofNat len)), .val .null, .val (.ref s.heap.size)] [.int (Int32.ofNat len), .ref s.heap.size, .ref a])) := c9.trans (by
      refine XS.astore X8.here hexec rfl (hb hbytes d39) rfl rfl rfl ?_
      refine XS.aloadN X8.here hexec rfl (hb hbytes d41) rfl rfl ?_
      refine XS.aload X8.here hexec rfl (hb hbytes d42) rfl rfl ?_
      refine XS.iloadN X8.here hexec rfl (hb hbytes d44) rfl ?_
      exact Steps.refl _)
    rw [n4]; exact hc
  obtain ⟨v11, T11, X11, E11, g11⟩ := X8.callS hexec (CodL.law l s.heap.size N) hown (wks W (staticW "java/lang/String" 47 CodL.yN)) (wk W CodL.tab) (W := 1) (Nat.le_of_ble_eq_true rfl) (Nat.le_of_ble_eq_true rfl) (Nat.le_refl _) (by show 0 + len + 0 ≤ len; omega) (g := (mkF m 45 #[.val (.ref a), .val (.ref b), .val (.int (Int32.ofNat o)), .val (.int (Int32.ofNat len)), .val .null, .val (.ref s.heap.size)] [.int (Int32.ofNat N.slots.size), .ref s.heap.size, .ref a])) rfl (by rw [hml]; rfl) c10 (argsL := [.ref s.heap.size, .int (Int32.ofNat N.slots.size)]) (rest := [.ref a]) rfl rfl (by show 2 * 0 + (1 + 0) ≤ _; decide) (hb hbytes d45) (⟨rfl, n1⟩)
  obtain ⟨rfl, q11⟩ := E11
  have hB11 := hB1.mv (X8.warmed.alike.symm.trans X11.warmed.alike) q11
  have c12 : Steps p.tables e below (s₁.setTop (entryFrame m #[.ref a, .ref b, .int (Int32.ofNat o), .int (Int32.ofNat len), .null] 6)) (T11.setTop (mkF m 48 #[.val (.ref a), .val (.ref b), .val (.int (Int32.ofNat o)), .val (.int (Int32.ofNat len)), .val .null, .val (.ref s.heap.size)] [.int 0, .ref a])) := g11
  obtain ⟨T13, X13, p13, bl13, sl13, st13⟩ := X11.finit hexec hown (wk W (.fieldLink "java/lang/String" 15 "java/lang/String" "coder" "B")) (Or.inr ⟨_, (wk W (.laysFinal "java/lang/String" "java/lang/String" "coder" "B"))⟩) (Or.inl ⟨rfl, hnm⟩) f2 (Or.inl rfl) hB11 (t := .byte) (by decide +kernel) rfl (g := (mkF m 48 #[.val (.ref a), .val (.ref b), .val (.int (Int32.ofNat o)), .val (.int (Int32.ofNat len)), .val .null, .val (.ref s.heap.size)] [.int 0, .ref a])) rfl (rest := []) rfl (hb hbytes d48)
  have c14 : Steps p.tables e below (s₁.setTop (entryFrame m #[.ref a, .ref b, .int (Int32.ofNat o), .int (Int32.ofNat len), .null] 6)) (T13.setTop (mkF m 54 #[.val (.ref a), .val (.ref b), .val (.int (Int32.ofNat o)), .val (.int (Int32.ofNat len)), .val .null, .val (.ref s.heap.size)] [.ref s.heap.size, .ref a])) := (c12.trans (st13 _ (Steps.refl _))).trans (by
    refine XS.aloadN X13.here hexec rfl (hb hbytes d51) rfl rfl ?_
    refine XS.aload X13.here hexec rfl (hb hbytes d52) rfl rfl ?_
    exact Steps.refl _)
  obtain ⟨T15, X15, p15, bl15, sl15, st15⟩ := X13.finit hexec hown (wk W (.fieldLink "java/lang/String" 9 "java/lang/String" "value" "[B")) (Or.inr ⟨_, (wk W (.laysFinal "java/lang/String" "java/lang/String" "value" "[B"))⟩) (Or.inl ⟨rfl, hnm⟩) f1 (Or.inl rfl) bl13 (t := (.array .byte)) (by decide +kernel) rfl (g := (mkF m 54 #[.val (.ref a), .val (.ref b), .val (.int (Int32.ofNat o)), .val (.int (Int32.ofNat len)), .val .null, .val (.ref s.heap.size)] [.ref s.heap.size, .ref a])) rfl (rest := []) rfl (hb hbytes d54)
  have c16 : Steps p.tables e below (s₁.setTop (entryFrame m #[.ref a, .ref b, .int (Int32.ofNat o), .int (Int32.ofNat len), .null] 6)) (T15.setTop (mkF m 57 #[.val (.ref a), .val (.ref b), .val (.int (Int32.ofNat o)), .val (.int (Int32.ofNat len)), .val .null, .val (.ref s.heap.size)] [])) := c14.trans (st15 _ (Steps.refl _))
  have ap := apart (Or.inr ⟨_, (wk W (.laysFinal "java/lang/String" "java/lang/String" "value" "[B"))⟩) (Or.inr ⟨_, (wk W (.laysFinal "java/lang/String" "java/lang/String" "coder" "B"))⟩) f1 f2 (t₁ := .array .byte) (t₂ := .byte) (by decide +kernel) (by decide +kernel) (by decide)
  have al := X8.warmed.alike.symm.trans X15.warmed.alike
  have n7 : T11.heap[s.heap.size]? = some N := by rw [q11]; exact n1.1
  exact ⟨T15, none, _, _, _, X15, by simp, rfl, by omega, (fun _ => rfl), ⟨rfl, _, N, bl15, ((Same.refl D _).set _ (by simp)).set _ (by simp), sl15, (Cell.slots_setSlot_ne _ ap).trans sl13, n1.keep al (p15.other hne (p13.other hne n7)), n2, by rw [al.findClass]; exact n3, n4, n5, fun y c h1 h2 => p15.other h1 (p13.other h1 (by rw [q11]; exact n6 y c h2)), by rw [p15.2.2, p13.2.2, q11]; exact z8⟩, fun fs hl => c16.trans (X15.returnOut hexec hret (hb hbytes d57) hl)⟩
end New4
namespace New1
def yN : MethodName := ⟨"java/lang/String", "<init>", "([C)V"⟩
abbrev yB : ByteArray := jdk_42_method_3_code
theorem d0 : decode yB 0 = .ok (.aload_n 0, 1) := by decide +kernel
theorem d1 : decode yB 1 = .ok (.aload_n 1, 1) := by decide +kernel
theorem d2 : decode yB 2 = .ok (.iconst 0, 1) := by decide +kernel
theorem d3 : decode yB 3 = .ok (.aload_n 1, 1) := by decide +kernel
theorem d4 : decode yB 4 = .ok (.arraylength, 1) := by decide +kernel
theorem d5 : decode yB 5 = .ok (.aconst_null, 1) := by decide +kernel
theorem d6 : decode yB 6 = .ok (.invokespecial 27, 3) := by decide +kernel
theorem d9 : decode yB 9 = .ok (.return_, 1) := by decide +kernel
def site : List Cond := [New4.tab] ++ initW "java/lang/String" 27 New4.yN
def tab : Cond := tabOf yN yB 2 none site
def P (a : Addr) (D : Cell) (fV fC : Field) (b : Addr) (A : Cell) (z : Int32) (args : Array Value) (s : State) : Prop := args = #[.ref a, .ref b] ∧ Blank "java/lang/String" a D s ∧ Found "java/lang/String" "value" "[B" fV s ∧ Found "java/lang/String" "coder" "B" fC s ∧ Ch b A s ∧ StaticIs s "java/lang/String" "COMPACT_STRINGS" "Z" (.int z) ∧ ¬ z = 0 ∧ 0 < A.slots.size ∧ A.slots.size ≤ 536870912 ∧ ∀ i, i < A.slots.size → ¬ 255 < cv A i
def E (a : Addr) (D : Cell) (fV fC : Field) (A : Cell) (r : Option Value) (s u : State) : Prop := Got a D fV fC A 0 A.slots.size r s u
/-- new String(chars), not empty, no char above 255: a Latin-1 String of their low bytes -/
theorem law (l : Launch) (a : Addr) (D : Cell) (fV fC : Field) (b : Addr) (A : Cell) (z : Int32) : Law l yN 2 1 3 52 yB 2 none site (P a D fV fC b A z) (E a D fV fC A) [⟨a, fC.slot⟩, ⟨a, fV.slot⟩] 1 A.slots.size := by
  refine Law.of_walk (plainFor_of_name (by decide +kernel)) (by decide +kernel) (by decide +kernel) (by decide) (fun _ _ h => by rw [h.1]; rfl) (fun _ U U' hal hh h => ⟨h.1, h.2.1.mv hal hh, h.2.2.1.al hal, h.2.2.2.1.al hal, h.2.2.2.2.1.mv hal hh, h.2.2.2.2.2.1.there hal hh, h.2.2.2.2.2.2⟩) (fun r U U' V V' h1 hal h2 h => Got.mv r U U' V V' h1 hal h2 h) ?_
  intro p e s m args below meth c s₁ X0 hexec hbytes hml hret hlk hnm hown hh0 W hP
  obtain ⟨rfl, hB, f1, f2, hA, s1, hz, l0, l2, hp⟩ := hP
  have c1 : Steps p.tables e below (s₁.setTop (entryFrame m #[.ref a, .ref b] 2)) (s₁.setTop (mkF m 0 #[.val (.ref a), .val (.ref b)] [])) := entry rfl
  have c2 : Steps p.tables e below (s₁.setTop (entryFrame m #[.ref a, .ref b] 2)) (s₁.setTop (mkF m 6 #[.val (.ref a), .val (.ref b)] [.null, .int (Int32.ofNat A.slots.size), .int 0, .ref b, .ref a])) := c1.trans (by
    refine XS.aloadN X0.here hexec rfl (hb hbytes d0) rfl rfl ?_
    refine XS.aloadN X0.here hexec rfl (hb hbytes d1) rfl rfl ?_
    refine iconstV X0.here hexec rfl 0 (hb hbytes d2) (by decide) ?_
    refine XS.aloadN X0.here hexec rfl (hb hbytes d3) rfl rfl ?_
    refine X0.alen hexec (hA.1.mv X0.warmed.alike hh0) rfl rfl (hb hbytes d4) ?_
    refine XS.aconstNull X0.here hexec rfl (hb hbytes d5) ?_
    exact Steps.refl _)
  obtain ⟨v3, T3, X3, E3, g3⟩ := X0.callN hexec (New4.law l a D fV fC b A z 0 A.slots.size) rfl hown (wks W (initW "java/lang/String" 27 New4.yN)) (W New4.tab (by simp only [site, List.mem_cons, List.mem_append, true_or, or_true])) (W := 0) (Nat.le_of_ble_eq_true rfl) (Nat.le_of_ble_eq_true rfl) (Nat.le_refl _) (by show 0 + A.slots.size ≤ A.slots.size; omega) (g := (mkF m 6 #[.val (.ref a), .val (.ref b)] [.null, .int (Int32.ofNat A.slots.size), .int (Int32.ofNat 0), .ref b, .ref a])) rfl (by rw [hml]; rfl) c2 (argsL := [.ref b, .int (Int32.ofNat 0), .int (Int32.ofNat A.slots.size), .null]) (rest := []) rfl rfl (by show 2 * 0 + 0 ≤ _; decide) (hb hbytes d6) (⟨rfl, hB.mv X0.warmed.alike hh0, f1.al X0.warmed.alike, f2.al X0.warmed.alike, hA.mv X0.warmed.alike hh0, s1.there X0.warmed.alike hh0, hz, l0, by omega, l2, fun i hi => by rw [Nat.zero_add]; exact hp i hi⟩)
  have e0 := Got.mv _ s₁ s _ _ hh0.symm (Vm.Alike.refl _) rfl E3
  obtain rfl := e0.1
  have c4 : Steps p.tables e below (s₁.setTop (entryFrame m #[.ref a, .ref b] 2)) (T3.setTop (mkF m 9 #[.val (.ref a), .val (.ref b)] [])) := g3
  exact ⟨T3, none, _, _, _, X3, by simp, rfl, by omega, (fun _ => rfl), e0, fun fs hl => c4.trans (X3.returnOut hexec hret (hb hbytes d9) hl)⟩
theorem pays {l : Launch} {R : Room} {p : Program} {e : Env} {below : List Frame} {s : State} {sargs : Array Value} {len W : Nat} (a : Addr) (D : Cell) (fV fC : Field) (b : Addr) (A : Cell) (z : Int32) (htab : tab.before sargs s = true) (hfr : 4 ≤ R.frames) (hlo : W + 65 ≤ R.locals) :
    Back l R p e below s sargs yN len W (fun A₁ a₁ => A₁.cells + 1 ≤ R.cells ∧ A₁.slots + A.slots.size ≤ R.slots ∧ P a D fV fC b A z a₁ A₁.U) (fun A₁ _ v₁ B₁ => E a D fV fC A v₁ A₁.U B₁.U ∧ B₁.locs = A₁.locs ++ [⟨a, fC.slot⟩, ⟨a, fV.slot⟩] ∧ B₁.cells = A₁.cells + 1 ∧ B₁.slots = A₁.slots + A.slots.size) :=
  (law l a D fV fC b A z).pays htab hfr (by omega)
end New1
end StrChars
namespace StrChars.Road
open Jvm Sem ClassFile Op Lib Jvm.Stand Jvm.Free Jvm.Free.XT
open Jvm.Lib.Cold (StaticIs)
abbrev ST : String := "java/lang/String"
/-- every table word that New1's law asks, flat -/
abbrev words : List Jvm.Cond := [.code New1.yN New1.yB 2 none, .initialized ST, .methodLink ST 27 New4.yN, .instanceMethod New4.yN,
  .code New4.yN New4.yB 6 none, .fieldLink ST 38 ST "COMPACT_STRINGS" "Z", .laysFinal ST ST "value" "[B", .fieldLink ST 9 ST "value" "[B", .laysFinal ST ST "coder" "B", .fieldLink ST 15 ST "coder" "B",
  .methodLink ST 1 Lib.objectInit, .instanceMethod Lib.objectInit, .code Lib.objectInit ⟨#[0xb1]⟩ 1 none, .methodLink ST 177 Cmp3.yN, .static Cmp3.yN, .methodLink ST 47 CodL.yN, .static CodL.yN,
  .code Cmp3.yN Cmp3.yB 6 (some (.array .byte)), .initialized U16, .arrayClass .byte, .methodLink U16 115 Cmp5.yN, .static Cmp5.yN, .code Cmp5.yN Cmp5.yB 7 (some .int), .code CodL.yN CodL.yB 2 (some .byte)]
theorem tab_of {a : Array Value} {s : State} (h : ∀ w ∈ words, w.before a s = true) : New1.tab.before a s = true := by
  have h5 : Cmp5.tab.before a s = true := unparts (wk h (.code Cmp5.yN Cmp5.yB 7 (some .int))) (wks h (.initialized Cmp5.yN.cls :: Cmp5.site))
  have hc : CodL.tab.before a s = true := unparts (wk h (.code CodL.yN CodL.yB 2 (some .byte))) (wks h (.initialized CodL.yN.cls :: CodL.site))
  have q5 : ∀ w ∈ Cmp5.tab :: words, w.before a s = true := fun w hw => (List.mem_cons.mp hw).elim (fun e => e ▸ h5) (h w)
  have h3 : Cmp3.tab.before a s = true := unparts (wk q5 (.code Cmp3.yN Cmp3.yB 6 (some (.array .byte)))) (wks q5 (.initialized Cmp3.yN.cls :: Cmp3.site))
  have q3 : ∀ w ∈ Cmp3.tab :: CodL.tab :: words, w.before a s = true := fun w hw => (List.mem_cons.mp hw).elim (fun e => e ▸ h3) fun hw => (List.mem_cons.mp hw).elim (fun e => e ▸ hc) (h w)
  have h4 : New4.tab.before a s = true := unparts (wk q3 (.code New4.yN New4.yB 6 none)) (wks q3 (.initialized New4.yN.cls :: New4.site))
  have q4 : ∀ w ∈ New4.tab :: words, w.before a s = true := fun w hw => (List.mem_cons.mp hw).elim (fun e => e ▸ h4) (h w)
  exact unparts (wk q4 (.code New1.yN New1.yB 2 none)) (wks q4 (.initialized New1.yN.cls :: New1.site))
/-- the words ride from the start Z to the walk's own state -/
theorem moved {Z s : State} {a0 args : Array Value} (hZ : Z.Warmed39 s.vm) (hw : ∀ d ∈ words, d.before a0 Z = true) : ∀ d ∈ words, d.before args s = true := fun d hd => by
  have q := hw d hd
  have t : ∀ d ∈ words, d = .arrayClass .byte ∨ (d.onTables && d.keepsFace) = true := by decide +kernel
  rcases t d hd with rfl | t
  · exact RoadKit.mvA hZ q
  · exact RoadKit.mv hZ q t
/-- WHAT COMES BACK, over the tables of the start Z: h the heap at the call, h' behind it -/
def Q (Z : State) (x : Addr) (A : Cell) (h : Heap) (v : Option Value) (h' : Heap) (L : List Loc) : Prop := v = none ∧ (∀ y ∈ L, y.base = x) ∧ RoadKit.Keep h h' [x] ∧ h'.size = h.size + 1 ∧ RoadKit.Exa Z h' x ST ∧ RoadKit.Fld Z h' x ST "value" "[B" (.ref h.size) ∧ RoadKit.Fld Z h' x ST "coder" "B" (.int 0) ∧
  (∃ V : Cell, RoadKit.Arr Z h' h.size V .byte ∧ V.vm = .none ∧ Z.vm.findClass "[B" = some V.cls ∧ V.slots.size = A.slots.size ∧ ∀ j, j < A.slots.size → V.slots[j]? = some (.int (lo8 (cv A j)))) ∧
  ∀ (O n d : String) (w : Value), RoadKit.Fld Z h x O n d w → RoadKit.slotOf Z O n d ≠ RoadKit.slotOf Z ST "value" "[B" → RoadKit.slotOf Z O n d ≠ RoadKit.slotOf Z ST "coder" "B" → RoadKit.Fld Z h' x O n d w
/-- **new String(chars) AT A CALL, IN THE ROAD'S FORM**: for specialBack behind newO: x the fresh String, b the char[] with the cell A -/
theorem back {p : Program} {l : Launch} {e : Env} {R : Room} {s : State} {args : Array Value} {below : List Frame} {len W : Nat} {Z : State} {a0 : Array Value} {h : Heap} (hZ : Z.Warmed39 s.vm) (hw : ∀ d ∈ words, d.before a0 Z = true) {kI : Nat} (wi : (Jvm.Cond.instantiable ST kI).before a0 Z = true)
    {x b : Addr} {A : Cell} {z : Int32} {v0 c0 : Value} (E : RoadKit.Exa Z h x ST) (V : RoadKit.Fld Z h x ST "value" "[B" v0) (C : RoadKit.Fld Z h x ST "coder" "B" c0) (K : RoadKit.Arr Z h b A .char) (hty : Typed .char A) (S : RoadKit.Sta Z h ST "COMPACT_STRINGS" "Z" (.int z)) (hz : ¬ z = 0)
    (l0 : 0 < A.slots.size) (l2 : A.slots.size ≤ 536870912) (hp : ∀ i, i < A.slots.size → ¬ 255 < cv A i) (hfr : 4 ≤ R.frames) (hlo : W + 65 ≤ R.locals) :
    Back l R p e below s args New1.yN len W (fun P a => a = #[.ref x, .ref b] ∧ P.U.heap = h ∧ P.cells + 1 ≤ R.cells ∧ P.slots + A.slots.size ≤ R.slots)
      (fun P _ v B => ∃ L, Q Z x A h v B.U.heap L ∧ B.locs = P.locs ++ L ∧ B.cells = P.cells + 1 ∧ B.slots = P.slots + A.slots.size) := by
  intro m meth c P g ig mk a X hg hsize hdg hW hn hp'
  obtain ⟨rfl, rfl, r1, r2⟩ := hp'
  have al : Z.vm.Alike P.U.vm := hZ.alike.trans X.warmed.alike
  obtain ⟨D, cfV, kV, iV, fV, hD, gV, stV, knV, obV, asV, slV⟩ := id V
  obtain ⟨D', cfC, kC, iC, fC, hD', gC, stC, -, -, asC, slC⟩ := id C
  cases hD.symm.trans hD'
  obtain ⟨D2, kD, e1, e2, e3, e4, e5⟩ := id E
  cases hD.symm.trans e1
  obtain ⟨c2, k2, i1, i2, i3, -⟩ := Cond.instantiable_spec wi
  cases e2.symm.trans i1
  cases e3.symm.trans i2
  obtain ⟨kU, u1, u2⟩ := al.2.2 _ _ e3
  have hB : Blank ST x D P.U := ⟨hD, ⟨knV, fun q hq => by rw [hq] at obV; cases obV⟩, by rw [al.findClass]; exact e2, kU, u1, by rw [u2]; exact i3, by rw [u2]; exact e5 i3⟩
  have F1 : Found ST "value" "[B" fV P.U := ⟨SBG.found_only al ⟨cfV, kV, iV, gV⟩, stV⟩
  have F2 : Found ST "coder" "B" fC P.U := ⟨SBG.found_only al ⟨cfC, kC, iC, gC⟩, stC⟩
  have hA : Ch b A P.U := ⟨⟨K.1, State.isArrayOf_alike al K.2.1, K.2.2, by omega⟩, hty⟩
  have hS : StaticIs P.U ST "COMPACT_STRINGS" "Z" (.int z) := by
    obtain ⟨cfS, iS, kS, fS, st, cS, t1, t2, t3, t4, t5, t6, t7⟩ := S
    exact StaticIs.there (s := { Z with heap := P.U.heap }) ⟨cfS, iS, kS, fS, st, cS, t1, t2, t3, t4, t5, (fun q => by rw [q] at t6; cases t6), t7⟩ al rfl
  obtain ⟨v, B, X', ⟨⟨hv, E', V', q1, q2, q3, q4, q5, q6, q7, q8, q9, q10, q11⟩, hl, hc, hs⟩, st⟩ := New1.pays x D fV fC b A z (tab_of (moved hZ hw)) hfr hlo m meth c P g ig mk _ X hg hsize hdg hW hn ⟨r1, r2, rfl, hB, F1, F2, hA, hS, hz, l0, l2, hp⟩
  have al' : Z.vm.Alike B.U.vm := hZ.alike.trans X'.warmed.alike
  have hsz : E'.slots.size = D.slots.size := by
    obtain ⟨-, -, -, kB, w1, w2, w3⟩ := q1
    obtain ⟨kB', y1, y2⟩ := al'.2.2 _ _ e3
    rw [q2.2.1] at w1
    cases w1.symm.trans y1
    rw [w3, e5 i3, y2]
  refine ⟨v, B, X', ⟨_, ⟨hv, ?_, ⟨by omega, fun y cy hy hn' => q10 y cy (by simpa using hn') hy, fun y cy hy => ?_⟩, q11, ⟨E', _, q1.1, by rw [q2.2.1]; exact e2, by rw [q2.2.1]; exact e3, by rw [q2.1]; exact obV, fun _ => by rw [hsz]; exact e5 i3⟩,
    ⟨E', cfV, kV, iV, fV, q1.1, gV, stV, by rw [q2.1]; exact knV, by rw [q2.1]; exact obV, by rw [q2.2.1]; exact asV, q3⟩, ⟨E', cfC, kC, iC, fC, q1.1, gC, stC, by rw [q2.1]; exact knV, by rw [q2.1]; exact obV, by rw [q2.2.1]; exact asC, q4⟩,
    ⟨V', ⟨q5.1, State.isArrayOf_alike al'.symm q5.2.1, q5.2.2.1⟩, q6, by rw [← al'.findClass]; exact q7, q8, fun j hj => by have := q9 j hj; rwa [Nat.zero_add] at this⟩, fun O n d w F n1 n2 => ?_⟩, hl, hc, hs⟩, st⟩
  · intro y hy
    simp only [List.mem_cons, List.not_mem_nil, or_false] at hy
    rcases hy with rfl | rfl <;> rfl
  · by_cases q : y = x
    · subst q
      cases hD.symm.trans hy
      exact ⟨E', q1.1, q2.2.1, q2.1, hsz⟩
    · exact ⟨cy, q10 y cy q hy, rfl, rfl, rfl⟩
  · obtain ⟨D3, cf, k, i, f, g1, g2, g3, g4, g5, g6, g7⟩ := F
    cases hD.symm.trans g1
    simp only [RoadKit.slotOf, g2, gV, gC, Option.map_some, Option.getD_some] at n1 n2
    exact ⟨E', cf, k, i, f, q1.1, g2, g3, by rw [q2.1]; exact g4, by rw [q2.1]; exact g5, by rw [q2.2.1]; exact g6, by rw [q2.2.2 f.slot (by simp [n1, n2])]; exact g7⟩
end StrChars.Road
namespace StrChars.Road
open Jvm Sem ClassFile Op Lib Jvm.Stand Jvm.Free Jvm.Free.XT
/-- WHAT COMES BACK, the byte[] as a list of values -/
def QA (Z : State) (x : Addr) (zn : Int32) (cs : List Int32) (h : Heap) (v : Option Value) (h' : Heap) (L : List Loc) : Prop := v = none ∧ (∀ y ∈ L, y.base = x) ∧ RoadKit.Keep h h' [x] ∧ h'.size = h.size + 1 ∧ RoadKit.Exa Z h' x ST ∧ RoadKit.Fld Z h' x ST "value" "[B" (.ref h.size) ∧ RoadKit.Fld Z h' x ST "coder" "B" (.int 0) ∧
  (∃ kb, Z.vm.findClass "[B" = some kb ∧ RoadKit.Arv Z h' h.size kb .byte zn (cs.map fun c => .int (lo8 c)) (.int 0)) ∧
  ∀ (O n d : String) (w : Value), RoadKit.Fld Z h x O n d w → RoadKit.slotOf Z O n d ≠ RoadKit.slotOf Z ST "value" "[B" → RoadKit.slotOf Z O n d ≠ RoadKit.slotOf Z ST "coder" "B" → RoadKit.Fld Z h' x O n d w
/-- **new String(chars) AT A CALL, THE ARRAYS AS LISTS**: the char[] at b holds cs, not empty, no char above 255 -/
theorem backArv {p : Program} {l : Launch} {e : Env} {R : Room} {s : State} {args : Array Value} {below : List Frame} {len W : Nat} {Z : State} {a0 : Array Value} {h : Heap} (hZ : Z.Warmed39 s.vm) (hw : ∀ d ∈ words, d.before a0 Z = true) {kI : Nat} (wi : (Jvm.Cond.instantiable ST kI).before a0 Z = true)
    {x b : Addr} {k : ClassId} {zn z : Int32} {cs : List Int32} {dv v0 c0 : Value} (E : RoadKit.Exa Z h x ST) (V : RoadKit.Fld Z h x ST "value" "[B" v0) (C : RoadKit.Fld Z h x ST "coder" "B" c0) (K : RoadKit.Arv Z h b k .char zn (cs.map Value.int) dv) (S : RoadKit.Sta Z h ST "COMPACT_STRINGS" "Z" (.int z)) (hz : ¬ z = 0)
    (hlen : zn.toNatClampNeg = cs.length) (h0 : 0 < cs.length) (hbig : cs.length ≤ 536870912) (hall : ∀ c ∈ cs, ¬ 255 < c) (hfr : 4 ≤ R.frames) (hlo : W + 65 ≤ R.locals) :
    Back l R p e below s args New1.yN len W (fun P a => a = #[.ref x, .ref b] ∧ P.U.heap = h ∧ P.cells + 1 ≤ R.cells ∧ P.slots + cs.length ≤ R.slots)
      (fun P _ v B => ∃ L, QA Z x zn cs h v B.U.heap L ∧ B.locs = P.locs ++ L ∧ B.cells = P.cells + 1 ∧ B.slots = P.slots + cs.length) := by
  obtain ⟨A, K1, K2, K3, K4, K5, K6⟩ := K
  have e : A.slots.size = cs.length := K3.trans hlen
  have hat : ∀ (i : Nat) (hi : i < cs.length), A.slots[i]? = some (.int cs[i]) := fun i hi => by rw [K5 i (by omega)]; simp [List.getD_eq_getElem?_getD, hi]
  have hcv : ∀ (i : Nat) (hi : i < cs.length), cv A i = cs[i] := fun i hi => by unfold cv; rw [hat i hi]
  have hty : Typed .char A := fun i v hv => by
    have hi : i < A.slots.size := (Array.getElem?_eq_some_iff.mp hv).1
    have q := K5 i hi
    rw [hv] at q
    rw [Option.some.inj q]
    exact K6 i hi
  refine Back.mono (back hZ hw wi E V C K1 hty S hz (by omega) (by omega) (fun i hi => by rw [hcv i (by omega)]; exact hall _ (List.getElem_mem _)) hfr hlo) (fun P a hp => ⟨hp.1, hp.2.1, hp.2.2.1, by rw [e]; exact hp.2.2.2⟩) (fun P a v B hp hq => ?_)
  obtain ⟨L, ⟨q1, q2, q3, q4, q5, q6, q7, ⟨V', v1, v2, v3, v4, v5⟩, q9⟩, hl, hc, hs⟩ := hq
  refine ⟨L, ⟨q1, q2, q3, q4, q5, q6, q7, ⟨V'.cls, v3, V', v1, rfl, by rw [v4, e, hlen], K4, fun i hi => ?_, fun i hi => ?_⟩, q9⟩, hl, hc, by rw [hs, e]⟩
  · have hi' : i < cs.length := by omega
    rw [v5 i (by omega), hcv i hi']; simp [List.getD_eq_getElem?_getD, hi']
  · have hi' : i < cs.length := by omega
    simp only [List.getD_eq_getElem?_getD, List.getElem?_map, List.getElem?_eq_getElem hi', Option.map_some, Option.getD_some]
    exact fits_lo8 _
end StrChars.Road
namespace StrChars.Road
open Jvm Sem ClassFile Op Lib Jvm.Stand Jvm.Free Jvm.Free.XT
/-- WHAT COMES BACK, in the writer's own shape -/
def QV (Z : State) (x : Addr) (N : Int32) (bs : List Int32) (h : Heap) (n0 : Nat) (v : Option Value) (h' : Heap) (L : List Loc) : Prop := v = none ∧ RoadKit.Fr n0 L ∧ RoadKit.Keep h h' [x] ∧ RoadKit.Exa Z h' x ST ∧ RoadKit.Fld Z h' x ST "coder" "B" (.int 0) ∧
  ∃ (t : Addr) (kb : ClassId), n0 ≤ t ∧ h.size ≤ t ∧ ¬ t = x ∧ RoadKit.Fld Z h' x ST "value" "[B" (.ref t) ∧ RoadKit.Arv Z h' t kb .byte N (bs.map Value.int) (.int 0)
/-- **new String(chars) AT A CALL, FOR THE WRITER**: a char[] of n known ints, each 0 to 255 -/
theorem backV {p : Program} {l : Launch} {e : Env} {R : Room} {s : State} {args : Array Value} {below : List Frame} {len W : Nat} {Z : State} {a0 : Array Value} {h : Heap} (hZ : Z.Warmed39 s.vm) (hw : ∀ d ∈ words, d.before a0 Z = true) {kI : Nat} (wi : (Jvm.Cond.instantiable ST kI).before a0 Z = true)
    {x b : Addr} {kC : ClassId} {cs bs : List Int32} {d v0 c0 : Value} {z N : Int32} {n n0 : Nat} (hx0 : n0 ≤ x) (hh0 : n0 ≤ h.size) (E : RoadKit.Exa Z h x ST) (V : RoadKit.Fld Z h x ST "value" "[B" v0) (C : RoadKit.Fld Z h x ST "coder" "B" c0) (K : RoadKit.Arv Z h b kC .char N (cs.map Value.int) d) (S : RoadKit.Sta Z h ST "COMPACT_STRINGS" "Z" (.int z)) (hz : ¬ z = 0)
    (hn : cs.length = n) (hN : N = Int32.ofNat n) (l0 : 0 < n) (l2 : n ≤ 4000) (hp : ∀ c ∈ cs, ¬ c < 0 ∧ ¬ (255 : Int32) < c) (hb : bs = cs.map (fun c => c.toInt8.toInt32)) (hfr : 4 ≤ R.frames) (hlo : W + 65 ≤ R.locals) :
    Back l R p e below s args (⟨"java/lang/String", "<init>", "([C)V"⟩ : MethodName) len W (fun P a => a = #[.ref x, .ref b] ∧ P.U.heap = h ∧ P.cells + 1 ≤ R.cells ∧ P.slots + n ≤ R.slots)
      (fun P _ v B => ∃ L, QV Z x N bs h n0 v B.U.heap L ∧ B.locs = P.locs ++ L ∧ B.cells = P.cells + 1 ∧ B.slots = P.slots + n) := by
  subst hn hN hb
  refine Back.mono (backArv hZ hw wi E V C K S hz (n32 (by omega)) l0 (by omega) (fun c hc => (hp c hc).2) hfr hlo) (fun P a hp => hp) (fun P a v B hp hq => ?_)
  obtain ⟨L, ⟨q1, q2, q3, q4, q5, q6, q7, ⟨kb, v1, v2⟩, q9⟩, hl, hc, hs⟩ := hq
  exact ⟨L, ⟨q1, fun y hy => by rw [q2 y hy]; exact hx0, q3, q5, q7, h.size, kb, hh0, Nat.le_refl _, Nat.ne_of_gt E.lt, q6, by rw [List.map_map]; exact v2⟩, hl, hc, hs⟩
end StrChars.Road
namespace StrChars
open Jvm Sem ClassFile Op Lib Jvm.Stand Jvm.Free.XT Jvm.Free.ALB Jvm.Free.JM Jvm.Free
open Jvm.Lib.Cold (StaticIs)
def hi8 (x : Int32) : Int32 := lo8 (x >>> ((8 : Int32) &&& 31))
theorem shr0 (c : Int32) : c >>> ((0 : Int32) &&& 31) = c := by
  have e : ((0 : Int32) &&& 31) = 0 := by decide
  rw [e]
  apply Int32.toBitVec_inj.mp
  rw [Int32.toBitVec_shiftRight]
  have e1 : ((0 : Int32).toBitVec.smod 32) = 0#32 := by decide
  rw [e1, BitVec.sshiftRight_eq']
  exact BitVec.sshiftRight_zero
end StrChars
namespace StrChars
open Jvm Sem ClassFile Op Lib Jvm.Stand Jvm.Free.XT Jvm.Free.ALB Jvm.Free.JM Jvm.Free
open Jvm.Lib.Cold (StaticIs)
theorem shr1 {n : Nat} (h : 2 * n < 2 ^ 31) : Int32.ofNat (2 * n) >>> ((1 : Int32) &&& 31) = Int32.ofNat n := by
  have e : ((1 : Int32) &&& 31) = 1 := by decide
  rw [e]
  apply Int32.toBitVec_inj.mp
  rw [Int32.toBitVec_shiftRight]
  have e1 : ((1 : Int32).toBitVec.smod 32) = 1#32 := by decide
  have hm : (BitVec.ofNat 32 (2 * n)).toNat = 2 * n := by rw [BitVec.toNat_ofNat, Nat.mod_eq_of_lt (by omega)]
  rw [e1, BitVec.sshiftRight_eq']
  apply BitVec.eq_of_toNat_eq
  show ((BitVec.ofNat 32 (2 * n)).sshiftRight 1).toNat = (BitVec.ofNat 32 n).toNat
  rw [BitVec.toNat_sshiftRight_of_msb_false (by rw [BitVec.msb_eq_false_iff_two_mul_lt, hm]; omega), hm, BitVec.toNat_ofNat, Nat.shiftRight_eq_div_pow]
  omega
/-- the array's cell V codes the n chars f 0 .. f (n - 1) by the coder cd, as the JDK does: coder 1 just where some char is above 255 -/
def Cod (cd : Int32) (n : Nat) (f : Nat → Int32) (V : Cell) : Prop := (cd = 0 ∧ V.slots.size = n ∧ ∀ j, j < n → V.slots[j]? = some (.int (lo8 (f j))) ∧ ¬ 255 < f j) ∨ (cd = 1 ∧ V.slots.size = 2 * n ∧ (∀ j, j < n → V.slots[2 * j]? = some (.int (lo8 (f j))) ∧ V.slots[2 * j + 1]? = some (.int (hi8 (f j)))) ∧ ∃ j, j < n ∧ 255 < f j)
theorem Cod.cd {cd : Int32} {n : Nat} {f : Nat → Int32} {V : Cell} (h : Cod cd n f V) : cd = 0 ∨ cd = 1 := h.imp (fun q => q.1) fun q => q.1
theorem Cod.len {cd : Int32} {n : Nat} {f : Nat → Int32} {V : Cell} (h : Cod cd n f V) (hs : V.slots.size < 2 ^ 31) : Int32.ofNat V.slots.size >>> (cd &&& 31) = Int32.ofNat n := by
  rcases h with ⟨rfl, h, -⟩ | ⟨rfl, h, -⟩
  · rw [shr0, h]
  · rw [h, shr1 (by omega)]
/-- **x is a String of the n chars f 0 .. f (n - 1)**, Latin-1 or UTF-16; its array at t has the cell V -/
def Txt (x t : Addr) (V : Cell) (cd : Int32) (n : Nat) (f : Nat → Int32) (U : State) : Prop := Exact "java/lang/String" x U ∧ Has x "java/lang/String" "value" "[B" (.ref t) U ∧ Has x "java/lang/String" "coder" "B" (.int cd) U ∧ XT.Arr .byte t V U ∧ Cod cd n f V ∧ ∀ j, j < n → ¬ f j < 0 ∧ ¬ 65535 < f j
theorem Txt.mv {x t : Addr} {V : Cell} {cd : Int32} {n : Nat} {f : Nat → Int32} {U U' : State} (h : Txt x t V cd n f U) (hal : U.vm.Alike U'.vm) (hh : U'.heap = U.heap) : Txt x t V cd n f U' := ⟨h.1.mv hal hh, h.2.1.mv hal hh, h.2.2.1.mv hal hh, h.2.2.2.1.mv hal hh, h.2.2.2.2⟩
namespace Cdr
def yN : MethodName := ⟨"java/lang/String", "coder", "()B"⟩
abbrev yB : ByteArray := jdk_42_method_152_code
theorem d0 : decode yB 0 = .ok (.getstatic 38, 3) := by decide +kernel
theorem d3 : decode yB 3 = .ok (.ifCond (.eq) 10, 3) := by decide +kernel
theorem d6 : decode yB 6 = .ok (.aload_n 0, 1) := by decide +kernel
theorem d7 : decode yB 7 = .ok (.getfield 15, 3) := by decide +kernel
theorem d10 : decode yB 10 = .ok (.goto 4, 3) := by decide +kernel
theorem d14 : decode yB 14 = .ok (.ireturn, 1) := by decide +kernel
def site : List Cond := [.fieldLink "java/lang/String" 38 "java/lang/String" "COMPACT_STRINGS" "Z", .fieldLink "java/lang/String" 15 "java/lang/String" "coder" "B"]
def tab : Cond := tabOf yN yB 1 (some .byte) site
def P (x : Addr) (cd z : Int32) (args : Array Value) (s : State) : Prop := args = #[.ref x] ∧ Has x "java/lang/String" "coder" "B" (.int cd) s ∧ (cd = 0 ∨ cd = 1) ∧ StaticIs s "java/lang/String" "COMPACT_STRINGS" "Z" (.int z) ∧ ¬ z = 0
def E (cd : Int32) (r : Option Value) (s u : State) : Prop := XT.PureE (some (.int cd)) r s u
theorem law (l : Launch) (x : Addr) (cd z : Int32) : Law l yN 1 0 0 0 yB 1 (some .byte) site (P x cd z) (E cd) [] 0 0 := by
  refine Law.of_walk (plainFor_of_name (by decide +kernel)) (by decide +kernel) (by decide +kernel) (by decide) (fun _ _ h => by rw [h.1]; rfl) (fun _ U U' hal hh h => ⟨h.1, h.2.1.mv hal hh, h.2.2.1, h.2.2.2.1.there hal hh, h.2.2.2.2⟩) (fun r U U' V V' h1 hal h2 h => XT.PureE.mv r U U' V V' h1 hal h2 h) ?_
  intro p e s m args below meth c s₁ X0 hexec hbytes hml hret hlk hnm hown hh0 W hP
  obtain ⟨rfl, hx, hc, s1, hz⟩ := hP
  have c1 : Steps p.tables e below (s₁.setTop (entryFrame m #[.ref x] 1)) (s₁.setTop (mkF m 0 #[.val (.ref x)] [])) := entry rfl
  obtain ⟨T2, X2, q2, st2⟩ := X0.sget hexec hown (wk W (.fieldLink "java/lang/String" 38 "java/lang/String" "COMPACT_STRINGS" "Z")) s1 (fun _ _ h => by rw [hh0]; exact h) (g := (mkF m 0 #[.val (.ref x)] [])) rfl (hb hbytes d0)
  have hh2 := q2.trans hh0
  have c3 : Steps p.tables e below (s₁.setTop (entryFrame m #[.ref x] 1)) (T2.setTop (mkF m 7 #[.val (.ref x)] [.ref x])) := (c1.trans (st2 _ (Steps.refl _))).trans (by
    refine XS.ifNo X2.here hexec rfl (hb hbytes d3) rfl (i0_eq_f hz) ?_
    refine XS.aloadN X2.here hexec rfl (hb hbytes d6) rfl rfl ?_
    exact Steps.refl _)
  obtain ⟨T4, X4, q4, st4⟩ := X2.hget hexec hown (wk W (.fieldLink "java/lang/String" 15 "java/lang/String" "coder" "B")) (hx.mv X2.warmed.alike hh2) (g := (mkF m 7 #[.val (.ref x)] [.ref x])) rfl (rest := []) rfl (hb hbytes d7)
  have c5 : Steps p.tables e below (s₁.setTop (entryFrame m #[.ref x] 1)) (T4.setTop (mkF m 14 #[.val (.ref x)] [.int cd])) := (c3.trans (st4 _ (Steps.refl _))).trans (by
    refine XS.goto X4.here hexec rfl (pc0 := 10) rfl (hb hbytes d10) (by decide) rfl ?_
    exact Steps.refl _)
  exact ⟨T4, some (.int cd), _, _, _, X4, rfl, rfl, rfl, (fun h => by cases h), ⟨rfl, q4.trans hh2⟩, fun fs hl => c5.trans (X4.ireturnOut hexec hret (by rcases hc with rfl | rfl <;> rfl) (Or.inr (Or.inr (Or.inl rfl))) (hb hbytes d14) hl)⟩
end Cdr
namespace Len
def yN : MethodName := ⟨"java/lang/String", "length", "()I"⟩
abbrev yB : ByteArray := jdk_42_method_54_code
theorem d0 : decode yB 0 = .ok (.aload_n 0, 1) := by decide +kernel
theorem d1 : decode yB 1 = .ok (.getfield 9, 3) := by decide +kernel
theorem d4 : decode yB 4 = .ok (.arraylength, 1) := by decide +kernel
theorem d5 : decode yB 5 = .ok (.aload_n 0, 1) := by decide +kernel
theorem d6 : decode yB 6 = .ok (.invokevirtual 335, 3) := by decide +kernel
theorem d9 : decode yB 9 = .ok (.ishr, 1) := by decide +kernel
theorem d10 : decode yB 10 = .ok (.ireturn, 1) := by decide +kernel
def site : List Cond := [.fieldLink "java/lang/String" 9 "java/lang/String" "value" "[B", Cdr.tab] ++ virtW "java/lang/String" 335 "java/lang/String" Cdr.yN Cdr.yN
def tab : Cond := tabOf yN yB 1 (some .int) site
def P (x t : Addr) (V : Cell) (cd : Int32) (n : Nat) (f : Nat → Int32) (z : Int32) (args : Array Value) (s : State) : Prop := args = #[.ref x] ∧ Txt x t V cd n f s ∧ StaticIs s "java/lang/String" "COMPACT_STRINGS" "Z" (.int z) ∧ ¬ z = 0
def E (n : Nat) (r : Option Value) (s u : State) : Prop := XT.PureE (some (.int (Int32.ofNat n))) r s u
/-- length() of a String of n chars, in either coding -/
theorem law (l : Launch) (x t : Addr) (V : Cell) (cd : Int32) (n : Nat) (f : Nat → Int32) (z : Int32) : Law l yN 1 0 1 13 yB 1 (some .int) site (P x t V cd n f z) (E n) [] 0 0 := by
  refine Law.of_walk (plainFor_of_name (by decide +kernel)) (by decide +kernel) (by decide +kernel) (by decide) (fun _ _ h => by rw [h.1]; rfl) (fun _ U U' hal hh h => ⟨h.1, h.2.1.mv hal hh, h.2.2.1.there hal hh, h.2.2.2⟩) (fun r U U' V V' h1 hal h2 h => XT.PureE.mv r U U' V V' h1 hal h2 h) ?_
  intro p e s m args below meth c s₁ X0 hexec hbytes hml hret hlk hnm hown hh0 W hP
  obtain ⟨rfl, hx, s1, hz⟩ := hP
  have v31 := hx.2.2.2.1.2.2.2
  have c1 : Steps p.tables e below (s₁.setTop (entryFrame m #[.ref x] 1)) (s₁.setTop (mkF m 1 #[.val (.ref x)] [.ref x])) := Steps.trans (entry rfl) (by
    show Steps p.tables e below (s₁.setTop (mkF m 0 #[.val (.ref x)] [])) _
    refine XS.aloadN X0.here hexec rfl (hb hbytes d0) rfl rfl ?_
    exact Steps.refl _)
  obtain ⟨T2, X2, q2, st2⟩ := X0.hget hexec hown (wk W (.fieldLink "java/lang/String" 9 "java/lang/String" "value" "[B")) (hx.mv X0.warmed.alike hh0).2.1 (g := (mkF m 1 #[.val (.ref x)] [.ref x])) rfl (rest := []) rfl (hb hbytes d1)
  have hh2 := q2.trans hh0
  have hx2 := hx.mv X2.warmed.alike hh2
  have c3 : Steps p.tables e below (s₁.setTop (entryFrame m #[.ref x] 1)) (T2.setTop (mkF m 6 #[.val (.ref x)] [.ref x, .int (Int32.ofNat V.slots.size)])) := (c1.trans (st2 _ (Steps.refl _))).trans (by
    refine X2.alen hexec hx2.2.2.2.1 rfl rfl (hb hbytes d4) ?_
    refine XS.aloadN X2.here hexec rfl (hb hbytes d5) rfl rfl ?_
    exact Steps.refl _)
  obtain ⟨v4, T4, X4, E4, g4⟩ := X2.callV hexec (Cdr.law l x cd z) hown (wks W (virtW "java/lang/String" 335 "java/lang/String" Cdr.yN Cdr.yN)) rfl (by decide) (wk W Cdr.tab) (W := 1) (Nat.le_of_ble_eq_true rfl) (Nat.le_of_ble_eq_true rfl) (Nat.le_refl _) (Nat.le_refl _) (hx2.1.fc X2.warmed.alike) hx2.1.is (g := (mkF m 6 #[.val (.ref x)] [.ref x, .int (Int32.ofNat V.slots.size)])) rfl (by rw [hml]; rfl) c3 (argsL := []) (rest := [.int (Int32.ofNat V.slots.size)]) rfl rfl (by show 2 * 0 + (1 + 0) ≤ _; decide) (hb hbytes d6) (⟨rfl, hx2.2.2.1, hx.2.2.2.2.1.cd, s1.there X2.warmed.alike hh2, hz⟩)
  obtain ⟨rfl, q4⟩ := E4
  have c5 : Steps p.tables e below (s₁.setTop (entryFrame m #[.ref x] 1)) (T4.setTop (mkF m 10 #[.val (.ref x)] [.int (Int32.ofNat V.slots.size >>> (cd &&& 31))])) := Steps.trans g4 (by
    refine ishr X4.here hexec rfl (hb hbytes d9) rfl ?_
    exact Steps.refl _)
  rw [hx.2.2.2.2.1.len v31] at c5
  exact ⟨T4, some (.int (Int32.ofNat n)), _, _, _, X4, rfl, rfl, rfl, (fun h => by cases h), ⟨rfl, q4.trans hh2⟩, fun fs hl => c5.trans (X4.ireturnOut hexec hret rfl (Or.inl rfl) (hb hbytes d10) hl)⟩
theorem pays {l : Launch} {R : Room} {p : Program} {e : Env} {below : List Frame} {s : State} {sargs : Array Value} {len W : Nat} (x t : Addr) (V : Cell) (cd : Int32) (n : Nat) (f : Nat → Int32) (z : Int32) (htab : tab.before sargs s = true) (hfr : 2 ≤ R.frames) (hlo : W + 25 ≤ R.locals) :
    Back l R p e below s sargs yN len W (fun A₁ a₁ => A₁.cells + 0 ≤ R.cells ∧ A₁.slots + 0 ≤ R.slots ∧ P x t V cd n f z a₁ A₁.U) (fun A₁ _ v₁ B₁ => E n v₁ A₁.U B₁.U ∧ B₁.locs = A₁.locs ++ [] ∧ B₁.cells = A₁.cells + 0 ∧ B₁.slots = A₁.slots + 0) :=
  (law l x t V cd n f z).pays htab hfr (by omega)
end Len
end StrChars
namespace StrChars.Road
open Jvm Sem ClassFile Op Lib Jvm.Stand Jvm.Free Jvm.Free.XT
open Jvm.Lib.Cold (StaticIs)
theorem consq {a : Array Value} {s : State} {c : Jvm.Cond} {L : List Jvm.Cond} (h0 : c.before a s = true) (h : ∀ w ∈ L, w.before a s = true) : ∀ w ∈ c :: L, w.before a s = true := fun w hw => (List.mem_cons.mp hw).elim (fun e => e ▸ h0) (h w)
/-- the words of String.length(), either coding -/
abbrev wordsLen : List Jvm.Cond := [.code Len.yN Len.yB 1 (some .int), .initialized ST, .fieldLink ST 9 ST "value" "[B", .fieldLink ST 38 ST "COMPACT_STRINGS" "Z", .fieldLink ST 15 ST "coder" "B", .code Cdr.yN Cdr.yB 1 (some .byte), .methodLink ST 335 Cdr.yN, .declares Cdr.yN, .selects ST Cdr.yN Cdr.yN, .instanceMethod Cdr.yN]
theorem tabLen_of {a : Array Value} {s : State} (h : ∀ w ∈ wordsLen, w.before a s = true) : Len.tab.before a s = true := by
  have hc : Cdr.tab.before a s = true := unparts (wk h (.code Cdr.yN Cdr.yB 1 (some .byte))) (wks h (.initialized Cdr.yN.cls :: Cdr.site))
  have q := consq hc h
  exact unparts (wk q (.code Len.yN Len.yB 1 (some .int))) (wks q (.initialized Len.yN.cls :: Len.site))
theorem movedLen {Z s : State} {a0 args : Array Value} (hZ : Z.Warmed39 s.vm) (hw : ∀ d ∈ wordsLen, d.before a0 Z = true) : ∀ d ∈ wordsLen, d.before args s = true := fun d hd => by
  have q := hw d hd
  have t : ∀ d ∈ wordsLen, d = .arrayClass .byte ∨ (d.onTables && d.keepsFace) = true := by decide +kernel
  rcases t d hd with rfl | t
  · exact RoadKit.mvA hZ q
  · exact RoadKit.mv hZ q t
/-- the bytes of the chars cs, low before high -/
def wideBytes : List Int32 → List Value
  | [] => []
  | c :: cs => .int (lo8 c) :: .int (hi8 c) :: wideBytes cs
theorem wide_lo (d : Value) : ∀ (cs : List Int32) (j : Nat), j < cs.length → (wideBytes cs).getD (2 * j) d = .int (lo8 (cs.getD j 0))
  | [], j, h => absurd h (Nat.not_lt_zero j)
  | c :: cs, 0, _ => rfl
  | c :: cs, j + 1, h => by
    have q := wide_lo d cs j (by simpa using h)
    rw [show 2 * (j + 1) = 2 * j + 1 + 1 from by omega]
    simpa [wideBytes] using q
theorem wide_hi (d : Value) : ∀ (cs : List Int32) (j : Nat), j < cs.length → (wideBytes cs).getD (2 * j + 1) d = .int (hi8 (cs.getD j 0))
  | [], j, h => absurd h (Nat.not_lt_zero j)
  | c :: cs, 0, _ => rfl
  | c :: cs, j + 1, h => by
    have q := wide_hi d cs j (by simpa using h)
    rw [show 2 * (j + 1) + 1 = 2 * j + 1 + 1 + 1 from by omega]
    simpa [wideBytes] using q
theorem low_at (d : Value) (cs : List Int32) (j : Nat) (h : j < cs.length) : (cs.map fun c => Value.int (lo8 c)).getD j d = .int (lo8 (cs.getD j 0)) := by
  simp [List.getD_eq_getElem?_getD, h]
/-- an array of N2 bytes vs codes the chars cs by the coder cd -/
def CodA (cs : List Int32) (cd N2 : Int32) (vs : List Value) : Prop := (cd = 0 ∧ N2 = Int32.ofNat cs.length ∧ vs = (cs.map fun c => Value.int (lo8 c)) ∧ ∀ c ∈ cs, ¬ 255 < c) ∨ (cd = 1 ∧ N2 = Int32.ofNat (2 * cs.length) ∧ vs = wideBytes cs ∧ ∃ c ∈ cs, 255 < c)
theorem CodA.cod {cs : List Int32} {cd N2 : Int32} {vs : List Value} {V : Cell} (h : CodA cs cd N2 vs) (hn : 2 * cs.length < 2 ^ 31) (hs : V.slots.size = N2.toNatClampNeg) (hv : RoadKit.Has V vs (.int 0)) : Cod cd cs.length (fun j => cs.getD j 0) V := by
  rcases h with ⟨rfl, rfl, rfl, h⟩ | ⟨rfl, rfl, rfl, c, hc, hw⟩
  · rw [n32 (by omega)] at hs
    exact Or.inl ⟨rfl, hs, fun j hj => ⟨by rw [hv j (by omega), low_at _ _ _ hj], by
      have e : cs.getD j 0 = cs[j] := by simp [List.getD_eq_getElem?_getD, hj]
      show ¬ 255 < cs.getD j 0
      rw [e]; exact h _ (List.getElem_mem _)⟩⟩
  · rw [n32 (by omega)] at hs
    obtain ⟨j, hj, rfl⟩ := List.getElem_of_mem hc
    exact Or.inr ⟨rfl, hs, fun j hj => ⟨by rw [hv _ (by omega), wide_lo _ _ _ hj], by rw [hv _ (by omega), wide_hi _ _ _ hj]⟩, j, hj, by
      have e : cs.getD j 0 = cs[j] := by simp [List.getD_eq_getElem?_getD, hj]
      show 255 < cs.getD j 0
      rw [e]; exact hw⟩
/-- an object of exactly java/lang/String, its two fields found: as the laws ask it -/
theorem strObj {Z U : State} {a0 : Array Value} {kI : Nat} (wi : (Jvm.Cond.instantiable ST kI).before a0 Z = true) (al : Z.vm.Alike U.vm) {x : Addr} {v0 c0 : Value} (E : RoadKit.Exa Z U.heap x ST) (V : RoadKit.Fld Z U.heap x ST "value" "[B" v0) (C : RoadKit.Fld Z U.heap x ST "coder" "B" c0) :
    ∃ (D : Cell) (fV fC : Field), Blank ST x D U ∧ Found ST "value" "[B" fV U ∧ Found ST "coder" "B" fC U ∧ D.slots[fV.slot]? = some v0 ∧ D.slots[fC.slot]? = some c0 ∧ RoadKit.slotOf Z ST "value" "[B" = fV.slot ∧ RoadKit.slotOf Z ST "coder" "B" = fC.slot := by
  obtain ⟨D, cfV, kV, iV, fV, hD, gV, stV, knV, obV, asV, slV⟩ := V
  obtain ⟨D', cfC, kC, iC, fC, hD', gC, stC, -, -, asC, slC⟩ := C
  cases hD.symm.trans hD'
  obtain ⟨D2, kD, e1, e2, e3, e4, e5⟩ := E
  cases hD.symm.trans e1
  obtain ⟨c2, k2, i1, i2, i3, -⟩ := Cond.instantiable_spec wi
  cases e2.symm.trans i1
  cases e3.symm.trans i2
  obtain ⟨kU, u1, u2⟩ := al.2.2 _ _ e3
  exact ⟨D, fV, fC, ⟨hD, ⟨knV, fun q hq => by rw [hq] at obV; cases obV⟩, by rw [al.findClass]; exact e2, kU, u1, by rw [u2]; exact i3, by rw [u2]; exact e5 i3⟩, ⟨SBG.found_only al ⟨cfV, kV, iV, gV⟩, stV⟩, ⟨SBG.found_only al ⟨cfC, kC, iC, gC⟩, stC⟩, slV, slC, by simp [RoadKit.slotOf, gV], by simp [RoadKit.slotOf, gC]⟩
theorem sta_is {Z U : State} (al : Z.vm.Alike U.vm) {C n d : String} {v : Value} (S : RoadKit.Sta Z U.heap C n d v) : StaticIs U C n d v := by
  obtain ⟨cfS, iS, kS, fS, st, cS, t1, t2, t3, t4, t5, t6, t7⟩ := S
  exact StaticIs.there (s := { Z with heap := U.heap }) ⟨cfS, iS, kS, fS, st, cS, t1, t2, t3, t4, t5, (fun q => by rw [q] at t6; cases t6), t7⟩ al rfl
/-- **length() OF SUCH A STRING** -/
theorem lenW {p : Program} {l : Launch} {e : Env} {R : Room} {s : State} {args : Array Value} {below : List Frame} {len W : Nat} {Z : State} {a0 : Array Value} {h : Heap} (hZ : Z.Warmed39 s.vm) (hw : ∀ d ∈ wordsLen, d.before a0 Z = true) {kI : Nat} (wi : (Jvm.Cond.instantiable ST kI).before a0 Z = true)
    {x t : Addr} {kb : ClassId} {cs : List Int32} {cd N2 z : Int32} {vs : List Value} (E : RoadKit.Exa Z h x ST) (V : RoadKit.Fld Z h x ST "value" "[B" (.ref t)) (C : RoadKit.Fld Z h x ST "coder" "B" (.int cd)) (K : RoadKit.Arv Z h t kb .byte N2 vs (.int 0)) (hc : CodA cs cd N2 vs) (hb : ∀ c ∈ cs, ¬ c < 0 ∧ ¬ (65535 : Int32) < c)
    (S : RoadKit.Sta Z h ST "COMPACT_STRINGS" "Z" (.int z)) (hz : ¬ z = 0) (l2 : cs.length ≤ 4000) (hfr : 2 ≤ R.frames) (hlo : W + 25 ≤ R.locals) :
    Back l R p e below s args (⟨"java/lang/String", "length", "()I"⟩ : MethodName) len W (fun P a => a = #[.ref x] ∧ P.U.heap = h ∧ P.cells + 0 ≤ R.cells ∧ P.slots + 0 ≤ R.slots)
      (fun P _ v B => ∃ L, (v = some (.int (Int32.ofNat cs.length)) ∧ L = [] ∧ B.U.heap = h) ∧ B.locs = P.locs ++ L ∧ B.cells = P.cells + 0 ∧ B.slots = P.slots + 0) := by
  obtain ⟨A, K1, K2, K3, K4, K5, K6⟩ := K
  have hcod := hc.cod (by omega) K3 K5
  intro m meth c P g ig mk a X hg hsize hdg hW hn hp'
  obtain ⟨rfl, rfl, r1, r2⟩ := hp'
  have al : Z.vm.Alike P.U.vm := hZ.alike.trans X.warmed.alike
  obtain ⟨D, fV, fC, hB, F1, F2, g1, g2, -, -⟩ := strObj wi al E V C
  have hx : Txt x t A cd cs.length (fun j => cs.getD j 0) P.U := ⟨⟨_, hB.2.2.1, D, hB.1, rfl, by cases q : D.vm <;> first | rfl | exact absurd q (hB.2.1.2 _)⟩, Has.of hB F1 g1, Has.of hB F2 g2, ⟨K1.1, State.isArrayOf_alike al K1.2.1, K1.2.2, by rcases hcod with ⟨-, q, -⟩ | ⟨-, q, -⟩ <;> omega⟩, hcod, fun j hj => by
    have e : cs.getD j 0 = cs[j] := by simp [List.getD_eq_getElem?_getD, hj]
    show ¬ cs.getD j 0 < 0 ∧ ¬ 65535 < cs.getD j 0
    rw [e]; exact hb _ (List.getElem_mem _)⟩
  obtain ⟨v, B, X', ⟨⟨hv, hh⟩, hl, hk, hs⟩, st⟩ := Len.pays x t A cd cs.length (fun j => cs.getD j 0) z (tabLen_of (movedLen hZ hw)) hfr hlo m meth c P g ig mk _ X hg hsize hdg hW hn ⟨r1, r2, rfl, hx, sta_is al S, hz⟩
  exact ⟨v, B, X', ⟨[], ⟨hv, rfl, hh⟩, hl, hk, hs⟩, st⟩
end StrChars.Road
namespace StrChars.Road
open Jvm Sem ClassFile Op Lib Jvm.Stand Jvm.Free Jvm.Free.XT
open Jvm.Lib.Cold (StaticIs)
/-- what backV says of its String, as the contracts of this text ask it: cs's low bytes, coder 0 -/
theorem codOf {cs : List Int32} {n : Nat} (hn : cs.length = n) (hb : ∀ c ∈ cs, ¬ 255 < c) : CodA cs 0 (Int32.ofNat n) ((cs.map lo8).map Value.int) := Or.inl ⟨rfl, by rw [hn], by simp [List.map_map, Function.comp_def], hb⟩
end StrChars.Road
end Jvm.Pilot.@@N@@


namespace Jvm.Pilot.@@N@@
open Jvm Jvm.ClassFile Sem Op Lib Jvm.Free Jvm.Stand Jvm.LawKit Jvm.RoadKit Bundle Jvm.Pilot.@@N@@.Jvm.D
def own_Go (tb : Tables) (e : Env) (below : List Frame) (P : Outcome → State → Prop) (U : State) : Prop := ∃ s₂ o, Steps tb e below U s₂ ∧ s₂.status = .running ∧ Ended s₂ below o ∧ P o s₂
theorem own_Go.st {tb : Tables} {e : Env} {below : List Frame} {P : Outcome → State → Prop} {U U' : State} (h : ∀ t, Steps tb e below U' t → Steps tb e below U t) (k : own_Go tb e below P U') : own_Go tb e below P U := by
  obtain ⟨t, o, a, r⟩ := k
  exact ⟨t, o, h t a, r⟩
theorem own_Go.tr {tb : Tables} {e : Env} {below : List Frame} {P : Outcome → State → Prop} {U U' : State} (h : Steps tb e below U U') (k : own_Go tb e below P U') : own_Go tb e below P U := own_Go.st (fun _ a => h.trans a) k
section OwnRet
variable {p : Program} {l : Launch} {e : Env} {R : Room} {s : State} {m : MethodId} {args : Array Value} {below : List Frame} {meth : Method} {c : Code} {T : State} {locs : List Loc} {cells slots : Nat}
theorem own_retI (X : Stand p l e R s m args below meth c T locs cells slots) (hx : p.tables.exec = Jvm.exec) {pc : Nat} {Ls : Array Slot} {z : Int32} {rest : List Value} (hret : meth.sig.returnType = some .int) (hd : decode c.code pc = .ok (.ireturn, 1)) {fs : List Frame}
    (hl : ∀ (f : JFrame) (acts : List Action), f.method = m → f.locked = none → f.entered = [] → (doReturn e (T.setTop f) acts (some (.int z))).1 = T.setFrames fs) : Steps p.tables e below (T.setTop (mkF m pc Ls (.int z :: rest))) (T.setFrames fs) :=
  retOut X hx hret rfl (Or.inl ⟨rfl, Or.inl rfl, z, rfl⟩) hd hl
theorem own_retL (X : Stand p l e R s m args below meth c T locs cells slots) (hx : p.tables.exec = Jvm.exec) {pc : Nat} {Ls : Array Slot} {z : Int64} {rest : List Value} (hret : meth.sig.returnType = some .long) (hd : decode c.code pc = .ok (.lreturn, 1)) {fs : List Frame}
    (hl : ∀ (f : JFrame) (acts : List Action), f.method = m → f.locked = none → f.entered = [] → (doReturn e (T.setTop f) acts (some (.long z))).1 = T.setFrames fs) : Steps p.tables e below (T.setTop (mkF m pc Ls (.long z :: rest))) (T.setFrames fs) :=
  retOut X hx hret rfl (Or.inr (Or.inl ⟨rfl, rfl, z, rfl⟩)) hd hl
theorem own_narRef {t : FieldType} {w : Value} (ht : t.isReference = true) (hw : w.isRef = true) : narrow t w = w := by
  cases t <;> first | rfl | (simp [FieldType.isReference] at ht; done) | (cases w <;> first | rfl | simp [Value.isRef] at hw)
theorem own_retA (X : Stand p l e R s m args below meth c T locs cells slots) (hx : p.tables.exec = Jvm.exec) {pc : Nat} {Ls : Array Slot} {w : Value} {t : FieldType} {rest : List Value} (hret : meth.sig.returnType = some t) (ht : t.isReference = true) (hw : w.isRef = true) (hd : decode c.code pc = .ok (.areturn, 1)) {fs : List Frame}
    (hl : ∀ (f : JFrame) (acts : List Action), f.method = m → f.locked = none → f.entered = [] → (doReturn e (T.setTop f) acts (some w)).1 = T.setFrames fs) : Steps p.tables e below (T.setTop (mkF m pc Ls (w :: rest))) (T.setFrames fs) :=
  retOut X hx hret (own_narRef ht hw) (Or.inr (Or.inr (Or.inr (Or.inr ⟨rfl, ht, hw⟩)))) hd hl
end OwnRet
theorem own_nar {x : Int32} (h : ¬ x < 0 ∧ ¬ (65535 : Int32) < x) : nar .char x = x := by
  have q := c_i2c x
  have h1 := h.1; have h2 := h.2
  rw [Int32.lt_iff_toInt_lt] at h1 h2
  have e1 : (0 : Int32).toInt = 0 := by decide
  have e2 : (65535 : Int32).toInt = 65535 := by decide
  rw [e1] at h1; rw [e2] at h2
  show x.toUInt32.toUInt16.toUInt32.toInt32 = x
  apply Int32.toInt_inj.mp
  omega
theorem own_up {x : Int32} (h : ¬ x < 0 ∧ ¬ (255 : Int32) < x) : ¬ x < 0 ∧ ¬ (65535 : Int32) < x := by
  refine ⟨h.1, fun q => h.2 ?_⟩
  rw [Int32.lt_iff_toInt_lt] at q ⊢
  have e1 : (255 : Int32).toInt = 255 := by decide
  have e2 : (65535 : Int32).toInt = 65535 := by decide
  omega
theorem own_arvTy {Z : State} {h : Heap} {a b : Addr} {k k' : ClassId} {ty ty' : FieldType} {n n' : Int32} {vs vs' : List Value} {d d' : Value} (A : Arv Z h a k ty n vs d) (B : Arv Z h b k' ty' n' vs' d') (ht : ty ≠ ty') : a ≠ b := fun q => by
  subst q
  obtain ⟨c, C, -⟩ := A
  obtain ⟨c', C', -⟩ := B
  cases C.1.symm.trans C'.1
  obtain ⟨-, k1, j1, cp1, j2⟩ := C.2.1
  obtain ⟨-, k2, i1, cp2, i2⟩ := C'.2.1
  cases j1.symm.trans i1
  rw [j2] at i2
  cases i2
  exact ht rfl


def own_Str (Z : State) (h : Heap) (x t : Addr) (cs : List Int32) : Prop := ∃ (kb : ClassId) (cd N2 : Int32) (vs : List Value), Exa Z h x "java/lang/String" ∧ Fld Z h x "java/lang/String" "value" "[B" (.ref t) ∧ Fld Z h x "java/lang/String" "coder" "B" (.int cd) ∧ Arv Z h t kb .byte N2 vs (.int 0) ∧ StrChars.Road.CodA cs cd N2 vs ∧ (∀ c ∈ cs, ¬ c < 0 ∧ ¬ (65535 : Int32) < c) ∧ cs.length ≤ 4000
section OwnStr
variable {Z : State} {h h' : Heap} {x t a : Addr} {cs : List Int32} {sl : Nat} {v : Value} {ws : List Addr}
theorem own_Str.ext (F : own_Str Z h x t cs) (E : Ext h h') : own_Str Z h' x t cs := by
  obtain ⟨kb, cd, N2, vs, h1, h2, h3, h4, r⟩ := F
  exact ⟨kb, cd, N2, vs, h1.ext E, h2.ext E, h3.ext E, h4.ext E, r⟩
theorem own_Str.other (F : own_Str Z h x t cs) (W : Wr h h' a sl v) (n1 : x ≠ a) (n2 : t ≠ a) : own_Str Z h' x t cs := by
  obtain ⟨kb, cd, N2, vs, h1, h2, h3, h4, r⟩ := F
  exact ⟨kb, cd, N2, vs, h1.wr W, h2.other W (Or.inl n1), h3.other W (Or.inl n1), h4.other W n2, r⟩
theorem own_Str.keep (F : own_Str Z h x t cs) (K : Keep h h' ws) (n1 : x ∉ ws) (n2 : t ∉ ws) : own_Str Z h' x t cs := by
  obtain ⟨kb, cd, N2, vs, h1, h2, h3, h4, r⟩ := F
  exact ⟨kb, cd, N2, vs, h1.keep K, h2.keep K n1, h3.keep K n1, h4.keep K n2, r⟩
theorem own_Str.exa (F : own_Str Z h x t cs) : Exa Z h x "java/lang/String" := by obtain ⟨kb, cd, N2, vs, h1, -⟩ := F; exact h1
theorem own_Str.lt (F : own_Str Z h x t cs) : x < h.size := F.exa.lt
theorem own_Str.ltv (F : own_Str Z h x t cs) : t < h.size := by obtain ⟨kb, cd, N2, vs, -, -, -, h4, -⟩ := F; exact h4.lt
theorem own_Str.le (F : own_Str Z h x t cs) : cs.length ≤ 4000 := by obtain ⟨kb, cd, N2, vs, -, -, -, -, -, -, h⟩ := F; exact h
theorem own_Str.rng (F : own_Str Z h x t cs) : ∀ c ∈ cs, ¬ c < 0 ∧ ¬ (65535 : Int32) < c := by obtain ⟨kb, cd, N2, vs, -, -, -, -, -, h, -⟩ := F; exact h
theorem own_Str.neArv {b : Addr} {k : ClassId} {ty : FieldType} {n : Int32} {us : List Value} {d : Value} {a0 : Array Value} {kI : Nat} (F : own_Str Z h x t cs) (B : Arv Z h b k ty n us d) (wi : (Jvm.Cond.instantiable "java/lang/String" kI).before a0 Z = true) : x ≠ b := F.exa.neArv B wi
theorem own_Str.neTy {b : Addr} {k : ClassId} {ty : FieldType} {n : Int32} {us : List Value} {d : Value} (F : own_Str Z h x t cs) (B : Arv Z h b k ty n us d) (ht : .byte ≠ ty) : t ≠ b := by
  obtain ⟨kb, cd, N2, vs, -, -, -, h4, -⟩ := F
  exact own_arvTy h4 B ht
end OwnStr


theorem own_a0 {P : Int32 → Prop} : ∀ c ∈ ([] : List Int32), P c := fun _ q => nomatch q
theorem own_aS {P : Int32 → Prop} {x : Int32} {L : List Int32} (h : P x) (r : ∀ c ∈ L, P c) : ∀ c ∈ x :: L, P c := fun c q => (List.mem_cons.mp q).elim (fun u => u ▸ h) (r c)
theorem own_upL {cs : List Int32} (h : ∀ c ∈ cs, ¬ c < 0 ∧ ¬ (255 : Int32) < c) : ∀ c ∈ cs, ¬ c < 0 ∧ ¬ (65535 : Int32) < c := fun c q => own_up (h c q)


theorem own_Str.lat {Z : State} {h : Heap} {x t : Addr} {cs : List Int32} (F : own_Str Z h x t cs) (hl : ∀ c ∈ cs, ¬ (255 : Int32) < c) : ∃ (kb : ClassId) (N2 : Int32) (vs : List Value), Exa Z h x "java/lang/String" ∧ Fld Z h x "java/lang/String" "value" "[B" (.ref t) ∧ Fld Z h x "java/lang/String" "coder" "B" (.int 0) ∧ Arv Z h t kb .byte N2 vs (.int 0) ∧ StrChars.Road.CodA cs 0 N2 vs := by
  obtain ⟨kb, cd, N2, vs, h1, h2, h3, h4, h5, -⟩ := F
  rcases h5 with ⟨rfl, a, b, c⟩ | ⟨-, -, -, c, hc, q⟩
  · exact ⟨kb, N2, vs, h1, h2, h3, h4, Or.inl ⟨rfl, a, b, c⟩⟩
  · exact absurd q (hl c hc)


theorem own_eqv {v : Option Value} {A : Prop} (h : (v = some (.int 1) ∧ A) ∨ (v = some (.int 0) ∧ ¬ A)) : ∃ r : Int32, v = some (.int r) ∧ ((r = 1 ∧ A) ∨ (r = 0 ∧ ¬ A)) := by
  rcases h with ⟨a, b⟩ | ⟨a, b⟩
  · exact ⟨1, a, Or.inl ⟨rfl, b⟩⟩
  · exact ⟨0, a, Or.inr ⟨rfl, b⟩⟩

theorem own_hws {a0 : Array Value} {Z : State} (hw : ∀ d ∈ tables_1, d.before a0 Z = true) : ∀ d ∈ StrChars.Road.words, d.before a0 Z = true := fun d hd => hw d ((by decide +kernel : ∀ d ∈ StrChars.Road.words, d ∈ tables_1) d hd)
theorem own_hln {a0 : Array Value} {Z : State} (hw : ∀ d ∈ tables_1, d.before a0 Z = true) : ∀ d ∈ StrChars.Road.wordsLen, d.before a0 Z = true := fun d hd => hw d ((by decide +kernel : ∀ d ∈ StrChars.Road.wordsLen, d ∈ tables_1) d hd)

theorem own_letter (x : Int32) : ¬ nar .char (((97 : Int32) + ((x &&& (2147483647 : Int32)) % (26 : Int32))).toUInt32.toUInt16.toUInt32.toInt32) < 0 ∧ ¬ (255 : Int32) < nar .char (((97 : Int32) + ((x &&& (2147483647 : Int32)) % (26 : Int32))).toUInt32.toUInt16.toUInt32.toInt32) := by
  have h1 := c_mask x 2147483647 31 (by decide) (by decide)
  have h2 := (c_irem (x &&& 2147483647) 26 26 (by decide)).1 (by omega)
  have h3 := c_iadd 97 ((x &&& 2147483647) % 26)
  have e1 : (97 : Int32).toInt = 97 := by decide
  have r1 := rng32 (97 + (x &&& 2147483647) % 26)
  have h4 := c_i2c (97 + (x &&& 2147483647) % 26)
  have h5 := c_i2c ((97 + (x &&& 2147483647) % 26).toUInt32.toUInt16.toUInt32.toInt32)
  have e2 : (255 : Int32).toInt = 255 := by decide
  have e3 : (0 : Int32).toInt = 0 := by decide
  simp only [nar, Int32.lt_iff_toInt_lt, e2, e3]
  omega
theorem own_len4 (x : Int32) : (x &&& (3 : Int32)) + (1 : Int32) = 1 ∨ (x &&& (3 : Int32)) + (1 : Int32) = 2 ∨ (x &&& (3 : Int32)) + (1 : Int32) = 3 ∨ (x &&& (3 : Int32)) + (1 : Int32) = 4 := by
  have h1 := c_mask x 3 2 (by decide) (by decide)
  have h2 := c_iadd (x &&& 3) 1
  have r := rng32 ((x &&& 3) + 1)
  have e1 : (1 : Int32).toInt = 1 := by decide
  have e2 : (2 : Int32).toInt = 2 := by decide
  have e3 : (3 : Int32).toInt = 3 := by decide
  have e4 : (4 : Int32).toInt = 4 := by decide
  simp only [← Int32.toInt_inj, e1, e2, e3, e4]
  omega
theorem own_m (x : Int32) : ¬ (x &&& (1023 : Int32)) < 0 ∧ (x &&& (1023 : Int32)).toInt ≤ 1023 ∧ (x &&& (1023 : Int32)).toNatClampNeg ≤ 1023 := by
  have h1 := c_mask x 1023 10 (by decide) (by decide)
  have e3 : (0 : Int32).toInt = 0 := by decide
  simp only [Int32.lt_iff_toInt_lt, e3, Int32.toNatClampNeg]
  omega
theorem own_m1 {m : Int32} (h : (1 : Int32) < m) (h2 : m.toInt ≤ 1023) : (¬ (m - (1 : Int32)) < 0 ∧ (m - (1 : Int32)) < m) ∧ (m - (1 : Int32)).toNatClampNeg < 1024 := by
  have h1 := c_isub m 1
  have r := rng32 (m - 1)
  have e1 : (1 : Int32).toInt = 1 := by decide
  have e3 : (0 : Int32).toInt = 0 := by decide
  simp only [Int32.lt_iff_toInt_lt, e3, e1, Int32.toNatClampNeg] at h ⊢
  omega

theorem pn_0 : plainName "com/example/roaming_pubsub/roamingpubsub/MessageHeapBytesPinLaw" = true := by first | (simp [plainName, overriddenIn]; done) | decide +kernel
theorem ef_1 (m : MethodId) (x0 : Int32) : entryFrame m #[(.int x0)] 1 = mkF m 0 #[.val (.int x0)] [] := by first | (simp [entryFrame, mkF, argsToLocals, Value.category]; done) | rfl
theorem d_method_2_0 : decode method_2_code 0 = .ok (.bipush 97, 2) := by decide +kernel
theorem d_method_2_2 : decode method_2_code 2 = .ok (.iload_n 0, 1) := by decide +kernel
theorem d_method_2_3 : decode method_2_code 3 = .ok (.ldc 7, 2) := by decide +kernel
theorem d_method_2_5 : decode method_2_code 5 = .ok (.iand, 1) := by decide +kernel
theorem d_method_2_6 : decode method_2_code 6 = .ok (.bipush 26, 2) := by decide +kernel
theorem d_method_2_8 : decode method_2_code 8 = .ok (.irem, 1) := by decide +kernel
theorem d_method_2_9 : decode method_2_code 9 = .ok (.iadd, 1) := by decide +kernel
theorem d_method_2_10 : decode method_2_code 10 = .ok (.i2c, 1) := by decide +kernel
theorem d_method_2_11 : decode method_2_code 11 = .ok (.ireturn, 1) := by decide +kernel
def Q_letter (Z : State) (p1 : Int32) (h0 : Heap) (v : Option Value) (h : Heap) (L : List Loc) : Prop := ∃ (c : Int32), v = some (.int c) ∧ Fr Z.heap.size L ∧ h = h0 ∧ (¬ c < 0 ∧ ¬ (255 : Int32) < c)
set_option maxRecDepth 65536 in
set_option maxHeartbeats 40000000 in
theorem rm_letter (l : Launch) (Z : State) (a0 : Array Value) (hw : ∀ d ∈ tables_1, d.before a0 Z = true) (ws : List Jvm.Cond) (p1 : Int32) (h0 : Heap) (OL : Old Z Z.heap.size h0) :
    MetFree l (⟨"com/example/roaming_pubsub/roamingpubsub/MessageHeapBytesPinLaw", "letter", "(I)C"⟩ : MethodName) (head1 (Jvm.Cond.code (⟨"com/example/roaming_pubsub/roamingpubsub/MessageHeapBytesPinLaw", "letter", "(I)C"⟩ : MethodName) method_2_code 1 (some .char) :: ws) ({ frames := 0, cells := 0, slots := 0, locals := 0 } : Room)) (fun a U => a = #[(.int p1)] ∧ Z.Warmed39 U.vm ∧ U.heap = h0) (fun _ _ _ _ _ => True) (fun _ U o U' => ∃ v L, o = .returned v ∧ Q_letter Z p1 h0 v U'.heap L ∧ FrameEnd U o U' L ({ frames := 0, cells := 0, slots := 0, locals := 0 } : Room).cells ({ frames := 0, cells := 0, slots := 0, locals := 0 } : Room).slots) := by
  refine MetFree.of_bodySF (plainFor_of_name pn_0) hisR ?_
  intro p e s m args below meth c s₁ Bd hml0 hP hK
  obtain ⟨rfl, hZ, hh⟩ := hP
  have hx := Bd.exec
  have hby := Bd.bytes
  have hml : c.maxLocals = 1 := hml0
  have hown : s.vm.findClass "com/example/roaming_pubsub/roamingpubsub/MessageHeapBytesPinLaw" = some m.cls := findClass_of_methodNamed Bd.named
  have hnm := (name_of_methodNamed Bd.named Bd.method).1
  have X0 : Stand p l e ({ frames := 0, cells := 0, slots := 0, locals := 0 } : Room) s m #[(.int p1)] below meth c s₁ [] 0 0 := Stand.of_body Bd
  have e0 : s₁.heap = h0 := by rw [← hh, Bd.state]; rfl
  have N0 := Fr.nil Z.heap.size
  have Z0 : Z.heap.size ≤ h0.size := OL.2.1
  obtain ⟨PP, hPP⟩ : ∃ PP : Outcome → State → Prop, PP = (fun o tE => ∃ v L, o = .returned v ∧ Q_letter Z p1 h0 v tE.heap L ∧ FrameEnd s o tE L ({ frames := 0, cells := 0, slots := 0, locals := 0 } : Room).cells ({ frames := 0, cells := 0, slots := 0, locals := 0 } : Room).slots) := ⟨_, rfl⟩
  show own_Go p.tables e below (fun o tE => ∃ v L, o = .returned v ∧ Q_letter Z p1 h0 v tE.heap L ∧ FrameEnd s o tE L ({ frames := 0, cells := 0, slots := 0, locals := 0 } : Room).cells ({ frames := 0, cells := 0, slots := 0, locals := 0 } : Room).slots) (s₁.setTop (entryFrame m #[(.int p1)] 1))
  rw [← hPP]
  refine own_Go.st (fun t k => castTop (ef_1 m p1) k) ?_
  show own_Go _ _ _ _ (s₁.setTop (mkF m 0 #[.val (.int p1)] []))
  refine own_Go.st (fun _ k => XS.bipush X0.here hx rfl (hb hby d_method_2_0) k) ?_
  show own_Go _ _ _ _ (s₁.setTop (mkF m 2 #[.val (.int p1)] [(.int (97 : Int32))]))
  refine own_Go.st (fun _ k => XS.iloadN X0.here hx rfl (hb hby d_method_2_2) rfl k) ?_
  show own_Go _ _ _ _ (s₁.setTop (mkF m 3 #[.val (.int p1)] [(.int p1), (.int (97 : Int32))]))
  refine own_Go.st (X0.ldcInt hx hown (mvT hZ (hw _ (List.mem_of_getElem? (i := 4) rfl))) (g := (mkF m 3 #[.val (.int p1)] [(.int p1), (.int (97 : Int32))])) rfl (hb hby d_method_2_3)) ?_
  show own_Go _ _ _ _ (s₁.setTop (mkF m 5 #[.val (.int p1)] [(.int (2147483647 : Int32)), (.int p1), (.int (97 : Int32))]))
  refine own_Go.st (fun _ k => XS.iand X0.here hx rfl (hb hby d_method_2_5) rfl k) ?_
  show own_Go _ _ _ _ (s₁.setTop (mkF m 6 #[.val (.int p1)] [(.int (p1 &&& (2147483647 : Int32))), (.int (97 : Int32))]))
  refine own_Go.st (fun _ k => XS.bipush X0.here hx rfl (hb hby d_method_2_6) k) ?_
  show own_Go _ _ _ _ (s₁.setTop (mkF m 8 #[.val (.int p1)] [(.int (26 : Int32)), (.int (p1 &&& (2147483647 : Int32))), (.int (97 : Int32))]))
  refine own_Go.st (fun _ k => iremM (g := (mkF m 8 #[.val (.int p1)] [(.int (26 : Int32)), (.int (p1 &&& (2147483647 : Int32))), (.int (97 : Int32))])) X0 hx rfl (hb hby d_method_2_8) rfl (by decide) k) ?_
  show own_Go _ _ _ _ (s₁.setTop (mkF m 9 #[.val (.int p1)] [(.int ((p1 &&& (2147483647 : Int32)) % (26 : Int32))), (.int (97 : Int32))]))
  refine own_Go.st (fun _ k => XS.iadd X0.here hx rfl (hb hby d_method_2_9) rfl k) ?_
  show own_Go _ _ _ _ (s₁.setTop (mkF m 10 #[.val (.int p1)] [(.int ((97 : Int32) + ((p1 &&& (2147483647 : Int32)) % (26 : Int32))))]))
  refine own_Go.st (fun _ k => XS.i2c X0.here hx rfl (hb hby d_method_2_10) rfl k) ?_
  show own_Go _ _ _ _ (s₁.setTop (mkF m 11 #[.val (.int p1)] [(.int (((97 : Int32) + ((p1 &&& (2147483647 : Int32)) % (26 : Int32))).toUInt32.toUInt16.toUInt32.toInt32))]))
  obtain ⟨fs101, hr101, hrun101, hend101, hW101, hsm101⟩ := X0.leave (v := some (.int (nar .char (((97 : Int32) + ((p1 &&& (2147483647 : Int32)) % (26 : Int32))).toUInt32.toUInt16.toUInt32.toInt32)))) (fun h => by rw [Bd.returns] at h; cases h)
  subst hPP
  refine ⟨_, _, retN X0 hx (t := .char) Bd.returns (by simp) (hb hby d_method_2_11) hr101, hrun101, hend101, _, _, rfl, ?_, ⟨_, rfl⟩, hW101, hsm101.mono (by decide) (by decide)⟩
  · show Q_letter Z p1 h0 _ s₁.heap _
    rw [e0]
    exact ⟨_, rfl, N0, rfl, own_letter p1⟩
theorem ef_11 (m : MethodId) (x0 : Int32) (x1 : Int32) (x2 : Int32) (x3 : Int32) (x4 : Int32) : entryFrame m #[(.int x0), (.int x1), (.int x2), (.int x3), (.int x4)] 6 = mkF m 0 #[.val (.int x0), .val (.int x1), .val (.int x2), .val (.int x3), .val (.int x4), .unset] [] := by first | (simp [entryFrame, mkF, argsToLocals, Value.category]; done) | rfl
theorem d_method_3_0 : decode method_3_code 0 = .ok (.iload_n 0, 1) := by decide +kernel
theorem d_method_3_1 : decode method_3_code 1 = .ok (.iconst 1, 1) := by decide +kernel
theorem d_method_3_2 : decode method_3_code 2 = .ok (.if_icmp .ne 23, 3) := by decide +kernel
theorem d_method_3_5 : decode method_3_code 5 = .ok (.iconst 1, 1) := by decide +kernel
theorem d_method_3_6 : decode method_3_code 6 = .ok (.newarray .char, 2) := by decide +kernel
theorem d_method_3_8 : decode method_3_code 8 = .ok (.astore 5, 2) := by decide +kernel
theorem d_method_3_10 : decode method_3_code 10 = .ok (.aload 5, 2) := by decide +kernel
theorem d_method_3_12 : decode method_3_code 12 = .ok (.iconst 0, 1) := by decide +kernel
theorem d_method_3_13 : decode method_3_code 13 = .ok (.iload_n 1, 1) := by decide +kernel
theorem d_method_3_14 : decode method_3_code 14 = .ok (.castore, 1) := by decide +kernel
theorem d_method_3_15 : decode method_3_code 15 = .ok (.new 8, 3) := by decide +kernel
theorem d_method_3_18 : decode method_3_code 18 = .ok (.dup, 1) := by decide +kernel
theorem d_method_3_19 : decode method_3_code 19 = .ok (.aload 5, 2) := by decide +kernel
theorem pd_25 : parseMethodDescriptor "([C)V" = some ⟨[(.array .char)], none⟩ := by decide +kernel
theorem d_method_3_21 : decode method_3_code 21 = .ok (.invokespecial 10, 3) := by decide +kernel
theorem d_method_3_24 : decode method_3_code 24 = .ok (.areturn, 1) := by decide +kernel
theorem d_method_3_25 : decode method_3_code 25 = .ok (.iload_n 0, 1) := by decide +kernel
theorem d_method_3_26 : decode method_3_code 26 = .ok (.iconst 2, 1) := by decide +kernel
theorem d_method_3_27 : decode method_3_code 27 = .ok (.if_icmp .ne 28, 3) := by decide +kernel
theorem d_method_3_30 : decode method_3_code 30 = .ok (.iconst 2, 1) := by decide +kernel
theorem d_method_3_31 : decode method_3_code 31 = .ok (.newarray .char, 2) := by decide +kernel
theorem d_method_3_33 : decode method_3_code 33 = .ok (.astore 5, 2) := by decide +kernel
theorem d_method_3_35 : decode method_3_code 35 = .ok (.aload 5, 2) := by decide +kernel
theorem d_method_3_37 : decode method_3_code 37 = .ok (.iconst 0, 1) := by decide +kernel
theorem d_method_3_38 : decode method_3_code 38 = .ok (.iload_n 1, 1) := by decide +kernel
theorem d_method_3_39 : decode method_3_code 39 = .ok (.castore, 1) := by decide +kernel
theorem d_method_3_40 : decode method_3_code 40 = .ok (.aload 5, 2) := by decide +kernel
theorem d_method_3_42 : decode method_3_code 42 = .ok (.iconst 1, 1) := by decide +kernel
theorem d_method_3_43 : decode method_3_code 43 = .ok (.iload_n 2, 1) := by decide +kernel
theorem d_method_3_44 : decode method_3_code 44 = .ok (.castore, 1) := by decide +kernel
theorem d_method_3_45 : decode method_3_code 45 = .ok (.new 8, 3) := by decide +kernel
theorem d_method_3_48 : decode method_3_code 48 = .ok (.dup, 1) := by decide +kernel
theorem d_method_3_49 : decode method_3_code 49 = .ok (.aload 5, 2) := by decide +kernel
theorem d_method_3_51 : decode method_3_code 51 = .ok (.invokespecial 10, 3) := by decide +kernel
theorem d_method_3_54 : decode method_3_code 54 = .ok (.areturn, 1) := by decide +kernel
theorem d_method_3_55 : decode method_3_code 55 = .ok (.iload_n 0, 1) := by decide +kernel
theorem d_method_3_56 : decode method_3_code 56 = .ok (.iconst 3, 1) := by decide +kernel
theorem d_method_3_57 : decode method_3_code 57 = .ok (.if_icmp .ne 33, 3) := by decide +kernel
theorem d_method_3_60 : decode method_3_code 60 = .ok (.iconst 3, 1) := by decide +kernel
theorem d_method_3_61 : decode method_3_code 61 = .ok (.newarray .char, 2) := by decide +kernel
theorem d_method_3_63 : decode method_3_code 63 = .ok (.astore 5, 2) := by decide +kernel
theorem d_method_3_65 : decode method_3_code 65 = .ok (.aload 5, 2) := by decide +kernel
theorem d_method_3_67 : decode method_3_code 67 = .ok (.iconst 0, 1) := by decide +kernel
theorem d_method_3_68 : decode method_3_code 68 = .ok (.iload_n 1, 1) := by decide +kernel
theorem d_method_3_69 : decode method_3_code 69 = .ok (.castore, 1) := by decide +kernel
theorem d_method_3_70 : decode method_3_code 70 = .ok (.aload 5, 2) := by decide +kernel
theorem d_method_3_72 : decode method_3_code 72 = .ok (.iconst 1, 1) := by decide +kernel
theorem d_method_3_73 : decode method_3_code 73 = .ok (.iload_n 2, 1) := by decide +kernel
theorem d_method_3_74 : decode method_3_code 74 = .ok (.castore, 1) := by decide +kernel
theorem d_method_3_75 : decode method_3_code 75 = .ok (.aload 5, 2) := by decide +kernel
theorem d_method_3_77 : decode method_3_code 77 = .ok (.iconst 2, 1) := by decide +kernel
theorem d_method_3_78 : decode method_3_code 78 = .ok (.iload_n 3, 1) := by decide +kernel
theorem d_method_3_79 : decode method_3_code 79 = .ok (.castore, 1) := by decide +kernel
theorem d_method_3_80 : decode method_3_code 80 = .ok (.new 8, 3) := by decide +kernel
theorem d_method_3_83 : decode method_3_code 83 = .ok (.dup, 1) := by decide +kernel
theorem d_method_3_84 : decode method_3_code 84 = .ok (.aload 5, 2) := by decide +kernel
theorem d_method_3_86 : decode method_3_code 86 = .ok (.invokespecial 10, 3) := by decide +kernel
theorem d_method_3_89 : decode method_3_code 89 = .ok (.areturn, 1) := by decide +kernel
theorem d_method_3_90 : decode method_3_code 90 = .ok (.iconst 4, 1) := by decide +kernel
theorem d_method_3_91 : decode method_3_code 91 = .ok (.newarray .char, 2) := by decide +kernel
theorem d_method_3_93 : decode method_3_code 93 = .ok (.astore 5, 2) := by decide +kernel
theorem d_method_3_95 : decode method_3_code 95 = .ok (.aload 5, 2) := by decide +kernel
theorem d_method_3_97 : decode method_3_code 97 = .ok (.iconst 0, 1) := by decide +kernel
theorem d_method_3_98 : decode method_3_code 98 = .ok (.iload_n 1, 1) := by decide +kernel
theorem d_method_3_99 : decode method_3_code 99 = .ok (.castore, 1) := by decide +kernel
theorem d_method_3_100 : decode method_3_code 100 = .ok (.aload 5, 2) := by decide +kernel
theorem d_method_3_102 : decode method_3_code 102 = .ok (.iconst 1, 1) := by decide +kernel
theorem d_method_3_103 : decode method_3_code 103 = .ok (.iload_n 2, 1) := by decide +kernel
theorem d_method_3_104 : decode method_3_code 104 = .ok (.castore, 1) := by decide +kernel
theorem d_method_3_105 : decode method_3_code 105 = .ok (.aload 5, 2) := by decide +kernel
theorem d_method_3_107 : decode method_3_code 107 = .ok (.iconst 2, 1) := by decide +kernel
theorem d_method_3_108 : decode method_3_code 108 = .ok (.iload_n 3, 1) := by decide +kernel
theorem d_method_3_109 : decode method_3_code 109 = .ok (.castore, 1) := by decide +kernel
theorem d_method_3_110 : decode method_3_code 110 = .ok (.aload 5, 2) := by decide +kernel
theorem d_method_3_112 : decode method_3_code 112 = .ok (.iconst 3, 1) := by decide +kernel
theorem d_method_3_113 : decode method_3_code 113 = .ok (.iload 4, 2) := by decide +kernel
theorem d_method_3_115 : decode method_3_code 115 = .ok (.castore, 1) := by decide +kernel
theorem d_method_3_116 : decode method_3_code 116 = .ok (.new 8, 3) := by decide +kernel
theorem d_method_3_119 : decode method_3_code 119 = .ok (.dup, 1) := by decide +kernel
theorem d_method_3_120 : decode method_3_code 120 = .ok (.aload 5, 2) := by decide +kernel
theorem d_method_3_122 : decode method_3_code 122 = .ok (.invokespecial 10, 3) := by decide +kernel
theorem d_method_3_125 : decode method_3_code 125 = .ok (.areturn, 1) := by decide +kernel
def Q_make (Z : State) (p1 : Int32) (p2 : Int32) (p3 : Int32) (p4 : Int32) (p5 : Int32) (zc : Int32) (h0 : Heap) (v : Option Value) (h : Heap) (L : List Loc) : Prop := ∃ (x : Nat), ∃ (t : Nat), ∃ (cs : List Int32), v = some (.ref x) ∧ Fr Z.heap.size L ∧ Keep h0 h [] ∧ own_Str Z h x t cs ∧ (p1 = Int32.ofNat cs.length) ∧ (h0.size ≤ x)
set_option maxRecDepth 65536 in
set_option maxHeartbeats 40000000 in
theorem rm_make (l : Launch) (Z : State) (a0 : Array Value) (hw : ∀ d ∈ tables_1, d.before a0 Z = true) (ws : List Jvm.Cond) (p1 : Int32) (p2 : Int32) (p3 : Int32) (p4 : Int32) (p5 : Int32) (zc : Int32) (h0 : Heap) (OL : Old Z Z.heap.size h0) (st_COMPACT_STRINGS : Sta Z Z.heap "java/lang/String" "COMPACT_STRINGS" "Z" (.int zc)) (hzc : ¬ zc = 0) (hn : p1 = 1 ∨ p1 = 2 ∨ p1 = 3 ∨ p1 = 4) (hp2 : ¬ p2 < 0 ∧ ¬ (255 : Int32) < p2) (hp3 : ¬ p3 < 0 ∧ ¬ (255 : Int32) < p3) (hp4 : ¬ p4 < 0 ∧ ¬ (255 : Int32) < p4) (hp5 : ¬ p5 < 0 ∧ ¬ (255 : Int32) < p5) :
    MetFree l (⟨"com/example/roaming_pubsub/roamingpubsub/MessageHeapBytesPinLaw", "make", "(ICCCC)Ljava/lang/String;"⟩ : MethodName) (head1 (Jvm.Cond.code (⟨"com/example/roaming_pubsub/roamingpubsub/MessageHeapBytesPinLaw", "make", "(ICCCC)Ljava/lang/String;"⟩ : MethodName) method_3_code 6 (some (.object "java/lang/String")) :: ws) ({ frames := 4, cells := 3, slots := 12, locals := 66 } : Room)) (fun a U => a = #[(.int p1), (.int p2), (.int p3), (.int p4), (.int p5)] ∧ Z.Warmed39 U.vm ∧ U.heap = h0) (fun _ _ _ _ _ => True) (fun _ U o U' => ∃ v L, o = .returned v ∧ Q_make Z p1 p2 p3 p4 p5 zc h0 v U'.heap L ∧ FrameEnd U o U' L ({ frames := 4, cells := 3, slots := 12, locals := 66 } : Room).cells ({ frames := 4, cells := 3, slots := 12, locals := 66 } : Room).slots) := by
  refine MetFree.of_bodySF (plainFor_of_name pn_0) hisR ?_
  intro p e s m args below meth c s₁ Bd hml0 hP hK
  obtain ⟨rfl, hZ, hh⟩ := hP
  have hx := Bd.exec
  have hby := Bd.bytes
  have hml : c.maxLocals = 6 := hml0
  have hown : s.vm.findClass "com/example/roaming_pubsub/roamingpubsub/MessageHeapBytesPinLaw" = some m.cls := findClass_of_methodNamed Bd.named
  have hnm := (name_of_methodNamed Bd.named Bd.method).1
  have X0 : Stand p l e ({ frames := 4, cells := 3, slots := 12, locals := 66 } : Room) s m #[(.int p1), (.int p2), (.int p3), (.int p4), (.int p5)] below meth c s₁ [] 0 0 := Stand.of_body Bd
  have e0 : s₁.heap = h0 := by rw [← hh, Bd.state]; rfl
  have N0 := Fr.nil Z.heap.size
  have Z0 : Z.heap.size ≤ h0.size := OL.2.1
  obtain ⟨PP, hPP⟩ : ∃ PP : Outcome → State → Prop, PP = (fun o tE => ∃ v L, o = .returned v ∧ Q_make Z p1 p2 p3 p4 p5 zc h0 v tE.heap L ∧ FrameEnd s o tE L ({ frames := 4, cells := 3, slots := 12, locals := 66 } : Room).cells ({ frames := 4, cells := 3, slots := 12, locals := 66 } : Room).slots) := ⟨_, rfl⟩
  show own_Go p.tables e below (fun o tE => ∃ v L, o = .returned v ∧ Q_make Z p1 p2 p3 p4 p5 zc h0 v tE.heap L ∧ FrameEnd s o tE L ({ frames := 4, cells := 3, slots := 12, locals := 66 } : Room).cells ({ frames := 4, cells := 3, slots := 12, locals := 66 } : Room).slots) (s₁.setTop (entryFrame m #[(.int p1), (.int p2), (.int p3), (.int p4), (.int p5)] 6))
  rw [← hPP]
  refine own_Go.st (fun t k => castTop (ef_11 m p1 p2 p3 p4 p5) k) ?_
  show own_Go _ _ _ _ (s₁.setTop (mkF m 0 #[.val (.int p1), .val (.int p2), .val (.int p3), .val (.int p4), .val (.int p5), .unset] []))
  refine own_Go.st (fun _ k => XS.iloadN X0.here hx rfl (hb hby d_method_3_0) rfl k) ?_
  show own_Go _ _ _ _ (s₁.setTop (mkF m 1 #[.val (.int p1), .val (.int p2), .val (.int p3), .val (.int p4), .val (.int p5), .unset] [(.int p1)]))
  refine own_Go.st (fun _ k => XS.iconst X0.here hx rfl (hb hby d_method_3_1) k) ?_
  show own_Go _ _ _ _ (s₁.setTop (mkF m 2 #[.val (.int p1), .val (.int p2), .val (.int p3), .val (.int p4), .val (.int p5), .unset] [(.int (1 : Int32)), (.int p1)]))
  by_cases hc102 : p1 = (1 : Int32)
  ·
    refine own_Go.st (fun _ k => XS.icmpNo X0.here hx rfl (hb hby d_method_3_2) rfl (teq hc102).2 k) ?_
    show own_Go _ _ _ _ (s₁.setTop (mkF m 5 #[.val (.int p1), .val (.int p2), .val (.int p3), .val (.int p4), .val (.int p5), .unset] []))
    refine own_Go.st (fun _ k => XS.iconst X0.here hx rfl (hb hby d_method_3_5) k) ?_
    show own_Go _ _ _ _ (s₁.setTop (mkF m 6 #[.val (.int p1), .val (.int p2), .val (.int p3), .val (.int p4), .val (.int p5), .unset] [(.int (1 : Int32))]))
    obtain ⟨T103, h103, k103, X103, e103, E103, A103, st103⟩ := newP X0 hx hZ (hw _ (List.mem_of_getElem? (i := 8) rfl)) e0 (g := (mkF m 6 #[.val (.int p1), .val (.int p2), .val (.int p3), .val (.int p4), .val (.int p5), .unset] [(.int (1 : Int32))])) rfl (hb hby d_method_3_6) rfl (by decide) (cap := 1) (by decide) (by decide) (by decide) (by decide)
    obtain ⟨b103, g103⟩ : ∃ z, z = h0.size := ⟨_, rfl⟩
    rw [← g103] at A103 st103
    refine own_Go.st st103 ?_
    have z103 : h0.size ≤ h103.size := E103.1
    have f104 : Arv Z h103 b103 k103 .char (1 : Int32) [(.int (0 : Int32))] (.int (0 : Int32)) := (Arv.new A103 (by decide)).pad (pad_rep [] (.int (0 : Int32)) 1)
    have lt_b103 : @LT.lt Nat _ b103 h103.size := f104.lt
    show own_Go _ _ _ _ (T103.setTop (mkF m 8 #[.val (.int p1), .val (.int p2), .val (.int p3), .val (.int p4), .val (.int p5), .unset] [(.ref b103)]))
    refine own_Go.st (fun _ k => XS.astore X103.here hx rfl (hb hby d_method_3_8) rfl rfl (l' := #[.val (.int p1), .val (.int p2), .val (.int p3), .val (.int p4), .val (.int p5), .val (.ref b103)]) rfl k) ?_
    show own_Go _ _ _ _ (T103.setTop (mkF m 10 #[.val (.int p1), .val (.int p2), .val (.int p3), .val (.int p4), .val (.int p5), .val (.ref b103)] []))
    refine own_Go.st (fun _ k => XS.aload X103.here hx rfl (hb hby d_method_3_10) rfl rfl k) ?_
    show own_Go _ _ _ _ (T103.setTop (mkF m 12 #[.val (.int p1), .val (.int p2), .val (.int p3), .val (.int p4), .val (.int p5), .val (.ref b103)] [(.ref b103)]))
    refine own_Go.st (fun _ k => XS.iconst X103.here hx rfl (hb hby d_method_3_12) k) ?_
    show own_Go _ _ _ _ (T103.setTop (mkF m 13 #[.val (.int p1), .val (.int p2), .val (.int p3), .val (.int p4), .val (.int p5), .val (.ref b103)] [(.int (0 : Int32)), (.ref b103)]))
    refine own_Go.st (fun _ k => XS.iloadN X103.here hx rfl (hb hby d_method_3_13) rfl k) ?_
    show own_Go _ _ _ _ (T103.setTop (mkF m 14 #[.val (.int p1), .val (.int p2), .val (.int p3), .val (.int p4), .val (.int p5), .val (.ref b103)] [(.int p2), (.int (0 : Int32)), (.ref b103)]))
    obtain ⟨c105, Ar105, q105, S105, Nn105, H105, G105⟩ := id f104
    have hin105 : ¬ ((0 : Int32) < 0 ∨ c105.slots.size ≤ ((0 : Int32)).toNatClampNeg) := inb_of S105 ⟨by decide, by decide⟩
    obtain ⟨T105, h105, X105, e105, W105, st105⟩ := stC X103 hx hZ e103 Ar105 (j := (0 : Int32)) hin105 (g := (mkF m 14 #[.val (.int p1), .val (.int p2), .val (.int p3), .val (.int p4), .val (.int p5), .val (.ref b103)] [(.int p2), (.int (0 : Int32)), (.ref b103)])) rfl rfl (hb hby d_method_3_14)
    refine own_Go.st st105 ?_
    have N105 := Fr.snoc X105 N0 (by omega)
    have z105 : h103.size ≤ h105.size := Nat.le_of_eq W105.size.symm
    have f106 := Arv.set Ar105 q105 S105 Nn105 H105 G105 (fits_nar_char _) W105 0 rfl (Nat.le_of_ble_eq_true rfl)
    rw [own_nar (own_up hp2)] at f106
    have f107 : Arv Z h105 b103 k103 .char (1 : Int32) [(.int p2)] (.int (0 : Int32)) := f106
    show own_Go _ _ _ _ (T105.setTop (mkF m 15 #[.val (.int p1), .val (.int p2), .val (.int p3), .val (.int p4), .val (.int p5), .val (.ref b103)] []))
    obtain ⟨T108, h108, X108, e108, E108, A108, D108, U108, st108⟩ := newO X105 hx hZ hown (hw _ (List.mem_of_getElem? (i := 9) rfl)) (hw _ (List.mem_of_getElem? (i := 10) rfl)) (hw _ (List.mem_of_getElem? (i := 11) rfl)) e105 (g := (mkF m 15 #[.val (.int p1), .val (.int p2), .val (.int p3), .val (.int p4), .val (.int p5), .val (.ref b103)] [])) rfl (hb hby d_method_3_15) (by decide) (by decide)
    obtain ⟨b108, g108⟩ : ∃ z, z = h105.size := ⟨_, rfl⟩
    rw [← g108] at A108 D108 U108 st108
    refine own_Go.st st108 ?_
    have z108 : h105.size ≤ h108.size := E108.1
    have lt_b108 : @LT.lt Nat _ b108 h108.size := A108.lt
    have f109 : Fld Z h108 b108 "java/lang/String" "coder" "B" (.int (0 : Int32)) := D108 (Or.inr (hw _ (List.mem_of_getElem? (i := 35) rfl))) (ty := .byte) (by decide)
    have f110 : Fld Z h108 b108 "java/lang/String" "value" "[B" .null := D108 (Or.inr (hw _ (List.mem_of_getElem? (i := 37) rfl))) (ty := (.array .byte)) (by decide)
    show own_Go _ _ _ _ (T108.setTop (mkF m 18 #[.val (.int p1), .val (.int p2), .val (.int p3), .val (.int p4), .val (.int p5), .val (.ref b103)] [(.ref b108)]))
    refine own_Go.st (fun _ k => XS.dup X108.here hx rfl (hb hby d_method_3_18) rfl rfl k) ?_
    show own_Go _ _ _ _ (T108.setTop (mkF m 19 #[.val (.int p1), .val (.int p2), .val (.int p3), .val (.int p4), .val (.int p5), .val (.ref b103)] [(.ref b108), (.ref b108)]))
    refine own_Go.st (fun _ k => XS.aload X108.here hx rfl (hb hby d_method_3_19) rfl rfl k) ?_
    show own_Go _ _ _ _ (T108.setTop (mkF m 21 #[.val (.int p1), .val (.int p2), .val (.int p3), .val (.int p4), .val (.int p5), .val (.ref b103)] [(.ref b103), (.ref b108), (.ref b108)]))
    have f112 : Arv Z h108 b103 k103 .char (1 : Int32) [(.int p2)] (.int (0 : Int32)) := f107.ext E108
    have f113 : Old Z Z.heap.size h103 := OL.ext E103
    have f114 : Old Z Z.heap.size h105 := f113.wr W105 (by omega)
    have f115 : Old Z Z.heap.size h108 := f114.ext E108
    have hp111 : ∀ c ∈ ([p2] : List Int32), ¬ c < 0 ∧ ¬ (255 : Int32) < c := (own_aS hp2 own_a0)
    obtain ⟨_, _, ⟨T111, L111, k111, n111⟩, -, X111, ⟨Lc111, hQ111, l111, y111, z111⟩, st111⟩ := X108.specialBack hx (y := (⟨"java/lang/String", "<init>", "([C)V"⟩ : MethodName)) rfl hown (mvT hZ (hw _ (List.mem_of_getElem? (i := 12) rfl))) (mvT hZ (hw _ (List.mem_of_getElem? (i := 13) rfl))) (mvT hZ (hw _ (List.mem_of_getElem? (i := 14) rfl))) (by decide) (StrChars.Road.backV (W := 1) hZ (own_hws hw) (kI := 4) (hw _ (List.mem_of_getElem? (i := 10) rfl)) (cs := ([p2] : List Int32)) (bs := (([p2] : List Int32)).map (fun c => c.toInt8.toInt32)) (n := 1) (n0 := Z.heap.size) (by omega) (by omega) A108 f110 f109 f112 (st_COMPACT_STRINGS.ext f115.2) hzc rfl rfl (by decide) (by decide) hp111 rfl (by decide) (by decide)) (g := (mkF m 21 #[.val (.int p1), .val (.int p2), .val (.int p3), .val (.int p4), .val (.int p5), .val (.ref b103)] [(.ref b103), (.ref b108), (.ref b108)])) rfl (by rw [hml]; rfl) (Steps.refl _) (a := b108) (argsL := [(.ref b103)]) (rest := [(.ref b108)]) (lenOf pd_25 rfl) rfl (by show 2 * 0 + _ ≤ _; exact Nat.le_of_eq rfl) (hb hby d_method_3_21) (fun _ _ => ⟨rfl, e108, (by decide : 2 + 1 ≤ _), (by decide : 5 + 1 ≤ _)⟩)
    dsimp only [Pt.U, Pt.locs, Pt.cells, Pt.slots] at X111 l111 y111 z111 st111 hQ111
    subst l111 y111 z111
    obtain ⟨rfl, N111q, K111, Ex111, Cd111, t111, kb111, u111, v111, w111, Vl111, Ar111⟩ := hQ111
    have N111 := Fr.app N105 N111q
    have z111 : h108.size ≤ T111.heap.size := K111.1
    have fT111 : own_Str Z T111.heap b108 t111 ([p2] : List Int32) := ⟨kb111, 0, (1 : Int32), _, Ex111, Vl111, Cd111, Ar111, StrChars.Road.codOf rfl (fun c q => (hp111 c q).2), own_upL hp111, (Nat.le_of_ble_eq_true rfl)⟩
    have lt111 : @LT.lt Nat _ t111 T111.heap.size := fT111.ltv
    refine own_Go.tr st111 ?_
    show own_Go _ _ _ _ (T111.setTop (mkF m 24 #[.val (.int p1), .val (.int p2), .val (.int p3), .val (.int p4), .val (.int p5), .val (.ref b103)] [(.ref b108)]))
    obtain ⟨fs116, hr116, hrun116, hend116, hW116, hsm116⟩ := X111.leave (v := some (.ref b108)) (fun h => by rw [Bd.returns] at h; cases h)
    have K117 : Keep h0 h103 [] := (Keep.refl h0 []).ext E103
    have K118 : Keep h0 h105 [] := K117.wr W105 (Or.inr (by omega))
    have K119 : Keep h0 h108 [] := K118.ext E108
    have K120 : Keep h0 T111.heap [] := K119.trans K111 (allS (Or.inr (by omega)) all0)
    subst hPP
    refine ⟨_, _, own_retA X111 hx Bd.returns rfl rfl (hb hby d_method_3_24) hr116, hrun116, hend116, _, _, rfl, ?_, ⟨_, rfl⟩, hW116, hsm116.mono (by decide) (by decide)⟩
    · show Q_make Z p1 p2 p3 p4 p5 zc h0 _ T111.heap _
      exact ⟨b108, t111, ([p2] : List Int32), rfl, N111, K120, fT111, (by rw [hc102]; rfl), (by omega)⟩
  ·
    refine own_Go.st (fun _ k => XS.icmpYes X0.here hx rfl (pc0 := 2) (pc' := 25) rfl (hb hby d_method_3_2) rfl (feq hc102).2 (by decide) (by decide) k) ?_
    show own_Go _ _ _ _ (s₁.setTop (mkF m 25 #[.val (.int p1), .val (.int p2), .val (.int p3), .val (.int p4), .val (.int p5), .unset] []))
    refine own_Go.st (fun _ k => XS.iloadN X0.here hx rfl (hb hby d_method_3_25) rfl k) ?_
    show own_Go _ _ _ _ (s₁.setTop (mkF m 26 #[.val (.int p1), .val (.int p2), .val (.int p3), .val (.int p4), .val (.int p5), .unset] [(.int p1)]))
    refine own_Go.st (fun _ k => XS.iconst X0.here hx rfl (hb hby d_method_3_26) k) ?_
    show own_Go _ _ _ _ (s₁.setTop (mkF m 27 #[.val (.int p1), .val (.int p2), .val (.int p3), .val (.int p4), .val (.int p5), .unset] [(.int (2 : Int32)), (.int p1)]))
    by_cases hc121 : p1 = (2 : Int32)
    ·
      refine own_Go.st (fun _ k => XS.icmpNo X0.here hx rfl (hb hby d_method_3_27) rfl (teq hc121).2 k) ?_
      show own_Go _ _ _ _ (s₁.setTop (mkF m 30 #[.val (.int p1), .val (.int p2), .val (.int p3), .val (.int p4), .val (.int p5), .unset] []))
      refine own_Go.st (fun _ k => XS.iconst X0.here hx rfl (hb hby d_method_3_30) k) ?_
      show own_Go _ _ _ _ (s₁.setTop (mkF m 31 #[.val (.int p1), .val (.int p2), .val (.int p3), .val (.int p4), .val (.int p5), .unset] [(.int (2 : Int32))]))
      obtain ⟨T122, h122, k122, X122, e122, E122, A122, st122⟩ := newP X0 hx hZ (hw _ (List.mem_of_getElem? (i := 8) rfl)) e0 (g := (mkF m 31 #[.val (.int p1), .val (.int p2), .val (.int p3), .val (.int p4), .val (.int p5), .unset] [(.int (2 : Int32))])) rfl (hb hby d_method_3_31) rfl (by decide) (cap := 2) (by decide) (by decide) (by decide) (by decide)
      obtain ⟨b122, g122⟩ : ∃ z, z = h0.size := ⟨_, rfl⟩
      rw [← g122] at A122 st122
      refine own_Go.st st122 ?_
      have z122 : h0.size ≤ h122.size := E122.1
      have f123 : Arv Z h122 b122 k122 .char (2 : Int32) [(.int (0 : Int32)), (.int (0 : Int32))] (.int (0 : Int32)) := (Arv.new A122 (by decide)).pad (pad_rep [] (.int (0 : Int32)) 2)
      have lt_b122 : @LT.lt Nat _ b122 h122.size := f123.lt
      show own_Go _ _ _ _ (T122.setTop (mkF m 33 #[.val (.int p1), .val (.int p2), .val (.int p3), .val (.int p4), .val (.int p5), .unset] [(.ref b122)]))
      refine own_Go.st (fun _ k => XS.astore X122.here hx rfl (hb hby d_method_3_33) rfl rfl (l' := #[.val (.int p1), .val (.int p2), .val (.int p3), .val (.int p4), .val (.int p5), .val (.ref b122)]) rfl k) ?_
      show own_Go _ _ _ _ (T122.setTop (mkF m 35 #[.val (.int p1), .val (.int p2), .val (.int p3), .val (.int p4), .val (.int p5), .val (.ref b122)] []))
      refine own_Go.st (fun _ k => XS.aload X122.here hx rfl (hb hby d_method_3_35) rfl rfl k) ?_
      show own_Go _ _ _ _ (T122.setTop (mkF m 37 #[.val (.int p1), .val (.int p2), .val (.int p3), .val (.int p4), .val (.int p5), .val (.ref b122)] [(.ref b122)]))
      refine own_Go.st (fun _ k => XS.iconst X122.here hx rfl (hb hby d_method_3_37) k) ?_
      show own_Go _ _ _ _ (T122.setTop (mkF m 38 #[.val (.int p1), .val (.int p2), .val (.int p3), .val (.int p4), .val (.int p5), .val (.ref b122)] [(.int (0 : Int32)), (.ref b122)]))
      refine own_Go.st (fun _ k => XS.iloadN X122.here hx rfl (hb hby d_method_3_38) rfl k) ?_
      show own_Go _ _ _ _ (T122.setTop (mkF m 39 #[.val (.int p1), .val (.int p2), .val (.int p3), .val (.int p4), .val (.int p5), .val (.ref b122)] [(.int p2), (.int (0 : Int32)), (.ref b122)]))
      obtain ⟨c124, Ar124, q124, S124, Nn124, H124, G124⟩ := id f123
      have hin124 : ¬ ((0 : Int32) < 0 ∨ c124.slots.size ≤ ((0 : Int32)).toNatClampNeg) := inb_of S124 ⟨by decide, by decide⟩
      obtain ⟨T124, h124, X124, e124, W124, st124⟩ := stC X122 hx hZ e122 Ar124 (j := (0 : Int32)) hin124 (g := (mkF m 39 #[.val (.int p1), .val (.int p2), .val (.int p3), .val (.int p4), .val (.int p5), .val (.ref b122)] [(.int p2), (.int (0 : Int32)), (.ref b122)])) rfl rfl (hb hby d_method_3_39)
      refine own_Go.st st124 ?_
      have N124 := Fr.snoc X124 N0 (by omega)
      have z124 : h122.size ≤ h124.size := Nat.le_of_eq W124.size.symm
      have f125 := Arv.set Ar124 q124 S124 Nn124 H124 G124 (fits_nar_char _) W124 0 rfl (Nat.le_of_ble_eq_true rfl)
      rw [own_nar (own_up hp2)] at f125
      have f126 : Arv Z h124 b122 k122 .char (2 : Int32) [(.int p2), (.int (0 : Int32))] (.int (0 : Int32)) := f125
      show own_Go _ _ _ _ (T124.setTop (mkF m 40 #[.val (.int p1), .val (.int p2), .val (.int p3), .val (.int p4), .val (.int p5), .val (.ref b122)] []))
      refine own_Go.st (fun _ k => XS.aload X124.here hx rfl (hb hby d_method_3_40) rfl rfl k) ?_
      show own_Go _ _ _ _ (T124.setTop (mkF m 42 #[.val (.int p1), .val (.int p2), .val (.int p3), .val (.int p4), .val (.int p5), .val (.ref b122)] [(.ref b122)]))
      refine own_Go.st (fun _ k => XS.iconst X124.here hx rfl (hb hby d_method_3_42) k) ?_
      show own_Go _ _ _ _ (T124.setTop (mkF m 43 #[.val (.int p1), .val (.int p2), .val (.int p3), .val (.int p4), .val (.int p5), .val (.ref b122)] [(.int (1 : Int32)), (.ref b122)]))
      refine own_Go.st (fun _ k => XS.iloadN X124.here hx rfl (hb hby d_method_3_43) rfl k) ?_
      show own_Go _ _ _ _ (T124.setTop (mkF m 44 #[.val (.int p1), .val (.int p2), .val (.int p3), .val (.int p4), .val (.int p5), .val (.ref b122)] [(.int p3), (.int (1 : Int32)), (.ref b122)]))
      obtain ⟨c127, Ar127, q127, S127, Nn127, H127, G127⟩ := id f126
      have hin127 : ¬ ((1 : Int32) < 0 ∨ c127.slots.size ≤ ((1 : Int32)).toNatClampNeg) := inb_of S127 ⟨by decide, by decide⟩
      obtain ⟨T127, h127, X127, e127, W127, st127⟩ := stC X124 hx hZ e124 Ar127 (j := (1 : Int32)) hin127 (g := (mkF m 44 #[.val (.int p1), .val (.int p2), .val (.int p3), .val (.int p4), .val (.int p5), .val (.ref b122)] [(.int p3), (.int (1 : Int32)), (.ref b122)])) rfl rfl (hb hby d_method_3_44)
      refine own_Go.st st127 ?_
      have N127 := Fr.snoc X127 N124 (by omega)
      have z127 : h124.size ≤ h127.size := Nat.le_of_eq W127.size.symm
      have f128 := Arv.set Ar127 q127 S127 Nn127 H127 G127 (fits_nar_char _) W127 1 rfl (Nat.le_of_ble_eq_true rfl)
      rw [own_nar (own_up hp3)] at f128
      have f129 : Arv Z h127 b122 k122 .char (2 : Int32) [(.int p2), (.int p3)] (.int (0 : Int32)) := f128
      show own_Go _ _ _ _ (T127.setTop (mkF m 45 #[.val (.int p1), .val (.int p2), .val (.int p3), .val (.int p4), .val (.int p5), .val (.ref b122)] []))
      obtain ⟨T130, h130, X130, e130, E130, A130, D130, U130, st130⟩ := newO X127 hx hZ hown (hw _ (List.mem_of_getElem? (i := 9) rfl)) (hw _ (List.mem_of_getElem? (i := 10) rfl)) (hw _ (List.mem_of_getElem? (i := 11) rfl)) e127 (g := (mkF m 45 #[.val (.int p1), .val (.int p2), .val (.int p3), .val (.int p4), .val (.int p5), .val (.ref b122)] [])) rfl (hb hby d_method_3_45) (by decide) (by decide)
      obtain ⟨b130, g130⟩ : ∃ z, z = h127.size := ⟨_, rfl⟩
      rw [← g130] at A130 D130 U130 st130
      refine own_Go.st st130 ?_
      have z130 : h127.size ≤ h130.size := E130.1
      have lt_b130 : @LT.lt Nat _ b130 h130.size := A130.lt
      have f131 : Fld Z h130 b130 "java/lang/String" "coder" "B" (.int (0 : Int32)) := D130 (Or.inr (hw _ (List.mem_of_getElem? (i := 35) rfl))) (ty := .byte) (by decide)
      have f132 : Fld Z h130 b130 "java/lang/String" "value" "[B" .null := D130 (Or.inr (hw _ (List.mem_of_getElem? (i := 37) rfl))) (ty := (.array .byte)) (by decide)
      show own_Go _ _ _ _ (T130.setTop (mkF m 48 #[.val (.int p1), .val (.int p2), .val (.int p3), .val (.int p4), .val (.int p5), .val (.ref b122)] [(.ref b130)]))
      refine own_Go.st (fun _ k => XS.dup X130.here hx rfl (hb hby d_method_3_48) rfl rfl k) ?_
      show own_Go _ _ _ _ (T130.setTop (mkF m 49 #[.val (.int p1), .val (.int p2), .val (.int p3), .val (.int p4), .val (.int p5), .val (.ref b122)] [(.ref b130), (.ref b130)]))
      refine own_Go.st (fun _ k => XS.aload X130.here hx rfl (hb hby d_method_3_49) rfl rfl k) ?_
      show own_Go _ _ _ _ (T130.setTop (mkF m 51 #[.val (.int p1), .val (.int p2), .val (.int p3), .val (.int p4), .val (.int p5), .val (.ref b122)] [(.ref b122), (.ref b130), (.ref b130)]))
      have f134 : Arv Z h130 b122 k122 .char (2 : Int32) [(.int p2), (.int p3)] (.int (0 : Int32)) := f129.ext E130
      have f135 : Old Z Z.heap.size h122 := OL.ext E122
      have f136 : Old Z Z.heap.size h124 := f135.wr W124 (by omega)
      have f137 : Old Z Z.heap.size h127 := f136.wr W127 (by omega)
      have f138 : Old Z Z.heap.size h130 := f137.ext E130
      have hp133 : ∀ c ∈ ([p2, p3] : List Int32), ¬ c < 0 ∧ ¬ (255 : Int32) < c := (own_aS hp2 (own_aS hp3 own_a0))
      obtain ⟨_, _, ⟨T133, L133, k133, n133⟩, -, X133, ⟨Lc133, hQ133, l133, y133, z133⟩, st133⟩ := X130.specialBack hx (y := (⟨"java/lang/String", "<init>", "([C)V"⟩ : MethodName)) rfl hown (mvT hZ (hw _ (List.mem_of_getElem? (i := 12) rfl))) (mvT hZ (hw _ (List.mem_of_getElem? (i := 13) rfl))) (mvT hZ (hw _ (List.mem_of_getElem? (i := 14) rfl))) (by decide) (StrChars.Road.backV (W := 1) hZ (own_hws hw) (kI := 4) (hw _ (List.mem_of_getElem? (i := 10) rfl)) (cs := ([p2, p3] : List Int32)) (bs := (([p2, p3] : List Int32)).map (fun c => c.toInt8.toInt32)) (n := 2) (n0 := Z.heap.size) (by omega) (by omega) A130 f132 f131 f134 (st_COMPACT_STRINGS.ext f138.2) hzc rfl rfl (by decide) (by decide) hp133 rfl (by decide) (by decide)) (g := (mkF m 51 #[.val (.int p1), .val (.int p2), .val (.int p3), .val (.int p4), .val (.int p5), .val (.ref b122)] [(.ref b122), (.ref b130), (.ref b130)])) rfl (by rw [hml]; rfl) (Steps.refl _) (a := b130) (argsL := [(.ref b122)]) (rest := [(.ref b130)]) (lenOf pd_25 rfl) rfl (by show 2 * 0 + _ ≤ _; exact Nat.le_of_eq rfl) (hb hby d_method_3_51) (fun _ _ => ⟨rfl, e130, (by decide : 2 + 1 ≤ _), (by decide : 6 + 2 ≤ _)⟩)
      dsimp only [Pt.U, Pt.locs, Pt.cells, Pt.slots] at X133 l133 y133 z133 st133 hQ133
      subst l133 y133 z133
      obtain ⟨rfl, N133q, K133, Ex133, Cd133, t133, kb133, u133, v133, w133, Vl133, Ar133⟩ := hQ133
      have N133 := Fr.app N127 N133q
      have z133 : h130.size ≤ T133.heap.size := K133.1
      have fT133 : own_Str Z T133.heap b130 t133 ([p2, p3] : List Int32) := ⟨kb133, 0, (2 : Int32), _, Ex133, Vl133, Cd133, Ar133, StrChars.Road.codOf rfl (fun c q => (hp133 c q).2), own_upL hp133, (Nat.le_of_ble_eq_true rfl)⟩
      have lt133 : @LT.lt Nat _ t133 T133.heap.size := fT133.ltv
      refine own_Go.tr st133 ?_
      show own_Go _ _ _ _ (T133.setTop (mkF m 54 #[.val (.int p1), .val (.int p2), .val (.int p3), .val (.int p4), .val (.int p5), .val (.ref b122)] [(.ref b130)]))
      obtain ⟨fs139, hr139, hrun139, hend139, hW139, hsm139⟩ := X133.leave (v := some (.ref b130)) (fun h => by rw [Bd.returns] at h; cases h)
      have K140 : Keep h0 h122 [] := (Keep.refl h0 []).ext E122
      have K141 : Keep h0 h124 [] := K140.wr W124 (Or.inr (by omega))
      have K142 : Keep h0 h127 [] := K141.wr W127 (Or.inr (by omega))
      have K143 : Keep h0 h130 [] := K142.ext E130
      have K144 : Keep h0 T133.heap [] := K143.trans K133 (allS (Or.inr (by omega)) all0)
      subst hPP
      refine ⟨_, _, own_retA X133 hx Bd.returns rfl rfl (hb hby d_method_3_54) hr139, hrun139, hend139, _, _, rfl, ?_, ⟨_, rfl⟩, hW139, hsm139.mono (by decide) (by decide)⟩
      · show Q_make Z p1 p2 p3 p4 p5 zc h0 _ T133.heap _
        exact ⟨b130, t133, ([p2, p3] : List Int32), rfl, N133, K144, fT133, (by rw [hc121]; rfl), (by omega)⟩
    ·
      refine own_Go.st (fun _ k => XS.icmpYes X0.here hx rfl (pc0 := 27) (pc' := 55) rfl (hb hby d_method_3_27) rfl (feq hc121).2 (by decide) (by decide) k) ?_
      show own_Go _ _ _ _ (s₁.setTop (mkF m 55 #[.val (.int p1), .val (.int p2), .val (.int p3), .val (.int p4), .val (.int p5), .unset] []))
      refine own_Go.st (fun _ k => XS.iloadN X0.here hx rfl (hb hby d_method_3_55) rfl k) ?_
      show own_Go _ _ _ _ (s₁.setTop (mkF m 56 #[.val (.int p1), .val (.int p2), .val (.int p3), .val (.int p4), .val (.int p5), .unset] [(.int p1)]))
      refine own_Go.st (fun _ k => XS.iconst X0.here hx rfl (hb hby d_method_3_56) k) ?_
      show own_Go _ _ _ _ (s₁.setTop (mkF m 57 #[.val (.int p1), .val (.int p2), .val (.int p3), .val (.int p4), .val (.int p5), .unset] [(.int (3 : Int32)), (.int p1)]))
      by_cases hc145 : p1 = (3 : Int32)
      ·
        refine own_Go.st (fun _ k => XS.icmpNo X0.here hx rfl (hb hby d_method_3_57) rfl (teq hc145).2 k) ?_
        show own_Go _ _ _ _ (s₁.setTop (mkF m 60 #[.val (.int p1), .val (.int p2), .val (.int p3), .val (.int p4), .val (.int p5), .unset] []))
        refine own_Go.st (fun _ k => XS.iconst X0.here hx rfl (hb hby d_method_3_60) k) ?_
        show own_Go _ _ _ _ (s₁.setTop (mkF m 61 #[.val (.int p1), .val (.int p2), .val (.int p3), .val (.int p4), .val (.int p5), .unset] [(.int (3 : Int32))]))
        obtain ⟨T146, h146, k146, X146, e146, E146, A146, st146⟩ := newP X0 hx hZ (hw _ (List.mem_of_getElem? (i := 8) rfl)) e0 (g := (mkF m 61 #[.val (.int p1), .val (.int p2), .val (.int p3), .val (.int p4), .val (.int p5), .unset] [(.int (3 : Int32))])) rfl (hb hby d_method_3_61) rfl (by decide) (cap := 3) (by decide) (by decide) (by decide) (by decide)
        obtain ⟨b146, g146⟩ : ∃ z, z = h0.size := ⟨_, rfl⟩
        rw [← g146] at A146 st146
        refine own_Go.st st146 ?_
        have z146 : h0.size ≤ h146.size := E146.1
        have f147 : Arv Z h146 b146 k146 .char (3 : Int32) [(.int (0 : Int32)), (.int (0 : Int32)), (.int (0 : Int32))] (.int (0 : Int32)) := (Arv.new A146 (by decide)).pad (pad_rep [] (.int (0 : Int32)) 3)
        have lt_b146 : @LT.lt Nat _ b146 h146.size := f147.lt
        show own_Go _ _ _ _ (T146.setTop (mkF m 63 #[.val (.int p1), .val (.int p2), .val (.int p3), .val (.int p4), .val (.int p5), .unset] [(.ref b146)]))
        refine own_Go.st (fun _ k => XS.astore X146.here hx rfl (hb hby d_method_3_63) rfl rfl (l' := #[.val (.int p1), .val (.int p2), .val (.int p3), .val (.int p4), .val (.int p5), .val (.ref b146)]) rfl k) ?_
        show own_Go _ _ _ _ (T146.setTop (mkF m 65 #[.val (.int p1), .val (.int p2), .val (.int p3), .val (.int p4), .val (.int p5), .val (.ref b146)] []))
        refine own_Go.st (fun _ k => XS.aload X146.here hx rfl (hb hby d_method_3_65) rfl rfl k) ?_
        show own_Go _ _ _ _ (T146.setTop (mkF m 67 #[.val (.int p1), .val (.int p2), .val (.int p3), .val (.int p4), .val (.int p5), .val (.ref b146)] [(.ref b146)]))
        refine own_Go.st (fun _ k => XS.iconst X146.here hx rfl (hb hby d_method_3_67) k) ?_
        show own_Go _ _ _ _ (T146.setTop (mkF m 68 #[.val (.int p1), .val (.int p2), .val (.int p3), .val (.int p4), .val (.int p5), .val (.ref b146)] [(.int (0 : Int32)), (.ref b146)]))
        refine own_Go.st (fun _ k => XS.iloadN X146.here hx rfl (hb hby d_method_3_68) rfl k) ?_
        show own_Go _ _ _ _ (T146.setTop (mkF m 69 #[.val (.int p1), .val (.int p2), .val (.int p3), .val (.int p4), .val (.int p5), .val (.ref b146)] [(.int p2), (.int (0 : Int32)), (.ref b146)]))
        obtain ⟨c148, Ar148, q148, S148, Nn148, H148, G148⟩ := id f147
        have hin148 : ¬ ((0 : Int32) < 0 ∨ c148.slots.size ≤ ((0 : Int32)).toNatClampNeg) := inb_of S148 ⟨by decide, by decide⟩
        obtain ⟨T148, h148, X148, e148, W148, st148⟩ := stC X146 hx hZ e146 Ar148 (j := (0 : Int32)) hin148 (g := (mkF m 69 #[.val (.int p1), .val (.int p2), .val (.int p3), .val (.int p4), .val (.int p5), .val (.ref b146)] [(.int p2), (.int (0 : Int32)), (.ref b146)])) rfl rfl (hb hby d_method_3_69)
        refine own_Go.st st148 ?_
        have N148 := Fr.snoc X148 N0 (by omega)
        have z148 : h146.size ≤ h148.size := Nat.le_of_eq W148.size.symm
        have f149 := Arv.set Ar148 q148 S148 Nn148 H148 G148 (fits_nar_char _) W148 0 rfl (Nat.le_of_ble_eq_true rfl)
        rw [own_nar (own_up hp2)] at f149
        have f150 : Arv Z h148 b146 k146 .char (3 : Int32) [(.int p2), (.int (0 : Int32)), (.int (0 : Int32))] (.int (0 : Int32)) := f149
        show own_Go _ _ _ _ (T148.setTop (mkF m 70 #[.val (.int p1), .val (.int p2), .val (.int p3), .val (.int p4), .val (.int p5), .val (.ref b146)] []))
        refine own_Go.st (fun _ k => XS.aload X148.here hx rfl (hb hby d_method_3_70) rfl rfl k) ?_
        show own_Go _ _ _ _ (T148.setTop (mkF m 72 #[.val (.int p1), .val (.int p2), .val (.int p3), .val (.int p4), .val (.int p5), .val (.ref b146)] [(.ref b146)]))
        refine own_Go.st (fun _ k => XS.iconst X148.here hx rfl (hb hby d_method_3_72) k) ?_
        show own_Go _ _ _ _ (T148.setTop (mkF m 73 #[.val (.int p1), .val (.int p2), .val (.int p3), .val (.int p4), .val (.int p5), .val (.ref b146)] [(.int (1 : Int32)), (.ref b146)]))
        refine own_Go.st (fun _ k => XS.iloadN X148.here hx rfl (hb hby d_method_3_73) rfl k) ?_
        show own_Go _ _ _ _ (T148.setTop (mkF m 74 #[.val (.int p1), .val (.int p2), .val (.int p3), .val (.int p4), .val (.int p5), .val (.ref b146)] [(.int p3), (.int (1 : Int32)), (.ref b146)]))
        obtain ⟨c151, Ar151, q151, S151, Nn151, H151, G151⟩ := id f150
        have hin151 : ¬ ((1 : Int32) < 0 ∨ c151.slots.size ≤ ((1 : Int32)).toNatClampNeg) := inb_of S151 ⟨by decide, by decide⟩
        obtain ⟨T151, h151, X151, e151, W151, st151⟩ := stC X148 hx hZ e148 Ar151 (j := (1 : Int32)) hin151 (g := (mkF m 74 #[.val (.int p1), .val (.int p2), .val (.int p3), .val (.int p4), .val (.int p5), .val (.ref b146)] [(.int p3), (.int (1 : Int32)), (.ref b146)])) rfl rfl (hb hby d_method_3_74)
        refine own_Go.st st151 ?_
        have N151 := Fr.snoc X151 N148 (by omega)
        have z151 : h148.size ≤ h151.size := Nat.le_of_eq W151.size.symm
        have f152 := Arv.set Ar151 q151 S151 Nn151 H151 G151 (fits_nar_char _) W151 1 rfl (Nat.le_of_ble_eq_true rfl)
        rw [own_nar (own_up hp3)] at f152
        have f153 : Arv Z h151 b146 k146 .char (3 : Int32) [(.int p2), (.int p3), (.int (0 : Int32))] (.int (0 : Int32)) := f152
        show own_Go _ _ _ _ (T151.setTop (mkF m 75 #[.val (.int p1), .val (.int p2), .val (.int p3), .val (.int p4), .val (.int p5), .val (.ref b146)] []))
        refine own_Go.st (fun _ k => XS.aload X151.here hx rfl (hb hby d_method_3_75) rfl rfl k) ?_
        show own_Go _ _ _ _ (T151.setTop (mkF m 77 #[.val (.int p1), .val (.int p2), .val (.int p3), .val (.int p4), .val (.int p5), .val (.ref b146)] [(.ref b146)]))
        refine own_Go.st (fun _ k => XS.iconst X151.here hx rfl (hb hby d_method_3_77) k) ?_
        show own_Go _ _ _ _ (T151.setTop (mkF m 78 #[.val (.int p1), .val (.int p2), .val (.int p3), .val (.int p4), .val (.int p5), .val (.ref b146)] [(.int (2 : Int32)), (.ref b146)]))
        refine own_Go.st (fun _ k => XS.iloadN X151.here hx rfl (hb hby d_method_3_78) rfl k) ?_
        show own_Go _ _ _ _ (T151.setTop (mkF m 79 #[.val (.int p1), .val (.int p2), .val (.int p3), .val (.int p4), .val (.int p5), .val (.ref b146)] [(.int p4), (.int (2 : Int32)), (.ref b146)]))
        obtain ⟨c154, Ar154, q154, S154, Nn154, H154, G154⟩ := id f153
        have hin154 : ¬ ((2 : Int32) < 0 ∨ c154.slots.size ≤ ((2 : Int32)).toNatClampNeg) := inb_of S154 ⟨by decide, by decide⟩
        obtain ⟨T154, h154, X154, e154, W154, st154⟩ := stC X151 hx hZ e151 Ar154 (j := (2 : Int32)) hin154 (g := (mkF m 79 #[.val (.int p1), .val (.int p2), .val (.int p3), .val (.int p4), .val (.int p5), .val (.ref b146)] [(.int p4), (.int (2 : Int32)), (.ref b146)])) rfl rfl (hb hby d_method_3_79)
        refine own_Go.st st154 ?_
        have N154 := Fr.snoc X154 N151 (by omega)
        have z154 : h151.size ≤ h154.size := Nat.le_of_eq W154.size.symm
        have f155 := Arv.set Ar154 q154 S154 Nn154 H154 G154 (fits_nar_char _) W154 2 rfl (Nat.le_of_ble_eq_true rfl)
        rw [own_nar (own_up hp4)] at f155
        have f156 : Arv Z h154 b146 k146 .char (3 : Int32) [(.int p2), (.int p3), (.int p4)] (.int (0 : Int32)) := f155
        show own_Go _ _ _ _ (T154.setTop (mkF m 80 #[.val (.int p1), .val (.int p2), .val (.int p3), .val (.int p4), .val (.int p5), .val (.ref b146)] []))
        obtain ⟨T157, h157, X157, e157, E157, A157, D157, U157, st157⟩ := newO X154 hx hZ hown (hw _ (List.mem_of_getElem? (i := 9) rfl)) (hw _ (List.mem_of_getElem? (i := 10) rfl)) (hw _ (List.mem_of_getElem? (i := 11) rfl)) e154 (g := (mkF m 80 #[.val (.int p1), .val (.int p2), .val (.int p3), .val (.int p4), .val (.int p5), .val (.ref b146)] [])) rfl (hb hby d_method_3_80) (by decide) (by decide)
        obtain ⟨b157, g157⟩ : ∃ z, z = h154.size := ⟨_, rfl⟩
        rw [← g157] at A157 D157 U157 st157
        refine own_Go.st st157 ?_
        have z157 : h154.size ≤ h157.size := E157.1
        have lt_b157 : @LT.lt Nat _ b157 h157.size := A157.lt
        have f158 : Fld Z h157 b157 "java/lang/String" "coder" "B" (.int (0 : Int32)) := D157 (Or.inr (hw _ (List.mem_of_getElem? (i := 35) rfl))) (ty := .byte) (by decide)
        have f159 : Fld Z h157 b157 "java/lang/String" "value" "[B" .null := D157 (Or.inr (hw _ (List.mem_of_getElem? (i := 37) rfl))) (ty := (.array .byte)) (by decide)
        show own_Go _ _ _ _ (T157.setTop (mkF m 83 #[.val (.int p1), .val (.int p2), .val (.int p3), .val (.int p4), .val (.int p5), .val (.ref b146)] [(.ref b157)]))
        refine own_Go.st (fun _ k => XS.dup X157.here hx rfl (hb hby d_method_3_83) rfl rfl k) ?_
        show own_Go _ _ _ _ (T157.setTop (mkF m 84 #[.val (.int p1), .val (.int p2), .val (.int p3), .val (.int p4), .val (.int p5), .val (.ref b146)] [(.ref b157), (.ref b157)]))
        refine own_Go.st (fun _ k => XS.aload X157.here hx rfl (hb hby d_method_3_84) rfl rfl k) ?_
        show own_Go _ _ _ _ (T157.setTop (mkF m 86 #[.val (.int p1), .val (.int p2), .val (.int p3), .val (.int p4), .val (.int p5), .val (.ref b146)] [(.ref b146), (.ref b157), (.ref b157)]))
        have f161 : Arv Z h157 b146 k146 .char (3 : Int32) [(.int p2), (.int p3), (.int p4)] (.int (0 : Int32)) := f156.ext E157
        have f162 : Old Z Z.heap.size h146 := OL.ext E146
        have f163 : Old Z Z.heap.size h148 := f162.wr W148 (by omega)
        have f164 : Old Z Z.heap.size h151 := f163.wr W151 (by omega)
        have f165 : Old Z Z.heap.size h154 := f164.wr W154 (by omega)
        have f166 : Old Z Z.heap.size h157 := f165.ext E157
        have hp160 : ∀ c ∈ ([p2, p3, p4] : List Int32), ¬ c < 0 ∧ ¬ (255 : Int32) < c := (own_aS hp2 (own_aS hp3 (own_aS hp4 own_a0)))
        obtain ⟨_, _, ⟨T160, L160, k160, n160⟩, -, X160, ⟨Lc160, hQ160, l160, y160, z160⟩, st160⟩ := X157.specialBack hx (y := (⟨"java/lang/String", "<init>", "([C)V"⟩ : MethodName)) rfl hown (mvT hZ (hw _ (List.mem_of_getElem? (i := 12) rfl))) (mvT hZ (hw _ (List.mem_of_getElem? (i := 13) rfl))) (mvT hZ (hw _ (List.mem_of_getElem? (i := 14) rfl))) (by decide) (StrChars.Road.backV (W := 1) hZ (own_hws hw) (kI := 4) (hw _ (List.mem_of_getElem? (i := 10) rfl)) (cs := ([p2, p3, p4] : List Int32)) (bs := (([p2, p3, p4] : List Int32)).map (fun c => c.toInt8.toInt32)) (n := 3) (n0 := Z.heap.size) (by omega) (by omega) A157 f159 f158 f161 (st_COMPACT_STRINGS.ext f166.2) hzc rfl rfl (by decide) (by decide) hp160 rfl (by decide) (by decide)) (g := (mkF m 86 #[.val (.int p1), .val (.int p2), .val (.int p3), .val (.int p4), .val (.int p5), .val (.ref b146)] [(.ref b146), (.ref b157), (.ref b157)])) rfl (by rw [hml]; rfl) (Steps.refl _) (a := b157) (argsL := [(.ref b146)]) (rest := [(.ref b157)]) (lenOf pd_25 rfl) rfl (by show 2 * 0 + _ ≤ _; exact Nat.le_of_eq rfl) (hb hby d_method_3_86) (fun _ _ => ⟨rfl, e157, (by decide : 2 + 1 ≤ _), (by decide : 7 + 3 ≤ _)⟩)
        dsimp only [Pt.U, Pt.locs, Pt.cells, Pt.slots] at X160 l160 y160 z160 st160 hQ160
        subst l160 y160 z160
        obtain ⟨rfl, N160q, K160, Ex160, Cd160, t160, kb160, u160, v160, w160, Vl160, Ar160⟩ := hQ160
        have N160 := Fr.app N154 N160q
        have z160 : h157.size ≤ T160.heap.size := K160.1
        have fT160 : own_Str Z T160.heap b157 t160 ([p2, p3, p4] : List Int32) := ⟨kb160, 0, (3 : Int32), _, Ex160, Vl160, Cd160, Ar160, StrChars.Road.codOf rfl (fun c q => (hp160 c q).2), own_upL hp160, (Nat.le_of_ble_eq_true rfl)⟩
        have lt160 : @LT.lt Nat _ t160 T160.heap.size := fT160.ltv
        refine own_Go.tr st160 ?_
        show own_Go _ _ _ _ (T160.setTop (mkF m 89 #[.val (.int p1), .val (.int p2), .val (.int p3), .val (.int p4), .val (.int p5), .val (.ref b146)] [(.ref b157)]))
        obtain ⟨fs167, hr167, hrun167, hend167, hW167, hsm167⟩ := X160.leave (v := some (.ref b157)) (fun h => by rw [Bd.returns] at h; cases h)
        have K168 : Keep h0 h146 [] := (Keep.refl h0 []).ext E146
        have K169 : Keep h0 h148 [] := K168.wr W148 (Or.inr (by omega))
        have K170 : Keep h0 h151 [] := K169.wr W151 (Or.inr (by omega))
        have K171 : Keep h0 h154 [] := K170.wr W154 (Or.inr (by omega))
        have K172 : Keep h0 h157 [] := K171.ext E157
        have K173 : Keep h0 T160.heap [] := K172.trans K160 (allS (Or.inr (by omega)) all0)
        subst hPP
        refine ⟨_, _, own_retA X160 hx Bd.returns rfl rfl (hb hby d_method_3_89) hr167, hrun167, hend167, _, _, rfl, ?_, ⟨_, rfl⟩, hW167, hsm167.mono (by decide) (by decide)⟩
        · show Q_make Z p1 p2 p3 p4 p5 zc h0 _ T160.heap _
          exact ⟨b157, t160, ([p2, p3, p4] : List Int32), rfl, N160, K173, fT160, (by rw [hc145]; rfl), (by omega)⟩
      ·
        refine own_Go.st (fun _ k => XS.icmpYes X0.here hx rfl (pc0 := 57) (pc' := 90) rfl (hb hby d_method_3_57) rfl (feq hc145).2 (by decide) (by decide) k) ?_
        show own_Go _ _ _ _ (s₁.setTop (mkF m 90 #[.val (.int p1), .val (.int p2), .val (.int p3), .val (.int p4), .val (.int p5), .unset] []))
        refine own_Go.st (fun _ k => XS.iconst X0.here hx rfl (hb hby d_method_3_90) k) ?_
        show own_Go _ _ _ _ (s₁.setTop (mkF m 91 #[.val (.int p1), .val (.int p2), .val (.int p3), .val (.int p4), .val (.int p5), .unset] [(.int (4 : Int32))]))
        obtain ⟨T174, h174, k174, X174, e174, E174, A174, st174⟩ := newP X0 hx hZ (hw _ (List.mem_of_getElem? (i := 8) rfl)) e0 (g := (mkF m 91 #[.val (.int p1), .val (.int p2), .val (.int p3), .val (.int p4), .val (.int p5), .unset] [(.int (4 : Int32))])) rfl (hb hby d_method_3_91) rfl (by decide) (cap := 4) (by decide) (by decide) (by decide) (by decide)
        obtain ⟨b174, g174⟩ : ∃ z, z = h0.size := ⟨_, rfl⟩
        rw [← g174] at A174 st174
        refine own_Go.st st174 ?_
        have z174 : h0.size ≤ h174.size := E174.1
        have f175 : Arv Z h174 b174 k174 .char (4 : Int32) [(.int (0 : Int32)), (.int (0 : Int32)), (.int (0 : Int32)), (.int (0 : Int32))] (.int (0 : Int32)) := (Arv.new A174 (by decide)).pad (pad_rep [] (.int (0 : Int32)) 4)
        have lt_b174 : @LT.lt Nat _ b174 h174.size := f175.lt
        show own_Go _ _ _ _ (T174.setTop (mkF m 93 #[.val (.int p1), .val (.int p2), .val (.int p3), .val (.int p4), .val (.int p5), .unset] [(.ref b174)]))
        refine own_Go.st (fun _ k => XS.astore X174.here hx rfl (hb hby d_method_3_93) rfl rfl (l' := #[.val (.int p1), .val (.int p2), .val (.int p3), .val (.int p4), .val (.int p5), .val (.ref b174)]) rfl k) ?_
        show own_Go _ _ _ _ (T174.setTop (mkF m 95 #[.val (.int p1), .val (.int p2), .val (.int p3), .val (.int p4), .val (.int p5), .val (.ref b174)] []))
        refine own_Go.st (fun _ k => XS.aload X174.here hx rfl (hb hby d_method_3_95) rfl rfl k) ?_
        show own_Go _ _ _ _ (T174.setTop (mkF m 97 #[.val (.int p1), .val (.int p2), .val (.int p3), .val (.int p4), .val (.int p5), .val (.ref b174)] [(.ref b174)]))
        refine own_Go.st (fun _ k => XS.iconst X174.here hx rfl (hb hby d_method_3_97) k) ?_
        show own_Go _ _ _ _ (T174.setTop (mkF m 98 #[.val (.int p1), .val (.int p2), .val (.int p3), .val (.int p4), .val (.int p5), .val (.ref b174)] [(.int (0 : Int32)), (.ref b174)]))
        refine own_Go.st (fun _ k => XS.iloadN X174.here hx rfl (hb hby d_method_3_98) rfl k) ?_
        show own_Go _ _ _ _ (T174.setTop (mkF m 99 #[.val (.int p1), .val (.int p2), .val (.int p3), .val (.int p4), .val (.int p5), .val (.ref b174)] [(.int p2), (.int (0 : Int32)), (.ref b174)]))
        obtain ⟨c176, Ar176, q176, S176, Nn176, H176, G176⟩ := id f175
        have hin176 : ¬ ((0 : Int32) < 0 ∨ c176.slots.size ≤ ((0 : Int32)).toNatClampNeg) := inb_of S176 ⟨by decide, by decide⟩
        obtain ⟨T176, h176, X176, e176, W176, st176⟩ := stC X174 hx hZ e174 Ar176 (j := (0 : Int32)) hin176 (g := (mkF m 99 #[.val (.int p1), .val (.int p2), .val (.int p3), .val (.int p4), .val (.int p5), .val (.ref b174)] [(.int p2), (.int (0 : Int32)), (.ref b174)])) rfl rfl (hb hby d_method_3_99)
        refine own_Go.st st176 ?_
        have N176 := Fr.snoc X176 N0 (by omega)
        have z176 : h174.size ≤ h176.size := Nat.le_of_eq W176.size.symm
        have f177 := Arv.set Ar176 q176 S176 Nn176 H176 G176 (fits_nar_char _) W176 0 rfl (Nat.le_of_ble_eq_true rfl)
        rw [own_nar (own_up hp2)] at f177
        have f178 : Arv Z h176 b174 k174 .char (4 : Int32) [(.int p2), (.int (0 : Int32)), (.int (0 : Int32)), (.int (0 : Int32))] (.int (0 : Int32)) := f177
        show own_Go _ _ _ _ (T176.setTop (mkF m 100 #[.val (.int p1), .val (.int p2), .val (.int p3), .val (.int p4), .val (.int p5), .val (.ref b174)] []))
        refine own_Go.st (fun _ k => XS.aload X176.here hx rfl (hb hby d_method_3_100) rfl rfl k) ?_
        show own_Go _ _ _ _ (T176.setTop (mkF m 102 #[.val (.int p1), .val (.int p2), .val (.int p3), .val (.int p4), .val (.int p5), .val (.ref b174)] [(.ref b174)]))
        refine own_Go.st (fun _ k => XS.iconst X176.here hx rfl (hb hby d_method_3_102) k) ?_
        show own_Go _ _ _ _ (T176.setTop (mkF m 103 #[.val (.int p1), .val (.int p2), .val (.int p3), .val (.int p4), .val (.int p5), .val (.ref b174)] [(.int (1 : Int32)), (.ref b174)]))
        refine own_Go.st (fun _ k => XS.iloadN X176.here hx rfl (hb hby d_method_3_103) rfl k) ?_
        show own_Go _ _ _ _ (T176.setTop (mkF m 104 #[.val (.int p1), .val (.int p2), .val (.int p3), .val (.int p4), .val (.int p5), .val (.ref b174)] [(.int p3), (.int (1 : Int32)), (.ref b174)]))
        obtain ⟨c179, Ar179, q179, S179, Nn179, H179, G179⟩ := id f178
        have hin179 : ¬ ((1 : Int32) < 0 ∨ c179.slots.size ≤ ((1 : Int32)).toNatClampNeg) := inb_of S179 ⟨by decide, by decide⟩
        obtain ⟨T179, h179, X179, e179, W179, st179⟩ := stC X176 hx hZ e176 Ar179 (j := (1 : Int32)) hin179 (g := (mkF m 104 #[.val (.int p1), .val (.int p2), .val (.int p3), .val (.int p4), .val (.int p5), .val (.ref b174)] [(.int p3), (.int (1 : Int32)), (.ref b174)])) rfl rfl (hb hby d_method_3_104)
        refine own_Go.st st179 ?_
        have N179 := Fr.snoc X179 N176 (by omega)
        have z179 : h176.size ≤ h179.size := Nat.le_of_eq W179.size.symm
        have f180 := Arv.set Ar179 q179 S179 Nn179 H179 G179 (fits_nar_char _) W179 1 rfl (Nat.le_of_ble_eq_true rfl)
        rw [own_nar (own_up hp3)] at f180
        have f181 : Arv Z h179 b174 k174 .char (4 : Int32) [(.int p2), (.int p3), (.int (0 : Int32)), (.int (0 : Int32))] (.int (0 : Int32)) := f180
        show own_Go _ _ _ _ (T179.setTop (mkF m 105 #[.val (.int p1), .val (.int p2), .val (.int p3), .val (.int p4), .val (.int p5), .val (.ref b174)] []))
        refine own_Go.st (fun _ k => XS.aload X179.here hx rfl (hb hby d_method_3_105) rfl rfl k) ?_
        show own_Go _ _ _ _ (T179.setTop (mkF m 107 #[.val (.int p1), .val (.int p2), .val (.int p3), .val (.int p4), .val (.int p5), .val (.ref b174)] [(.ref b174)]))
        refine own_Go.st (fun _ k => XS.iconst X179.here hx rfl (hb hby d_method_3_107) k) ?_
        show own_Go _ _ _ _ (T179.setTop (mkF m 108 #[.val (.int p1), .val (.int p2), .val (.int p3), .val (.int p4), .val (.int p5), .val (.ref b174)] [(.int (2 : Int32)), (.ref b174)]))
        refine own_Go.st (fun _ k => XS.iloadN X179.here hx rfl (hb hby d_method_3_108) rfl k) ?_
        show own_Go _ _ _ _ (T179.setTop (mkF m 109 #[.val (.int p1), .val (.int p2), .val (.int p3), .val (.int p4), .val (.int p5), .val (.ref b174)] [(.int p4), (.int (2 : Int32)), (.ref b174)]))
        obtain ⟨c182, Ar182, q182, S182, Nn182, H182, G182⟩ := id f181
        have hin182 : ¬ ((2 : Int32) < 0 ∨ c182.slots.size ≤ ((2 : Int32)).toNatClampNeg) := inb_of S182 ⟨by decide, by decide⟩
        obtain ⟨T182, h182, X182, e182, W182, st182⟩ := stC X179 hx hZ e179 Ar182 (j := (2 : Int32)) hin182 (g := (mkF m 109 #[.val (.int p1), .val (.int p2), .val (.int p3), .val (.int p4), .val (.int p5), .val (.ref b174)] [(.int p4), (.int (2 : Int32)), (.ref b174)])) rfl rfl (hb hby d_method_3_109)
        refine own_Go.st st182 ?_
        have N182 := Fr.snoc X182 N179 (by omega)
        have z182 : h179.size ≤ h182.size := Nat.le_of_eq W182.size.symm
        have f183 := Arv.set Ar182 q182 S182 Nn182 H182 G182 (fits_nar_char _) W182 2 rfl (Nat.le_of_ble_eq_true rfl)
        rw [own_nar (own_up hp4)] at f183
        have f184 : Arv Z h182 b174 k174 .char (4 : Int32) [(.int p2), (.int p3), (.int p4), (.int (0 : Int32))] (.int (0 : Int32)) := f183
        show own_Go _ _ _ _ (T182.setTop (mkF m 110 #[.val (.int p1), .val (.int p2), .val (.int p3), .val (.int p4), .val (.int p5), .val (.ref b174)] []))
        refine own_Go.st (fun _ k => XS.aload X182.here hx rfl (hb hby d_method_3_110) rfl rfl k) ?_
        show own_Go _ _ _ _ (T182.setTop (mkF m 112 #[.val (.int p1), .val (.int p2), .val (.int p3), .val (.int p4), .val (.int p5), .val (.ref b174)] [(.ref b174)]))
        refine own_Go.st (fun _ k => XS.iconst X182.here hx rfl (hb hby d_method_3_112) k) ?_
        show own_Go _ _ _ _ (T182.setTop (mkF m 113 #[.val (.int p1), .val (.int p2), .val (.int p3), .val (.int p4), .val (.int p5), .val (.ref b174)] [(.int (3 : Int32)), (.ref b174)]))
        refine own_Go.st (fun _ k => XS.iload X182.here hx rfl (hb hby d_method_3_113) rfl k) ?_
        show own_Go _ _ _ _ (T182.setTop (mkF m 115 #[.val (.int p1), .val (.int p2), .val (.int p3), .val (.int p4), .val (.int p5), .val (.ref b174)] [(.int p5), (.int (3 : Int32)), (.ref b174)]))
        obtain ⟨c185, Ar185, q185, S185, Nn185, H185, G185⟩ := id f184
        have hin185 : ¬ ((3 : Int32) < 0 ∨ c185.slots.size ≤ ((3 : Int32)).toNatClampNeg) := inb_of S185 ⟨by decide, by decide⟩
        obtain ⟨T185, h185, X185, e185, W185, st185⟩ := stC X182 hx hZ e182 Ar185 (j := (3 : Int32)) hin185 (g := (mkF m 115 #[.val (.int p1), .val (.int p2), .val (.int p3), .val (.int p4), .val (.int p5), .val (.ref b174)] [(.int p5), (.int (3 : Int32)), (.ref b174)])) rfl rfl (hb hby d_method_3_115)
        refine own_Go.st st185 ?_
        have N185 := Fr.snoc X185 N182 (by omega)
        have z185 : h182.size ≤ h185.size := Nat.le_of_eq W185.size.symm
        have f186 := Arv.set Ar185 q185 S185 Nn185 H185 G185 (fits_nar_char _) W185 3 rfl (Nat.le_of_ble_eq_true rfl)
        rw [own_nar (own_up hp5)] at f186
        have f187 : Arv Z h185 b174 k174 .char (4 : Int32) [(.int p2), (.int p3), (.int p4), (.int p5)] (.int (0 : Int32)) := f186
        show own_Go _ _ _ _ (T185.setTop (mkF m 116 #[.val (.int p1), .val (.int p2), .val (.int p3), .val (.int p4), .val (.int p5), .val (.ref b174)] []))
        obtain ⟨T188, h188, X188, e188, E188, A188, D188, U188, st188⟩ := newO X185 hx hZ hown (hw _ (List.mem_of_getElem? (i := 9) rfl)) (hw _ (List.mem_of_getElem? (i := 10) rfl)) (hw _ (List.mem_of_getElem? (i := 11) rfl)) e185 (g := (mkF m 116 #[.val (.int p1), .val (.int p2), .val (.int p3), .val (.int p4), .val (.int p5), .val (.ref b174)] [])) rfl (hb hby d_method_3_116) (by decide) (by decide)
        obtain ⟨b188, g188⟩ : ∃ z, z = h185.size := ⟨_, rfl⟩
        rw [← g188] at A188 D188 U188 st188
        refine own_Go.st st188 ?_
        have z188 : h185.size ≤ h188.size := E188.1
        have lt_b188 : @LT.lt Nat _ b188 h188.size := A188.lt
        have f189 : Fld Z h188 b188 "java/lang/String" "coder" "B" (.int (0 : Int32)) := D188 (Or.inr (hw _ (List.mem_of_getElem? (i := 35) rfl))) (ty := .byte) (by decide)
        have f190 : Fld Z h188 b188 "java/lang/String" "value" "[B" .null := D188 (Or.inr (hw _ (List.mem_of_getElem? (i := 37) rfl))) (ty := (.array .byte)) (by decide)
        show own_Go _ _ _ _ (T188.setTop (mkF m 119 #[.val (.int p1), .val (.int p2), .val (.int p3), .val (.int p4), .val (.int p5), .val (.ref b174)] [(.ref b188)]))
        refine own_Go.st (fun _ k => XS.dup X188.here hx rfl (hb hby d_method_3_119) rfl rfl k) ?_
        show own_Go _ _ _ _ (T188.setTop (mkF m 120 #[.val (.int p1), .val (.int p2), .val (.int p3), .val (.int p4), .val (.int p5), .val (.ref b174)] [(.ref b188), (.ref b188)]))
        refine own_Go.st (fun _ k => XS.aload X188.here hx rfl (hb hby d_method_3_120) rfl rfl k) ?_
        show own_Go _ _ _ _ (T188.setTop (mkF m 122 #[.val (.int p1), .val (.int p2), .val (.int p3), .val (.int p4), .val (.int p5), .val (.ref b174)] [(.ref b174), (.ref b188), (.ref b188)]))
        have f192 : Arv Z h188 b174 k174 .char (4 : Int32) [(.int p2), (.int p3), (.int p4), (.int p5)] (.int (0 : Int32)) := f187.ext E188
        have f193 : Old Z Z.heap.size h174 := OL.ext E174
        have f194 : Old Z Z.heap.size h176 := f193.wr W176 (by omega)
        have f195 : Old Z Z.heap.size h179 := f194.wr W179 (by omega)
        have f196 : Old Z Z.heap.size h182 := f195.wr W182 (by omega)
        have f197 : Old Z Z.heap.size h185 := f196.wr W185 (by omega)
        have f198 : Old Z Z.heap.size h188 := f197.ext E188
        have hp191 : ∀ c ∈ ([p2, p3, p4, p5] : List Int32), ¬ c < 0 ∧ ¬ (255 : Int32) < c := (own_aS hp2 (own_aS hp3 (own_aS hp4 (own_aS hp5 own_a0))))
        obtain ⟨_, _, ⟨T191, L191, k191, n191⟩, -, X191, ⟨Lc191, hQ191, l191, y191, z191⟩, st191⟩ := X188.specialBack hx (y := (⟨"java/lang/String", "<init>", "([C)V"⟩ : MethodName)) rfl hown (mvT hZ (hw _ (List.mem_of_getElem? (i := 12) rfl))) (mvT hZ (hw _ (List.mem_of_getElem? (i := 13) rfl))) (mvT hZ (hw _ (List.mem_of_getElem? (i := 14) rfl))) (by decide) (StrChars.Road.backV (W := 1) hZ (own_hws hw) (kI := 4) (hw _ (List.mem_of_getElem? (i := 10) rfl)) (cs := ([p2, p3, p4, p5] : List Int32)) (bs := (([p2, p3, p4, p5] : List Int32)).map (fun c => c.toInt8.toInt32)) (n := 4) (n0 := Z.heap.size) (by omega) (by omega) A188 f190 f189 f192 (st_COMPACT_STRINGS.ext f198.2) hzc rfl rfl (by decide) (by decide) hp191 rfl (by decide) (by decide)) (g := (mkF m 122 #[.val (.int p1), .val (.int p2), .val (.int p3), .val (.int p4), .val (.int p5), .val (.ref b174)] [(.ref b174), (.ref b188), (.ref b188)])) rfl (by rw [hml]; rfl) (Steps.refl _) (a := b188) (argsL := [(.ref b174)]) (rest := [(.ref b188)]) (lenOf pd_25 rfl) rfl (by show 2 * 0 + _ ≤ _; exact Nat.le_of_eq rfl) (hb hby d_method_3_122) (fun _ _ => ⟨rfl, e188, (by decide : 2 + 1 ≤ _), (by decide : 8 + 4 ≤ _)⟩)
        dsimp only [Pt.U, Pt.locs, Pt.cells, Pt.slots] at X191 l191 y191 z191 st191 hQ191
        subst l191 y191 z191
        obtain ⟨rfl, N191q, K191, Ex191, Cd191, t191, kb191, u191, v191, w191, Vl191, Ar191⟩ := hQ191
        have N191 := Fr.app N185 N191q
        have z191 : h188.size ≤ T191.heap.size := K191.1
        have fT191 : own_Str Z T191.heap b188 t191 ([p2, p3, p4, p5] : List Int32) := ⟨kb191, 0, (4 : Int32), _, Ex191, Vl191, Cd191, Ar191, StrChars.Road.codOf rfl (fun c q => (hp191 c q).2), own_upL hp191, (Nat.le_of_ble_eq_true rfl)⟩
        have lt191 : @LT.lt Nat _ t191 T191.heap.size := fT191.ltv
        refine own_Go.tr st191 ?_
        show own_Go _ _ _ _ (T191.setTop (mkF m 125 #[.val (.int p1), .val (.int p2), .val (.int p3), .val (.int p4), .val (.int p5), .val (.ref b174)] [(.ref b188)]))
        obtain ⟨fs199, hr199, hrun199, hend199, hW199, hsm199⟩ := X191.leave (v := some (.ref b188)) (fun h => by rw [Bd.returns] at h; cases h)
        have K200 : Keep h0 h174 [] := (Keep.refl h0 []).ext E174
        have K201 : Keep h0 h176 [] := K200.wr W176 (Or.inr (by omega))
        have K202 : Keep h0 h179 [] := K201.wr W179 (Or.inr (by omega))
        have K203 : Keep h0 h182 [] := K202.wr W182 (Or.inr (by omega))
        have K204 : Keep h0 h185 [] := K203.wr W185 (Or.inr (by omega))
        have K205 : Keep h0 h188 [] := K204.ext E188
        have K206 : Keep h0 T191.heap [] := K205.trans K191 (allS (Or.inr (by omega)) all0)
        subst hPP
        refine ⟨_, _, own_retA X191 hx Bd.returns rfl rfl (hb hby d_method_3_125) hr199, hrun199, hend199, _, _, rfl, ?_, ⟨_, rfl⟩, hW199, hsm199.mono (by decide) (by decide)⟩
        · show Q_make Z p1 p2 p3 p4 p5 zc h0 _ T191.heap _
          exact ⟨b188, t191, ([p2, p3, p4, p5] : List Int32), rfl, N191, K206, fT191, (by rcases hn with h | h | h | h <;> first | exact absurd h hc102 | exact absurd h hc121 | exact absurd h hc145 | (rw [h]; rfl)), (by omega)⟩
theorem pn_94 : plainName "com/example/roaming_pubsub/roamingpubsub/Message" = true := by first | (simp [plainName, overriddenIn]; done) | decide +kernel
theorem ef_95 (m : MethodId) (x0 : Nat) (x1 : Nat) (x2 : Nat) : entryFrame m #[(.ref x0), (.ref x1), (.ref x2)] 3 = mkF m 0 #[.val (.ref x0), .val (.ref x1), .val (.ref x2)] [] := by first | (simp [entryFrame, mkF, argsToLocals, Value.category]; done) | rfl
theorem d_prog_11_method_1_0 : decode prog_11_method_1_code 0 = .ok (.aload_n 0, 1) := by decide +kernel
theorem d_prog_11_method_1_1 : decode prog_11_method_1_code 1 = .ok (.invokespecial 1, 3) := by decide +kernel
theorem d_prog_11_method_1_4 : decode prog_11_method_1_code 4 = .ok (.aload_n 0, 1) := by decide +kernel
theorem d_prog_11_method_1_5 : decode prog_11_method_1_code 5 = .ok (.aload_n 1, 1) := by decide +kernel
theorem d_prog_11_method_1_6 : decode prog_11_method_1_code 6 = .ok (.putfield 7, 3) := by decide +kernel
theorem d_prog_11_method_1_9 : decode prog_11_method_1_code 9 = .ok (.aload_n 0, 1) := by decide +kernel
theorem d_prog_11_method_1_10 : decode prog_11_method_1_code 10 = .ok (.aload_n 2, 1) := by decide +kernel
theorem d_prog_11_method_1_11 : decode prog_11_method_1_code 11 = .ok (.putfield 13, 3) := by decide +kernel
theorem d_prog_11_method_1_14 : decode prog_11_method_1_code 14 = .ok (.return_, 1) := by decide +kernel
def Q_minit (Z : State) (a1 : Nat) (a2 : Nat) (a3 : Nat) (h0 : Heap) (v : Option Value) (h : Heap) (L : List Loc) : Prop := v = none ∧ Fr Z.heap.size L ∧ Keep h0 h [a1] ∧ Exa Z h a1 "com/example/roaming_pubsub/roamingpubsub/Message" ∧ Fld Z h a1 "com/example/roaming_pubsub/roamingpubsub/Message" "topic" "Ljava/lang/String;" (.ref a2) ∧ Fld Z h a1 "com/example/roaming_pubsub/roamingpubsub/Message" "payload" "[B" (.ref a3)
set_option maxRecDepth 65536 in
set_option maxHeartbeats 40000000 in
theorem rm_minit (l : Launch) (Z : State) (a0 : Array Value) (hw : ∀ d ∈ tables_1, d.before a0 Z = true) (ws : List Jvm.Cond) (a1 : Nat) (a2 : Nat) (a3 : Nat) (h0 : Heap) (OL : Old Z Z.heap.size h0) (p0_ : Exa Z h0 a1 "com/example/roaming_pubsub/roamingpubsub/Message") (p1_ : Fld Z h0 a1 "com/example/roaming_pubsub/roamingpubsub/Message" "topic" "Ljava/lang/String;" .null) (p2_ : Fld Z h0 a1 "com/example/roaming_pubsub/roamingpubsub/Message" "payload" "[B" .null) (hn0 : Z.heap.size ≤ a1) :
    MetFree l (⟨"com/example/roaming_pubsub/roamingpubsub/Message", "<init>", "(Ljava/lang/String;[B)V"⟩ : MethodName) (head1 (Jvm.Cond.code (⟨"com/example/roaming_pubsub/roamingpubsub/Message", "<init>", "(Ljava/lang/String;[B)V"⟩ : MethodName) prog_11_method_1_code 3 none :: ws) ({ frames := 1, cells := 0, slots := 0, locals := 12 } : Room)) (fun a U => a = #[(.ref a1), (.ref a2), (.ref a3)] ∧ Z.Warmed39 U.vm ∧ U.heap = h0) (fun _ _ _ _ _ => True) (fun _ U o U' => ∃ v L, o = .returned v ∧ Q_minit Z a1 a2 a3 h0 v U'.heap L ∧ FrameEnd U o U' L ({ frames := 1, cells := 0, slots := 0, locals := 12 } : Room).cells ({ frames := 1, cells := 0, slots := 0, locals := 12 } : Room).slots) := by
  refine MetFree.of_bodySF (plainFor_of_name pn_94) hisR ?_
  intro p e s m args below meth c s₁ Bd hml0 hP hK
  obtain ⟨rfl, hZ, hh⟩ := hP
  have hx := Bd.exec
  have hby := Bd.bytes
  have hml : c.maxLocals = 3 := hml0
  have hown : s.vm.findClass "com/example/roaming_pubsub/roamingpubsub/Message" = some m.cls := findClass_of_methodNamed Bd.named
  have hnm := (name_of_methodNamed Bd.named Bd.method).1
  have X0 : Stand p l e ({ frames := 1, cells := 0, slots := 0, locals := 12 } : Room) s m #[(.ref a1), (.ref a2), (.ref a3)] below meth c s₁ [] 0 0 := Stand.of_body Bd
  have e0 : s₁.heap = h0 := by rw [← hh, Bd.state]; rfl
  have N0 := Fr.nil Z.heap.size
  have Z0 : Z.heap.size ≤ h0.size := OL.2.1
  have lt_0 : @LT.lt Nat _ a1 h0.size := p0_.lt
  have lt_1 : @LT.lt Nat _ a1 h0.size := p1_.lt
  have lt_2 : @LT.lt Nat _ a1 h0.size := p2_.lt
  obtain ⟨PP, hPP⟩ : ∃ PP : Outcome → State → Prop, PP = (fun o tE => ∃ v L, o = .returned v ∧ Q_minit Z a1 a2 a3 h0 v tE.heap L ∧ FrameEnd s o tE L ({ frames := 1, cells := 0, slots := 0, locals := 12 } : Room).cells ({ frames := 1, cells := 0, slots := 0, locals := 12 } : Room).slots) := ⟨_, rfl⟩
  show own_Go p.tables e below (fun o tE => ∃ v L, o = .returned v ∧ Q_minit Z a1 a2 a3 h0 v tE.heap L ∧ FrameEnd s o tE L ({ frames := 1, cells := 0, slots := 0, locals := 12 } : Room).cells ({ frames := 1, cells := 0, slots := 0, locals := 12 } : Room).slots) (s₁.setTop (entryFrame m #[(.ref a1), (.ref a2), (.ref a3)] 3))
  rw [← hPP]
  refine own_Go.st (fun t k => castTop (ef_95 m a1 a2 a3) k) ?_
  show own_Go _ _ _ _ (s₁.setTop (mkF m 0 #[.val (.ref a1), .val (.ref a2), .val (.ref a3)] []))
  refine own_Go.st (fun _ k => XS.aloadN X0.here hx rfl (hb hby d_prog_11_method_1_0) rfl rfl k) ?_
  show own_Go _ _ _ _ (s₁.setTop (mkF m 1 #[.val (.ref a1), .val (.ref a2), .val (.ref a3)] [(.ref a1)]))
  obtain ⟨T207, X207, e207, st207⟩ := initO X0 hx hZ hown (hw _ (List.mem_of_getElem? (i := 44) rfl)) (hw _ (List.mem_of_getElem? (i := 20) rfl)) (hw _ (List.mem_of_getElem? (i := 21) rfl)) e0 (g := (mkF m 1 #[.val (.ref a1), .val (.ref a2), .val (.ref a3)] [(.ref a1)])) rfl (by rw [hml]; rfl) rfl (hb hby d_prog_11_method_1_1) (by decide) (W := 0) (by show 2 * 0 + _ ≤ _; exact Nat.le_of_eq rfl) (by decide)
  refine own_Go.st st207 ?_
  show own_Go _ _ _ _ (T207.setTop (mkF m 4 #[.val (.ref a1), .val (.ref a2), .val (.ref a3)] []))
  refine own_Go.st (fun _ k => XS.aloadN X207.here hx rfl (hb hby d_prog_11_method_1_4) rfl rfl k) ?_
  show own_Go _ _ _ _ (T207.setTop (mkF m 5 #[.val (.ref a1), .val (.ref a2), .val (.ref a3)] [(.ref a1)]))
  refine own_Go.st (fun _ k => XS.aloadN X207.here hx rfl (hb hby d_prog_11_method_1_5) rfl rfl k) ?_
  show own_Go _ _ _ _ (T207.setTop (mkF m 6 #[.val (.ref a1), .val (.ref a2), .val (.ref a3)] [(.ref a2), (.ref a1)]))
  obtain ⟨T208, h208, X208, e208, W208, st208⟩ := putF X207 hx hZ hown (host := "") (Or.inl (hw _ (List.mem_of_getElem? (i := 45) rfl))) Via.refl e207 p1_ p0_ (Or.inr ⟨(hw _ (List.mem_of_getElem? (i := 46) rfl)), rfl, hnm⟩) (hw _ (List.mem_of_getElem? (i := 39) rfl)) (ty := (.object "java/lang/String")) (by decide) rfl rfl (g := (mkF m 6 #[.val (.ref a1), .val (.ref a2), .val (.ref a3)] [(.ref a2), (.ref a1)])) rfl rfl (hb hby d_prog_11_method_1_6)
  refine own_Go.st st208 ?_
  have N208 := Fr.snoc X208 N0 (by omega)
  have z208 : h0.size ≤ h208.size := Nat.le_of_eq W208.size.symm
  have f209 : Fld Z h208 a1 "com/example/roaming_pubsub/roamingpubsub/Message" "topic" "Ljava/lang/String;" (.ref a2) := p1_.same W208
  show own_Go _ _ _ _ (T208.setTop (mkF m 9 #[.val (.ref a1), .val (.ref a2), .val (.ref a3)] []))
  refine own_Go.st (fun _ k => XS.aloadN X208.here hx rfl (hb hby d_prog_11_method_1_9) rfl rfl k) ?_
  show own_Go _ _ _ _ (T208.setTop (mkF m 10 #[.val (.ref a1), .val (.ref a2), .val (.ref a3)] [(.ref a1)]))
  refine own_Go.st (fun _ k => XS.aloadN X208.here hx rfl (hb hby d_prog_11_method_1_10) rfl rfl k) ?_
  show own_Go _ _ _ _ (T208.setTop (mkF m 11 #[.val (.ref a1), .val (.ref a2), .val (.ref a3)] [(.ref a3), (.ref a1)]))
  have f210 : Fld Z h208 a1 "com/example/roaming_pubsub/roamingpubsub/Message" "payload" "[B" .null := p2_.other W208 (Or.inr (slot_ne (Or.inr (hw _ (List.mem_of_getElem? (i := 48) rfl))) (Or.inr (hw _ (List.mem_of_getElem? (i := 46) rfl))) (by decide) (t := (.array .byte)) (t' := (.object "java/lang/String")) (by decide) (by decide)))
  have f211 : Exa Z h208 a1 "com/example/roaming_pubsub/roamingpubsub/Message" := p0_.wr W208
  obtain ⟨T212, h212, X212, e212, W212, st212⟩ := putF X208 hx hZ hown (host := "") (Or.inl (hw _ (List.mem_of_getElem? (i := 47) rfl))) Via.refl e208 f210 f211 (Or.inr ⟨(hw _ (List.mem_of_getElem? (i := 48) rfl)), rfl, hnm⟩) (hw _ (List.mem_of_getElem? (i := 39) rfl)) (ty := (.array .byte)) (by decide) rfl rfl (g := (mkF m 11 #[.val (.ref a1), .val (.ref a2), .val (.ref a3)] [(.ref a3), (.ref a1)])) rfl rfl (hb hby d_prog_11_method_1_11)
  refine own_Go.st st212 ?_
  have N212 := Fr.snoc X212 N208 (by omega)
  have z212 : h208.size ≤ h212.size := Nat.le_of_eq W212.size.symm
  have f213 : Fld Z h212 a1 "com/example/roaming_pubsub/roamingpubsub/Message" "payload" "[B" (.ref a3) := f210.same W212
  show own_Go _ _ _ _ (T212.setTop (mkF m 14 #[.val (.ref a1), .val (.ref a2), .val (.ref a3)] []))
  obtain ⟨fs214, hr214, hrun214, hend214, hW214, hsm214⟩ := X212.leave (v := none) (fun _ => rfl)
  have K215 : Keep h0 h208 [a1] := (Keep.refl h0 [a1]).wr W208 (Or.inl (List.mem_of_getElem? (i := 0) rfl))
  have K216 : Keep h0 h212 [a1] := K215.wr W212 (Or.inl (List.mem_of_getElem? (i := 0) rfl))
  have f217 : Exa Z h212 a1 "com/example/roaming_pubsub/roamingpubsub/Message" := f211.wr W212
  have f218 : Fld Z h212 a1 "com/example/roaming_pubsub/roamingpubsub/Message" "topic" "Ljava/lang/String;" (.ref a2) := f209.other W212 (Or.inr (slot_ne (Or.inr (hw _ (List.mem_of_getElem? (i := 46) rfl))) (Or.inr (hw _ (List.mem_of_getElem? (i := 48) rfl))) (by decide) (t := (.object "java/lang/String")) (t' := (.array .byte)) (by decide) (by decide)))
  subst hPP
  refine ⟨_, _, X212.returnOut hx Bd.returns (hb hby d_prog_11_method_1_14) hr214, hrun214, hend214, _, _, rfl, ?_, ⟨_, rfl⟩, hW214, hsm214.mono (by decide) (by decide)⟩
  · show Q_minit Z a1 a2 a3 h0 _ T212.heap _
    rw [e212]
    exact ⟨rfl, N212, K216, f217, f218, f213⟩
theorem ef_105 (m : MethodId) (x0 : Nat) : entryFrame m #[(.ref x0)] 1 = mkF m 0 #[.val (.ref x0)] [] := by first | (simp [entryFrame, mkF, argsToLocals, Value.category]; done) | rfl
theorem d_prog_11_method_4_0 : decode prog_11_method_4_code 0 = .ok (.ldc2_w 17, 3) := by decide +kernel
theorem d_prog_11_method_4_3 : decode prog_11_method_4_code 3 = .ok (.aload_n 0, 1) := by decide +kernel
theorem d_prog_11_method_4_4 : decode prog_11_method_4_code 4 = .ok (.getfield 7, 3) := by decide +kernel
theorem pd_109 : parseMethodDescriptor "()I" = some ⟨[], some .int⟩ := by decide +kernel
theorem d_prog_11_method_4_7 : decode prog_11_method_4_code 7 = .ok (.invokevirtual 19, 3) := by decide +kernel
theorem d_prog_11_method_4_10 : decode prog_11_method_4_code 10 = .ok (.i2l, 1) := by decide +kernel
theorem d_prog_11_method_4_11 : decode prog_11_method_4_code 11 = .ok (.lmul, 1) := by decide +kernel
theorem d_prog_11_method_4_12 : decode prog_11_method_4_code 12 = .ok (.aload_n 0, 1) := by decide +kernel
theorem d_prog_11_method_4_13 : decode prog_11_method_4_code 13 = .ok (.getfield 13, 3) := by decide +kernel
theorem d_prog_11_method_4_16 : decode prog_11_method_4_code 16 = .ok (.arraylength, 1) := by decide +kernel
theorem d_prog_11_method_4_17 : decode prog_11_method_4_code 17 = .ok (.i2l, 1) := by decide +kernel
theorem d_prog_11_method_4_18 : decode prog_11_method_4_code 18 = .ok (.ladd, 1) := by decide +kernel
theorem d_prog_11_method_4_19 : decode prog_11_method_4_code 19 = .ok (.lreturn, 1) := by decide +kernel
def Q_hb (Z : State) (a1 : Nat) (a2 : Nat) (a3 : Nat) (t : Nat) (cs : List Int32) (k : ClassId) (n : Int32) (vs : List Value) (d : Value) (zc : Int32) (h0 : Heap) (v : Option Value) (h : Heap) (L : List Loc) : Prop := v = some (.long (((2 : Int64) * (Int32.ofNat cs.length).toInt64) + n.toInt64)) ∧ Fr Z.heap.size L ∧ h = h0
set_option maxRecDepth 65536 in
set_option maxHeartbeats 40000000 in
theorem rm_hb (l : Launch) (Z : State) (a0 : Array Value) (hw : ∀ d ∈ tables_1, d.before a0 Z = true) (ws : List Jvm.Cond) (a1 : Nat) (a2 : Nat) (a3 : Nat) (t : Nat) (cs : List Int32) (k : ClassId) (n : Int32) (vs : List Value) (d : Value) (zc : Int32) (h0 : Heap) (OL : Old Z Z.heap.size h0) (p0_ : Fld Z h0 a1 "com/example/roaming_pubsub/roamingpubsub/Message" "topic" "Ljava/lang/String;" (.ref a2)) (p1_ : Fld Z h0 a1 "com/example/roaming_pubsub/roamingpubsub/Message" "payload" "[B" (.ref a3)) (p2_ : own_Str Z h0 a2 t cs) (p3_ : Arv Z h0 a3 k .byte n vs d) (st_COMPACT_STRINGS : Sta Z Z.heap "java/lang/String" "COMPACT_STRINGS" "Z" (.int zc)) (hzc : ¬ zc = 0) :
    MetFree l (⟨"com/example/roaming_pubsub/roamingpubsub/Message", "heapBytes", "()J"⟩ : MethodName) (head1 (Jvm.Cond.code (⟨"com/example/roaming_pubsub/roamingpubsub/Message", "heapBytes", "()J"⟩ : MethodName) prog_11_method_4_code 1 (some .long) :: ws) ({ frames := 2, cells := 0, slots := 0, locals := 36 } : Room)) (fun a U => a = #[(.ref a1)] ∧ Z.Warmed39 U.vm ∧ U.heap = h0) (fun _ _ _ _ _ => True) (fun _ U o U' => ∃ v L, o = .returned v ∧ Q_hb Z a1 a2 a3 t cs k n vs d zc h0 v U'.heap L ∧ FrameEnd U o U' L ({ frames := 2, cells := 0, slots := 0, locals := 36 } : Room).cells ({ frames := 2, cells := 0, slots := 0, locals := 36 } : Room).slots) := by
  refine MetFree.of_bodySF (plainFor_of_name pn_94) hisR ?_
  intro p e s m args below meth c s₁ Bd hml0 hP hK
  obtain ⟨rfl, hZ, hh⟩ := hP
  have hx := Bd.exec
  have hby := Bd.bytes
  have hml : c.maxLocals = 1 := hml0
  have hown : s.vm.findClass "com/example/roaming_pubsub/roamingpubsub/Message" = some m.cls := findClass_of_methodNamed Bd.named
  have hnm := (name_of_methodNamed Bd.named Bd.method).1
  have X0 : Stand p l e ({ frames := 2, cells := 0, slots := 0, locals := 36 } : Room) s m #[(.ref a1)] below meth c s₁ [] 0 0 := Stand.of_body Bd
  have e0 : s₁.heap = h0 := by rw [← hh, Bd.state]; rfl
  have N0 := Fr.nil Z.heap.size
  have Z0 : Z.heap.size ≤ h0.size := OL.2.1
  have lt_0 : @LT.lt Nat _ a1 h0.size := p0_.lt
  have lt_1 : @LT.lt Nat _ a1 h0.size := p1_.lt
  have lt_2 : @LT.lt Nat _ a2 h0.size := p2_.lt
  have ltv_2 : @LT.lt Nat _ t h0.size := p2_.ltv
  have lt_3 : @LT.lt Nat _ a3 h0.size := p3_.lt
  obtain ⟨PP, hPP⟩ : ∃ PP : Outcome → State → Prop, PP = (fun o tE => ∃ v L, o = .returned v ∧ Q_hb Z a1 a2 a3 t cs k n vs d zc h0 v tE.heap L ∧ FrameEnd s o tE L ({ frames := 2, cells := 0, slots := 0, locals := 36 } : Room).cells ({ frames := 2, cells := 0, slots := 0, locals := 36 } : Room).slots) := ⟨_, rfl⟩
  show own_Go p.tables e below (fun o tE => ∃ v L, o = .returned v ∧ Q_hb Z a1 a2 a3 t cs k n vs d zc h0 v tE.heap L ∧ FrameEnd s o tE L ({ frames := 2, cells := 0, slots := 0, locals := 36 } : Room).cells ({ frames := 2, cells := 0, slots := 0, locals := 36 } : Room).slots) (s₁.setTop (entryFrame m #[(.ref a1)] 1))
  rw [← hPP]
  refine own_Go.st (fun t k => castTop (ef_105 m a1) k) ?_
  show own_Go _ _ _ _ (s₁.setTop (mkF m 0 #[.val (.ref a1)] []))
  refine own_Go.st (X0.ldc2Long hx hown (mvT hZ (hw _ (List.mem_of_getElem? (i := 54) rfl))) (g := (mkF m 0 #[.val (.ref a1)] [])) rfl (hb hby d_prog_11_method_4_0)) ?_
  show own_Go _ _ _ _ (s₁.setTop (mkF m 3 #[.val (.ref a1)] [(.long (2 : Int64))]))
  refine own_Go.st (fun _ k => XS.aloadN X0.here hx rfl (hb hby d_prog_11_method_4_3) rfl rfl k) ?_
  show own_Go _ _ _ _ (s₁.setTop (mkF m 4 #[.val (.ref a1)] [(.ref a1), (.long (2 : Int64))]))
  obtain ⟨T219, X219, e219, st219⟩ := getF X0 hx hZ hown (host := "") (Or.inl (hw _ (List.mem_of_getElem? (i := 45) rfl))) Via.refl e0 p0_ (g := (mkF m 4 #[.val (.ref a1)] [(.ref a1), (.long (2 : Int64))])) rfl rfl (hb hby d_prog_11_method_4_4)
  refine own_Go.st st219 ?_
  show own_Go _ _ _ _ (T219.setTop (mkF m 7 #[.val (.ref a1)] [(.ref a2), (.long (2 : Int64))]))
  obtain ⟨kb221, cd221, N221_, vs221, s1221, s2221, s3221, s4221, s5221, s6221, s7221⟩ := id p2_
  obtain ⟨cq220, kq220, q220a, q220b, q220c⟩ := isOf hZ e219 p2_.exa
  obtain ⟨_, _, ⟨T220, L220, k220, n220⟩, -, X220, ⟨Lc220, hQ220, l220, y220, z220⟩, st220⟩ := X219.virtualBack hx (y := (⟨"java/lang/String", "length", "()I"⟩ : MethodName)) (z := (⟨"java/lang/String", "length", "()I"⟩ : MethodName)) hown (mvT hZ (hw _ (List.mem_of_getElem? (i := 55) rfl))) (mvT hZ (hw _ (List.mem_of_getElem? (i := 56) rfl))) (notFace_of_selects (args := #[]) (mvT hZ (hw _ (List.mem_of_getElem? (i := 58) rfl)))) (mvT hZ (hw _ (List.mem_of_getElem? (i := 58) rfl))) (mvT hZ (hw _ (List.mem_of_getElem? (i := 57) rfl))) (by decide) (StrChars.Road.lenW (W := 2) hZ (own_hln hw) (kI := 4) (hw _ (List.mem_of_getElem? (i := 10) rfl)) s1221 s2221 s3221 s4221 s5221 s6221 (st_COMPACT_STRINGS.ext OL.2) hzc s7221 (by decide) (by decide)) q220a q220c (g := (mkF m 7 #[.val (.ref a1)] [(.ref a2), (.long (2 : Int64))])) rfl (by rw [hml]; rfl) (Steps.refl _) (argsL := []) (rest := [(.long (2 : Int64))]) (lenOf pd_109 rfl) rfl (by show 2 * 0 + _ ≤ _; exact Nat.le_of_eq rfl) (hb hby d_prog_11_method_4_7) (fun _ _ => ⟨rfl, e219, (by decide : 0 + 0 ≤ _), (by decide : 0 + 0 ≤ _)⟩)
  dsimp only [Pt.U, Pt.locs, Pt.cells, Pt.slots] at X220 l220 y220 z220 st220 hQ220
  subst l220 y220 z220
  obtain ⟨rfl, rfl, K220⟩ := hQ220
  have N220 := Fr.app N0 (Fr.nil Z.heap.size)
  refine own_Go.tr st220 ?_
  show own_Go _ _ _ _ (T220.setTop (mkF m 10 #[.val (.ref a1)] [(.int (Int32.ofNat cs.length)), (.long (2 : Int64))]))
  refine own_Go.st (fun _ k => XS.i2l X220.here hx rfl (hb hby d_prog_11_method_4_10) rfl k) ?_
  show own_Go _ _ _ _ (T220.setTop (mkF m 11 #[.val (.ref a1)] [(.long ((Int32.ofNat cs.length).toInt64)), (.long (2 : Int64))]))
  refine own_Go.st (fun _ k => XS.lmul X220.here hx rfl (hb hby d_prog_11_method_4_11) rfl k) ?_
  show own_Go _ _ _ _ (T220.setTop (mkF m 12 #[.val (.ref a1)] [(.long ((2 : Int64) * ((Int32.ofNat cs.length).toInt64)))]))
  refine own_Go.st (fun _ k => XS.aloadN X220.here hx rfl (hb hby d_prog_11_method_4_12) rfl rfl k) ?_
  show own_Go _ _ _ _ (T220.setTop (mkF m 13 #[.val (.ref a1)] [(.ref a1), (.long ((2 : Int64) * ((Int32.ofNat cs.length).toInt64)))]))
  obtain ⟨T222, X222, e222, st222⟩ := getF X220 hx hZ hown (host := "") (Or.inl (hw _ (List.mem_of_getElem? (i := 47) rfl))) Via.refl K220 p1_ (g := (mkF m 13 #[.val (.ref a1)] [(.ref a1), (.long ((2 : Int64) * ((Int32.ofNat cs.length).toInt64)))])) rfl rfl (hb hby d_prog_11_method_4_13)
  refine own_Go.st st222 ?_
  show own_Go _ _ _ _ (T222.setTop (mkF m 16 #[.val (.ref a1)] [(.ref a3), (.long ((2 : Int64) * ((Int32.ofNat cs.length).toInt64)))]))
  obtain ⟨c223, Ar223, q223, S223, Nn223, H223, G223⟩ := id p3_
  refine own_Go.st (X222.arraylength hx (by rw [e222]; exact Ar223.1) (State.isArrayOf_alike hZ.alike Ar223.2.1) (g := (mkF m 16 #[.val (.ref a1)] [(.ref a3), (.long ((2 : Int64) * ((Int32.ofNat cs.length).toInt64)))])) rfl rfl (hb hby d_prog_11_method_4_16)) ?_
  rw [len_of S223 Nn223]
  show own_Go _ _ _ _ (T222.setTop (mkF m 17 #[.val (.ref a1)] [(.int n), (.long ((2 : Int64) * ((Int32.ofNat cs.length).toInt64)))]))
  refine own_Go.st (fun _ k => XS.i2l X222.here hx rfl (hb hby d_prog_11_method_4_17) rfl k) ?_
  show own_Go _ _ _ _ (T222.setTop (mkF m 18 #[.val (.ref a1)] [(.long (n.toInt64)), (.long ((2 : Int64) * ((Int32.ofNat cs.length).toInt64)))]))
  refine own_Go.st (fun _ k => XS.ladd X222.here hx rfl (hb hby d_prog_11_method_4_18) rfl k) ?_
  show own_Go _ _ _ _ (T222.setTop (mkF m 19 #[.val (.ref a1)] [(.long (((2 : Int64) * ((Int32.ofNat cs.length).toInt64)) + (n.toInt64)))]))
  obtain ⟨fs224, hr224, hrun224, hend224, hW224, hsm224⟩ := X222.leave (v := some (.long (((2 : Int64) * ((Int32.ofNat cs.length).toInt64)) + (n.toInt64)))) (fun h => by rw [Bd.returns] at h; cases h)
  subst hPP
  refine ⟨_, _, own_retL X222 hx Bd.returns (hb hby d_prog_11_method_4_19) hr224, hrun224, hend224, _, _, rfl, ?_, ⟨_, rfl⟩, hW224, hsm224.mono (by decide) (by decide)⟩
  · show Q_hb Z a1 a2 a3 t cs k n vs d zc h0 _ T222.heap _
    rw [e222]
    exact ⟨rfl, N220, rfl⟩
theorem d_prog_11_method_2_0 : decode prog_11_method_2_code 0 = .ok (.aload_n 0, 1) := by decide +kernel
theorem d_prog_11_method_2_1 : decode prog_11_method_2_code 1 = .ok (.getfield 7, 3) := by decide +kernel
theorem d_prog_11_method_2_4 : decode prog_11_method_2_code 4 = .ok (.areturn, 1) := by decide +kernel
def Q_topic (Z : State) (a1 : Nat) (a2 : Nat) (h0 : Heap) (v : Option Value) (h : Heap) (L : List Loc) : Prop := v = some (.ref a2) ∧ Fr Z.heap.size L ∧ h = h0
set_option maxRecDepth 65536 in
set_option maxHeartbeats 40000000 in
theorem rm_topic (l : Launch) (Z : State) (a0 : Array Value) (hw : ∀ d ∈ tables_1, d.before a0 Z = true) (ws : List Jvm.Cond) (a1 : Nat) (a2 : Nat) (h0 : Heap) (OL : Old Z Z.heap.size h0) (p0_ : Fld Z h0 a1 "com/example/roaming_pubsub/roamingpubsub/Message" "topic" "Ljava/lang/String;" (.ref a2)) :
    MetFree l (⟨"com/example/roaming_pubsub/roamingpubsub/Message", "topic", "()Ljava/lang/String;"⟩ : MethodName) (head1 (Jvm.Cond.code (⟨"com/example/roaming_pubsub/roamingpubsub/Message", "topic", "()Ljava/lang/String;"⟩ : MethodName) prog_11_method_2_code 1 (some (.object "java/lang/String")) :: ws) ({ frames := 0, cells := 0, slots := 0, locals := 0 } : Room)) (fun a U => a = #[(.ref a1)] ∧ Z.Warmed39 U.vm ∧ U.heap = h0) (fun _ _ _ _ _ => True) (fun _ U o U' => ∃ v L, o = .returned v ∧ Q_topic Z a1 a2 h0 v U'.heap L ∧ FrameEnd U o U' L ({ frames := 0, cells := 0, slots := 0, locals := 0 } : Room).cells ({ frames := 0, cells := 0, slots := 0, locals := 0 } : Room).slots) := by
  refine MetFree.of_bodySF (plainFor_of_name pn_94) hisR ?_
  intro p e s m args below meth c s₁ Bd hml0 hP hK
  obtain ⟨rfl, hZ, hh⟩ := hP
  have hx := Bd.exec
  have hby := Bd.bytes
  have hml : c.maxLocals = 1 := hml0
  have hown : s.vm.findClass "com/example/roaming_pubsub/roamingpubsub/Message" = some m.cls := findClass_of_methodNamed Bd.named
  have hnm := (name_of_methodNamed Bd.named Bd.method).1
  have X0 : Stand p l e ({ frames := 0, cells := 0, slots := 0, locals := 0 } : Room) s m #[(.ref a1)] below meth c s₁ [] 0 0 := Stand.of_body Bd
  have e0 : s₁.heap = h0 := by rw [← hh, Bd.state]; rfl
  have N0 := Fr.nil Z.heap.size
  have Z0 : Z.heap.size ≤ h0.size := OL.2.1
  have lt_0 : @LT.lt Nat _ a1 h0.size := p0_.lt
  obtain ⟨PP, hPP⟩ : ∃ PP : Outcome → State → Prop, PP = (fun o tE => ∃ v L, o = .returned v ∧ Q_topic Z a1 a2 h0 v tE.heap L ∧ FrameEnd s o tE L ({ frames := 0, cells := 0, slots := 0, locals := 0 } : Room).cells ({ frames := 0, cells := 0, slots := 0, locals := 0 } : Room).slots) := ⟨_, rfl⟩
  show own_Go p.tables e below (fun o tE => ∃ v L, o = .returned v ∧ Q_topic Z a1 a2 h0 v tE.heap L ∧ FrameEnd s o tE L ({ frames := 0, cells := 0, slots := 0, locals := 0 } : Room).cells ({ frames := 0, cells := 0, slots := 0, locals := 0 } : Room).slots) (s₁.setTop (entryFrame m #[(.ref a1)] 1))
  rw [← hPP]
  refine own_Go.st (fun t k => castTop (ef_105 m a1) k) ?_
  show own_Go _ _ _ _ (s₁.setTop (mkF m 0 #[.val (.ref a1)] []))
  refine own_Go.st (fun _ k => XS.aloadN X0.here hx rfl (hb hby d_prog_11_method_2_0) rfl rfl k) ?_
  show own_Go _ _ _ _ (s₁.setTop (mkF m 1 #[.val (.ref a1)] [(.ref a1)]))
  obtain ⟨T225, X225, e225, st225⟩ := getF X0 hx hZ hown (host := "") (Or.inl (hw _ (List.mem_of_getElem? (i := 45) rfl))) Via.refl e0 p0_ (g := (mkF m 1 #[.val (.ref a1)] [(.ref a1)])) rfl rfl (hb hby d_prog_11_method_2_1)
  refine own_Go.st st225 ?_
  show own_Go _ _ _ _ (T225.setTop (mkF m 4 #[.val (.ref a1)] [(.ref a2)]))
  obtain ⟨fs226, hr226, hrun226, hend226, hW226, hsm226⟩ := X225.leave (v := some (.ref a2)) (fun h => by rw [Bd.returns] at h; cases h)
  subst hPP
  refine ⟨_, _, own_retA X225 hx Bd.returns rfl rfl (hb hby d_prog_11_method_2_4) hr226, hrun226, hend226, _, _, rfl, ?_, ⟨_, rfl⟩, hW226, hsm226.mono (by decide) (by decide)⟩
  · show Q_topic Z a1 a2 h0 _ T225.heap _
    rw [e225]
    exact ⟨rfl, N0, rfl⟩
theorem d_prog_11_method_3_0 : decode prog_11_method_3_code 0 = .ok (.aload_n 0, 1) := by decide +kernel
theorem d_prog_11_method_3_1 : decode prog_11_method_3_code 1 = .ok (.getfield 13, 3) := by decide +kernel
theorem d_prog_11_method_3_4 : decode prog_11_method_3_code 4 = .ok (.areturn, 1) := by decide +kernel
def Q_payload (Z : State) (a1 : Nat) (a2 : Nat) (h0 : Heap) (v : Option Value) (h : Heap) (L : List Loc) : Prop := v = some (.ref a2) ∧ Fr Z.heap.size L ∧ h = h0
set_option maxRecDepth 65536 in
set_option maxHeartbeats 40000000 in
theorem rm_payload (l : Launch) (Z : State) (a0 : Array Value) (hw : ∀ d ∈ tables_1, d.before a0 Z = true) (ws : List Jvm.Cond) (a1 : Nat) (a2 : Nat) (h0 : Heap) (OL : Old Z Z.heap.size h0) (p0_ : Fld Z h0 a1 "com/example/roaming_pubsub/roamingpubsub/Message" "payload" "[B" (.ref a2)) :
    MetFree l (⟨"com/example/roaming_pubsub/roamingpubsub/Message", "payload", "()[B"⟩ : MethodName) (head1 (Jvm.Cond.code (⟨"com/example/roaming_pubsub/roamingpubsub/Message", "payload", "()[B"⟩ : MethodName) prog_11_method_3_code 1 (some (.array .byte)) :: ws) ({ frames := 0, cells := 0, slots := 0, locals := 0 } : Room)) (fun a U => a = #[(.ref a1)] ∧ Z.Warmed39 U.vm ∧ U.heap = h0) (fun _ _ _ _ _ => True) (fun _ U o U' => ∃ v L, o = .returned v ∧ Q_payload Z a1 a2 h0 v U'.heap L ∧ FrameEnd U o U' L ({ frames := 0, cells := 0, slots := 0, locals := 0 } : Room).cells ({ frames := 0, cells := 0, slots := 0, locals := 0 } : Room).slots) := by
  refine MetFree.of_bodySF (plainFor_of_name pn_94) hisR ?_
  intro p e s m args below meth c s₁ Bd hml0 hP hK
  obtain ⟨rfl, hZ, hh⟩ := hP
  have hx := Bd.exec
  have hby := Bd.bytes
  have hml : c.maxLocals = 1 := hml0
  have hown : s.vm.findClass "com/example/roaming_pubsub/roamingpubsub/Message" = some m.cls := findClass_of_methodNamed Bd.named
  have hnm := (name_of_methodNamed Bd.named Bd.method).1
  have X0 : Stand p l e ({ frames := 0, cells := 0, slots := 0, locals := 0 } : Room) s m #[(.ref a1)] below meth c s₁ [] 0 0 := Stand.of_body Bd
  have e0 : s₁.heap = h0 := by rw [← hh, Bd.state]; rfl
  have N0 := Fr.nil Z.heap.size
  have Z0 : Z.heap.size ≤ h0.size := OL.2.1
  have lt_0 : @LT.lt Nat _ a1 h0.size := p0_.lt
  obtain ⟨PP, hPP⟩ : ∃ PP : Outcome → State → Prop, PP = (fun o tE => ∃ v L, o = .returned v ∧ Q_payload Z a1 a2 h0 v tE.heap L ∧ FrameEnd s o tE L ({ frames := 0, cells := 0, slots := 0, locals := 0 } : Room).cells ({ frames := 0, cells := 0, slots := 0, locals := 0 } : Room).slots) := ⟨_, rfl⟩
  show own_Go p.tables e below (fun o tE => ∃ v L, o = .returned v ∧ Q_payload Z a1 a2 h0 v tE.heap L ∧ FrameEnd s o tE L ({ frames := 0, cells := 0, slots := 0, locals := 0 } : Room).cells ({ frames := 0, cells := 0, slots := 0, locals := 0 } : Room).slots) (s₁.setTop (entryFrame m #[(.ref a1)] 1))
  rw [← hPP]
  refine own_Go.st (fun t k => castTop (ef_105 m a1) k) ?_
  show own_Go _ _ _ _ (s₁.setTop (mkF m 0 #[.val (.ref a1)] []))
  refine own_Go.st (fun _ k => XS.aloadN X0.here hx rfl (hb hby d_prog_11_method_3_0) rfl rfl k) ?_
  show own_Go _ _ _ _ (s₁.setTop (mkF m 1 #[.val (.ref a1)] [(.ref a1)]))
  obtain ⟨T227, X227, e227, st227⟩ := getF X0 hx hZ hown (host := "") (Or.inl (hw _ (List.mem_of_getElem? (i := 47) rfl))) Via.refl e0 p0_ (g := (mkF m 1 #[.val (.ref a1)] [(.ref a1)])) rfl rfl (hb hby d_prog_11_method_3_1)
  refine own_Go.st st227 ?_
  show own_Go _ _ _ _ (T227.setTop (mkF m 4 #[.val (.ref a1)] [(.ref a2)]))
  obtain ⟨fs228, hr228, hrun228, hend228, hW228, hsm228⟩ := X227.leave (v := some (.ref a2)) (fun h => by rw [Bd.returns] at h; cases h)
  subst hPP
  refine ⟨_, _, own_retA X227 hx Bd.returns rfl rfl (hb hby d_prog_11_method_3_4) hr228, hrun228, hend228, _, _, rfl, ?_, ⟨_, rfl⟩, hW228, hsm228.mono (by decide) (by decide)⟩
  · show Q_payload Z a1 a2 h0 _ T227.heap _
    rw [e227]
    exact ⟨rfl, N0, rfl⟩
theorem ef_125 (m : MethodId) (x0 : Int32) (x1 : Int32) (x2 : Int32) (x3 : Int32) : entryFrame m #[(.int x0), (.int x1), (.int x2), (.int x3)] maxLocals = mkF m 0 #[.val (.int x0), .val (.int x1), .val (.int x2), .val (.int x3), .unset, .unset, .unset, .unset, .unset, .unset, .unset, .unset, .unset, .unset, .unset] [] := by first | (simp [entryFrame, mkF, argsToLocals, Value.category, maxLocals]; done) | rfl
theorem pd_126 : parseMethodDescriptor "(I)C" = some ⟨[.int], some .char⟩ := by decide +kernel
theorem pd_127 : parseMethodDescriptor "(ICCCC)Ljava/lang/String;" = some ⟨[.int, .char, .char, .char, .char], some (.object "java/lang/String")⟩ := by decide +kernel
theorem pd_128 : parseMethodDescriptor "(Ljava/lang/String;[B)V" = some ⟨[(.object "java/lang/String"), (.array .byte)], none⟩ := by decide +kernel
theorem pd_129 : parseMethodDescriptor "()J" = some ⟨[], some .long⟩ := by decide +kernel
theorem pd_130 : parseMethodDescriptor "()Ljava/lang/String;" = some ⟨[], some (.object "java/lang/String")⟩ := by decide +kernel
theorem pd_131 : parseMethodDescriptor "()[B" = some ⟨[], some (.array .byte)⟩ := by decide +kernel
def Q_law (Z : State) (p1 : Int32) (p2 : Int32) (p3 : Int32) (p4 : Int32) (zc : Int32) (h0 : Heap) (v : Option Value) (h : Heap) (L : List Loc) : Prop := v = some (.int (1 : Int32)) ∧ Fr Z.heap.size L ∧ Keep h0 h []
set_option maxRecDepth 65536 in
set_option maxHeartbeats 40000000 in
theorem rm_law (l : Launch) (Z : State) (a0 : Array Value) (hw : ∀ d ∈ tables_1, d.before a0 Z = true) (ws : List Jvm.Cond) (p1 : Int32) (p2 : Int32) (p3 : Int32) (p4 : Int32) (zc : Int32) (h0 : Heap) (OL : Old Z Z.heap.size h0) (st_COMPACT_STRINGS : Sta Z Z.heap "java/lang/String" "COMPACT_STRINGS" "Z" (.int zc)) (hzc : ¬ zc = 0) :
    MetFree l x (head1 (Jvm.Cond.code x code maxLocals ret :: ws) room_1) (fun a U => a = #[(.int p1), (.int p2), (.int p3), (.int p4)] ∧ Z.Warmed39 U.vm ∧ U.heap = h0) (fun _ _ _ _ _ => True) (fun _ U o U' => ∃ v L, o = .returned v ∧ Q_law Z p1 p2 p3 p4 zc h0 v U'.heap L ∧ FrameEnd U o U' L 24 2176) := by
  refine MetFree.of_bodySF (plainFor_of_name pn_0) hisR ?_
  intro p e s m args below meth c s₁ Bd hml0 hP hK
  obtain ⟨rfl, hZ, hh⟩ := hP
  have hx := Bd.exec
  have hby := Bd.bytes
  have hml : c.maxLocals = 15 := hml0
  have hown : s.vm.findClass "com/example/roaming_pubsub/roamingpubsub/MessageHeapBytesPinLaw" = some m.cls := findClass_of_methodNamed Bd.named
  have hnm := (name_of_methodNamed Bd.named Bd.method).1
  have X0 : Stand p l e room_1 s m #[(.int p1), (.int p2), (.int p3), (.int p4)] below meth c s₁ [] 0 0 := Stand.of_body Bd
  have e0 : s₁.heap = h0 := by rw [← hh, Bd.state]; rfl
  have N0 := Fr.nil Z.heap.size
  have Z0 : Z.heap.size ≤ h0.size := OL.2.1
  obtain ⟨PP, hPP⟩ : ∃ PP : Outcome → State → Prop, PP = (fun o tE => ∃ v L, o = .returned v ∧ Q_law Z p1 p2 p3 p4 zc h0 v tE.heap L ∧ FrameEnd s o tE L 24 2176) := ⟨_, rfl⟩
  show own_Go p.tables e below (fun o tE => ∃ v L, o = .returned v ∧ Q_law Z p1 p2 p3 p4 zc h0 v tE.heap L ∧ FrameEnd s o tE L 24 2176) (s₁.setTop (entryFrame m #[(.int p1), (.int p2), (.int p3), (.int p4)] maxLocals))
  rw [← hPP]
  refine own_Go.st (fun t k => castTop (ef_125 m p1 p2 p3 p4) k) ?_
  show own_Go _ _ _ _ (s₁.setTop (mkF m 0 #[.val (.int p1), .val (.int p2), .val (.int p3), .val (.int p4), .unset, .unset, .unset, .unset, .unset, .unset, .unset, .unset, .unset, .unset, .unset] []))
  refine own_Go.st (fun _ k => XS.iloadN X0.here hx rfl (hb hby at_0) rfl k) ?_
  show own_Go _ _ _ _ (s₁.setTop (mkF m 1 #[.val (.int p1), .val (.int p2), .val (.int p3), .val (.int p4), .unset, .unset, .unset, .unset, .unset, .unset, .unset, .unset, .unset, .unset, .unset] [(.int p2)]))
  refine own_Go.st (fun _ k => XS.iconst X0.here hx rfl (hb hby at_1) k) ?_
  show own_Go _ _ _ _ (s₁.setTop (mkF m 2 #[.val (.int p1), .val (.int p2), .val (.int p3), .val (.int p4), .unset, .unset, .unset, .unset, .unset, .unset, .unset, .unset, .unset, .unset, .unset] [(.int (3 : Int32)), (.int p2)]))
  refine own_Go.st (fun _ k => XS.iand X0.here hx rfl (hb hby at_2) rfl k) ?_
  show own_Go _ _ _ _ (s₁.setTop (mkF m 3 #[.val (.int p1), .val (.int p2), .val (.int p3), .val (.int p4), .unset, .unset, .unset, .unset, .unset, .unset, .unset, .unset, .unset, .unset, .unset] [(.int (p2 &&& (3 : Int32)))]))
  refine own_Go.st (fun _ k => XS.iconst X0.here hx rfl (hb hby at_3) k) ?_
  show own_Go _ _ _ _ (s₁.setTop (mkF m 4 #[.val (.int p1), .val (.int p2), .val (.int p3), .val (.int p4), .unset, .unset, .unset, .unset, .unset, .unset, .unset, .unset, .unset, .unset, .unset] [(.int (1 : Int32)), (.int (p2 &&& (3 : Int32)))]))
  refine own_Go.st (fun _ k => XS.iadd X0.here hx rfl (hb hby at_4) rfl k) ?_
  show own_Go _ _ _ _ (s₁.setTop (mkF m 5 #[.val (.int p1), .val (.int p2), .val (.int p3), .val (.int p4), .unset, .unset, .unset, .unset, .unset, .unset, .unset, .unset, .unset, .unset, .unset] [(.int ((p2 &&& (3 : Int32)) + (1 : Int32)))]))
  refine own_Go.st (fun _ k => XS.istore X0.here hx rfl (hb hby at_5) rfl (l' := #[.val (.int p1), .val (.int p2), .val (.int p3), .val (.int p4), .val (.int ((p2 &&& (3 : Int32)) + (1 : Int32))), .unset, .unset, .unset, .unset, .unset, .unset, .unset, .unset, .unset, .unset]) rfl k) ?_
  show own_Go _ _ _ _ (s₁.setTop (mkF m 7 #[.val (.int p1), .val (.int p2), .val (.int p3), .val (.int p4), .val (.int ((p2 &&& (3 : Int32)) + (1 : Int32))), .unset, .unset, .unset, .unset, .unset, .unset, .unset, .unset, .unset, .unset] []))
  have hlen := own_len4 p2
  rw [show (p2 &&& (3 : Int32)) + (1 : Int32) = ((p2 &&& (3 : Int32)) + (1 : Int32)) from rfl] at hlen
  generalize hle : ((p2 &&& (3 : Int32)) + (1 : Int32)) = len at hlen ⊢
  refine own_Go.st (fun _ k => XS.iload X0.here hx rfl (hb hby at_7) rfl k) ?_
  show own_Go _ _ _ _ (s₁.setTop (mkF m 9 #[.val (.int p1), .val (.int p2), .val (.int p3), .val (.int p4), .val (.int len), .unset, .unset, .unset, .unset, .unset, .unset, .unset, .unset, .unset, .unset] [(.int len)]))
  refine own_Go.st (fun _ k => XS.iloadN X0.here hx rfl (hb hby at_9) rfl k) ?_
  show own_Go _ _ _ _ (s₁.setTop (mkF m 10 #[.val (.int p1), .val (.int p2), .val (.int p3), .val (.int p4), .val (.int len), .unset, .unset, .unset, .unset, .unset, .unset, .unset, .unset, .unset, .unset] [(.int p1), (.int len)]))
  obtain ⟨_, _, ⟨T229, L229, k229, n229⟩, -, X229, ⟨Lc229, hQ229, l229, y229, z229⟩, st229⟩ := Jvm.LawKit.callS X0 hx (y := (⟨"com/example/roaming_pubsub/roamingpubsub/MessageHeapBytesPinLaw", "letter", "(I)C"⟩ : MethodName)) hown (mvT hZ (hw _ (List.mem_of_getElem? (i := 0) rfl))) (mvT hZ (hw _ (List.mem_of_getElem? (i := 1) rfl))) (mvT hZ (hw _ (List.mem_of_getElem? (i := 2) rfl))) (mvT hZ (hw _ (List.mem_of_getElem? (i := 3) rfl))) (by decide) (backOf (W := 1) (rm_letter l Z a0 hw [] p1 h0 OL ) hZ (hw _ (List.mem_of_getElem? (i := 3) rfl)) (hw _ (List.mem_of_getElem? (i := 2) rfl)) (by decide) (by decide)) (g := (mkF m 10 #[.val (.int p1), .val (.int p2), .val (.int p3), .val (.int p4), .val (.int len), .unset, .unset, .unset, .unset, .unset, .unset, .unset, .unset, .unset, .unset] [(.int p1), (.int len)])) rfl (by rw [hml]; rfl) (argsL := [(.int p1)]) (rest := [(.int len)]) (lenOf pd_126 rfl) rfl (by show 2 * 0 + _ ≤ _; exact Nat.le_of_eq rfl) (hb hby at_10) (fun _ _ => ⟨rfl, e0, (by decide : 0 + 0 ≤ _), (by decide : 0 + 0 ≤ _)⟩)
  dsimp only [Pt.U, Pt.locs, Pt.cells, Pt.slots] at X229 l229 y229 z229 st229 hQ229
  subst l229 y229 z229
  obtain ⟨c_229, rfl, N229q, K229, pr229_0⟩ := hQ229
  have N229 := Fr.app N0 N229q
  refine own_Go.st st229 ?_
  show own_Go _ _ _ _ (T229.setTop (mkF m 13 #[.val (.int p1), .val (.int p2), .val (.int p3), .val (.int p4), .val (.int len), .unset, .unset, .unset, .unset, .unset, .unset, .unset, .unset, .unset, .unset] [(.int c_229), (.int len)]))
  refine own_Go.st (fun _ k => XS.iloadN X229.here hx rfl (hb hby at_13) rfl k) ?_
  show own_Go _ _ _ _ (T229.setTop (mkF m 14 #[.val (.int p1), .val (.int p2), .val (.int p3), .val (.int p4), .val (.int len), .unset, .unset, .unset, .unset, .unset, .unset, .unset, .unset, .unset, .unset] [(.int p1), (.int c_229), (.int len)]))
  refine own_Go.st (fun _ k => XS.iconst X229.here hx rfl (hb hby at_14) k) ?_
  show own_Go _ _ _ _ (T229.setTop (mkF m 15 #[.val (.int p1), .val (.int p2), .val (.int p3), .val (.int p4), .val (.int len), .unset, .unset, .unset, .unset, .unset, .unset, .unset, .unset, .unset, .unset] [(.int (5 : Int32)), (.int p1), (.int c_229), (.int len)]))
  refine own_Go.st (fun _ k => XS.iushr X229.here hx rfl (hb hby at_15) rfl k) ?_
  show own_Go _ _ _ _ (T229.setTop (mkF m 16 #[.val (.int p1), .val (.int p2), .val (.int p3), .val (.int p4), .val (.int len), .unset, .unset, .unset, .unset, .unset, .unset, .unset, .unset, .unset, .unset] [(.int ((p1.toUInt32 >>> ((5 : Int32) &&& 31).toUInt32).toInt32)), (.int c_229), (.int len)]))
  obtain ⟨_, _, ⟨T230, L230, k230, n230⟩, -, X230, ⟨Lc230, hQ230, l230, y230, z230⟩, st230⟩ := Jvm.LawKit.callS X229 hx (y := (⟨"com/example/roaming_pubsub/roamingpubsub/MessageHeapBytesPinLaw", "letter", "(I)C"⟩ : MethodName)) hown (mvT hZ (hw _ (List.mem_of_getElem? (i := 0) rfl))) (mvT hZ (hw _ (List.mem_of_getElem? (i := 1) rfl))) (mvT hZ (hw _ (List.mem_of_getElem? (i := 2) rfl))) (mvT hZ (hw _ (List.mem_of_getElem? (i := 3) rfl))) (by decide) (backOf (W := 2) (rm_letter l Z a0 hw [] ((p1.toUInt32 >>> ((5 : Int32) &&& 31).toUInt32).toInt32) h0 OL ) hZ (hw _ (List.mem_of_getElem? (i := 3) rfl)) (hw _ (List.mem_of_getElem? (i := 2) rfl)) (by decide) (by decide)) (g := (mkF m 16 #[.val (.int p1), .val (.int p2), .val (.int p3), .val (.int p4), .val (.int len), .unset, .unset, .unset, .unset, .unset, .unset, .unset, .unset, .unset, .unset] [(.int ((p1.toUInt32 >>> ((5 : Int32) &&& 31).toUInt32).toInt32)), (.int c_229), (.int len)])) rfl (by rw [hml]; rfl) (argsL := [(.int ((p1.toUInt32 >>> ((5 : Int32) &&& 31).toUInt32).toInt32))]) (rest := [(.int c_229), (.int len)]) (lenOf pd_126 rfl) rfl (by show 2 * 0 + _ ≤ _; exact Nat.le_of_eq rfl) (hb hby at_16) (fun _ _ => ⟨rfl, K229, (by decide : 0 + 0 ≤ _), (by decide : 0 + 0 ≤ _)⟩)
  dsimp only [Pt.U, Pt.locs, Pt.cells, Pt.slots] at X230 l230 y230 z230 st230 hQ230
  subst l230 y230 z230
  obtain ⟨c_230, rfl, N230q, K230, pr230_0⟩ := hQ230
  have N230 := Fr.app N229 N230q
  refine own_Go.st st230 ?_
  show own_Go _ _ _ _ (T230.setTop (mkF m 19 #[.val (.int p1), .val (.int p2), .val (.int p3), .val (.int p4), .val (.int len), .unset, .unset, .unset, .unset, .unset, .unset, .unset, .unset, .unset, .unset] [(.int c_230), (.int c_229), (.int len)]))
  refine own_Go.st (fun _ k => XS.iloadN X230.here hx rfl (hb hby at_19) rfl k) ?_
  show own_Go _ _ _ _ (T230.setTop (mkF m 20 #[.val (.int p1), .val (.int p2), .val (.int p3), .val (.int p4), .val (.int len), .unset, .unset, .unset, .unset, .unset, .unset, .unset, .unset, .unset, .unset] [(.int p1), (.int c_230), (.int c_229), (.int len)]))
  refine own_Go.st (fun _ k => XS.bipush X230.here hx rfl (hb hby at_20) k) ?_
  show own_Go _ _ _ _ (T230.setTop (mkF m 22 #[.val (.int p1), .val (.int p2), .val (.int p3), .val (.int p4), .val (.int len), .unset, .unset, .unset, .unset, .unset, .unset, .unset, .unset, .unset, .unset] [(.int (10 : Int32)), (.int p1), (.int c_230), (.int c_229), (.int len)]))
  refine own_Go.st (fun _ k => XS.iushr X230.here hx rfl (hb hby at_22) rfl k) ?_
  show own_Go _ _ _ _ (T230.setTop (mkF m 23 #[.val (.int p1), .val (.int p2), .val (.int p3), .val (.int p4), .val (.int len), .unset, .unset, .unset, .unset, .unset, .unset, .unset, .unset, .unset, .unset] [(.int ((p1.toUInt32 >>> ((10 : Int32) &&& 31).toUInt32).toInt32)), (.int c_230), (.int c_229), (.int len)]))
  obtain ⟨_, _, ⟨T231, L231, k231, n231⟩, -, X231, ⟨Lc231, hQ231, l231, y231, z231⟩, st231⟩ := Jvm.LawKit.callS X230 hx (y := (⟨"com/example/roaming_pubsub/roamingpubsub/MessageHeapBytesPinLaw", "letter", "(I)C"⟩ : MethodName)) hown (mvT hZ (hw _ (List.mem_of_getElem? (i := 0) rfl))) (mvT hZ (hw _ (List.mem_of_getElem? (i := 1) rfl))) (mvT hZ (hw _ (List.mem_of_getElem? (i := 2) rfl))) (mvT hZ (hw _ (List.mem_of_getElem? (i := 3) rfl))) (by decide) (backOf (W := 3) (rm_letter l Z a0 hw [] ((p1.toUInt32 >>> ((10 : Int32) &&& 31).toUInt32).toInt32) h0 OL ) hZ (hw _ (List.mem_of_getElem? (i := 3) rfl)) (hw _ (List.mem_of_getElem? (i := 2) rfl)) (by decide) (by decide)) (g := (mkF m 23 #[.val (.int p1), .val (.int p2), .val (.int p3), .val (.int p4), .val (.int len), .unset, .unset, .unset, .unset, .unset, .unset, .unset, .unset, .unset, .unset] [(.int ((p1.toUInt32 >>> ((10 : Int32) &&& 31).toUInt32).toInt32)), (.int c_230), (.int c_229), (.int len)])) rfl (by rw [hml]; rfl) (argsL := [(.int ((p1.toUInt32 >>> ((10 : Int32) &&& 31).toUInt32).toInt32))]) (rest := [(.int c_230), (.int c_229), (.int len)]) (lenOf pd_126 rfl) rfl (by show 2 * 0 + _ ≤ _; exact Nat.le_of_eq rfl) (hb hby at_23) (fun _ _ => ⟨rfl, K230, (by decide : 0 + 0 ≤ _), (by decide : 0 + 0 ≤ _)⟩)
  dsimp only [Pt.U, Pt.locs, Pt.cells, Pt.slots] at X231 l231 y231 z231 st231 hQ231
  subst l231 y231 z231
  obtain ⟨c_231, rfl, N231q, K231, pr231_0⟩ := hQ231
  have N231 := Fr.app N230 N231q
  refine own_Go.st st231 ?_
  show own_Go _ _ _ _ (T231.setTop (mkF m 26 #[.val (.int p1), .val (.int p2), .val (.int p3), .val (.int p4), .val (.int len), .unset, .unset, .unset, .unset, .unset, .unset, .unset, .unset, .unset, .unset] [(.int c_231), (.int c_230), (.int c_229), (.int len)]))
  refine own_Go.st (fun _ k => XS.iloadN X231.here hx rfl (hb hby at_26) rfl k) ?_
  show own_Go _ _ _ _ (T231.setTop (mkF m 27 #[.val (.int p1), .val (.int p2), .val (.int p3), .val (.int p4), .val (.int len), .unset, .unset, .unset, .unset, .unset, .unset, .unset, .unset, .unset, .unset] [(.int p1), (.int c_231), (.int c_230), (.int c_229), (.int len)]))
  refine own_Go.st (fun _ k => XS.bipush X231.here hx rfl (hb hby at_27) k) ?_
  show own_Go _ _ _ _ (T231.setTop (mkF m 29 #[.val (.int p1), .val (.int p2), .val (.int p3), .val (.int p4), .val (.int len), .unset, .unset, .unset, .unset, .unset, .unset, .unset, .unset, .unset, .unset] [(.int (15 : Int32)), (.int p1), (.int c_231), (.int c_230), (.int c_229), (.int len)]))
  refine own_Go.st (fun _ k => XS.iushr X231.here hx rfl (hb hby at_29) rfl k) ?_
  show own_Go _ _ _ _ (T231.setTop (mkF m 30 #[.val (.int p1), .val (.int p2), .val (.int p3), .val (.int p4), .val (.int len), .unset, .unset, .unset, .unset, .unset, .unset, .unset, .unset, .unset, .unset] [(.int ((p1.toUInt32 >>> ((15 : Int32) &&& 31).toUInt32).toInt32)), (.int c_231), (.int c_230), (.int c_229), (.int len)]))
  obtain ⟨_, _, ⟨T232, L232, k232, n232⟩, -, X232, ⟨Lc232, hQ232, l232, y232, z232⟩, st232⟩ := Jvm.LawKit.callS X231 hx (y := (⟨"com/example/roaming_pubsub/roamingpubsub/MessageHeapBytesPinLaw", "letter", "(I)C"⟩ : MethodName)) hown (mvT hZ (hw _ (List.mem_of_getElem? (i := 0) rfl))) (mvT hZ (hw _ (List.mem_of_getElem? (i := 1) rfl))) (mvT hZ (hw _ (List.mem_of_getElem? (i := 2) rfl))) (mvT hZ (hw _ (List.mem_of_getElem? (i := 3) rfl))) (by decide) (backOf (W := 4) (rm_letter l Z a0 hw [] ((p1.toUInt32 >>> ((15 : Int32) &&& 31).toUInt32).toInt32) h0 OL ) hZ (hw _ (List.mem_of_getElem? (i := 3) rfl)) (hw _ (List.mem_of_getElem? (i := 2) rfl)) (by decide) (by decide)) (g := (mkF m 30 #[.val (.int p1), .val (.int p2), .val (.int p3), .val (.int p4), .val (.int len), .unset, .unset, .unset, .unset, .unset, .unset, .unset, .unset, .unset, .unset] [(.int ((p1.toUInt32 >>> ((15 : Int32) &&& 31).toUInt32).toInt32)), (.int c_231), (.int c_230), (.int c_229), (.int len)])) rfl (by rw [hml]; rfl) (argsL := [(.int ((p1.toUInt32 >>> ((15 : Int32) &&& 31).toUInt32).toInt32))]) (rest := [(.int c_231), (.int c_230), (.int c_229), (.int len)]) (lenOf pd_126 rfl) rfl (by show 2 * 0 + _ ≤ _; exact Nat.le_of_eq rfl) (hb hby at_30) (fun _ _ => ⟨rfl, K231, (by decide : 0 + 0 ≤ _), (by decide : 0 + 0 ≤ _)⟩)
  dsimp only [Pt.U, Pt.locs, Pt.cells, Pt.slots] at X232 l232 y232 z232 st232 hQ232
  subst l232 y232 z232
  obtain ⟨c_232, rfl, N232q, K232, pr232_0⟩ := hQ232
  have N232 := Fr.app N231 N232q
  refine own_Go.st st232 ?_
  show own_Go _ _ _ _ (T232.setTop (mkF m 33 #[.val (.int p1), .val (.int p2), .val (.int p3), .val (.int p4), .val (.int len), .unset, .unset, .unset, .unset, .unset, .unset, .unset, .unset, .unset, .unset] [(.int c_232), (.int c_231), (.int c_230), (.int c_229), (.int len)]))
  obtain ⟨_, _, ⟨T233, L233, k233, n233⟩, -, X233, ⟨Lc233, hQ233, l233, y233, z233⟩, st233⟩ := Jvm.LawKit.callS X232 hx (y := (⟨"com/example/roaming_pubsub/roamingpubsub/MessageHeapBytesPinLaw", "make", "(ICCCC)Ljava/lang/String;"⟩ : MethodName)) hown (mvT hZ (hw _ (List.mem_of_getElem? (i := 5) rfl))) (mvT hZ (hw _ (List.mem_of_getElem? (i := 6) rfl))) (mvT hZ (hw _ (List.mem_of_getElem? (i := 2) rfl))) (mvT hZ (hw _ (List.mem_of_getElem? (i := 7) rfl))) (by decide) (backOf (W := 0) (rm_make l Z a0 hw [] len c_229 c_230 c_231 c_232 zc h0 OL st_COMPACT_STRINGS (by first | assumption | decide) hlen (by first | assumption | decide) (by first | assumption | decide) (by first | assumption | decide) (by first | assumption | decide)) hZ (hw _ (List.mem_of_getElem? (i := 7) rfl)) (hw _ (List.mem_of_getElem? (i := 2) rfl)) (by decide) (by decide)) (g := (mkF m 33 #[.val (.int p1), .val (.int p2), .val (.int p3), .val (.int p4), .val (.int len), .unset, .unset, .unset, .unset, .unset, .unset, .unset, .unset, .unset, .unset] [(.int c_232), (.int c_231), (.int c_230), (.int c_229), (.int len)])) rfl (by rw [hml]; rfl) (argsL := [(.int len), (.int c_229), (.int c_230), (.int c_231), (.int c_232)]) (rest := []) (lenOf pd_127 rfl) rfl (by show 2 * 0 + _ ≤ _; exact Nat.le_of_eq rfl) (hb hby at_33) (fun _ _ => ⟨rfl, K232, (by decide : 0 + 3 ≤ _), (by decide : 0 + 12 ≤ _)⟩)
  dsimp only [Pt.U, Pt.locs, Pt.cells, Pt.slots] at X233 l233 y233 z233 st233 hQ233
  subst l233 y233 z233
  obtain ⟨x_233, t_233, cs_233, rfl, N233q, K233, f233_0, pr233_0, pr233_1⟩ := hQ233
  have N233 := Fr.app N232 N233q
  have z233 : h0.size ≤ T233.heap.size := K233.1
  have lt233_0 : @LT.lt Nat _ x_233 T233.heap.size := f233_0.lt
  have ltv233_0 : @LT.lt Nat _ t_233 T233.heap.size := f233_0.ltv
  refine own_Go.st st233 ?_
  show own_Go _ _ _ _ (T233.setTop (mkF m 36 #[.val (.int p1), .val (.int p2), .val (.int p3), .val (.int p4), .val (.int len), .unset, .unset, .unset, .unset, .unset, .unset, .unset, .unset, .unset, .unset] [(.ref x_233)]))
  refine own_Go.st (fun _ k => XS.astore X233.here hx rfl (hb hby at_36) rfl rfl (l' := #[.val (.int p1), .val (.int p2), .val (.int p3), .val (.int p4), .val (.int len), .val (.ref x_233), .unset, .unset, .unset, .unset, .unset, .unset, .unset, .unset, .unset]) rfl k) ?_
  show own_Go _ _ _ _ (T233.setTop (mkF m 38 #[.val (.int p1), .val (.int p2), .val (.int p3), .val (.int p4), .val (.int len), .val (.ref x_233), .unset, .unset, .unset, .unset, .unset, .unset, .unset, .unset, .unset] []))
  refine own_Go.st (fun _ k => XS.iloadN X233.here hx rfl (hb hby at_38) rfl k) ?_
  show own_Go _ _ _ _ (T233.setTop (mkF m 39 #[.val (.int p1), .val (.int p2), .val (.int p3), .val (.int p4), .val (.int len), .val (.ref x_233), .unset, .unset, .unset, .unset, .unset, .unset, .unset, .unset, .unset] [(.int p3)]))
  refine own_Go.st (fun _ k => XS.sipush X233.here hx rfl (hb hby at_39) k) ?_
  show own_Go _ _ _ _ (T233.setTop (mkF m 42 #[.val (.int p1), .val (.int p2), .val (.int p3), .val (.int p4), .val (.int len), .val (.ref x_233), .unset, .unset, .unset, .unset, .unset, .unset, .unset, .unset, .unset] [(.int (1023 : Int32)), (.int p3)]))
  refine own_Go.st (fun _ k => XS.iand X233.here hx rfl (hb hby at_42) rfl k) ?_
  show own_Go _ _ _ _ (T233.setTop (mkF m 43 #[.val (.int p1), .val (.int p2), .val (.int p3), .val (.int p4), .val (.int len), .val (.ref x_233), .unset, .unset, .unset, .unset, .unset, .unset, .unset, .unset, .unset] [(.int (p3 &&& (1023 : Int32)))]))
  refine own_Go.st (fun _ k => XS.istore X233.here hx rfl (hb hby at_43) rfl (l' := #[.val (.int p1), .val (.int p2), .val (.int p3), .val (.int p4), .val (.int len), .val (.ref x_233), .val (.int (p3 &&& (1023 : Int32))), .unset, .unset, .unset, .unset, .unset, .unset, .unset, .unset]) rfl k) ?_
  show own_Go _ _ _ _ (T233.setTop (mkF m 45 #[.val (.int p1), .val (.int p2), .val (.int p3), .val (.int p4), .val (.int len), .val (.ref x_233), .val (.int (p3 &&& (1023 : Int32))), .unset, .unset, .unset, .unset, .unset, .unset, .unset, .unset] []))
  obtain ⟨hm0, hm1, hm2⟩ := own_m p3
  generalize hme : (p3 &&& (1023 : Int32)) = mm at hm0 hm1 hm2 ⊢
  refine own_Go.st (fun _ k => XS.iload X233.here hx rfl (hb hby at_45) rfl k) ?_
  show own_Go _ _ _ _ (T233.setTop (mkF m 47 #[.val (.int p1), .val (.int p2), .val (.int p3), .val (.int p4), .val (.int len), .val (.ref x_233), .val (.int mm), .unset, .unset, .unset, .unset, .unset, .unset, .unset, .unset] [(.int mm)]))
  obtain ⟨T234, h234, k234, X234, e234, E234, A234, st234⟩ := newP X233 hx hZ (hw _ (List.mem_of_getElem? (i := 27) rfl)) rfl (g := (mkF m 47 #[.val (.int p1), .val (.int p2), .val (.int p3), .val (.int p4), .val (.int len), .val (.ref x_233), .val (.int mm), .unset, .unset, .unset, .unset, .unset, .unset, .unset, .unset] [(.int mm)])) rfl (hb hby at_47) rfl hm0 (cap := 1023) hm2 (by decide) (by decide) (by decide)
  obtain ⟨b234, g234⟩ : ∃ z, z = T233.heap.size := ⟨_, rfl⟩
  rw [← g234] at A234 st234
  refine own_Go.st st234 ?_
  have z234 : T233.heap.size ≤ h234.size := E234.1
  have f235 : Arv Z h234 b234 k234 .byte mm [] (.int (0 : Int32)) := Arv.new A234 hm0
  have lt_b234 : @LT.lt Nat _ b234 h234.size := f235.lt
  show own_Go _ _ _ _ (T234.setTop (mkF m 49 #[.val (.int p1), .val (.int p2), .val (.int p3), .val (.int p4), .val (.int len), .val (.ref x_233), .val (.int mm), .unset, .unset, .unset, .unset, .unset, .unset, .unset, .unset] [(.ref b234)]))
  refine own_Go.st (fun _ k => XS.astore X234.here hx rfl (hb hby at_49) rfl rfl (l' := #[.val (.int p1), .val (.int p2), .val (.int p3), .val (.int p4), .val (.int len), .val (.ref x_233), .val (.int mm), .val (.ref b234), .unset, .unset, .unset, .unset, .unset, .unset, .unset]) rfl k) ?_
  show own_Go _ _ _ _ (T234.setTop (mkF m 51 #[.val (.int p1), .val (.int p2), .val (.int p3), .val (.int p4), .val (.int len), .val (.ref x_233), .val (.int mm), .val (.ref b234), .unset, .unset, .unset, .unset, .unset, .unset, .unset] []))
  have f236 : Arv Z h234 b234 k234 .byte mm ([] ++ List.replicate 1024 (Value.int (0 : Int32))) (.int (0 : Int32)) := f235.pad (pad_rep [] _ 1024)
  refine own_Go.st (fun _ k => XS.iload X234.here hx rfl (hb hby at_51) rfl k) ?_
  show own_Go _ _ _ _ (T234.setTop (mkF m 53 #[.val (.int p1), .val (.int p2), .val (.int p3), .val (.int p4), .val (.int len), .val (.ref x_233), .val (.int mm), .val (.ref b234), .unset, .unset, .unset, .unset, .unset, .unset, .unset] [(.int mm)]))
  by_cases hq53 : (0 : Int32) < mm
  ·
    refine own_Go.st (fun _ k => XS.ifNo X234.here hx rfl (hb hby at_53) rfl ((if0 _ _).trans (tlt hq53).2.2.2) k) ?_
    show own_Go _ _ _ _ (T234.setTop (mkF m 56 #[.val (.int p1), .val (.int p2), .val (.int p3), .val (.int p4), .val (.int len), .val (.ref x_233), .val (.int mm), .val (.ref b234), .unset, .unset, .unset, .unset, .unset, .unset, .unset] []))
    refine own_Go.st (fun _ k => XS.aload X234.here hx rfl (hb hby at_56) rfl rfl k) ?_
    show own_Go _ _ _ _ (T234.setTop (mkF m 58 #[.val (.int p1), .val (.int p2), .val (.int p3), .val (.int p4), .val (.int len), .val (.ref x_233), .val (.int mm), .val (.ref b234), .unset, .unset, .unset, .unset, .unset, .unset, .unset] [(.ref b234)]))
    refine own_Go.st (fun _ k => XS.iconst X234.here hx rfl (hb hby at_58) k) ?_
    show own_Go _ _ _ _ (T234.setTop (mkF m 59 #[.val (.int p1), .val (.int p2), .val (.int p3), .val (.int p4), .val (.int len), .val (.ref x_233), .val (.int mm), .val (.ref b234), .unset, .unset, .unset, .unset, .unset, .unset, .unset] [(.int (0 : Int32)), (.ref b234)]))
    refine own_Go.st (fun _ k => XS.iloadN X234.here hx rfl (hb hby at_59) rfl k) ?_
    show own_Go _ _ _ _ (T234.setTop (mkF m 60 #[.val (.int p1), .val (.int p2), .val (.int p3), .val (.int p4), .val (.int len), .val (.ref x_233), .val (.int mm), .val (.ref b234), .unset, .unset, .unset, .unset, .unset, .unset, .unset] [(.int p4), (.int (0 : Int32)), (.ref b234)]))
    refine own_Go.st (fun _ k => XS.i2b X234.here hx rfl (hb hby at_60) rfl k) ?_
    show own_Go _ _ _ _ (T234.setTop (mkF m 61 #[.val (.int p1), .val (.int p2), .val (.int p3), .val (.int p4), .val (.int len), .val (.ref x_233), .val (.int mm), .val (.ref b234), .unset, .unset, .unset, .unset, .unset, .unset, .unset] [(.int (p4.toInt8.toInt32)), (.int (0 : Int32)), (.ref b234)]))
    obtain ⟨c237, Ar237, q237, S237, Nn237, H237, G237⟩ := id f236
    have hin237 : ¬ ((0 : Int32) < 0 ∨ c237.slots.size ≤ ((0 : Int32)).toNatClampNeg) := inb_of S237 ⟨by decide, hq53⟩
    obtain ⟨T237, h237, X237, e237, W237, st237⟩ := stB X234 hx hZ e234 Ar237 (j := (0 : Int32)) hin237 (g := (mkF m 61 #[.val (.int p1), .val (.int p2), .val (.int p3), .val (.int p4), .val (.int len), .val (.ref x_233), .val (.int mm), .val (.ref b234), .unset, .unset, .unset, .unset, .unset, .unset, .unset] [(.int (p4.toInt8.toInt32)), (.int (0 : Int32)), (.ref b234)])) rfl rfl (hb hby at_61)
    refine own_Go.st st237 ?_
    have N237 := Fr.snoc X237 N233 (by omega)
    have z237 : h234.size ≤ h237.size := Nat.le_of_eq W237.size.symm
    have f239 : Arv Z h237 b234 k234 .byte mm (([] ++ List.replicate 1024 (Value.int (0 : Int32))).set 0 (Value.int (nar .byte (p4.toInt8.toInt32)))) (.int (0 : Int32)) := Arv.set Ar237 q237 S237 Nn237 H237 G237 (fits_nar_byte _) W237 0 rfl (by simp only [List.length_set, List.length_append, List.length_replicate, List.length_nil]; exact (by decide))
    show own_Go _ _ _ _ (T237.setTop (mkF m 62 #[.val (.int p1), .val (.int p2), .val (.int p3), .val (.int p4), .val (.int len), .val (.ref x_233), .val (.int mm), .val (.ref b234), .unset, .unset, .unset, .unset, .unset, .unset, .unset] []))
    refine own_Go.st (fun _ k => XS.iload X237.here hx rfl (hb hby at_62) rfl k) ?_
    show own_Go _ _ _ _ (T237.setTop (mkF m 64 #[.val (.int p1), .val (.int p2), .val (.int p3), .val (.int p4), .val (.int len), .val (.ref x_233), .val (.int mm), .val (.ref b234), .unset, .unset, .unset, .unset, .unset, .unset, .unset] [(.int mm)]))
    refine own_Go.st (fun _ k => XS.iconst X237.here hx rfl (hb hby at_64) k) ?_
    show own_Go _ _ _ _ (T237.setTop (mkF m 65 #[.val (.int p1), .val (.int p2), .val (.int p3), .val (.int p4), .val (.int len), .val (.ref x_233), .val (.int mm), .val (.ref b234), .unset, .unset, .unset, .unset, .unset, .unset, .unset] [(.int (1 : Int32)), (.int mm)]))
    by_cases hq65 : (1 : Int32) < mm
    ·
      refine own_Go.st (fun _ k => XS.icmpNo X237.here hx rfl (hb hby at_65) rfl (tlt hq65).2.2.2 k) ?_
      show own_Go _ _ _ _ (T237.setTop (mkF m 68 #[.val (.int p1), .val (.int p2), .val (.int p3), .val (.int p4), .val (.int len), .val (.ref x_233), .val (.int mm), .val (.ref b234), .unset, .unset, .unset, .unset, .unset, .unset, .unset] []))
      refine own_Go.st (fun _ k => XS.aload X237.here hx rfl (hb hby at_68) rfl rfl k) ?_
      show own_Go _ _ _ _ (T237.setTop (mkF m 70 #[.val (.int p1), .val (.int p2), .val (.int p3), .val (.int p4), .val (.int len), .val (.ref x_233), .val (.int mm), .val (.ref b234), .unset, .unset, .unset, .unset, .unset, .unset, .unset] [(.ref b234)]))
      refine own_Go.st (fun _ k => XS.iload X237.here hx rfl (hb hby at_70) rfl k) ?_
      show own_Go _ _ _ _ (T237.setTop (mkF m 72 #[.val (.int p1), .val (.int p2), .val (.int p3), .val (.int p4), .val (.int len), .val (.ref x_233), .val (.int mm), .val (.ref b234), .unset, .unset, .unset, .unset, .unset, .unset, .unset] [(.int mm), (.ref b234)]))
      refine own_Go.st (fun _ k => XS.iconst X237.here hx rfl (hb hby at_72) k) ?_
      show own_Go _ _ _ _ (T237.setTop (mkF m 73 #[.val (.int p1), .val (.int p2), .val (.int p3), .val (.int p4), .val (.int len), .val (.ref x_233), .val (.int mm), .val (.ref b234), .unset, .unset, .unset, .unset, .unset, .unset, .unset] [(.int (1 : Int32)), (.int mm), (.ref b234)]))
      refine own_Go.st (fun _ k => XS.isub X237.here hx rfl (hb hby at_73) rfl k) ?_
      show own_Go _ _ _ _ (T237.setTop (mkF m 74 #[.val (.int p1), .val (.int p2), .val (.int p3), .val (.int p4), .val (.int len), .val (.ref x_233), .val (.int mm), .val (.ref b234), .unset, .unset, .unset, .unset, .unset, .unset, .unset] [(.int (mm - (1 : Int32))), (.ref b234)]))
      refine own_Go.st (fun _ k => XS.iloadN X237.here hx rfl (hb hby at_74) rfl k) ?_
      show own_Go _ _ _ _ (T237.setTop (mkF m 75 #[.val (.int p1), .val (.int p2), .val (.int p3), .val (.int p4), .val (.int len), .val (.ref x_233), .val (.int mm), .val (.ref b234), .unset, .unset, .unset, .unset, .unset, .unset, .unset] [(.int p4), (.int (mm - (1 : Int32))), (.ref b234)]))
      refine own_Go.st (fun _ k => XS.bipush X237.here hx rfl (hb hby at_75) k) ?_
      show own_Go _ _ _ _ (T237.setTop (mkF m 77 #[.val (.int p1), .val (.int p2), .val (.int p3), .val (.int p4), .val (.int len), .val (.ref x_233), .val (.int mm), .val (.ref b234), .unset, .unset, .unset, .unset, .unset, .unset, .unset] [(.int (8 : Int32)), (.int p4), (.int (mm - (1 : Int32))), (.ref b234)]))
      refine own_Go.st (fun _ k => XS.iushr X237.here hx rfl (hb hby at_77) rfl k) ?_
      show own_Go _ _ _ _ (T237.setTop (mkF m 78 #[.val (.int p1), .val (.int p2), .val (.int p3), .val (.int p4), .val (.int len), .val (.ref x_233), .val (.int mm), .val (.ref b234), .unset, .unset, .unset, .unset, .unset, .unset, .unset] [(.int ((p4.toUInt32 >>> ((8 : Int32) &&& 31).toUInt32).toInt32)), (.int (mm - (1 : Int32))), (.ref b234)]))
      refine own_Go.st (fun _ k => XS.i2b X237.here hx rfl (hb hby at_78) rfl k) ?_
      show own_Go _ _ _ _ (T237.setTop (mkF m 79 #[.val (.int p1), .val (.int p2), .val (.int p3), .val (.int p4), .val (.int len), .val (.ref x_233), .val (.int mm), .val (.ref b234), .unset, .unset, .unset, .unset, .unset, .unset, .unset] [(.int (((p4.toUInt32 >>> ((8 : Int32) &&& 31).toUInt32).toInt32).toInt8.toInt32)), (.int (mm - (1 : Int32))), (.ref b234)]))
      obtain ⟨c240, Ar240, q240, S240, Nn240, H240, G240⟩ := id f239
      have hin240 : ¬ ((mm - (1 : Int32)) < 0 ∨ c240.slots.size ≤ ((mm - (1 : Int32))).toNatClampNeg) := inb_of S240 (own_m1 hq65 hm1).1
      obtain ⟨T240, h240, X240, e240, W240, st240⟩ := stB X237 hx hZ e237 Ar240 (j := (mm - (1 : Int32))) hin240 (g := (mkF m 79 #[.val (.int p1), .val (.int p2), .val (.int p3), .val (.int p4), .val (.int len), .val (.ref x_233), .val (.int mm), .val (.ref b234), .unset, .unset, .unset, .unset, .unset, .unset, .unset] [(.int (((p4.toUInt32 >>> ((8 : Int32) &&& 31).toUInt32).toInt32).toInt8.toInt32)), (.int (mm - (1 : Int32))), (.ref b234)])) rfl rfl (hb hby at_79)
      refine own_Go.st st240 ?_
      have N240 := Fr.snoc X240 N237 (by omega)
      have z240 : h237.size ≤ h240.size := Nat.le_of_eq W240.size.symm
      have f242 : Arv Z h240 b234 k234 .byte mm ((([] ++ List.replicate 1024 (Value.int (0 : Int32))).set 0 (Value.int (nar .byte (p4.toInt8.toInt32)))).set (mm - (1 : Int32)).toNatClampNeg (Value.int (nar .byte (((p4.toUInt32 >>> ((8 : Int32) &&& 31).toUInt32).toInt32).toInt8.toInt32)))) (.int (0 : Int32)) := Arv.set Ar240 q240 S240 Nn240 H240 G240 (fits_nar_byte _) W240 (mm - (1 : Int32)).toNatClampNeg rfl (by simp only [List.length_set, List.length_append, List.length_replicate, List.length_nil]; exact (by have := (own_m1 hq65 hm1).2; omega))
      show own_Go _ _ _ _ (T240.setTop (mkF m 80 #[.val (.int p1), .val (.int p2), .val (.int p3), .val (.int p4), .val (.int len), .val (.ref x_233), .val (.int mm), .val (.ref b234), .unset, .unset, .unset, .unset, .unset, .unset, .unset] []))
      obtain ⟨T243, h243, X243, e243, E243, A243, D243, U243, st243⟩ := newO X240 hx hZ hown (hw _ (List.mem_of_getElem? (i := 38) rfl)) (hw _ (List.mem_of_getElem? (i := 39) rfl)) (hw _ (List.mem_of_getElem? (i := 40) rfl)) e240 (g := (mkF m 80 #[.val (.int p1), .val (.int p2), .val (.int p3), .val (.int p4), .val (.int len), .val (.ref x_233), .val (.int mm), .val (.ref b234), .unset, .unset, .unset, .unset, .unset, .unset, .unset] [])) rfl (hb hby at_80) (by decide) (by decide)
      obtain ⟨b243, g243⟩ : ∃ z, z = h240.size := ⟨_, rfl⟩
      rw [← g243] at A243 D243 U243 st243
      refine own_Go.st st243 ?_
      have z243 : h240.size ≤ h243.size := E243.1
      have lt_b243 : @LT.lt Nat _ b243 h243.size := A243.lt
      have f244 : Fld Z h243 b243 "com/example/roaming_pubsub/roamingpubsub/Message" "topic" "Ljava/lang/String;" .null := D243 (Or.inr (hw _ (List.mem_of_getElem? (i := 46) rfl))) (ty := (.object "java/lang/String")) (by decide)
      have f245 : Fld Z h243 b243 "com/example/roaming_pubsub/roamingpubsub/Message" "payload" "[B" .null := D243 (Or.inr (hw _ (List.mem_of_getElem? (i := 48) rfl))) (ty := (.array .byte)) (by decide)
      show own_Go _ _ _ _ (T243.setTop (mkF m 83 #[.val (.int p1), .val (.int p2), .val (.int p3), .val (.int p4), .val (.int len), .val (.ref x_233), .val (.int mm), .val (.ref b234), .unset, .unset, .unset, .unset, .unset, .unset, .unset] [(.ref b243)]))
      refine own_Go.st (fun _ k => XS.dup X243.here hx rfl (hb hby at_83) rfl rfl k) ?_
      show own_Go _ _ _ _ (T243.setTop (mkF m 84 #[.val (.int p1), .val (.int p2), .val (.int p3), .val (.int p4), .val (.int len), .val (.ref x_233), .val (.int mm), .val (.ref b234), .unset, .unset, .unset, .unset, .unset, .unset, .unset] [(.ref b243), (.ref b243)]))
      refine own_Go.st (fun _ k => XS.aload X243.here hx rfl (hb hby at_84) rfl rfl k) ?_
      show own_Go _ _ _ _ (T243.setTop (mkF m 86 #[.val (.int p1), .val (.int p2), .val (.int p3), .val (.int p4), .val (.int len), .val (.ref x_233), .val (.int mm), .val (.ref b234), .unset, .unset, .unset, .unset, .unset, .unset, .unset] [(.ref x_233), (.ref b243), (.ref b243)]))
      refine own_Go.st (fun _ k => XS.aload X243.here hx rfl (hb hby at_86) rfl rfl k) ?_
      show own_Go _ _ _ _ (T243.setTop (mkF m 88 #[.val (.int p1), .val (.int p2), .val (.int p3), .val (.int p4), .val (.int len), .val (.ref x_233), .val (.int mm), .val (.ref b234), .unset, .unset, .unset, .unset, .unset, .unset, .unset] [(.ref b234), (.ref x_233), (.ref b243), (.ref b243)]))
      have f247 : Old Z Z.heap.size T233.heap := OL.keep K233 all0
      have f248 : Old Z Z.heap.size h234 := f247.ext E234
      have f249 : Old Z Z.heap.size h237 := f248.wr W237 (by omega)
      have f250 : Old Z Z.heap.size h240 := f249.wr W240 (by omega)
      have f251 : Old Z Z.heap.size h243 := f250.ext E243
      obtain ⟨_, _, ⟨T246, L246, k246, n246⟩, -, X246, ⟨Lc246, hQ246, l246, y246, z246⟩, st246⟩ := X243.specialBack hx (y := (⟨"com/example/roaming_pubsub/roamingpubsub/Message", "<init>", "(Ljava/lang/String;[B)V"⟩ : MethodName)) rfl hown (mvT hZ (hw _ (List.mem_of_getElem? (i := 41) rfl))) (mvT hZ (hw _ (List.mem_of_getElem? (i := 42) rfl))) (mvT hZ (hw _ (List.mem_of_getElem? (i := 43) rfl))) (by decide) (backOf (W := 1) (rm_minit l Z a0 hw [] b243 x_233 b234 h243 f251 A243 f244 f245 (by omega)) hZ (hw _ (List.mem_of_getElem? (i := 43) rfl)) (hw _ (List.mem_of_getElem? (i := 40) rfl)) (by decide) (by decide)) (g := (mkF m 88 #[.val (.int p1), .val (.int p2), .val (.int p3), .val (.int p4), .val (.int len), .val (.ref x_233), .val (.int mm), .val (.ref b234), .unset, .unset, .unset, .unset, .unset, .unset, .unset] [(.ref b234), (.ref x_233), (.ref b243), (.ref b243)])) rfl (by rw [hml]; rfl) (Steps.refl _) (a := b243) (argsL := [(.ref x_233), (.ref b234)]) (rest := [(.ref b243)]) (lenOf pd_128 rfl) rfl (by show 2 * 0 + _ ≤ _; exact Nat.le_of_eq rfl) (hb hby at_88) (fun _ _ => ⟨rfl, e243, (by decide : 5 + 0 ≤ _), (by decide : 1037 + 0 ≤ _)⟩)
      dsimp only [Pt.U, Pt.locs, Pt.cells, Pt.slots] at X246 l246 y246 z246 st246 hQ246
      subst l246 y246 z246
      obtain ⟨rfl, N246q, K246, f246_0, f246_1, f246_2⟩ := hQ246
      have N246 := Fr.app N240 N246q
      have z246 : h243.size ≤ T246.heap.size := K246.1
      have lt246_0 : @LT.lt Nat _ b243 T246.heap.size := f246_0.lt
      have lt246_1 : @LT.lt Nat _ b243 T246.heap.size := f246_1.lt
      have lt246_2 : @LT.lt Nat _ b243 T246.heap.size := f246_2.lt
      refine own_Go.tr st246 ?_
      show own_Go _ _ _ _ (T246.setTop (mkF m 91 #[.val (.int p1), .val (.int p2), .val (.int p3), .val (.int p4), .val (.int len), .val (.ref x_233), .val (.int mm), .val (.ref b234), .unset, .unset, .unset, .unset, .unset, .unset, .unset] [(.ref b243)]))
      refine own_Go.st (fun _ k => XS.astore X246.here hx rfl (hb hby at_91) rfl rfl (l' := #[.val (.int p1), .val (.int p2), .val (.int p3), .val (.int p4), .val (.int len), .val (.ref x_233), .val (.int mm), .val (.ref b234), .val (.ref b243), .unset, .unset, .unset, .unset, .unset, .unset]) rfl k) ?_
      show own_Go _ _ _ _ (T246.setTop (mkF m 93 #[.val (.int p1), .val (.int p2), .val (.int p3), .val (.int p4), .val (.int len), .val (.ref x_233), .val (.int mm), .val (.ref b234), .val (.ref b243), .unset, .unset, .unset, .unset, .unset, .unset] []))
      refine own_Go.st (fun _ k => XS.aload X246.here hx rfl (hb hby at_93) rfl rfl k) ?_
      show own_Go _ _ _ _ (T246.setTop (mkF m 95 #[.val (.int p1), .val (.int p2), .val (.int p3), .val (.int p4), .val (.int len), .val (.ref x_233), .val (.int mm), .val (.ref b234), .val (.ref b243), .unset, .unset, .unset, .unset, .unset, .unset] [(.ref b243)]))
      have f253 : own_Str Z h234 x_233 t_233 cs_233 := f233_0.ext E234
      have f254 : own_Str Z h237 x_233 t_233 cs_233 := f253.other W237 (by show @Ne Nat x_233 b234; omega) (by show @Ne Nat t_233 b234; omega)
      have f255 : own_Str Z h240 x_233 t_233 cs_233 := f254.other W240 (by show @Ne Nat x_233 b234; omega) (by show @Ne Nat t_233 b234; omega)
      have f256 : own_Str Z h243 x_233 t_233 cs_233 := f255.ext E243
      have f257 : own_Str Z T246.heap x_233 t_233 cs_233 := f256.keep K246 (ninS (by show @Ne Nat x_233 b243; omega) nin0) (ninS (by show @Ne Nat t_233 b243; omega) nin0)
      have f258 : Arv Z h243 b234 k234 .byte mm ((([] ++ List.replicate 1024 (Value.int (0 : Int32))).set 0 (Value.int (nar .byte (p4.toInt8.toInt32)))).set (mm - (1 : Int32)).toNatClampNeg (Value.int (nar .byte (((p4.toUInt32 >>> ((8 : Int32) &&& 31).toUInt32).toInt32).toInt8.toInt32)))) (.int (0 : Int32)) := f242.ext E243
      have f259 : Arv Z T246.heap b234 k234 .byte mm ((([] ++ List.replicate 1024 (Value.int (0 : Int32))).set 0 (Value.int (nar .byte (p4.toInt8.toInt32)))).set (mm - (1 : Int32)).toNatClampNeg (Value.int (nar .byte (((p4.toUInt32 >>> ((8 : Int32) &&& 31).toUInt32).toInt32).toInt8.toInt32)))) (.int (0 : Int32)) := f258.keep K246 (ninS (by show @Ne Nat b234 b243; omega) nin0)
      have f260 : Old Z Z.heap.size T246.heap := f251.keep K246 (allS (by omega) all0)
      obtain ⟨cq252, kq252, q252a, q252b, q252c⟩ := isOf hZ rfl f246_0
      obtain ⟨_, _, ⟨T252, L252, k252, n252⟩, -, X252, ⟨Lc252, hQ252, l252, y252, z252⟩, st252⟩ := X246.virtualBack hx (y := (⟨"com/example/roaming_pubsub/roamingpubsub/Message", "heapBytes", "()J"⟩ : MethodName)) (z := (⟨"com/example/roaming_pubsub/roamingpubsub/Message", "heapBytes", "()J"⟩ : MethodName)) hown (mvT hZ (hw _ (List.mem_of_getElem? (i := 49) rfl))) (mvT hZ (hw _ (List.mem_of_getElem? (i := 50) rfl))) (notFace_of_selects (args := #[]) (mvT hZ (hw _ (List.mem_of_getElem? (i := 52) rfl)))) (mvT hZ (hw _ (List.mem_of_getElem? (i := 52) rfl))) (mvT hZ (hw _ (List.mem_of_getElem? (i := 51) rfl))) (by decide) (backOf (W := 0) (rm_hb l Z a0 hw [] b243 x_233 b234 t_233 cs_233 k234 mm ((([] ++ List.replicate 1024 (Value.int (0 : Int32))).set 0 (Value.int (nar .byte (p4.toInt8.toInt32)))).set (mm - (1 : Int32)).toNatClampNeg (Value.int (nar .byte (((p4.toUInt32 >>> ((8 : Int32) &&& 31).toUInt32).toInt32).toInt8.toInt32)))) (.int (0 : Int32)) zc T246.heap f260 f246_1 f246_2 f257 f259 st_COMPACT_STRINGS (by first | assumption | decide)) hZ (hw _ (List.mem_of_getElem? (i := 53) rfl)) (hw _ (List.mem_of_getElem? (i := 40) rfl)) (by decide) (by decide)) q252a q252c (g := (mkF m 95 #[.val (.int p1), .val (.int p2), .val (.int p3), .val (.int p4), .val (.int len), .val (.ref x_233), .val (.int mm), .val (.ref b234), .val (.ref b243), .unset, .unset, .unset, .unset, .unset, .unset] [(.ref b243)])) rfl (by rw [hml]; rfl) (Steps.refl _) (argsL := []) (rest := []) (lenOf pd_129 rfl) rfl (by show 2 * 0 + _ ≤ _; exact Nat.le_of_eq rfl) (hb hby at_95) (fun _ _ => ⟨rfl, rfl, (by decide : 5 + 0 ≤ _), (by decide : 1037 + 0 ≤ _)⟩)
      dsimp only [Pt.U, Pt.locs, Pt.cells, Pt.slots] at X252 l252 y252 z252 st252 hQ252
      subst l252 y252 z252
      obtain ⟨rfl, N252q, K252⟩ := hQ252
      have N252 := Fr.app N246 N252q
      refine own_Go.tr st252 ?_
      show own_Go _ _ _ _ (T252.setTop (mkF m 98 #[.val (.int p1), .val (.int p2), .val (.int p3), .val (.int p4), .val (.int len), .val (.ref x_233), .val (.int mm), .val (.ref b234), .val (.ref b243), .unset, .unset, .unset, .unset, .unset, .unset] [(.long (((2 : Int64) * (Int32.ofNat cs_233.length).toInt64) + mm.toInt64))]))
      refine own_Go.st (fun _ k => XS.lstore X252.here hx rfl (hb hby at_98) rfl (l' := #[.val (.int p1), .val (.int p2), .val (.int p3), .val (.int p4), .val (.int len), .val (.ref x_233), .val (.int mm), .val (.ref b234), .val (.ref b243), .val (.long (((2 : Int64) * (Int32.ofNat cs_233.length).toInt64) + mm.toInt64)), .second, .unset, .unset, .unset, .unset]) rfl k) ?_
      show own_Go _ _ _ _ (T252.setTop (mkF m 100 #[.val (.int p1), .val (.int p2), .val (.int p3), .val (.int p4), .val (.int len), .val (.ref x_233), .val (.int mm), .val (.ref b234), .val (.ref b243), .val (.long (((2 : Int64) * (Int32.ofNat cs_233.length).toInt64) + mm.toInt64)), .second, .unset, .unset, .unset, .unset] []))
      refine own_Go.st (fun _ k => XS.aload X252.here hx rfl (hb hby at_100) rfl rfl k) ?_
      show own_Go _ _ _ _ (T252.setTop (mkF m 102 #[.val (.int p1), .val (.int p2), .val (.int p3), .val (.int p4), .val (.int len), .val (.ref x_233), .val (.int mm), .val (.ref b234), .val (.ref b243), .val (.long (((2 : Int64) * (Int32.ofNat cs_233.length).toInt64) + mm.toInt64)), .second, .unset, .unset, .unset, .unset] [(.ref b243)]))
      obtain ⟨cq261, kq261, q261a, q261b, q261c⟩ := isOf hZ K252 f246_0
      obtain ⟨_, _, ⟨T261, L261, k261, n261⟩, -, X261, ⟨Lc261, hQ261, l261, y261, z261⟩, st261⟩ := X252.virtualBack hx (y := (⟨"com/example/roaming_pubsub/roamingpubsub/Message", "heapBytes", "()J"⟩ : MethodName)) (z := (⟨"com/example/roaming_pubsub/roamingpubsub/Message", "heapBytes", "()J"⟩ : MethodName)) hown (mvT hZ (hw _ (List.mem_of_getElem? (i := 49) rfl))) (mvT hZ (hw _ (List.mem_of_getElem? (i := 50) rfl))) (notFace_of_selects (args := #[]) (mvT hZ (hw _ (List.mem_of_getElem? (i := 52) rfl)))) (mvT hZ (hw _ (List.mem_of_getElem? (i := 52) rfl))) (mvT hZ (hw _ (List.mem_of_getElem? (i := 51) rfl))) (by decide) (backOf (W := 0) (rm_hb l Z a0 hw [] b243 x_233 b234 t_233 cs_233 k234 mm ((([] ++ List.replicate 1024 (Value.int (0 : Int32))).set 0 (Value.int (nar .byte (p4.toInt8.toInt32)))).set (mm - (1 : Int32)).toNatClampNeg (Value.int (nar .byte (((p4.toUInt32 >>> ((8 : Int32) &&& 31).toUInt32).toInt32).toInt8.toInt32)))) (.int (0 : Int32)) zc T246.heap f260 f246_1 f246_2 f257 f259 st_COMPACT_STRINGS (by first | assumption | decide)) hZ (hw _ (List.mem_of_getElem? (i := 53) rfl)) (hw _ (List.mem_of_getElem? (i := 40) rfl)) (by decide) (by decide)) q261a q261c (g := (mkF m 102 #[.val (.int p1), .val (.int p2), .val (.int p3), .val (.int p4), .val (.int len), .val (.ref x_233), .val (.int mm), .val (.ref b234), .val (.ref b243), .val (.long (((2 : Int64) * (Int32.ofNat cs_233.length).toInt64) + mm.toInt64)), .second, .unset, .unset, .unset, .unset] [(.ref b243)])) rfl (by rw [hml]; rfl) (Steps.refl _) (argsL := []) (rest := []) (lenOf pd_129 rfl) rfl (by show 2 * 0 + _ ≤ _; exact Nat.le_of_eq rfl) (hb hby at_102) (fun _ _ => ⟨rfl, K252, (by decide : 5 + 0 ≤ _), (by decide : 1037 + 0 ≤ _)⟩)
      dsimp only [Pt.U, Pt.locs, Pt.cells, Pt.slots] at X261 l261 y261 z261 st261 hQ261
      subst l261 y261 z261
      obtain ⟨rfl, N261q, K261⟩ := hQ261
      have N261 := Fr.app N252 N261q
      refine own_Go.tr st261 ?_
      show own_Go _ _ _ _ (T261.setTop (mkF m 105 #[.val (.int p1), .val (.int p2), .val (.int p3), .val (.int p4), .val (.int len), .val (.ref x_233), .val (.int mm), .val (.ref b234), .val (.ref b243), .val (.long (((2 : Int64) * (Int32.ofNat cs_233.length).toInt64) + mm.toInt64)), .second, .unset, .unset, .unset, .unset] [(.long (((2 : Int64) * (Int32.ofNat cs_233.length).toInt64) + mm.toInt64))]))
      refine own_Go.st (fun _ k => XS.lstore X261.here hx rfl (hb hby at_105) rfl (l' := #[.val (.int p1), .val (.int p2), .val (.int p3), .val (.int p4), .val (.int len), .val (.ref x_233), .val (.int mm), .val (.ref b234), .val (.ref b243), .val (.long (((2 : Int64) * (Int32.ofNat cs_233.length).toInt64) + mm.toInt64)), .second, .val (.long (((2 : Int64) * (Int32.ofNat cs_233.length).toInt64) + mm.toInt64)), .second, .unset, .unset]) rfl k) ?_
      show own_Go _ _ _ _ (T261.setTop (mkF m 107 #[.val (.int p1), .val (.int p2), .val (.int p3), .val (.int p4), .val (.int len), .val (.ref x_233), .val (.int mm), .val (.ref b234), .val (.ref b243), .val (.long (((2 : Int64) * (Int32.ofNat cs_233.length).toInt64) + mm.toInt64)), .second, .val (.long (((2 : Int64) * (Int32.ofNat cs_233.length).toInt64) + mm.toInt64)), .second, .unset, .unset] []))
      refine own_Go.st (X261.ldc2Long hx hown (mvT hZ (hw _ (List.mem_of_getElem? (i := 65) rfl))) (g := (mkF m 107 #[.val (.int p1), .val (.int p2), .val (.int p3), .val (.int p4), .val (.int len), .val (.ref x_233), .val (.int mm), .val (.ref b234), .val (.ref b243), .val (.long (((2 : Int64) * (Int32.ofNat cs_233.length).toInt64) + mm.toInt64)), .second, .val (.long (((2 : Int64) * (Int32.ofNat cs_233.length).toInt64) + mm.toInt64)), .second, .unset, .unset] [])) rfl (hb hby at_107)) ?_
      show own_Go _ _ _ _ (T261.setTop (mkF m 110 #[.val (.int p1), .val (.int p2), .val (.int p3), .val (.int p4), .val (.int len), .val (.ref x_233), .val (.int mm), .val (.ref b234), .val (.ref b243), .val (.long (((2 : Int64) * (Int32.ofNat cs_233.length).toInt64) + mm.toInt64)), .second, .val (.long (((2 : Int64) * (Int32.ofNat cs_233.length).toInt64) + mm.toInt64)), .second, .unset, .unset] [(.long (2 : Int64))]))
      refine own_Go.st (fun _ k => XS.iload X261.here hx rfl (hb hby at_110) rfl k) ?_
      show own_Go _ _ _ _ (T261.setTop (mkF m 112 #[.val (.int p1), .val (.int p2), .val (.int p3), .val (.int p4), .val (.int len), .val (.ref x_233), .val (.int mm), .val (.ref b234), .val (.ref b243), .val (.long (((2 : Int64) * (Int32.ofNat cs_233.length).toInt64) + mm.toInt64)), .second, .val (.long (((2 : Int64) * (Int32.ofNat cs_233.length).toInt64) + mm.toInt64)), .second, .unset, .unset] [(.int len), (.long (2 : Int64))]))
      refine own_Go.st (fun _ k => XS.i2l X261.here hx rfl (hb hby at_112) rfl k) ?_
      show own_Go _ _ _ _ (T261.setTop (mkF m 113 #[.val (.int p1), .val (.int p2), .val (.int p3), .val (.int p4), .val (.int len), .val (.ref x_233), .val (.int mm), .val (.ref b234), .val (.ref b243), .val (.long (((2 : Int64) * (Int32.ofNat cs_233.length).toInt64) + mm.toInt64)), .second, .val (.long (((2 : Int64) * (Int32.ofNat cs_233.length).toInt64) + mm.toInt64)), .second, .unset, .unset] [(.long (len.toInt64)), (.long (2 : Int64))]))
      refine own_Go.st (fun _ k => XS.lmul X261.here hx rfl (hb hby at_113) rfl k) ?_
      show own_Go _ _ _ _ (T261.setTop (mkF m 114 #[.val (.int p1), .val (.int p2), .val (.int p3), .val (.int p4), .val (.int len), .val (.ref x_233), .val (.int mm), .val (.ref b234), .val (.ref b243), .val (.long (((2 : Int64) * (Int32.ofNat cs_233.length).toInt64) + mm.toInt64)), .second, .val (.long (((2 : Int64) * (Int32.ofNat cs_233.length).toInt64) + mm.toInt64)), .second, .unset, .unset] [(.long ((2 : Int64) * (len.toInt64)))]))
      refine own_Go.st (fun _ k => XS.iload X261.here hx rfl (hb hby at_114) rfl k) ?_
      show own_Go _ _ _ _ (T261.setTop (mkF m 116 #[.val (.int p1), .val (.int p2), .val (.int p3), .val (.int p4), .val (.int len), .val (.ref x_233), .val (.int mm), .val (.ref b234), .val (.ref b243), .val (.long (((2 : Int64) * (Int32.ofNat cs_233.length).toInt64) + mm.toInt64)), .second, .val (.long (((2 : Int64) * (Int32.ofNat cs_233.length).toInt64) + mm.toInt64)), .second, .unset, .unset] [(.int mm), (.long ((2 : Int64) * (len.toInt64)))]))
      refine own_Go.st (fun _ k => XS.i2l X261.here hx rfl (hb hby at_116) rfl k) ?_
      show own_Go _ _ _ _ (T261.setTop (mkF m 117 #[.val (.int p1), .val (.int p2), .val (.int p3), .val (.int p4), .val (.int len), .val (.ref x_233), .val (.int mm), .val (.ref b234), .val (.ref b243), .val (.long (((2 : Int64) * (Int32.ofNat cs_233.length).toInt64) + mm.toInt64)), .second, .val (.long (((2 : Int64) * (Int32.ofNat cs_233.length).toInt64) + mm.toInt64)), .second, .unset, .unset] [(.long (mm.toInt64)), (.long ((2 : Int64) * (len.toInt64)))]))
      refine own_Go.st (fun _ k => XS.ladd X261.here hx rfl (hb hby at_117) rfl k) ?_
      show own_Go _ _ _ _ (T261.setTop (mkF m 118 #[.val (.int p1), .val (.int p2), .val (.int p3), .val (.int p4), .val (.int len), .val (.ref x_233), .val (.int mm), .val (.ref b234), .val (.ref b243), .val (.long (((2 : Int64) * (Int32.ofNat cs_233.length).toInt64) + mm.toInt64)), .second, .val (.long (((2 : Int64) * (Int32.ofNat cs_233.length).toInt64) + mm.toInt64)), .second, .unset, .unset] [(.long (((2 : Int64) * (len.toInt64)) + (mm.toInt64)))]))
      refine own_Go.st (fun _ k => XS.lstore X261.here hx rfl (hb hby at_118) rfl (l' := #[.val (.int p1), .val (.int p2), .val (.int p3), .val (.int p4), .val (.int len), .val (.ref x_233), .val (.int mm), .val (.ref b234), .val (.ref b243), .val (.long (((2 : Int64) * (Int32.ofNat cs_233.length).toInt64) + mm.toInt64)), .second, .val (.long (((2 : Int64) * (Int32.ofNat cs_233.length).toInt64) + mm.toInt64)), .second, .val (.long (((2 : Int64) * (len.toInt64)) + (mm.toInt64))), .second]) rfl k) ?_
      show own_Go _ _ _ _ (T261.setTop (mkF m 120 #[.val (.int p1), .val (.int p2), .val (.int p3), .val (.int p4), .val (.int len), .val (.ref x_233), .val (.int mm), .val (.ref b234), .val (.ref b243), .val (.long (((2 : Int64) * (Int32.ofNat cs_233.length).toInt64) + mm.toInt64)), .second, .val (.long (((2 : Int64) * (Int32.ofNat cs_233.length).toInt64) + mm.toInt64)), .second, .val (.long (((2 : Int64) * (len.toInt64)) + (mm.toInt64))), .second] []))
      refine own_Go.st (fun _ k => XS.lload X261.here hx rfl (hb hby at_120) rfl k) ?_
      show own_Go _ _ _ _ (T261.setTop (mkF m 122 #[.val (.int p1), .val (.int p2), .val (.int p3), .val (.int p4), .val (.int len), .val (.ref x_233), .val (.int mm), .val (.ref b234), .val (.ref b243), .val (.long (((2 : Int64) * (Int32.ofNat cs_233.length).toInt64) + mm.toInt64)), .second, .val (.long (((2 : Int64) * (Int32.ofNat cs_233.length).toInt64) + mm.toInt64)), .second, .val (.long (((2 : Int64) * (len.toInt64)) + (mm.toInt64))), .second] [(.long (((2 : Int64) * (Int32.ofNat cs_233.length).toInt64) + mm.toInt64))]))
      refine own_Go.st (fun _ k => XS.lload X261.here hx rfl (hb hby at_122) rfl k) ?_
      show own_Go _ _ _ _ (T261.setTop (mkF m 124 #[.val (.int p1), .val (.int p2), .val (.int p3), .val (.int p4), .val (.int len), .val (.ref x_233), .val (.int mm), .val (.ref b234), .val (.ref b243), .val (.long (((2 : Int64) * (Int32.ofNat cs_233.length).toInt64) + mm.toInt64)), .second, .val (.long (((2 : Int64) * (Int32.ofNat cs_233.length).toInt64) + mm.toInt64)), .second, .val (.long (((2 : Int64) * (len.toInt64)) + (mm.toInt64))), .second] [(.long (((2 : Int64) * (len.toInt64)) + (mm.toInt64))), (.long (((2 : Int64) * (Int32.ofNat cs_233.length).toInt64) + mm.toInt64))]))
      refine own_Go.st (fun _ k => XS.lcmp X261.here hx rfl (hb hby at_124) rfl k) ?_
      show own_Go _ _ _ _ (T261.setTop (mkF m 125 #[.val (.int p1), .val (.int p2), .val (.int p3), .val (.int p4), .val (.int len), .val (.ref x_233), .val (.int mm), .val (.ref b234), .val (.ref b243), .val (.long (((2 : Int64) * (Int32.ofNat cs_233.length).toInt64) + mm.toInt64)), .second, .val (.long (((2 : Int64) * (Int32.ofNat cs_233.length).toInt64) + mm.toInt64)), .second, .val (.long (((2 : Int64) * (len.toInt64)) + (mm.toInt64))), .second] [(.int (lcmpW (((2 : Int64) * (Int32.ofNat cs_233.length).toInt64) + mm.toInt64) (((2 : Int64) * (len.toInt64)) + (mm.toInt64))))]))
      have hc262 : (lcmpW (((2 : Int64) * (Int32.ofNat cs_233.length).toInt64) + mm.toInt64) (((2 : Int64) * (len.toInt64)) + (mm.toInt64))) = (0 : Int32) := (lw_eq _ _).mpr (by rw [← pr233_0])
      refine own_Go.st (fun _ k => XS.ifNo X261.here hx rfl (hb hby at_125) rfl ((if0 _ _).trans (teq hc262).2) k) ?_
      show own_Go _ _ _ _ (T261.setTop (mkF m 128 #[.val (.int p1), .val (.int p2), .val (.int p3), .val (.int p4), .val (.int len), .val (.ref x_233), .val (.int mm), .val (.ref b234), .val (.ref b243), .val (.long (((2 : Int64) * (Int32.ofNat cs_233.length).toInt64) + mm.toInt64)), .second, .val (.long (((2 : Int64) * (Int32.ofNat cs_233.length).toInt64) + mm.toInt64)), .second, .val (.long (((2 : Int64) * (len.toInt64)) + (mm.toInt64))), .second] []))
      refine own_Go.st (fun _ k => XS.lload X261.here hx rfl (hb hby at_128) rfl k) ?_
      show own_Go _ _ _ _ (T261.setTop (mkF m 130 #[.val (.int p1), .val (.int p2), .val (.int p3), .val (.int p4), .val (.int len), .val (.ref x_233), .val (.int mm), .val (.ref b234), .val (.ref b243), .val (.long (((2 : Int64) * (Int32.ofNat cs_233.length).toInt64) + mm.toInt64)), .second, .val (.long (((2 : Int64) * (Int32.ofNat cs_233.length).toInt64) + mm.toInt64)), .second, .val (.long (((2 : Int64) * (len.toInt64)) + (mm.toInt64))), .second] [(.long (((2 : Int64) * (Int32.ofNat cs_233.length).toInt64) + mm.toInt64))]))
      refine own_Go.st (fun _ k => XS.lload X261.here hx rfl (hb hby at_130) rfl k) ?_
      show own_Go _ _ _ _ (T261.setTop (mkF m 132 #[.val (.int p1), .val (.int p2), .val (.int p3), .val (.int p4), .val (.int len), .val (.ref x_233), .val (.int mm), .val (.ref b234), .val (.ref b243), .val (.long (((2 : Int64) * (Int32.ofNat cs_233.length).toInt64) + mm.toInt64)), .second, .val (.long (((2 : Int64) * (Int32.ofNat cs_233.length).toInt64) + mm.toInt64)), .second, .val (.long (((2 : Int64) * (len.toInt64)) + (mm.toInt64))), .second] [(.long (((2 : Int64) * (Int32.ofNat cs_233.length).toInt64) + mm.toInt64)), (.long (((2 : Int64) * (Int32.ofNat cs_233.length).toInt64) + mm.toInt64))]))
      refine own_Go.st (fun _ k => XS.lcmp X261.here hx rfl (hb hby at_132) rfl k) ?_
      show own_Go _ _ _ _ (T261.setTop (mkF m 133 #[.val (.int p1), .val (.int p2), .val (.int p3), .val (.int p4), .val (.int len), .val (.ref x_233), .val (.int mm), .val (.ref b234), .val (.ref b243), .val (.long (((2 : Int64) * (Int32.ofNat cs_233.length).toInt64) + mm.toInt64)), .second, .val (.long (((2 : Int64) * (Int32.ofNat cs_233.length).toInt64) + mm.toInt64)), .second, .val (.long (((2 : Int64) * (len.toInt64)) + (mm.toInt64))), .second] [(.int (lcmpW (((2 : Int64) * (Int32.ofNat cs_233.length).toInt64) + mm.toInt64) (((2 : Int64) * (Int32.ofNat cs_233.length).toInt64) + mm.toInt64)))]))
      have hc263 : (lcmpW (((2 : Int64) * (Int32.ofNat cs_233.length).toInt64) + mm.toInt64) (((2 : Int64) * (Int32.ofNat cs_233.length).toInt64) + mm.toInt64)) = (0 : Int32) := (lw_eq _ _).mpr rfl
      refine own_Go.st (fun _ k => XS.ifNo X261.here hx rfl (hb hby at_133) rfl ((if0 _ _).trans (teq hc263).2) k) ?_
      show own_Go _ _ _ _ (T261.setTop (mkF m 136 #[.val (.int p1), .val (.int p2), .val (.int p3), .val (.int p4), .val (.int len), .val (.ref x_233), .val (.int mm), .val (.ref b234), .val (.ref b243), .val (.long (((2 : Int64) * (Int32.ofNat cs_233.length).toInt64) + mm.toInt64)), .second, .val (.long (((2 : Int64) * (Int32.ofNat cs_233.length).toInt64) + mm.toInt64)), .second, .val (.long (((2 : Int64) * (len.toInt64)) + (mm.toInt64))), .second] []))
      refine own_Go.st (fun _ k => XS.aload X261.here hx rfl (hb hby at_136) rfl rfl k) ?_
      show own_Go _ _ _ _ (T261.setTop (mkF m 138 #[.val (.int p1), .val (.int p2), .val (.int p3), .val (.int p4), .val (.int len), .val (.ref x_233), .val (.int mm), .val (.ref b234), .val (.ref b243), .val (.long (((2 : Int64) * (Int32.ofNat cs_233.length).toInt64) + mm.toInt64)), .second, .val (.long (((2 : Int64) * (Int32.ofNat cs_233.length).toInt64) + mm.toInt64)), .second, .val (.long (((2 : Int64) * (len.toInt64)) + (mm.toInt64))), .second] [(.ref b243)]))
      obtain ⟨cq264, kq264, q264a, q264b, q264c⟩ := isOf hZ K261 f246_0
      obtain ⟨_, _, ⟨T264, L264, k264, n264⟩, -, X264, ⟨Lc264, hQ264, l264, y264, z264⟩, st264⟩ := X261.virtualBack hx (y := (⟨"com/example/roaming_pubsub/roamingpubsub/Message", "topic", "()Ljava/lang/String;"⟩ : MethodName)) (z := (⟨"com/example/roaming_pubsub/roamingpubsub/Message", "topic", "()Ljava/lang/String;"⟩ : MethodName)) hown (mvT hZ (hw _ (List.mem_of_getElem? (i := 66) rfl))) (mvT hZ (hw _ (List.mem_of_getElem? (i := 67) rfl))) (notFace_of_selects (args := #[]) (mvT hZ (hw _ (List.mem_of_getElem? (i := 69) rfl)))) (mvT hZ (hw _ (List.mem_of_getElem? (i := 69) rfl))) (mvT hZ (hw _ (List.mem_of_getElem? (i := 68) rfl))) (by decide) (backOf (W := 0) (rm_topic l Z a0 hw [] b243 x_233 T246.heap f260 f246_1) hZ (hw _ (List.mem_of_getElem? (i := 70) rfl)) (hw _ (List.mem_of_getElem? (i := 40) rfl)) (by decide) (by decide)) q264a q264c (g := (mkF m 138 #[.val (.int p1), .val (.int p2), .val (.int p3), .val (.int p4), .val (.int len), .val (.ref x_233), .val (.int mm), .val (.ref b234), .val (.ref b243), .val (.long (((2 : Int64) * (Int32.ofNat cs_233.length).toInt64) + mm.toInt64)), .second, .val (.long (((2 : Int64) * (Int32.ofNat cs_233.length).toInt64) + mm.toInt64)), .second, .val (.long (((2 : Int64) * (len.toInt64)) + (mm.toInt64))), .second] [(.ref b243)])) rfl (by rw [hml]; rfl) (Steps.refl _) (argsL := []) (rest := []) (lenOf pd_130 rfl) rfl (by show 2 * 0 + _ ≤ _; exact Nat.le_of_eq rfl) (hb hby at_138) (fun _ _ => ⟨rfl, K261, (by decide : 5 + 0 ≤ _), (by decide : 1037 + 0 ≤ _)⟩)
      dsimp only [Pt.U, Pt.locs, Pt.cells, Pt.slots] at X264 l264 y264 z264 st264 hQ264
      subst l264 y264 z264
      obtain ⟨rfl, N264q, K264⟩ := hQ264
      have N264 := Fr.app N261 N264q
      refine own_Go.tr st264 ?_
      show own_Go _ _ _ _ (T264.setTop (mkF m 141 #[.val (.int p1), .val (.int p2), .val (.int p3), .val (.int p4), .val (.int len), .val (.ref x_233), .val (.int mm), .val (.ref b234), .val (.ref b243), .val (.long (((2 : Int64) * (Int32.ofNat cs_233.length).toInt64) + mm.toInt64)), .second, .val (.long (((2 : Int64) * (Int32.ofNat cs_233.length).toInt64) + mm.toInt64)), .second, .val (.long (((2 : Int64) * (len.toInt64)) + (mm.toInt64))), .second] [(.ref x_233)]))
      refine own_Go.st (fun _ k => XS.aload X264.here hx rfl (hb hby at_141) rfl rfl k) ?_
      show own_Go _ _ _ _ (T264.setTop (mkF m 143 #[.val (.int p1), .val (.int p2), .val (.int p3), .val (.int p4), .val (.int len), .val (.ref x_233), .val (.int mm), .val (.ref b234), .val (.ref b243), .val (.long (((2 : Int64) * (Int32.ofNat cs_233.length).toInt64) + mm.toInt64)), .second, .val (.long (((2 : Int64) * (Int32.ofNat cs_233.length).toInt64) + mm.toInt64)), .second, .val (.long (((2 : Int64) * (len.toInt64)) + (mm.toInt64))), .second] [(.ref x_233), (.ref x_233)]))
      refine own_Go.st (fun _ k => Jvm.RoadKit.acmp (g := (mkF m 143 #[.val (.int p1), .val (.int p2), .val (.int p3), .val (.int p4), .val (.int len), .val (.ref x_233), .val (.int mm), .val (.ref b234), .val (.ref b243), .val (.long (((2 : Int64) * (Int32.ofNat cs_233.length).toInt64) + mm.toInt64)), .second, .val (.long (((2 : Int64) * (Int32.ofNat cs_233.length).toInt64) + mm.toInt64)), .second, .val (.long (((2 : Int64) * (len.toInt64)) + (mm.toInt64))), .second] [(.ref x_233), (.ref x_233)])) X264 hx rfl rfl rfl (pc0 := 143) (pc' := 146) (same := true) rfl (hb hby at_143) rfl (decide_eq_true rfl) (by decide) (by decide) k) ?_
      show own_Go _ _ _ _ (T264.setTop (mkF m 146 #[.val (.int p1), .val (.int p2), .val (.int p3), .val (.int p4), .val (.int len), .val (.ref x_233), .val (.int mm), .val (.ref b234), .val (.ref b243), .val (.long (((2 : Int64) * (Int32.ofNat cs_233.length).toInt64) + mm.toInt64)), .second, .val (.long (((2 : Int64) * (Int32.ofNat cs_233.length).toInt64) + mm.toInt64)), .second, .val (.long (((2 : Int64) * (len.toInt64)) + (mm.toInt64))), .second] []))
      refine own_Go.st (fun _ k => XS.aload X264.here hx rfl (hb hby at_146) rfl rfl k) ?_
      show own_Go _ _ _ _ (T264.setTop (mkF m 148 #[.val (.int p1), .val (.int p2), .val (.int p3), .val (.int p4), .val (.int len), .val (.ref x_233), .val (.int mm), .val (.ref b234), .val (.ref b243), .val (.long (((2 : Int64) * (Int32.ofNat cs_233.length).toInt64) + mm.toInt64)), .second, .val (.long (((2 : Int64) * (Int32.ofNat cs_233.length).toInt64) + mm.toInt64)), .second, .val (.long (((2 : Int64) * (len.toInt64)) + (mm.toInt64))), .second] [(.ref b243)]))
      obtain ⟨cq265, kq265, q265a, q265b, q265c⟩ := isOf hZ K264 f246_0
      obtain ⟨_, _, ⟨T265, L265, k265, n265⟩, -, X265, ⟨Lc265, hQ265, l265, y265, z265⟩, st265⟩ := X264.virtualBack hx (y := (⟨"com/example/roaming_pubsub/roamingpubsub/Message", "payload", "()[B"⟩ : MethodName)) (z := (⟨"com/example/roaming_pubsub/roamingpubsub/Message", "payload", "()[B"⟩ : MethodName)) hown (mvT hZ (hw _ (List.mem_of_getElem? (i := 71) rfl))) (mvT hZ (hw _ (List.mem_of_getElem? (i := 72) rfl))) (notFace_of_selects (args := #[]) (mvT hZ (hw _ (List.mem_of_getElem? (i := 74) rfl)))) (mvT hZ (hw _ (List.mem_of_getElem? (i := 74) rfl))) (mvT hZ (hw _ (List.mem_of_getElem? (i := 73) rfl))) (by decide) (backOf (W := 0) (rm_payload l Z a0 hw [] b243 b234 T246.heap f260 f246_2) hZ (hw _ (List.mem_of_getElem? (i := 75) rfl)) (hw _ (List.mem_of_getElem? (i := 40) rfl)) (by decide) (by decide)) q265a q265c (g := (mkF m 148 #[.val (.int p1), .val (.int p2), .val (.int p3), .val (.int p4), .val (.int len), .val (.ref x_233), .val (.int mm), .val (.ref b234), .val (.ref b243), .val (.long (((2 : Int64) * (Int32.ofNat cs_233.length).toInt64) + mm.toInt64)), .second, .val (.long (((2 : Int64) * (Int32.ofNat cs_233.length).toInt64) + mm.toInt64)), .second, .val (.long (((2 : Int64) * (len.toInt64)) + (mm.toInt64))), .second] [(.ref b243)])) rfl (by rw [hml]; rfl) (Steps.refl _) (argsL := []) (rest := []) (lenOf pd_131 rfl) rfl (by show 2 * 0 + _ ≤ _; exact Nat.le_of_eq rfl) (hb hby at_148) (fun _ _ => ⟨rfl, K264, (by decide : 5 + 0 ≤ _), (by decide : 1037 + 0 ≤ _)⟩)
      dsimp only [Pt.U, Pt.locs, Pt.cells, Pt.slots] at X265 l265 y265 z265 st265 hQ265
      subst l265 y265 z265
      obtain ⟨rfl, N265q, K265⟩ := hQ265
      have N265 := Fr.app N264 N265q
      refine own_Go.tr st265 ?_
      show own_Go _ _ _ _ (T265.setTop (mkF m 151 #[.val (.int p1), .val (.int p2), .val (.int p3), .val (.int p4), .val (.int len), .val (.ref x_233), .val (.int mm), .val (.ref b234), .val (.ref b243), .val (.long (((2 : Int64) * (Int32.ofNat cs_233.length).toInt64) + mm.toInt64)), .second, .val (.long (((2 : Int64) * (Int32.ofNat cs_233.length).toInt64) + mm.toInt64)), .second, .val (.long (((2 : Int64) * (len.toInt64)) + (mm.toInt64))), .second] [(.ref b234)]))
      refine own_Go.st (fun _ k => XS.aload X265.here hx rfl (hb hby at_151) rfl rfl k) ?_
      show own_Go _ _ _ _ (T265.setTop (mkF m 153 #[.val (.int p1), .val (.int p2), .val (.int p3), .val (.int p4), .val (.int len), .val (.ref x_233), .val (.int mm), .val (.ref b234), .val (.ref b243), .val (.long (((2 : Int64) * (Int32.ofNat cs_233.length).toInt64) + mm.toInt64)), .second, .val (.long (((2 : Int64) * (Int32.ofNat cs_233.length).toInt64) + mm.toInt64)), .second, .val (.long (((2 : Int64) * (len.toInt64)) + (mm.toInt64))), .second] [(.ref b234), (.ref b234)]))
      refine own_Go.st (fun _ k => Jvm.RoadKit.acmp (g := (mkF m 153 #[.val (.int p1), .val (.int p2), .val (.int p3), .val (.int p4), .val (.int len), .val (.ref x_233), .val (.int mm), .val (.ref b234), .val (.ref b243), .val (.long (((2 : Int64) * (Int32.ofNat cs_233.length).toInt64) + mm.toInt64)), .second, .val (.long (((2 : Int64) * (Int32.ofNat cs_233.length).toInt64) + mm.toInt64)), .second, .val (.long (((2 : Int64) * (len.toInt64)) + (mm.toInt64))), .second] [(.ref b234), (.ref b234)])) X265 hx rfl rfl rfl (pc0 := 153) (pc' := 156) (same := true) rfl (hb hby at_153) rfl (decide_eq_true rfl) (by decide) (by decide) k) ?_
      show own_Go _ _ _ _ (T265.setTop (mkF m 156 #[.val (.int p1), .val (.int p2), .val (.int p3), .val (.int p4), .val (.int len), .val (.ref x_233), .val (.int mm), .val (.ref b234), .val (.ref b243), .val (.long (((2 : Int64) * (Int32.ofNat cs_233.length).toInt64) + mm.toInt64)), .second, .val (.long (((2 : Int64) * (Int32.ofNat cs_233.length).toInt64) + mm.toInt64)), .second, .val (.long (((2 : Int64) * (len.toInt64)) + (mm.toInt64))), .second] []))
      refine own_Go.st (fun _ k => XS.iconst X265.here hx rfl (hb hby at_156) k) ?_
      show own_Go _ _ _ _ (T265.setTop (mkF m 157 #[.val (.int p1), .val (.int p2), .val (.int p3), .val (.int p4), .val (.int len), .val (.ref x_233), .val (.int mm), .val (.ref b234), .val (.ref b243), .val (.long (((2 : Int64) * (Int32.ofNat cs_233.length).toInt64) + mm.toInt64)), .second, .val (.long (((2 : Int64) * (Int32.ofNat cs_233.length).toInt64) + mm.toInt64)), .second, .val (.long (((2 : Int64) * (len.toInt64)) + (mm.toInt64))), .second] [(.int (1 : Int32))]))
      refine own_Go.st (fun _ k => XS.goto X265.here hx rfl (pc0 := 157) (pc' := 161) rfl (hb hby at_157) (by decide) (by decide) k) ?_
      show own_Go _ _ _ _ (T265.setTop (mkF m 161 #[.val (.int p1), .val (.int p2), .val (.int p3), .val (.int p4), .val (.int len), .val (.ref x_233), .val (.int mm), .val (.ref b234), .val (.ref b243), .val (.long (((2 : Int64) * (Int32.ofNat cs_233.length).toInt64) + mm.toInt64)), .second, .val (.long (((2 : Int64) * (Int32.ofNat cs_233.length).toInt64) + mm.toInt64)), .second, .val (.long (((2 : Int64) * (len.toInt64)) + (mm.toInt64))), .second] [(.int (1 : Int32))]))
      obtain ⟨fs266, hr266, hrun266, hend266, hW266, hsm266⟩ := X265.leave (v := some (.int (nar .boolean (1 : Int32)))) (fun h => by rw [Bd.returns] at h; cases h)
      have K267 : Keep h0 T233.heap [] := (Keep.refl h0 []).trans K233 all0
      have K268 : Keep h0 h234 [] := K267.ext E234
      have K269 : Keep h0 h237 [] := K268.wr W237 (Or.inr (by omega))
      have K270 : Keep h0 h240 [] := K269.wr W240 (Or.inr (by omega))
      have K271 : Keep h0 h243 [] := K270.ext E243
      have K272 : Keep h0 T246.heap [] := K271.trans K246 (allS (Or.inr (by omega)) all0)
      subst hPP
      refine ⟨_, _, retN X265 hx (t := .boolean) Bd.returns (by simp) (hb hby at_161) hr266, hrun266, hend266, _, _, rfl, ?_, ⟨_, rfl⟩, hW266, hsm266.mono (by decide) (by decide)⟩
      · show Q_law Z p1 p2 p3 p4 zc h0 _ T265.heap _
        rw [K265]
        exact ⟨rfl, N265, K272⟩
    ·
      refine own_Go.st (fun _ k => XS.icmpYes X237.here hx rfl (pc0 := 65) (pc' := 80) rfl (hb hby at_65) rfl (flt hq65).2.2.2 (by decide) (by decide) k) ?_
      show own_Go _ _ _ _ (T237.setTop (mkF m 80 #[.val (.int p1), .val (.int p2), .val (.int p3), .val (.int p4), .val (.int len), .val (.ref x_233), .val (.int mm), .val (.ref b234), .unset, .unset, .unset, .unset, .unset, .unset, .unset] []))
      obtain ⟨T273, h273, X273, e273, E273, A273, D273, U273, st273⟩ := newO X237 hx hZ hown (hw _ (List.mem_of_getElem? (i := 38) rfl)) (hw _ (List.mem_of_getElem? (i := 39) rfl)) (hw _ (List.mem_of_getElem? (i := 40) rfl)) e237 (g := (mkF m 80 #[.val (.int p1), .val (.int p2), .val (.int p3), .val (.int p4), .val (.int len), .val (.ref x_233), .val (.int mm), .val (.ref b234), .unset, .unset, .unset, .unset, .unset, .unset, .unset] [])) rfl (hb hby at_80) (by decide) (by decide)
      obtain ⟨b273, g273⟩ : ∃ z, z = h237.size := ⟨_, rfl⟩
      rw [← g273] at A273 D273 U273 st273
      refine own_Go.st st273 ?_
      have z273 : h237.size ≤ h273.size := E273.1
      have lt_b273 : @LT.lt Nat _ b273 h273.size := A273.lt
      have f274 : Fld Z h273 b273 "com/example/roaming_pubsub/roamingpubsub/Message" "topic" "Ljava/lang/String;" .null := D273 (Or.inr (hw _ (List.mem_of_getElem? (i := 46) rfl))) (ty := (.object "java/lang/String")) (by decide)
      have f275 : Fld Z h273 b273 "com/example/roaming_pubsub/roamingpubsub/Message" "payload" "[B" .null := D273 (Or.inr (hw _ (List.mem_of_getElem? (i := 48) rfl))) (ty := (.array .byte)) (by decide)
      show own_Go _ _ _ _ (T273.setTop (mkF m 83 #[.val (.int p1), .val (.int p2), .val (.int p3), .val (.int p4), .val (.int len), .val (.ref x_233), .val (.int mm), .val (.ref b234), .unset, .unset, .unset, .unset, .unset, .unset, .unset] [(.ref b273)]))
      refine own_Go.st (fun _ k => XS.dup X273.here hx rfl (hb hby at_83) rfl rfl k) ?_
      show own_Go _ _ _ _ (T273.setTop (mkF m 84 #[.val (.int p1), .val (.int p2), .val (.int p3), .val (.int p4), .val (.int len), .val (.ref x_233), .val (.int mm), .val (.ref b234), .unset, .unset, .unset, .unset, .unset, .unset, .unset] [(.ref b273), (.ref b273)]))
      refine own_Go.st (fun _ k => XS.aload X273.here hx rfl (hb hby at_84) rfl rfl k) ?_
      show own_Go _ _ _ _ (T273.setTop (mkF m 86 #[.val (.int p1), .val (.int p2), .val (.int p3), .val (.int p4), .val (.int len), .val (.ref x_233), .val (.int mm), .val (.ref b234), .unset, .unset, .unset, .unset, .unset, .unset, .unset] [(.ref x_233), (.ref b273), (.ref b273)]))
      refine own_Go.st (fun _ k => XS.aload X273.here hx rfl (hb hby at_86) rfl rfl k) ?_
      show own_Go _ _ _ _ (T273.setTop (mkF m 88 #[.val (.int p1), .val (.int p2), .val (.int p3), .val (.int p4), .val (.int len), .val (.ref x_233), .val (.int mm), .val (.ref b234), .unset, .unset, .unset, .unset, .unset, .unset, .unset] [(.ref b234), (.ref x_233), (.ref b273), (.ref b273)]))
      have f277 : Old Z Z.heap.size T233.heap := OL.keep K233 all0
      have f278 : Old Z Z.heap.size h234 := f277.ext E234
      have f279 : Old Z Z.heap.size h237 := f278.wr W237 (by omega)
      have f280 : Old Z Z.heap.size h273 := f279.ext E273
      obtain ⟨_, _, ⟨T276, L276, k276, n276⟩, -, X276, ⟨Lc276, hQ276, l276, y276, z276⟩, st276⟩ := X273.specialBack hx (y := (⟨"com/example/roaming_pubsub/roamingpubsub/Message", "<init>", "(Ljava/lang/String;[B)V"⟩ : MethodName)) rfl hown (mvT hZ (hw _ (List.mem_of_getElem? (i := 41) rfl))) (mvT hZ (hw _ (List.mem_of_getElem? (i := 42) rfl))) (mvT hZ (hw _ (List.mem_of_getElem? (i := 43) rfl))) (by decide) (backOf (W := 1) (rm_minit l Z a0 hw [] b273 x_233 b234 h273 f280 A273 f274 f275 (by omega)) hZ (hw _ (List.mem_of_getElem? (i := 43) rfl)) (hw _ (List.mem_of_getElem? (i := 40) rfl)) (by decide) (by decide)) (g := (mkF m 88 #[.val (.int p1), .val (.int p2), .val (.int p3), .val (.int p4), .val (.int len), .val (.ref x_233), .val (.int mm), .val (.ref b234), .unset, .unset, .unset, .unset, .unset, .unset, .unset] [(.ref b234), (.ref x_233), (.ref b273), (.ref b273)])) rfl (by rw [hml]; rfl) (Steps.refl _) (a := b273) (argsL := [(.ref x_233), (.ref b234)]) (rest := [(.ref b273)]) (lenOf pd_128 rfl) rfl (by show 2 * 0 + _ ≤ _; exact Nat.le_of_eq rfl) (hb hby at_88) (fun _ _ => ⟨rfl, e273, (by decide : 5 + 0 ≤ _), (by decide : 1037 + 0 ≤ _)⟩)
      dsimp only [Pt.U, Pt.locs, Pt.cells, Pt.slots] at X276 l276 y276 z276 st276 hQ276
      subst l276 y276 z276
      obtain ⟨rfl, N276q, K276, f276_0, f276_1, f276_2⟩ := hQ276
      have N276 := Fr.app N237 N276q
      have z276 : h273.size ≤ T276.heap.size := K276.1
      have lt276_0 : @LT.lt Nat _ b273 T276.heap.size := f276_0.lt
      have lt276_1 : @LT.lt Nat _ b273 T276.heap.size := f276_1.lt
      have lt276_2 : @LT.lt Nat _ b273 T276.heap.size := f276_2.lt
      refine own_Go.tr st276 ?_
      show own_Go _ _ _ _ (T276.setTop (mkF m 91 #[.val (.int p1), .val (.int p2), .val (.int p3), .val (.int p4), .val (.int len), .val (.ref x_233), .val (.int mm), .val (.ref b234), .unset, .unset, .unset, .unset, .unset, .unset, .unset] [(.ref b273)]))
      refine own_Go.st (fun _ k => XS.astore X276.here hx rfl (hb hby at_91) rfl rfl (l' := #[.val (.int p1), .val (.int p2), .val (.int p3), .val (.int p4), .val (.int len), .val (.ref x_233), .val (.int mm), .val (.ref b234), .val (.ref b273), .unset, .unset, .unset, .unset, .unset, .unset]) rfl k) ?_
      show own_Go _ _ _ _ (T276.setTop (mkF m 93 #[.val (.int p1), .val (.int p2), .val (.int p3), .val (.int p4), .val (.int len), .val (.ref x_233), .val (.int mm), .val (.ref b234), .val (.ref b273), .unset, .unset, .unset, .unset, .unset, .unset] []))
      refine own_Go.st (fun _ k => XS.aload X276.here hx rfl (hb hby at_93) rfl rfl k) ?_
      show own_Go _ _ _ _ (T276.setTop (mkF m 95 #[.val (.int p1), .val (.int p2), .val (.int p3), .val (.int p4), .val (.int len), .val (.ref x_233), .val (.int mm), .val (.ref b234), .val (.ref b273), .unset, .unset, .unset, .unset, .unset, .unset] [(.ref b273)]))
      have f282 : own_Str Z h234 x_233 t_233 cs_233 := f233_0.ext E234
      have f283 : own_Str Z h237 x_233 t_233 cs_233 := f282.other W237 (by show @Ne Nat x_233 b234; omega) (by show @Ne Nat t_233 b234; omega)
      have f284 : own_Str Z h273 x_233 t_233 cs_233 := f283.ext E273
      have f285 : own_Str Z T276.heap x_233 t_233 cs_233 := f284.keep K276 (ninS (by show @Ne Nat x_233 b273; omega) nin0) (ninS (by show @Ne Nat t_233 b273; omega) nin0)
      have f286 : Arv Z h273 b234 k234 .byte mm (([] ++ List.replicate 1024 (Value.int (0 : Int32))).set 0 (Value.int (nar .byte (p4.toInt8.toInt32)))) (.int (0 : Int32)) := f239.ext E273
      have f287 : Arv Z T276.heap b234 k234 .byte mm (([] ++ List.replicate 1024 (Value.int (0 : Int32))).set 0 (Value.int (nar .byte (p4.toInt8.toInt32)))) (.int (0 : Int32)) := f286.keep K276 (ninS (by show @Ne Nat b234 b273; omega) nin0)
      have f288 : Old Z Z.heap.size T276.heap := f280.keep K276 (allS (by omega) all0)
      obtain ⟨cq281, kq281, q281a, q281b, q281c⟩ := isOf hZ rfl f276_0
      obtain ⟨_, _, ⟨T281, L281, k281, n281⟩, -, X281, ⟨Lc281, hQ281, l281, y281, z281⟩, st281⟩ := X276.virtualBack hx (y := (⟨"com/example/roaming_pubsub/roamingpubsub/Message", "heapBytes", "()J"⟩ : MethodName)) (z := (⟨"com/example/roaming_pubsub/roamingpubsub/Message", "heapBytes", "()J"⟩ : MethodName)) hown (mvT hZ (hw _ (List.mem_of_getElem? (i := 49) rfl))) (mvT hZ (hw _ (List.mem_of_getElem? (i := 50) rfl))) (notFace_of_selects (args := #[]) (mvT hZ (hw _ (List.mem_of_getElem? (i := 52) rfl)))) (mvT hZ (hw _ (List.mem_of_getElem? (i := 52) rfl))) (mvT hZ (hw _ (List.mem_of_getElem? (i := 51) rfl))) (by decide) (backOf (W := 0) (rm_hb l Z a0 hw [] b273 x_233 b234 t_233 cs_233 k234 mm (([] ++ List.replicate 1024 (Value.int (0 : Int32))).set 0 (Value.int (nar .byte (p4.toInt8.toInt32)))) (.int (0 : Int32)) zc T276.heap f288 f276_1 f276_2 f285 f287 st_COMPACT_STRINGS (by first | assumption | decide)) hZ (hw _ (List.mem_of_getElem? (i := 53) rfl)) (hw _ (List.mem_of_getElem? (i := 40) rfl)) (by decide) (by decide)) q281a q281c (g := (mkF m 95 #[.val (.int p1), .val (.int p2), .val (.int p3), .val (.int p4), .val (.int len), .val (.ref x_233), .val (.int mm), .val (.ref b234), .val (.ref b273), .unset, .unset, .unset, .unset, .unset, .unset] [(.ref b273)])) rfl (by rw [hml]; rfl) (Steps.refl _) (argsL := []) (rest := []) (lenOf pd_129 rfl) rfl (by show 2 * 0 + _ ≤ _; exact Nat.le_of_eq rfl) (hb hby at_95) (fun _ _ => ⟨rfl, rfl, (by decide : 5 + 0 ≤ _), (by decide : 1037 + 0 ≤ _)⟩)
      dsimp only [Pt.U, Pt.locs, Pt.cells, Pt.slots] at X281 l281 y281 z281 st281 hQ281
      subst l281 y281 z281
      obtain ⟨rfl, N281q, K281⟩ := hQ281
      have N281 := Fr.app N276 N281q
      refine own_Go.tr st281 ?_
      show own_Go _ _ _ _ (T281.setTop (mkF m 98 #[.val (.int p1), .val (.int p2), .val (.int p3), .val (.int p4), .val (.int len), .val (.ref x_233), .val (.int mm), .val (.ref b234), .val (.ref b273), .unset, .unset, .unset, .unset, .unset, .unset] [(.long (((2 : Int64) * (Int32.ofNat cs_233.length).toInt64) + mm.toInt64))]))
      refine own_Go.st (fun _ k => XS.lstore X281.here hx rfl (hb hby at_98) rfl (l' := #[.val (.int p1), .val (.int p2), .val (.int p3), .val (.int p4), .val (.int len), .val (.ref x_233), .val (.int mm), .val (.ref b234), .val (.ref b273), .val (.long (((2 : Int64) * (Int32.ofNat cs_233.length).toInt64) + mm.toInt64)), .second, .unset, .unset, .unset, .unset]) rfl k) ?_
      show own_Go _ _ _ _ (T281.setTop (mkF m 100 #[.val (.int p1), .val (.int p2), .val (.int p3), .val (.int p4), .val (.int len), .val (.ref x_233), .val (.int mm), .val (.ref b234), .val (.ref b273), .val (.long (((2 : Int64) * (Int32.ofNat cs_233.length).toInt64) + mm.toInt64)), .second, .unset, .unset, .unset, .unset] []))
      refine own_Go.st (fun _ k => XS.aload X281.here hx rfl (hb hby at_100) rfl rfl k) ?_
      show own_Go _ _ _ _ (T281.setTop (mkF m 102 #[.val (.int p1), .val (.int p2), .val (.int p3), .val (.int p4), .val (.int len), .val (.ref x_233), .val (.int mm), .val (.ref b234), .val (.ref b273), .val (.long (((2 : Int64) * (Int32.ofNat cs_233.length).toInt64) + mm.toInt64)), .second, .unset, .unset, .unset, .unset] [(.ref b273)]))
      obtain ⟨cq289, kq289, q289a, q289b, q289c⟩ := isOf hZ K281 f276_0
      obtain ⟨_, _, ⟨T289, L289, k289, n289⟩, -, X289, ⟨Lc289, hQ289, l289, y289, z289⟩, st289⟩ := X281.virtualBack hx (y := (⟨"com/example/roaming_pubsub/roamingpubsub/Message", "heapBytes", "()J"⟩ : MethodName)) (z := (⟨"com/example/roaming_pubsub/roamingpubsub/Message", "heapBytes", "()J"⟩ : MethodName)) hown (mvT hZ (hw _ (List.mem_of_getElem? (i := 49) rfl))) (mvT hZ (hw _ (List.mem_of_getElem? (i := 50) rfl))) (notFace_of_selects (args := #[]) (mvT hZ (hw _ (List.mem_of_getElem? (i := 52) rfl)))) (mvT hZ (hw _ (List.mem_of_getElem? (i := 52) rfl))) (mvT hZ (hw _ (List.mem_of_getElem? (i := 51) rfl))) (by decide) (backOf (W := 0) (rm_hb l Z a0 hw [] b273 x_233 b234 t_233 cs_233 k234 mm (([] ++ List.replicate 1024 (Value.int (0 : Int32))).set 0 (Value.int (nar .byte (p4.toInt8.toInt32)))) (.int (0 : Int32)) zc T276.heap f288 f276_1 f276_2 f285 f287 st_COMPACT_STRINGS (by first | assumption | decide)) hZ (hw _ (List.mem_of_getElem? (i := 53) rfl)) (hw _ (List.mem_of_getElem? (i := 40) rfl)) (by decide) (by decide)) q289a q289c (g := (mkF m 102 #[.val (.int p1), .val (.int p2), .val (.int p3), .val (.int p4), .val (.int len), .val (.ref x_233), .val (.int mm), .val (.ref b234), .val (.ref b273), .val (.long (((2 : Int64) * (Int32.ofNat cs_233.length).toInt64) + mm.toInt64)), .second, .unset, .unset, .unset, .unset] [(.ref b273)])) rfl (by rw [hml]; rfl) (Steps.refl _) (argsL := []) (rest := []) (lenOf pd_129 rfl) rfl (by show 2 * 0 + _ ≤ _; exact Nat.le_of_eq rfl) (hb hby at_102) (fun _ _ => ⟨rfl, K281, (by decide : 5 + 0 ≤ _), (by decide : 1037 + 0 ≤ _)⟩)
      dsimp only [Pt.U, Pt.locs, Pt.cells, Pt.slots] at X289 l289 y289 z289 st289 hQ289
      subst l289 y289 z289
      obtain ⟨rfl, N289q, K289⟩ := hQ289
      have N289 := Fr.app N281 N289q
      refine own_Go.tr st289 ?_
      show own_Go _ _ _ _ (T289.setTop (mkF m 105 #[.val (.int p1), .val (.int p2), .val (.int p3), .val (.int p4), .val (.int len), .val (.ref x_233), .val (.int mm), .val (.ref b234), .val (.ref b273), .val (.long (((2 : Int64) * (Int32.ofNat cs_233.length).toInt64) + mm.toInt64)), .second, .unset, .unset, .unset, .unset] [(.long (((2 : Int64) * (Int32.ofNat cs_233.length).toInt64) + mm.toInt64))]))
      refine own_Go.st (fun _ k => XS.lstore X289.here hx rfl (hb hby at_105) rfl (l' := #[.val (.int p1), .val (.int p2), .val (.int p3), .val (.int p4), .val (.int len), .val (.ref x_233), .val (.int mm), .val (.ref b234), .val (.ref b273), .val (.long (((2 : Int64) * (Int32.ofNat cs_233.length).toInt64) + mm.toInt64)), .second, .val (.long (((2 : Int64) * (Int32.ofNat cs_233.length).toInt64) + mm.toInt64)), .second, .unset, .unset]) rfl k) ?_
      show own_Go _ _ _ _ (T289.setTop (mkF m 107 #[.val (.int p1), .val (.int p2), .val (.int p3), .val (.int p4), .val (.int len), .val (.ref x_233), .val (.int mm), .val (.ref b234), .val (.ref b273), .val (.long (((2 : Int64) * (Int32.ofNat cs_233.length).toInt64) + mm.toInt64)), .second, .val (.long (((2 : Int64) * (Int32.ofNat cs_233.length).toInt64) + mm.toInt64)), .second, .unset, .unset] []))
      refine own_Go.st (X289.ldc2Long hx hown (mvT hZ (hw _ (List.mem_of_getElem? (i := 65) rfl))) (g := (mkF m 107 #[.val (.int p1), .val (.int p2), .val (.int p3), .val (.int p4), .val (.int len), .val (.ref x_233), .val (.int mm), .val (.ref b234), .val (.ref b273), .val (.long (((2 : Int64) * (Int32.ofNat cs_233.length).toInt64) + mm.toInt64)), .second, .val (.long (((2 : Int64) * (Int32.ofNat cs_233.length).toInt64) + mm.toInt64)), .second, .unset, .unset] [])) rfl (hb hby at_107)) ?_
      show own_Go _ _ _ _ (T289.setTop (mkF m 110 #[.val (.int p1), .val (.int p2), .val (.int p3), .val (.int p4), .val (.int len), .val (.ref x_233), .val (.int mm), .val (.ref b234), .val (.ref b273), .val (.long (((2 : Int64) * (Int32.ofNat cs_233.length).toInt64) + mm.toInt64)), .second, .val (.long (((2 : Int64) * (Int32.ofNat cs_233.length).toInt64) + mm.toInt64)), .second, .unset, .unset] [(.long (2 : Int64))]))
      refine own_Go.st (fun _ k => XS.iload X289.here hx rfl (hb hby at_110) rfl k) ?_
      show own_Go _ _ _ _ (T289.setTop (mkF m 112 #[.val (.int p1), .val (.int p2), .val (.int p3), .val (.int p4), .val (.int len), .val (.ref x_233), .val (.int mm), .val (.ref b234), .val (.ref b273), .val (.long (((2 : Int64) * (Int32.ofNat cs_233.length).toInt64) + mm.toInt64)), .second, .val (.long (((2 : Int64) * (Int32.ofNat cs_233.length).toInt64) + mm.toInt64)), .second, .unset, .unset] [(.int len), (.long (2 : Int64))]))
      refine own_Go.st (fun _ k => XS.i2l X289.here hx rfl (hb hby at_112) rfl k) ?_
      show own_Go _ _ _ _ (T289.setTop (mkF m 113 #[.val (.int p1), .val (.int p2), .val (.int p3), .val (.int p4), .val (.int len), .val (.ref x_233), .val (.int mm), .val (.ref b234), .val (.ref b273), .val (.long (((2 : Int64) * (Int32.ofNat cs_233.length).toInt64) + mm.toInt64)), .second, .val (.long (((2 : Int64) * (Int32.ofNat cs_233.length).toInt64) + mm.toInt64)), .second, .unset, .unset] [(.long (len.toInt64)), (.long (2 : Int64))]))
      refine own_Go.st (fun _ k => XS.lmul X289.here hx rfl (hb hby at_113) rfl k) ?_
      show own_Go _ _ _ _ (T289.setTop (mkF m 114 #[.val (.int p1), .val (.int p2), .val (.int p3), .val (.int p4), .val (.int len), .val (.ref x_233), .val (.int mm), .val (.ref b234), .val (.ref b273), .val (.long (((2 : Int64) * (Int32.ofNat cs_233.length).toInt64) + mm.toInt64)), .second, .val (.long (((2 : Int64) * (Int32.ofNat cs_233.length).toInt64) + mm.toInt64)), .second, .unset, .unset] [(.long ((2 : Int64) * (len.toInt64)))]))
      refine own_Go.st (fun _ k => XS.iload X289.here hx rfl (hb hby at_114) rfl k) ?_
      show own_Go _ _ _ _ (T289.setTop (mkF m 116 #[.val (.int p1), .val (.int p2), .val (.int p3), .val (.int p4), .val (.int len), .val (.ref x_233), .val (.int mm), .val (.ref b234), .val (.ref b273), .val (.long (((2 : Int64) * (Int32.ofNat cs_233.length).toInt64) + mm.toInt64)), .second, .val (.long (((2 : Int64) * (Int32.ofNat cs_233.length).toInt64) + mm.toInt64)), .second, .unset, .unset] [(.int mm), (.long ((2 : Int64) * (len.toInt64)))]))
      refine own_Go.st (fun _ k => XS.i2l X289.here hx rfl (hb hby at_116) rfl k) ?_
      show own_Go _ _ _ _ (T289.setTop (mkF m 117 #[.val (.int p1), .val (.int p2), .val (.int p3), .val (.int p4), .val (.int len), .val (.ref x_233), .val (.int mm), .val (.ref b234), .val (.ref b273), .val (.long (((2 : Int64) * (Int32.ofNat cs_233.length).toInt64) + mm.toInt64)), .second, .val (.long (((2 : Int64) * (Int32.ofNat cs_233.length).toInt64) + mm.toInt64)), .second, .unset, .unset] [(.long (mm.toInt64)), (.long ((2 : Int64) * (len.toInt64)))]))
      refine own_Go.st (fun _ k => XS.ladd X289.here hx rfl (hb hby at_117) rfl k) ?_
      show own_Go _ _ _ _ (T289.setTop (mkF m 118 #[.val (.int p1), .val (.int p2), .val (.int p3), .val (.int p4), .val (.int len), .val (.ref x_233), .val (.int mm), .val (.ref b234), .val (.ref b273), .val (.long (((2 : Int64) * (Int32.ofNat cs_233.length).toInt64) + mm.toInt64)), .second, .val (.long (((2 : Int64) * (Int32.ofNat cs_233.length).toInt64) + mm.toInt64)), .second, .unset, .unset] [(.long (((2 : Int64) * (len.toInt64)) + (mm.toInt64)))]))
      refine own_Go.st (fun _ k => XS.lstore X289.here hx rfl (hb hby at_118) rfl (l' := #[.val (.int p1), .val (.int p2), .val (.int p3), .val (.int p4), .val (.int len), .val (.ref x_233), .val (.int mm), .val (.ref b234), .val (.ref b273), .val (.long (((2 : Int64) * (Int32.ofNat cs_233.length).toInt64) + mm.toInt64)), .second, .val (.long (((2 : Int64) * (Int32.ofNat cs_233.length).toInt64) + mm.toInt64)), .second, .val (.long (((2 : Int64) * (len.toInt64)) + (mm.toInt64))), .second]) rfl k) ?_
      show own_Go _ _ _ _ (T289.setTop (mkF m 120 #[.val (.int p1), .val (.int p2), .val (.int p3), .val (.int p4), .val (.int len), .val (.ref x_233), .val (.int mm), .val (.ref b234), .val (.ref b273), .val (.long (((2 : Int64) * (Int32.ofNat cs_233.length).toInt64) + mm.toInt64)), .second, .val (.long (((2 : Int64) * (Int32.ofNat cs_233.length).toInt64) + mm.toInt64)), .second, .val (.long (((2 : Int64) * (len.toInt64)) + (mm.toInt64))), .second] []))
      refine own_Go.st (fun _ k => XS.lload X289.here hx rfl (hb hby at_120) rfl k) ?_
      show own_Go _ _ _ _ (T289.setTop (mkF m 122 #[.val (.int p1), .val (.int p2), .val (.int p3), .val (.int p4), .val (.int len), .val (.ref x_233), .val (.int mm), .val (.ref b234), .val (.ref b273), .val (.long (((2 : Int64) * (Int32.ofNat cs_233.length).toInt64) + mm.toInt64)), .second, .val (.long (((2 : Int64) * (Int32.ofNat cs_233.length).toInt64) + mm.toInt64)), .second, .val (.long (((2 : Int64) * (len.toInt64)) + (mm.toInt64))), .second] [(.long (((2 : Int64) * (Int32.ofNat cs_233.length).toInt64) + mm.toInt64))]))
      refine own_Go.st (fun _ k => XS.lload X289.here hx rfl (hb hby at_122) rfl k) ?_
      show own_Go _ _ _ _ (T289.setTop (mkF m 124 #[.val (.int p1), .val (.int p2), .val (.int p3), .val (.int p4), .val (.int len), .val (.ref x_233), .val (.int mm), .val (.ref b234), .val (.ref b273), .val (.long (((2 : Int64) * (Int32.ofNat cs_233.length).toInt64) + mm.toInt64)), .second, .val (.long (((2 : Int64) * (Int32.ofNat cs_233.length).toInt64) + mm.toInt64)), .second, .val (.long (((2 : Int64) * (len.toInt64)) + (mm.toInt64))), .second] [(.long (((2 : Int64) * (len.toInt64)) + (mm.toInt64))), (.long (((2 : Int64) * (Int32.ofNat cs_233.length).toInt64) + mm.toInt64))]))
      refine own_Go.st (fun _ k => XS.lcmp X289.here hx rfl (hb hby at_124) rfl k) ?_
      show own_Go _ _ _ _ (T289.setTop (mkF m 125 #[.val (.int p1), .val (.int p2), .val (.int p3), .val (.int p4), .val (.int len), .val (.ref x_233), .val (.int mm), .val (.ref b234), .val (.ref b273), .val (.long (((2 : Int64) * (Int32.ofNat cs_233.length).toInt64) + mm.toInt64)), .second, .val (.long (((2 : Int64) * (Int32.ofNat cs_233.length).toInt64) + mm.toInt64)), .second, .val (.long (((2 : Int64) * (len.toInt64)) + (mm.toInt64))), .second] [(.int (lcmpW (((2 : Int64) * (Int32.ofNat cs_233.length).toInt64) + mm.toInt64) (((2 : Int64) * (len.toInt64)) + (mm.toInt64))))]))
      have hc290 : (lcmpW (((2 : Int64) * (Int32.ofNat cs_233.length).toInt64) + mm.toInt64) (((2 : Int64) * (len.toInt64)) + (mm.toInt64))) = (0 : Int32) := (lw_eq _ _).mpr (by rw [← pr233_0])
      refine own_Go.st (fun _ k => XS.ifNo X289.here hx rfl (hb hby at_125) rfl ((if0 _ _).trans (teq hc290).2) k) ?_
      show own_Go _ _ _ _ (T289.setTop (mkF m 128 #[.val (.int p1), .val (.int p2), .val (.int p3), .val (.int p4), .val (.int len), .val (.ref x_233), .val (.int mm), .val (.ref b234), .val (.ref b273), .val (.long (((2 : Int64) * (Int32.ofNat cs_233.length).toInt64) + mm.toInt64)), .second, .val (.long (((2 : Int64) * (Int32.ofNat cs_233.length).toInt64) + mm.toInt64)), .second, .val (.long (((2 : Int64) * (len.toInt64)) + (mm.toInt64))), .second] []))
      refine own_Go.st (fun _ k => XS.lload X289.here hx rfl (hb hby at_128) rfl k) ?_
      show own_Go _ _ _ _ (T289.setTop (mkF m 130 #[.val (.int p1), .val (.int p2), .val (.int p3), .val (.int p4), .val (.int len), .val (.ref x_233), .val (.int mm), .val (.ref b234), .val (.ref b273), .val (.long (((2 : Int64) * (Int32.ofNat cs_233.length).toInt64) + mm.toInt64)), .second, .val (.long (((2 : Int64) * (Int32.ofNat cs_233.length).toInt64) + mm.toInt64)), .second, .val (.long (((2 : Int64) * (len.toInt64)) + (mm.toInt64))), .second] [(.long (((2 : Int64) * (Int32.ofNat cs_233.length).toInt64) + mm.toInt64))]))
      refine own_Go.st (fun _ k => XS.lload X289.here hx rfl (hb hby at_130) rfl k) ?_
      show own_Go _ _ _ _ (T289.setTop (mkF m 132 #[.val (.int p1), .val (.int p2), .val (.int p3), .val (.int p4), .val (.int len), .val (.ref x_233), .val (.int mm), .val (.ref b234), .val (.ref b273), .val (.long (((2 : Int64) * (Int32.ofNat cs_233.length).toInt64) + mm.toInt64)), .second, .val (.long (((2 : Int64) * (Int32.ofNat cs_233.length).toInt64) + mm.toInt64)), .second, .val (.long (((2 : Int64) * (len.toInt64)) + (mm.toInt64))), .second] [(.long (((2 : Int64) * (Int32.ofNat cs_233.length).toInt64) + mm.toInt64)), (.long (((2 : Int64) * (Int32.ofNat cs_233.length).toInt64) + mm.toInt64))]))
      refine own_Go.st (fun _ k => XS.lcmp X289.here hx rfl (hb hby at_132) rfl k) ?_
      show own_Go _ _ _ _ (T289.setTop (mkF m 133 #[.val (.int p1), .val (.int p2), .val (.int p3), .val (.int p4), .val (.int len), .val (.ref x_233), .val (.int mm), .val (.ref b234), .val (.ref b273), .val (.long (((2 : Int64) * (Int32.ofNat cs_233.length).toInt64) + mm.toInt64)), .second, .val (.long (((2 : Int64) * (Int32.ofNat cs_233.length).toInt64) + mm.toInt64)), .second, .val (.long (((2 : Int64) * (len.toInt64)) + (mm.toInt64))), .second] [(.int (lcmpW (((2 : Int64) * (Int32.ofNat cs_233.length).toInt64) + mm.toInt64) (((2 : Int64) * (Int32.ofNat cs_233.length).toInt64) + mm.toInt64)))]))
      have hc291 : (lcmpW (((2 : Int64) * (Int32.ofNat cs_233.length).toInt64) + mm.toInt64) (((2 : Int64) * (Int32.ofNat cs_233.length).toInt64) + mm.toInt64)) = (0 : Int32) := (lw_eq _ _).mpr rfl
      refine own_Go.st (fun _ k => XS.ifNo X289.here hx rfl (hb hby at_133) rfl ((if0 _ _).trans (teq hc291).2) k) ?_
      show own_Go _ _ _ _ (T289.setTop (mkF m 136 #[.val (.int p1), .val (.int p2), .val (.int p3), .val (.int p4), .val (.int len), .val (.ref x_233), .val (.int mm), .val (.ref b234), .val (.ref b273), .val (.long (((2 : Int64) * (Int32.ofNat cs_233.length).toInt64) + mm.toInt64)), .second, .val (.long (((2 : Int64) * (Int32.ofNat cs_233.length).toInt64) + mm.toInt64)), .second, .val (.long (((2 : Int64) * (len.toInt64)) + (mm.toInt64))), .second] []))
      refine own_Go.st (fun _ k => XS.aload X289.here hx rfl (hb hby at_136) rfl rfl k) ?_
      show own_Go _ _ _ _ (T289.setTop (mkF m 138 #[.val (.int p1), .val (.int p2), .val (.int p3), .val (.int p4), .val (.int len), .val (.ref x_233), .val (.int mm), .val (.ref b234), .val (.ref b273), .val (.long (((2 : Int64) * (Int32.ofNat cs_233.length).toInt64) + mm.toInt64)), .second, .val (.long (((2 : Int64) * (Int32.ofNat cs_233.length).toInt64) + mm.toInt64)), .second, .val (.long (((2 : Int64) * (len.toInt64)) + (mm.toInt64))), .second] [(.ref b273)]))
      obtain ⟨cq292, kq292, q292a, q292b, q292c⟩ := isOf hZ K289 f276_0
      obtain ⟨_, _, ⟨T292, L292, k292, n292⟩, -, X292, ⟨Lc292, hQ292, l292, y292, z292⟩, st292⟩ := X289.virtualBack hx (y := (⟨"com/example/roaming_pubsub/roamingpubsub/Message", "topic", "()Ljava/lang/String;"⟩ : MethodName)) (z := (⟨"com/example/roaming_pubsub/roamingpubsub/Message", "topic", "()Ljava/lang/String;"⟩ : MethodName)) hown (mvT hZ (hw _ (List.mem_of_getElem? (i := 66) rfl))) (mvT hZ (hw _ (List.mem_of_getElem? (i := 67) rfl))) (notFace_of_selects (args := #[]) (mvT hZ (hw _ (List.mem_of_getElem? (i := 69) rfl)))) (mvT hZ (hw _ (List.mem_of_getElem? (i := 69) rfl))) (mvT hZ (hw _ (List.mem_of_getElem? (i := 68) rfl))) (by decide) (backOf (W := 0) (rm_topic l Z a0 hw [] b273 x_233 T276.heap f288 f276_1) hZ (hw _ (List.mem_of_getElem? (i := 70) rfl)) (hw _ (List.mem_of_getElem? (i := 40) rfl)) (by decide) (by decide)) q292a q292c (g := (mkF m 138 #[.val (.int p1), .val (.int p2), .val (.int p3), .val (.int p4), .val (.int len), .val (.ref x_233), .val (.int mm), .val (.ref b234), .val (.ref b273), .val (.long (((2 : Int64) * (Int32.ofNat cs_233.length).toInt64) + mm.toInt64)), .second, .val (.long (((2 : Int64) * (Int32.ofNat cs_233.length).toInt64) + mm.toInt64)), .second, .val (.long (((2 : Int64) * (len.toInt64)) + (mm.toInt64))), .second] [(.ref b273)])) rfl (by rw [hml]; rfl) (Steps.refl _) (argsL := []) (rest := []) (lenOf pd_130 rfl) rfl (by show 2 * 0 + _ ≤ _; exact Nat.le_of_eq rfl) (hb hby at_138) (fun _ _ => ⟨rfl, K289, (by decide : 5 + 0 ≤ _), (by decide : 1037 + 0 ≤ _)⟩)
      dsimp only [Pt.U, Pt.locs, Pt.cells, Pt.slots] at X292 l292 y292 z292 st292 hQ292
      subst l292 y292 z292
      obtain ⟨rfl, N292q, K292⟩ := hQ292
      have N292 := Fr.app N289 N292q
      refine own_Go.tr st292 ?_
      show own_Go _ _ _ _ (T292.setTop (mkF m 141 #[.val (.int p1), .val (.int p2), .val (.int p3), .val (.int p4), .val (.int len), .val (.ref x_233), .val (.int mm), .val (.ref b234), .val (.ref b273), .val (.long (((2 : Int64) * (Int32.ofNat cs_233.length).toInt64) + mm.toInt64)), .second, .val (.long (((2 : Int64) * (Int32.ofNat cs_233.length).toInt64) + mm.toInt64)), .second, .val (.long (((2 : Int64) * (len.toInt64)) + (mm.toInt64))), .second] [(.ref x_233)]))
      refine own_Go.st (fun _ k => XS.aload X292.here hx rfl (hb hby at_141) rfl rfl k) ?_
      show own_Go _ _ _ _ (T292.setTop (mkF m 143 #[.val (.int p1), .val (.int p2), .val (.int p3), .val (.int p4), .val (.int len), .val (.ref x_233), .val (.int mm), .val (.ref b234), .val (.ref b273), .val (.long (((2 : Int64) * (Int32.ofNat cs_233.length).toInt64) + mm.toInt64)), .second, .val (.long (((2 : Int64) * (Int32.ofNat cs_233.length).toInt64) + mm.toInt64)), .second, .val (.long (((2 : Int64) * (len.toInt64)) + (mm.toInt64))), .second] [(.ref x_233), (.ref x_233)]))
      refine own_Go.st (fun _ k => Jvm.RoadKit.acmp (g := (mkF m 143 #[.val (.int p1), .val (.int p2), .val (.int p3), .val (.int p4), .val (.int len), .val (.ref x_233), .val (.int mm), .val (.ref b234), .val (.ref b273), .val (.long (((2 : Int64) * (Int32.ofNat cs_233.length).toInt64) + mm.toInt64)), .second, .val (.long (((2 : Int64) * (Int32.ofNat cs_233.length).toInt64) + mm.toInt64)), .second, .val (.long (((2 : Int64) * (len.toInt64)) + (mm.toInt64))), .second] [(.ref x_233), (.ref x_233)])) X292 hx rfl rfl rfl (pc0 := 143) (pc' := 146) (same := true) rfl (hb hby at_143) rfl (decide_eq_true rfl) (by decide) (by decide) k) ?_
      show own_Go _ _ _ _ (T292.setTop (mkF m 146 #[.val (.int p1), .val (.int p2), .val (.int p3), .val (.int p4), .val (.int len), .val (.ref x_233), .val (.int mm), .val (.ref b234), .val (.ref b273), .val (.long (((2 : Int64) * (Int32.ofNat cs_233.length).toInt64) + mm.toInt64)), .second, .val (.long (((2 : Int64) * (Int32.ofNat cs_233.length).toInt64) + mm.toInt64)), .second, .val (.long (((2 : Int64) * (len.toInt64)) + (mm.toInt64))), .second] []))
      refine own_Go.st (fun _ k => XS.aload X292.here hx rfl (hb hby at_146) rfl rfl k) ?_
      show own_Go _ _ _ _ (T292.setTop (mkF m 148 #[.val (.int p1), .val (.int p2), .val (.int p3), .val (.int p4), .val (.int len), .val (.ref x_233), .val (.int mm), .val (.ref b234), .val (.ref b273), .val (.long (((2 : Int64) * (Int32.ofNat cs_233.length).toInt64) + mm.toInt64)), .second, .val (.long (((2 : Int64) * (Int32.ofNat cs_233.length).toInt64) + mm.toInt64)), .second, .val (.long (((2 : Int64) * (len.toInt64)) + (mm.toInt64))), .second] [(.ref b273)]))
      obtain ⟨cq293, kq293, q293a, q293b, q293c⟩ := isOf hZ K292 f276_0
      obtain ⟨_, _, ⟨T293, L293, k293, n293⟩, -, X293, ⟨Lc293, hQ293, l293, y293, z293⟩, st293⟩ := X292.virtualBack hx (y := (⟨"com/example/roaming_pubsub/roamingpubsub/Message", "payload", "()[B"⟩ : MethodName)) (z := (⟨"com/example/roaming_pubsub/roamingpubsub/Message", "payload", "()[B"⟩ : MethodName)) hown (mvT hZ (hw _ (List.mem_of_getElem? (i := 71) rfl))) (mvT hZ (hw _ (List.mem_of_getElem? (i := 72) rfl))) (notFace_of_selects (args := #[]) (mvT hZ (hw _ (List.mem_of_getElem? (i := 74) rfl)))) (mvT hZ (hw _ (List.mem_of_getElem? (i := 74) rfl))) (mvT hZ (hw _ (List.mem_of_getElem? (i := 73) rfl))) (by decide) (backOf (W := 0) (rm_payload l Z a0 hw [] b273 b234 T276.heap f288 f276_2) hZ (hw _ (List.mem_of_getElem? (i := 75) rfl)) (hw _ (List.mem_of_getElem? (i := 40) rfl)) (by decide) (by decide)) q293a q293c (g := (mkF m 148 #[.val (.int p1), .val (.int p2), .val (.int p3), .val (.int p4), .val (.int len), .val (.ref x_233), .val (.int mm), .val (.ref b234), .val (.ref b273), .val (.long (((2 : Int64) * (Int32.ofNat cs_233.length).toInt64) + mm.toInt64)), .second, .val (.long (((2 : Int64) * (Int32.ofNat cs_233.length).toInt64) + mm.toInt64)), .second, .val (.long (((2 : Int64) * (len.toInt64)) + (mm.toInt64))), .second] [(.ref b273)])) rfl (by rw [hml]; rfl) (Steps.refl _) (argsL := []) (rest := []) (lenOf pd_131 rfl) rfl (by show 2 * 0 + _ ≤ _; exact Nat.le_of_eq rfl) (hb hby at_148) (fun _ _ => ⟨rfl, K292, (by decide : 5 + 0 ≤ _), (by decide : 1037 + 0 ≤ _)⟩)
      dsimp only [Pt.U, Pt.locs, Pt.cells, Pt.slots] at X293 l293 y293 z293 st293 hQ293
      subst l293 y293 z293
      obtain ⟨rfl, N293q, K293⟩ := hQ293
      have N293 := Fr.app N292 N293q
      refine own_Go.tr st293 ?_
      show own_Go _ _ _ _ (T293.setTop (mkF m 151 #[.val (.int p1), .val (.int p2), .val (.int p3), .val (.int p4), .val (.int len), .val (.ref x_233), .val (.int mm), .val (.ref b234), .val (.ref b273), .val (.long (((2 : Int64) * (Int32.ofNat cs_233.length).toInt64) + mm.toInt64)), .second, .val (.long (((2 : Int64) * (Int32.ofNat cs_233.length).toInt64) + mm.toInt64)), .second, .val (.long (((2 : Int64) * (len.toInt64)) + (mm.toInt64))), .second] [(.ref b234)]))
      refine own_Go.st (fun _ k => XS.aload X293.here hx rfl (hb hby at_151) rfl rfl k) ?_
      show own_Go _ _ _ _ (T293.setTop (mkF m 153 #[.val (.int p1), .val (.int p2), .val (.int p3), .val (.int p4), .val (.int len), .val (.ref x_233), .val (.int mm), .val (.ref b234), .val (.ref b273), .val (.long (((2 : Int64) * (Int32.ofNat cs_233.length).toInt64) + mm.toInt64)), .second, .val (.long (((2 : Int64) * (Int32.ofNat cs_233.length).toInt64) + mm.toInt64)), .second, .val (.long (((2 : Int64) * (len.toInt64)) + (mm.toInt64))), .second] [(.ref b234), (.ref b234)]))
      refine own_Go.st (fun _ k => Jvm.RoadKit.acmp (g := (mkF m 153 #[.val (.int p1), .val (.int p2), .val (.int p3), .val (.int p4), .val (.int len), .val (.ref x_233), .val (.int mm), .val (.ref b234), .val (.ref b273), .val (.long (((2 : Int64) * (Int32.ofNat cs_233.length).toInt64) + mm.toInt64)), .second, .val (.long (((2 : Int64) * (Int32.ofNat cs_233.length).toInt64) + mm.toInt64)), .second, .val (.long (((2 : Int64) * (len.toInt64)) + (mm.toInt64))), .second] [(.ref b234), (.ref b234)])) X293 hx rfl rfl rfl (pc0 := 153) (pc' := 156) (same := true) rfl (hb hby at_153) rfl (decide_eq_true rfl) (by decide) (by decide) k) ?_
      show own_Go _ _ _ _ (T293.setTop (mkF m 156 #[.val (.int p1), .val (.int p2), .val (.int p3), .val (.int p4), .val (.int len), .val (.ref x_233), .val (.int mm), .val (.ref b234), .val (.ref b273), .val (.long (((2 : Int64) * (Int32.ofNat cs_233.length).toInt64) + mm.toInt64)), .second, .val (.long (((2 : Int64) * (Int32.ofNat cs_233.length).toInt64) + mm.toInt64)), .second, .val (.long (((2 : Int64) * (len.toInt64)) + (mm.toInt64))), .second] []))
      refine own_Go.st (fun _ k => XS.iconst X293.here hx rfl (hb hby at_156) k) ?_
      show own_Go _ _ _ _ (T293.setTop (mkF m 157 #[.val (.int p1), .val (.int p2), .val (.int p3), .val (.int p4), .val (.int len), .val (.ref x_233), .val (.int mm), .val (.ref b234), .val (.ref b273), .val (.long (((2 : Int64) * (Int32.ofNat cs_233.length).toInt64) + mm.toInt64)), .second, .val (.long (((2 : Int64) * (Int32.ofNat cs_233.length).toInt64) + mm.toInt64)), .second, .val (.long (((2 : Int64) * (len.toInt64)) + (mm.toInt64))), .second] [(.int (1 : Int32))]))
      refine own_Go.st (fun _ k => XS.goto X293.here hx rfl (pc0 := 157) (pc' := 161) rfl (hb hby at_157) (by decide) (by decide) k) ?_
      show own_Go _ _ _ _ (T293.setTop (mkF m 161 #[.val (.int p1), .val (.int p2), .val (.int p3), .val (.int p4), .val (.int len), .val (.ref x_233), .val (.int mm), .val (.ref b234), .val (.ref b273), .val (.long (((2 : Int64) * (Int32.ofNat cs_233.length).toInt64) + mm.toInt64)), .second, .val (.long (((2 : Int64) * (Int32.ofNat cs_233.length).toInt64) + mm.toInt64)), .second, .val (.long (((2 : Int64) * (len.toInt64)) + (mm.toInt64))), .second] [(.int (1 : Int32))]))
      obtain ⟨fs294, hr294, hrun294, hend294, hW294, hsm294⟩ := X293.leave (v := some (.int (nar .boolean (1 : Int32)))) (fun h => by rw [Bd.returns] at h; cases h)
      have K295 : Keep h0 T233.heap [] := (Keep.refl h0 []).trans K233 all0
      have K296 : Keep h0 h234 [] := K295.ext E234
      have K297 : Keep h0 h237 [] := K296.wr W237 (Or.inr (by omega))
      have K298 : Keep h0 h273 [] := K297.ext E273
      have K299 : Keep h0 T276.heap [] := K298.trans K276 (allS (Or.inr (by omega)) all0)
      subst hPP
      refine ⟨_, _, retN X293 hx (t := .boolean) Bd.returns (by simp) (hb hby at_161) hr294, hrun294, hend294, _, _, rfl, ?_, ⟨_, rfl⟩, hW294, hsm294.mono (by decide) (by decide)⟩
      · show Q_law Z p1 p2 p3 p4 zc h0 _ T293.heap _
        rw [K293]
        exact ⟨rfl, N293, K299⟩
  ·
    refine own_Go.st (fun _ k => XS.ifYes X234.here hx rfl (pc0 := 53) (pc' := 62) rfl (hb hby at_53) rfl ((if0 _ _).trans (flt hq53).2.2.2) (by decide) (by decide) k) ?_
    show own_Go _ _ _ _ (T234.setTop (mkF m 62 #[.val (.int p1), .val (.int p2), .val (.int p3), .val (.int p4), .val (.int len), .val (.ref x_233), .val (.int mm), .val (.ref b234), .unset, .unset, .unset, .unset, .unset, .unset, .unset] []))
    refine own_Go.st (fun _ k => XS.iload X234.here hx rfl (hb hby at_62) rfl k) ?_
    show own_Go _ _ _ _ (T234.setTop (mkF m 64 #[.val (.int p1), .val (.int p2), .val (.int p3), .val (.int p4), .val (.int len), .val (.ref x_233), .val (.int mm), .val (.ref b234), .unset, .unset, .unset, .unset, .unset, .unset, .unset] [(.int mm)]))
    refine own_Go.st (fun _ k => XS.iconst X234.here hx rfl (hb hby at_64) k) ?_
    show own_Go _ _ _ _ (T234.setTop (mkF m 65 #[.val (.int p1), .val (.int p2), .val (.int p3), .val (.int p4), .val (.int len), .val (.ref x_233), .val (.int mm), .val (.ref b234), .unset, .unset, .unset, .unset, .unset, .unset, .unset] [(.int (1 : Int32)), (.int mm)]))
    by_cases hq65 : (1 : Int32) < mm
    ·
      refine own_Go.st (fun _ k => XS.icmpNo X234.here hx rfl (hb hby at_65) rfl (tlt hq65).2.2.2 k) ?_
      show own_Go _ _ _ _ (T234.setTop (mkF m 68 #[.val (.int p1), .val (.int p2), .val (.int p3), .val (.int p4), .val (.int len), .val (.ref x_233), .val (.int mm), .val (.ref b234), .unset, .unset, .unset, .unset, .unset, .unset, .unset] []))
      refine own_Go.st (fun _ k => XS.aload X234.here hx rfl (hb hby at_68) rfl rfl k) ?_
      show own_Go _ _ _ _ (T234.setTop (mkF m 70 #[.val (.int p1), .val (.int p2), .val (.int p3), .val (.int p4), .val (.int len), .val (.ref x_233), .val (.int mm), .val (.ref b234), .unset, .unset, .unset, .unset, .unset, .unset, .unset] [(.ref b234)]))
      refine own_Go.st (fun _ k => XS.iload X234.here hx rfl (hb hby at_70) rfl k) ?_
      show own_Go _ _ _ _ (T234.setTop (mkF m 72 #[.val (.int p1), .val (.int p2), .val (.int p3), .val (.int p4), .val (.int len), .val (.ref x_233), .val (.int mm), .val (.ref b234), .unset, .unset, .unset, .unset, .unset, .unset, .unset] [(.int mm), (.ref b234)]))
      refine own_Go.st (fun _ k => XS.iconst X234.here hx rfl (hb hby at_72) k) ?_
      show own_Go _ _ _ _ (T234.setTop (mkF m 73 #[.val (.int p1), .val (.int p2), .val (.int p3), .val (.int p4), .val (.int len), .val (.ref x_233), .val (.int mm), .val (.ref b234), .unset, .unset, .unset, .unset, .unset, .unset, .unset] [(.int (1 : Int32)), (.int mm), (.ref b234)]))
      refine own_Go.st (fun _ k => XS.isub X234.here hx rfl (hb hby at_73) rfl k) ?_
      show own_Go _ _ _ _ (T234.setTop (mkF m 74 #[.val (.int p1), .val (.int p2), .val (.int p3), .val (.int p4), .val (.int len), .val (.ref x_233), .val (.int mm), .val (.ref b234), .unset, .unset, .unset, .unset, .unset, .unset, .unset] [(.int (mm - (1 : Int32))), (.ref b234)]))
      refine own_Go.st (fun _ k => XS.iloadN X234.here hx rfl (hb hby at_74) rfl k) ?_
      show own_Go _ _ _ _ (T234.setTop (mkF m 75 #[.val (.int p1), .val (.int p2), .val (.int p3), .val (.int p4), .val (.int len), .val (.ref x_233), .val (.int mm), .val (.ref b234), .unset, .unset, .unset, .unset, .unset, .unset, .unset] [(.int p4), (.int (mm - (1 : Int32))), (.ref b234)]))
      refine own_Go.st (fun _ k => XS.bipush X234.here hx rfl (hb hby at_75) k) ?_
      show own_Go _ _ _ _ (T234.setTop (mkF m 77 #[.val (.int p1), .val (.int p2), .val (.int p3), .val (.int p4), .val (.int len), .val (.ref x_233), .val (.int mm), .val (.ref b234), .unset, .unset, .unset, .unset, .unset, .unset, .unset] [(.int (8 : Int32)), (.int p4), (.int (mm - (1 : Int32))), (.ref b234)]))
      refine own_Go.st (fun _ k => XS.iushr X234.here hx rfl (hb hby at_77) rfl k) ?_
      show own_Go _ _ _ _ (T234.setTop (mkF m 78 #[.val (.int p1), .val (.int p2), .val (.int p3), .val (.int p4), .val (.int len), .val (.ref x_233), .val (.int mm), .val (.ref b234), .unset, .unset, .unset, .unset, .unset, .unset, .unset] [(.int ((p4.toUInt32 >>> ((8 : Int32) &&& 31).toUInt32).toInt32)), (.int (mm - (1 : Int32))), (.ref b234)]))
      refine own_Go.st (fun _ k => XS.i2b X234.here hx rfl (hb hby at_78) rfl k) ?_
      show own_Go _ _ _ _ (T234.setTop (mkF m 79 #[.val (.int p1), .val (.int p2), .val (.int p3), .val (.int p4), .val (.int len), .val (.ref x_233), .val (.int mm), .val (.ref b234), .unset, .unset, .unset, .unset, .unset, .unset, .unset] [(.int (((p4.toUInt32 >>> ((8 : Int32) &&& 31).toUInt32).toInt32).toInt8.toInt32)), (.int (mm - (1 : Int32))), (.ref b234)]))
      obtain ⟨c300, Ar300, q300, S300, Nn300, H300, G300⟩ := id f236
      have hin300 : ¬ ((mm - (1 : Int32)) < 0 ∨ c300.slots.size ≤ ((mm - (1 : Int32))).toNatClampNeg) := inb_of S300 (own_m1 hq65 hm1).1
      obtain ⟨T300, h300, X300, e300, W300, st300⟩ := stB X234 hx hZ e234 Ar300 (j := (mm - (1 : Int32))) hin300 (g := (mkF m 79 #[.val (.int p1), .val (.int p2), .val (.int p3), .val (.int p4), .val (.int len), .val (.ref x_233), .val (.int mm), .val (.ref b234), .unset, .unset, .unset, .unset, .unset, .unset, .unset] [(.int (((p4.toUInt32 >>> ((8 : Int32) &&& 31).toUInt32).toInt32).toInt8.toInt32)), (.int (mm - (1 : Int32))), (.ref b234)])) rfl rfl (hb hby at_79)
      refine own_Go.st st300 ?_
      have N300 := Fr.snoc X300 N233 (by omega)
      have z300 : h234.size ≤ h300.size := Nat.le_of_eq W300.size.symm
      have f302 : Arv Z h300 b234 k234 .byte mm (([] ++ List.replicate 1024 (Value.int (0 : Int32))).set (mm - (1 : Int32)).toNatClampNeg (Value.int (nar .byte (((p4.toUInt32 >>> ((8 : Int32) &&& 31).toUInt32).toInt32).toInt8.toInt32)))) (.int (0 : Int32)) := Arv.set Ar300 q300 S300 Nn300 H300 G300 (fits_nar_byte _) W300 (mm - (1 : Int32)).toNatClampNeg rfl (by simp only [List.length_set, List.length_append, List.length_replicate, List.length_nil]; exact (by have := (own_m1 hq65 hm1).2; omega))
      show own_Go _ _ _ _ (T300.setTop (mkF m 80 #[.val (.int p1), .val (.int p2), .val (.int p3), .val (.int p4), .val (.int len), .val (.ref x_233), .val (.int mm), .val (.ref b234), .unset, .unset, .unset, .unset, .unset, .unset, .unset] []))
      obtain ⟨T303, h303, X303, e303, E303, A303, D303, U303, st303⟩ := newO X300 hx hZ hown (hw _ (List.mem_of_getElem? (i := 38) rfl)) (hw _ (List.mem_of_getElem? (i := 39) rfl)) (hw _ (List.mem_of_getElem? (i := 40) rfl)) e300 (g := (mkF m 80 #[.val (.int p1), .val (.int p2), .val (.int p3), .val (.int p4), .val (.int len), .val (.ref x_233), .val (.int mm), .val (.ref b234), .unset, .unset, .unset, .unset, .unset, .unset, .unset] [])) rfl (hb hby at_80) (by decide) (by decide)
      obtain ⟨b303, g303⟩ : ∃ z, z = h300.size := ⟨_, rfl⟩
      rw [← g303] at A303 D303 U303 st303
      refine own_Go.st st303 ?_
      have z303 : h300.size ≤ h303.size := E303.1
      have lt_b303 : @LT.lt Nat _ b303 h303.size := A303.lt
      have f304 : Fld Z h303 b303 "com/example/roaming_pubsub/roamingpubsub/Message" "topic" "Ljava/lang/String;" .null := D303 (Or.inr (hw _ (List.mem_of_getElem? (i := 46) rfl))) (ty := (.object "java/lang/String")) (by decide)
      have f305 : Fld Z h303 b303 "com/example/roaming_pubsub/roamingpubsub/Message" "payload" "[B" .null := D303 (Or.inr (hw _ (List.mem_of_getElem? (i := 48) rfl))) (ty := (.array .byte)) (by decide)
      show own_Go _ _ _ _ (T303.setTop (mkF m 83 #[.val (.int p1), .val (.int p2), .val (.int p3), .val (.int p4), .val (.int len), .val (.ref x_233), .val (.int mm), .val (.ref b234), .unset, .unset, .unset, .unset, .unset, .unset, .unset] [(.ref b303)]))
      refine own_Go.st (fun _ k => XS.dup X303.here hx rfl (hb hby at_83) rfl rfl k) ?_
      show own_Go _ _ _ _ (T303.setTop (mkF m 84 #[.val (.int p1), .val (.int p2), .val (.int p3), .val (.int p4), .val (.int len), .val (.ref x_233), .val (.int mm), .val (.ref b234), .unset, .unset, .unset, .unset, .unset, .unset, .unset] [(.ref b303), (.ref b303)]))
      refine own_Go.st (fun _ k => XS.aload X303.here hx rfl (hb hby at_84) rfl rfl k) ?_
      show own_Go _ _ _ _ (T303.setTop (mkF m 86 #[.val (.int p1), .val (.int p2), .val (.int p3), .val (.int p4), .val (.int len), .val (.ref x_233), .val (.int mm), .val (.ref b234), .unset, .unset, .unset, .unset, .unset, .unset, .unset] [(.ref x_233), (.ref b303), (.ref b303)]))
      refine own_Go.st (fun _ k => XS.aload X303.here hx rfl (hb hby at_86) rfl rfl k) ?_
      show own_Go _ _ _ _ (T303.setTop (mkF m 88 #[.val (.int p1), .val (.int p2), .val (.int p3), .val (.int p4), .val (.int len), .val (.ref x_233), .val (.int mm), .val (.ref b234), .unset, .unset, .unset, .unset, .unset, .unset, .unset] [(.ref b234), (.ref x_233), (.ref b303), (.ref b303)]))
      have f307 : Old Z Z.heap.size T233.heap := OL.keep K233 all0
      have f308 : Old Z Z.heap.size h234 := f307.ext E234
      have f309 : Old Z Z.heap.size h300 := f308.wr W300 (by omega)
      have f310 : Old Z Z.heap.size h303 := f309.ext E303
      obtain ⟨_, _, ⟨T306, L306, k306, n306⟩, -, X306, ⟨Lc306, hQ306, l306, y306, z306⟩, st306⟩ := X303.specialBack hx (y := (⟨"com/example/roaming_pubsub/roamingpubsub/Message", "<init>", "(Ljava/lang/String;[B)V"⟩ : MethodName)) rfl hown (mvT hZ (hw _ (List.mem_of_getElem? (i := 41) rfl))) (mvT hZ (hw _ (List.mem_of_getElem? (i := 42) rfl))) (mvT hZ (hw _ (List.mem_of_getElem? (i := 43) rfl))) (by decide) (backOf (W := 1) (rm_minit l Z a0 hw [] b303 x_233 b234 h303 f310 A303 f304 f305 (by omega)) hZ (hw _ (List.mem_of_getElem? (i := 43) rfl)) (hw _ (List.mem_of_getElem? (i := 40) rfl)) (by decide) (by decide)) (g := (mkF m 88 #[.val (.int p1), .val (.int p2), .val (.int p3), .val (.int p4), .val (.int len), .val (.ref x_233), .val (.int mm), .val (.ref b234), .unset, .unset, .unset, .unset, .unset, .unset, .unset] [(.ref b234), (.ref x_233), (.ref b303), (.ref b303)])) rfl (by rw [hml]; rfl) (Steps.refl _) (a := b303) (argsL := [(.ref x_233), (.ref b234)]) (rest := [(.ref b303)]) (lenOf pd_128 rfl) rfl (by show 2 * 0 + _ ≤ _; exact Nat.le_of_eq rfl) (hb hby at_88) (fun _ _ => ⟨rfl, e303, (by decide : 5 + 0 ≤ _), (by decide : 1037 + 0 ≤ _)⟩)
      dsimp only [Pt.U, Pt.locs, Pt.cells, Pt.slots] at X306 l306 y306 z306 st306 hQ306
      subst l306 y306 z306
      obtain ⟨rfl, N306q, K306, f306_0, f306_1, f306_2⟩ := hQ306
      have N306 := Fr.app N300 N306q
      have z306 : h303.size ≤ T306.heap.size := K306.1
      have lt306_0 : @LT.lt Nat _ b303 T306.heap.size := f306_0.lt
      have lt306_1 : @LT.lt Nat _ b303 T306.heap.size := f306_1.lt
      have lt306_2 : @LT.lt Nat _ b303 T306.heap.size := f306_2.lt
      refine own_Go.tr st306 ?_
      show own_Go _ _ _ _ (T306.setTop (mkF m 91 #[.val (.int p1), .val (.int p2), .val (.int p3), .val (.int p4), .val (.int len), .val (.ref x_233), .val (.int mm), .val (.ref b234), .unset, .unset, .unset, .unset, .unset, .unset, .unset] [(.ref b303)]))
      refine own_Go.st (fun _ k => XS.astore X306.here hx rfl (hb hby at_91) rfl rfl (l' := #[.val (.int p1), .val (.int p2), .val (.int p3), .val (.int p4), .val (.int len), .val (.ref x_233), .val (.int mm), .val (.ref b234), .val (.ref b303), .unset, .unset, .unset, .unset, .unset, .unset]) rfl k) ?_
      show own_Go _ _ _ _ (T306.setTop (mkF m 93 #[.val (.int p1), .val (.int p2), .val (.int p3), .val (.int p4), .val (.int len), .val (.ref x_233), .val (.int mm), .val (.ref b234), .val (.ref b303), .unset, .unset, .unset, .unset, .unset, .unset] []))
      refine own_Go.st (fun _ k => XS.aload X306.here hx rfl (hb hby at_93) rfl rfl k) ?_
      show own_Go _ _ _ _ (T306.setTop (mkF m 95 #[.val (.int p1), .val (.int p2), .val (.int p3), .val (.int p4), .val (.int len), .val (.ref x_233), .val (.int mm), .val (.ref b234), .val (.ref b303), .unset, .unset, .unset, .unset, .unset, .unset] [(.ref b303)]))
      have f312 : own_Str Z h234 x_233 t_233 cs_233 := f233_0.ext E234
      have f313 : own_Str Z h300 x_233 t_233 cs_233 := f312.other W300 (by show @Ne Nat x_233 b234; omega) (by show @Ne Nat t_233 b234; omega)
      have f314 : own_Str Z h303 x_233 t_233 cs_233 := f313.ext E303
      have f315 : own_Str Z T306.heap x_233 t_233 cs_233 := f314.keep K306 (ninS (by show @Ne Nat x_233 b303; omega) nin0) (ninS (by show @Ne Nat t_233 b303; omega) nin0)
      have f316 : Arv Z h303 b234 k234 .byte mm (([] ++ List.replicate 1024 (Value.int (0 : Int32))).set (mm - (1 : Int32)).toNatClampNeg (Value.int (nar .byte (((p4.toUInt32 >>> ((8 : Int32) &&& 31).toUInt32).toInt32).toInt8.toInt32)))) (.int (0 : Int32)) := f302.ext E303
      have f317 : Arv Z T306.heap b234 k234 .byte mm (([] ++ List.replicate 1024 (Value.int (0 : Int32))).set (mm - (1 : Int32)).toNatClampNeg (Value.int (nar .byte (((p4.toUInt32 >>> ((8 : Int32) &&& 31).toUInt32).toInt32).toInt8.toInt32)))) (.int (0 : Int32)) := f316.keep K306 (ninS (by show @Ne Nat b234 b303; omega) nin0)
      have f318 : Old Z Z.heap.size T306.heap := f310.keep K306 (allS (by omega) all0)
      obtain ⟨cq311, kq311, q311a, q311b, q311c⟩ := isOf hZ rfl f306_0
      obtain ⟨_, _, ⟨T311, L311, k311, n311⟩, -, X311, ⟨Lc311, hQ311, l311, y311, z311⟩, st311⟩ := X306.virtualBack hx (y := (⟨"com/example/roaming_pubsub/roamingpubsub/Message", "heapBytes", "()J"⟩ : MethodName)) (z := (⟨"com/example/roaming_pubsub/roamingpubsub/Message", "heapBytes", "()J"⟩ : MethodName)) hown (mvT hZ (hw _ (List.mem_of_getElem? (i := 49) rfl))) (mvT hZ (hw _ (List.mem_of_getElem? (i := 50) rfl))) (notFace_of_selects (args := #[]) (mvT hZ (hw _ (List.mem_of_getElem? (i := 52) rfl)))) (mvT hZ (hw _ (List.mem_of_getElem? (i := 52) rfl))) (mvT hZ (hw _ (List.mem_of_getElem? (i := 51) rfl))) (by decide) (backOf (W := 0) (rm_hb l Z a0 hw [] b303 x_233 b234 t_233 cs_233 k234 mm (([] ++ List.replicate 1024 (Value.int (0 : Int32))).set (mm - (1 : Int32)).toNatClampNeg (Value.int (nar .byte (((p4.toUInt32 >>> ((8 : Int32) &&& 31).toUInt32).toInt32).toInt8.toInt32)))) (.int (0 : Int32)) zc T306.heap f318 f306_1 f306_2 f315 f317 st_COMPACT_STRINGS (by first | assumption | decide)) hZ (hw _ (List.mem_of_getElem? (i := 53) rfl)) (hw _ (List.mem_of_getElem? (i := 40) rfl)) (by decide) (by decide)) q311a q311c (g := (mkF m 95 #[.val (.int p1), .val (.int p2), .val (.int p3), .val (.int p4), .val (.int len), .val (.ref x_233), .val (.int mm), .val (.ref b234), .val (.ref b303), .unset, .unset, .unset, .unset, .unset, .unset] [(.ref b303)])) rfl (by rw [hml]; rfl) (Steps.refl _) (argsL := []) (rest := []) (lenOf pd_129 rfl) rfl (by show 2 * 0 + _ ≤ _; exact Nat.le_of_eq rfl) (hb hby at_95) (fun _ _ => ⟨rfl, rfl, (by decide : 5 + 0 ≤ _), (by decide : 1037 + 0 ≤ _)⟩)
      dsimp only [Pt.U, Pt.locs, Pt.cells, Pt.slots] at X311 l311 y311 z311 st311 hQ311
      subst l311 y311 z311
      obtain ⟨rfl, N311q, K311⟩ := hQ311
      have N311 := Fr.app N306 N311q
      refine own_Go.tr st311 ?_
      show own_Go _ _ _ _ (T311.setTop (mkF m 98 #[.val (.int p1), .val (.int p2), .val (.int p3), .val (.int p4), .val (.int len), .val (.ref x_233), .val (.int mm), .val (.ref b234), .val (.ref b303), .unset, .unset, .unset, .unset, .unset, .unset] [(.long (((2 : Int64) * (Int32.ofNat cs_233.length).toInt64) + mm.toInt64))]))
      refine own_Go.st (fun _ k => XS.lstore X311.here hx rfl (hb hby at_98) rfl (l' := #[.val (.int p1), .val (.int p2), .val (.int p3), .val (.int p4), .val (.int len), .val (.ref x_233), .val (.int mm), .val (.ref b234), .val (.ref b303), .val (.long (((2 : Int64) * (Int32.ofNat cs_233.length).toInt64) + mm.toInt64)), .second, .unset, .unset, .unset, .unset]) rfl k) ?_
      show own_Go _ _ _ _ (T311.setTop (mkF m 100 #[.val (.int p1), .val (.int p2), .val (.int p3), .val (.int p4), .val (.int len), .val (.ref x_233), .val (.int mm), .val (.ref b234), .val (.ref b303), .val (.long (((2 : Int64) * (Int32.ofNat cs_233.length).toInt64) + mm.toInt64)), .second, .unset, .unset, .unset, .unset] []))
      refine own_Go.st (fun _ k => XS.aload X311.here hx rfl (hb hby at_100) rfl rfl k) ?_
      show own_Go _ _ _ _ (T311.setTop (mkF m 102 #[.val (.int p1), .val (.int p2), .val (.int p3), .val (.int p4), .val (.int len), .val (.ref x_233), .val (.int mm), .val (.ref b234), .val (.ref b303), .val (.long (((2 : Int64) * (Int32.ofNat cs_233.length).toInt64) + mm.toInt64)), .second, .unset, .unset, .unset, .unset] [(.ref b303)]))
      obtain ⟨cq319, kq319, q319a, q319b, q319c⟩ := isOf hZ K311 f306_0
      obtain ⟨_, _, ⟨T319, L319, k319, n319⟩, -, X319, ⟨Lc319, hQ319, l319, y319, z319⟩, st319⟩ := X311.virtualBack hx (y := (⟨"com/example/roaming_pubsub/roamingpubsub/Message", "heapBytes", "()J"⟩ : MethodName)) (z := (⟨"com/example/roaming_pubsub/roamingpubsub/Message", "heapBytes", "()J"⟩ : MethodName)) hown (mvT hZ (hw _ (List.mem_of_getElem? (i := 49) rfl))) (mvT hZ (hw _ (List.mem_of_getElem? (i := 50) rfl))) (notFace_of_selects (args := #[]) (mvT hZ (hw _ (List.mem_of_getElem? (i := 52) rfl)))) (mvT hZ (hw _ (List.mem_of_getElem? (i := 52) rfl))) (mvT hZ (hw _ (List.mem_of_getElem? (i := 51) rfl))) (by decide) (backOf (W := 0) (rm_hb l Z a0 hw [] b303 x_233 b234 t_233 cs_233 k234 mm (([] ++ List.replicate 1024 (Value.int (0 : Int32))).set (mm - (1 : Int32)).toNatClampNeg (Value.int (nar .byte (((p4.toUInt32 >>> ((8 : Int32) &&& 31).toUInt32).toInt32).toInt8.toInt32)))) (.int (0 : Int32)) zc T306.heap f318 f306_1 f306_2 f315 f317 st_COMPACT_STRINGS (by first | assumption | decide)) hZ (hw _ (List.mem_of_getElem? (i := 53) rfl)) (hw _ (List.mem_of_getElem? (i := 40) rfl)) (by decide) (by decide)) q319a q319c (g := (mkF m 102 #[.val (.int p1), .val (.int p2), .val (.int p3), .val (.int p4), .val (.int len), .val (.ref x_233), .val (.int mm), .val (.ref b234), .val (.ref b303), .val (.long (((2 : Int64) * (Int32.ofNat cs_233.length).toInt64) + mm.toInt64)), .second, .unset, .unset, .unset, .unset] [(.ref b303)])) rfl (by rw [hml]; rfl) (Steps.refl _) (argsL := []) (rest := []) (lenOf pd_129 rfl) rfl (by show 2 * 0 + _ ≤ _; exact Nat.le_of_eq rfl) (hb hby at_102) (fun _ _ => ⟨rfl, K311, (by decide : 5 + 0 ≤ _), (by decide : 1037 + 0 ≤ _)⟩)
      dsimp only [Pt.U, Pt.locs, Pt.cells, Pt.slots] at X319 l319 y319 z319 st319 hQ319
      subst l319 y319 z319
      obtain ⟨rfl, N319q, K319⟩ := hQ319
      have N319 := Fr.app N311 N319q
      refine own_Go.tr st319 ?_
      show own_Go _ _ _ _ (T319.setTop (mkF m 105 #[.val (.int p1), .val (.int p2), .val (.int p3), .val (.int p4), .val (.int len), .val (.ref x_233), .val (.int mm), .val (.ref b234), .val (.ref b303), .val (.long (((2 : Int64) * (Int32.ofNat cs_233.length).toInt64) + mm.toInt64)), .second, .unset, .unset, .unset, .unset] [(.long (((2 : Int64) * (Int32.ofNat cs_233.length).toInt64) + mm.toInt64))]))
      refine own_Go.st (fun _ k => XS.lstore X319.here hx rfl (hb hby at_105) rfl (l' := #[.val (.int p1), .val (.int p2), .val (.int p3), .val (.int p4), .val (.int len), .val (.ref x_233), .val (.int mm), .val (.ref b234), .val (.ref b303), .val (.long (((2 : Int64) * (Int32.ofNat cs_233.length).toInt64) + mm.toInt64)), .second, .val (.long (((2 : Int64) * (Int32.ofNat cs_233.length).toInt64) + mm.toInt64)), .second, .unset, .unset]) rfl k) ?_
      show own_Go _ _ _ _ (T319.setTop (mkF m 107 #[.val (.int p1), .val (.int p2), .val (.int p3), .val (.int p4), .val (.int len), .val (.ref x_233), .val (.int mm), .val (.ref b234), .val (.ref b303), .val (.long (((2 : Int64) * (Int32.ofNat cs_233.length).toInt64) + mm.toInt64)), .second, .val (.long (((2 : Int64) * (Int32.ofNat cs_233.length).toInt64) + mm.toInt64)), .second, .unset, .unset] []))
      refine own_Go.st (X319.ldc2Long hx hown (mvT hZ (hw _ (List.mem_of_getElem? (i := 65) rfl))) (g := (mkF m 107 #[.val (.int p1), .val (.int p2), .val (.int p3), .val (.int p4), .val (.int len), .val (.ref x_233), .val (.int mm), .val (.ref b234), .val (.ref b303), .val (.long (((2 : Int64) * (Int32.ofNat cs_233.length).toInt64) + mm.toInt64)), .second, .val (.long (((2 : Int64) * (Int32.ofNat cs_233.length).toInt64) + mm.toInt64)), .second, .unset, .unset] [])) rfl (hb hby at_107)) ?_
      show own_Go _ _ _ _ (T319.setTop (mkF m 110 #[.val (.int p1), .val (.int p2), .val (.int p3), .val (.int p4), .val (.int len), .val (.ref x_233), .val (.int mm), .val (.ref b234), .val (.ref b303), .val (.long (((2 : Int64) * (Int32.ofNat cs_233.length).toInt64) + mm.toInt64)), .second, .val (.long (((2 : Int64) * (Int32.ofNat cs_233.length).toInt64) + mm.toInt64)), .second, .unset, .unset] [(.long (2 : Int64))]))
      refine own_Go.st (fun _ k => XS.iload X319.here hx rfl (hb hby at_110) rfl k) ?_
      show own_Go _ _ _ _ (T319.setTop (mkF m 112 #[.val (.int p1), .val (.int p2), .val (.int p3), .val (.int p4), .val (.int len), .val (.ref x_233), .val (.int mm), .val (.ref b234), .val (.ref b303), .val (.long (((2 : Int64) * (Int32.ofNat cs_233.length).toInt64) + mm.toInt64)), .second, .val (.long (((2 : Int64) * (Int32.ofNat cs_233.length).toInt64) + mm.toInt64)), .second, .unset, .unset] [(.int len), (.long (2 : Int64))]))
      refine own_Go.st (fun _ k => XS.i2l X319.here hx rfl (hb hby at_112) rfl k) ?_
      show own_Go _ _ _ _ (T319.setTop (mkF m 113 #[.val (.int p1), .val (.int p2), .val (.int p3), .val (.int p4), .val (.int len), .val (.ref x_233), .val (.int mm), .val (.ref b234), .val (.ref b303), .val (.long (((2 : Int64) * (Int32.ofNat cs_233.length).toInt64) + mm.toInt64)), .second, .val (.long (((2 : Int64) * (Int32.ofNat cs_233.length).toInt64) + mm.toInt64)), .second, .unset, .unset] [(.long (len.toInt64)), (.long (2 : Int64))]))
      refine own_Go.st (fun _ k => XS.lmul X319.here hx rfl (hb hby at_113) rfl k) ?_
      show own_Go _ _ _ _ (T319.setTop (mkF m 114 #[.val (.int p1), .val (.int p2), .val (.int p3), .val (.int p4), .val (.int len), .val (.ref x_233), .val (.int mm), .val (.ref b234), .val (.ref b303), .val (.long (((2 : Int64) * (Int32.ofNat cs_233.length).toInt64) + mm.toInt64)), .second, .val (.long (((2 : Int64) * (Int32.ofNat cs_233.length).toInt64) + mm.toInt64)), .second, .unset, .unset] [(.long ((2 : Int64) * (len.toInt64)))]))
      refine own_Go.st (fun _ k => XS.iload X319.here hx rfl (hb hby at_114) rfl k) ?_
      show own_Go _ _ _ _ (T319.setTop (mkF m 116 #[.val (.int p1), .val (.int p2), .val (.int p3), .val (.int p4), .val (.int len), .val (.ref x_233), .val (.int mm), .val (.ref b234), .val (.ref b303), .val (.long (((2 : Int64) * (Int32.ofNat cs_233.length).toInt64) + mm.toInt64)), .second, .val (.long (((2 : Int64) * (Int32.ofNat cs_233.length).toInt64) + mm.toInt64)), .second, .unset, .unset] [(.int mm), (.long ((2 : Int64) * (len.toInt64)))]))
      refine own_Go.st (fun _ k => XS.i2l X319.here hx rfl (hb hby at_116) rfl k) ?_
      show own_Go _ _ _ _ (T319.setTop (mkF m 117 #[.val (.int p1), .val (.int p2), .val (.int p3), .val (.int p4), .val (.int len), .val (.ref x_233), .val (.int mm), .val (.ref b234), .val (.ref b303), .val (.long (((2 : Int64) * (Int32.ofNat cs_233.length).toInt64) + mm.toInt64)), .second, .val (.long (((2 : Int64) * (Int32.ofNat cs_233.length).toInt64) + mm.toInt64)), .second, .unset, .unset] [(.long (mm.toInt64)), (.long ((2 : Int64) * (len.toInt64)))]))
      refine own_Go.st (fun _ k => XS.ladd X319.here hx rfl (hb hby at_117) rfl k) ?_
      show own_Go _ _ _ _ (T319.setTop (mkF m 118 #[.val (.int p1), .val (.int p2), .val (.int p3), .val (.int p4), .val (.int len), .val (.ref x_233), .val (.int mm), .val (.ref b234), .val (.ref b303), .val (.long (((2 : Int64) * (Int32.ofNat cs_233.length).toInt64) + mm.toInt64)), .second, .val (.long (((2 : Int64) * (Int32.ofNat cs_233.length).toInt64) + mm.toInt64)), .second, .unset, .unset] [(.long (((2 : Int64) * (len.toInt64)) + (mm.toInt64)))]))
      refine own_Go.st (fun _ k => XS.lstore X319.here hx rfl (hb hby at_118) rfl (l' := #[.val (.int p1), .val (.int p2), .val (.int p3), .val (.int p4), .val (.int len), .val (.ref x_233), .val (.int mm), .val (.ref b234), .val (.ref b303), .val (.long (((2 : Int64) * (Int32.ofNat cs_233.length).toInt64) + mm.toInt64)), .second, .val (.long (((2 : Int64) * (Int32.ofNat cs_233.length).toInt64) + mm.toInt64)), .second, .val (.long (((2 : Int64) * (len.toInt64)) + (mm.toInt64))), .second]) rfl k) ?_
      show own_Go _ _ _ _ (T319.setTop (mkF m 120 #[.val (.int p1), .val (.int p2), .val (.int p3), .val (.int p4), .val (.int len), .val (.ref x_233), .val (.int mm), .val (.ref b234), .val (.ref b303), .val (.long (((2 : Int64) * (Int32.ofNat cs_233.length).toInt64) + mm.toInt64)), .second, .val (.long (((2 : Int64) * (Int32.ofNat cs_233.length).toInt64) + mm.toInt64)), .second, .val (.long (((2 : Int64) * (len.toInt64)) + (mm.toInt64))), .second] []))
      refine own_Go.st (fun _ k => XS.lload X319.here hx rfl (hb hby at_120) rfl k) ?_
      show own_Go _ _ _ _ (T319.setTop (mkF m 122 #[.val (.int p1), .val (.int p2), .val (.int p3), .val (.int p4), .val (.int len), .val (.ref x_233), .val (.int mm), .val (.ref b234), .val (.ref b303), .val (.long (((2 : Int64) * (Int32.ofNat cs_233.length).toInt64) + mm.toInt64)), .second, .val (.long (((2 : Int64) * (Int32.ofNat cs_233.length).toInt64) + mm.toInt64)), .second, .val (.long (((2 : Int64) * (len.toInt64)) + (mm.toInt64))), .second] [(.long (((2 : Int64) * (Int32.ofNat cs_233.length).toInt64) + mm.toInt64))]))
      refine own_Go.st (fun _ k => XS.lload X319.here hx rfl (hb hby at_122) rfl k) ?_
      show own_Go _ _ _ _ (T319.setTop (mkF m 124 #[.val (.int p1), .val (.int p2), .val (.int p3), .val (.int p4), .val (.int len), .val (.ref x_233), .val (.int mm), .val (.ref b234), .val (.ref b303), .val (.long (((2 : Int64) * (Int32.ofNat cs_233.length).toInt64) + mm.toInt64)), .second, .val (.long (((2 : Int64) * (Int32.ofNat cs_233.length).toInt64) + mm.toInt64)), .second, .val (.long (((2 : Int64) * (len.toInt64)) + (mm.toInt64))), .second] [(.long (((2 : Int64) * (len.toInt64)) + (mm.toInt64))), (.long (((2 : Int64) * (Int32.ofNat cs_233.length).toInt64) + mm.toInt64))]))
      refine own_Go.st (fun _ k => XS.lcmp X319.here hx rfl (hb hby at_124) rfl k) ?_
      show own_Go _ _ _ _ (T319.setTop (mkF m 125 #[.val (.int p1), .val (.int p2), .val (.int p3), .val (.int p4), .val (.int len), .val (.ref x_233), .val (.int mm), .val (.ref b234), .val (.ref b303), .val (.long (((2 : Int64) * (Int32.ofNat cs_233.length).toInt64) + mm.toInt64)), .second, .val (.long (((2 : Int64) * (Int32.ofNat cs_233.length).toInt64) + mm.toInt64)), .second, .val (.long (((2 : Int64) * (len.toInt64)) + (mm.toInt64))), .second] [(.int (lcmpW (((2 : Int64) * (Int32.ofNat cs_233.length).toInt64) + mm.toInt64) (((2 : Int64) * (len.toInt64)) + (mm.toInt64))))]))
      have hc320 : (lcmpW (((2 : Int64) * (Int32.ofNat cs_233.length).toInt64) + mm.toInt64) (((2 : Int64) * (len.toInt64)) + (mm.toInt64))) = (0 : Int32) := (lw_eq _ _).mpr (by rw [← pr233_0])
      refine own_Go.st (fun _ k => XS.ifNo X319.here hx rfl (hb hby at_125) rfl ((if0 _ _).trans (teq hc320).2) k) ?_
      show own_Go _ _ _ _ (T319.setTop (mkF m 128 #[.val (.int p1), .val (.int p2), .val (.int p3), .val (.int p4), .val (.int len), .val (.ref x_233), .val (.int mm), .val (.ref b234), .val (.ref b303), .val (.long (((2 : Int64) * (Int32.ofNat cs_233.length).toInt64) + mm.toInt64)), .second, .val (.long (((2 : Int64) * (Int32.ofNat cs_233.length).toInt64) + mm.toInt64)), .second, .val (.long (((2 : Int64) * (len.toInt64)) + (mm.toInt64))), .second] []))
      refine own_Go.st (fun _ k => XS.lload X319.here hx rfl (hb hby at_128) rfl k) ?_
      show own_Go _ _ _ _ (T319.setTop (mkF m 130 #[.val (.int p1), .val (.int p2), .val (.int p3), .val (.int p4), .val (.int len), .val (.ref x_233), .val (.int mm), .val (.ref b234), .val (.ref b303), .val (.long (((2 : Int64) * (Int32.ofNat cs_233.length).toInt64) + mm.toInt64)), .second, .val (.long (((2 : Int64) * (Int32.ofNat cs_233.length).toInt64) + mm.toInt64)), .second, .val (.long (((2 : Int64) * (len.toInt64)) + (mm.toInt64))), .second] [(.long (((2 : Int64) * (Int32.ofNat cs_233.length).toInt64) + mm.toInt64))]))
      refine own_Go.st (fun _ k => XS.lload X319.here hx rfl (hb hby at_130) rfl k) ?_
      show own_Go _ _ _ _ (T319.setTop (mkF m 132 #[.val (.int p1), .val (.int p2), .val (.int p3), .val (.int p4), .val (.int len), .val (.ref x_233), .val (.int mm), .val (.ref b234), .val (.ref b303), .val (.long (((2 : Int64) * (Int32.ofNat cs_233.length).toInt64) + mm.toInt64)), .second, .val (.long (((2 : Int64) * (Int32.ofNat cs_233.length).toInt64) + mm.toInt64)), .second, .val (.long (((2 : Int64) * (len.toInt64)) + (mm.toInt64))), .second] [(.long (((2 : Int64) * (Int32.ofNat cs_233.length).toInt64) + mm.toInt64)), (.long (((2 : Int64) * (Int32.ofNat cs_233.length).toInt64) + mm.toInt64))]))
      refine own_Go.st (fun _ k => XS.lcmp X319.here hx rfl (hb hby at_132) rfl k) ?_
      show own_Go _ _ _ _ (T319.setTop (mkF m 133 #[.val (.int p1), .val (.int p2), .val (.int p3), .val (.int p4), .val (.int len), .val (.ref x_233), .val (.int mm), .val (.ref b234), .val (.ref b303), .val (.long (((2 : Int64) * (Int32.ofNat cs_233.length).toInt64) + mm.toInt64)), .second, .val (.long (((2 : Int64) * (Int32.ofNat cs_233.length).toInt64) + mm.toInt64)), .second, .val (.long (((2 : Int64) * (len.toInt64)) + (mm.toInt64))), .second] [(.int (lcmpW (((2 : Int64) * (Int32.ofNat cs_233.length).toInt64) + mm.toInt64) (((2 : Int64) * (Int32.ofNat cs_233.length).toInt64) + mm.toInt64)))]))
      have hc321 : (lcmpW (((2 : Int64) * (Int32.ofNat cs_233.length).toInt64) + mm.toInt64) (((2 : Int64) * (Int32.ofNat cs_233.length).toInt64) + mm.toInt64)) = (0 : Int32) := (lw_eq _ _).mpr rfl
      refine own_Go.st (fun _ k => XS.ifNo X319.here hx rfl (hb hby at_133) rfl ((if0 _ _).trans (teq hc321).2) k) ?_
      show own_Go _ _ _ _ (T319.setTop (mkF m 136 #[.val (.int p1), .val (.int p2), .val (.int p3), .val (.int p4), .val (.int len), .val (.ref x_233), .val (.int mm), .val (.ref b234), .val (.ref b303), .val (.long (((2 : Int64) * (Int32.ofNat cs_233.length).toInt64) + mm.toInt64)), .second, .val (.long (((2 : Int64) * (Int32.ofNat cs_233.length).toInt64) + mm.toInt64)), .second, .val (.long (((2 : Int64) * (len.toInt64)) + (mm.toInt64))), .second] []))
      refine own_Go.st (fun _ k => XS.aload X319.here hx rfl (hb hby at_136) rfl rfl k) ?_
      show own_Go _ _ _ _ (T319.setTop (mkF m 138 #[.val (.int p1), .val (.int p2), .val (.int p3), .val (.int p4), .val (.int len), .val (.ref x_233), .val (.int mm), .val (.ref b234), .val (.ref b303), .val (.long (((2 : Int64) * (Int32.ofNat cs_233.length).toInt64) + mm.toInt64)), .second, .val (.long (((2 : Int64) * (Int32.ofNat cs_233.length).toInt64) + mm.toInt64)), .second, .val (.long (((2 : Int64) * (len.toInt64)) + (mm.toInt64))), .second] [(.ref b303)]))
      obtain ⟨cq322, kq322, q322a, q322b, q322c⟩ := isOf hZ K319 f306_0
      obtain ⟨_, _, ⟨T322, L322, k322, n322⟩, -, X322, ⟨Lc322, hQ322, l322, y322, z322⟩, st322⟩ := X319.virtualBack hx (y := (⟨"com/example/roaming_pubsub/roamingpubsub/Message", "topic", "()Ljava/lang/String;"⟩ : MethodName)) (z := (⟨"com/example/roaming_pubsub/roamingpubsub/Message", "topic", "()Ljava/lang/String;"⟩ : MethodName)) hown (mvT hZ (hw _ (List.mem_of_getElem? (i := 66) rfl))) (mvT hZ (hw _ (List.mem_of_getElem? (i := 67) rfl))) (notFace_of_selects (args := #[]) (mvT hZ (hw _ (List.mem_of_getElem? (i := 69) rfl)))) (mvT hZ (hw _ (List.mem_of_getElem? (i := 69) rfl))) (mvT hZ (hw _ (List.mem_of_getElem? (i := 68) rfl))) (by decide) (backOf (W := 0) (rm_topic l Z a0 hw [] b303 x_233 T306.heap f318 f306_1) hZ (hw _ (List.mem_of_getElem? (i := 70) rfl)) (hw _ (List.mem_of_getElem? (i := 40) rfl)) (by decide) (by decide)) q322a q322c (g := (mkF m 138 #[.val (.int p1), .val (.int p2), .val (.int p3), .val (.int p4), .val (.int len), .val (.ref x_233), .val (.int mm), .val (.ref b234), .val (.ref b303), .val (.long (((2 : Int64) * (Int32.ofNat cs_233.length).toInt64) + mm.toInt64)), .second, .val (.long (((2 : Int64) * (Int32.ofNat cs_233.length).toInt64) + mm.toInt64)), .second, .val (.long (((2 : Int64) * (len.toInt64)) + (mm.toInt64))), .second] [(.ref b303)])) rfl (by rw [hml]; rfl) (Steps.refl _) (argsL := []) (rest := []) (lenOf pd_130 rfl) rfl (by show 2 * 0 + _ ≤ _; exact Nat.le_of_eq rfl) (hb hby at_138) (fun _ _ => ⟨rfl, K319, (by decide : 5 + 0 ≤ _), (by decide : 1037 + 0 ≤ _)⟩)
      dsimp only [Pt.U, Pt.locs, Pt.cells, Pt.slots] at X322 l322 y322 z322 st322 hQ322
      subst l322 y322 z322
      obtain ⟨rfl, N322q, K322⟩ := hQ322
      have N322 := Fr.app N319 N322q
      refine own_Go.tr st322 ?_
      show own_Go _ _ _ _ (T322.setTop (mkF m 141 #[.val (.int p1), .val (.int p2), .val (.int p3), .val (.int p4), .val (.int len), .val (.ref x_233), .val (.int mm), .val (.ref b234), .val (.ref b303), .val (.long (((2 : Int64) * (Int32.ofNat cs_233.length).toInt64) + mm.toInt64)), .second, .val (.long (((2 : Int64) * (Int32.ofNat cs_233.length).toInt64) + mm.toInt64)), .second, .val (.long (((2 : Int64) * (len.toInt64)) + (mm.toInt64))), .second] [(.ref x_233)]))
      refine own_Go.st (fun _ k => XS.aload X322.here hx rfl (hb hby at_141) rfl rfl k) ?_
      show own_Go _ _ _ _ (T322.setTop (mkF m 143 #[.val (.int p1), .val (.int p2), .val (.int p3), .val (.int p4), .val (.int len), .val (.ref x_233), .val (.int mm), .val (.ref b234), .val (.ref b303), .val (.long (((2 : Int64) * (Int32.ofNat cs_233.length).toInt64) + mm.toInt64)), .second, .val (.long (((2 : Int64) * (Int32.ofNat cs_233.length).toInt64) + mm.toInt64)), .second, .val (.long (((2 : Int64) * (len.toInt64)) + (mm.toInt64))), .second] [(.ref x_233), (.ref x_233)]))
      refine own_Go.st (fun _ k => Jvm.RoadKit.acmp (g := (mkF m 143 #[.val (.int p1), .val (.int p2), .val (.int p3), .val (.int p4), .val (.int len), .val (.ref x_233), .val (.int mm), .val (.ref b234), .val (.ref b303), .val (.long (((2 : Int64) * (Int32.ofNat cs_233.length).toInt64) + mm.toInt64)), .second, .val (.long (((2 : Int64) * (Int32.ofNat cs_233.length).toInt64) + mm.toInt64)), .second, .val (.long (((2 : Int64) * (len.toInt64)) + (mm.toInt64))), .second] [(.ref x_233), (.ref x_233)])) X322 hx rfl rfl rfl (pc0 := 143) (pc' := 146) (same := true) rfl (hb hby at_143) rfl (decide_eq_true rfl) (by decide) (by decide) k) ?_
      show own_Go _ _ _ _ (T322.setTop (mkF m 146 #[.val (.int p1), .val (.int p2), .val (.int p3), .val (.int p4), .val (.int len), .val (.ref x_233), .val (.int mm), .val (.ref b234), .val (.ref b303), .val (.long (((2 : Int64) * (Int32.ofNat cs_233.length).toInt64) + mm.toInt64)), .second, .val (.long (((2 : Int64) * (Int32.ofNat cs_233.length).toInt64) + mm.toInt64)), .second, .val (.long (((2 : Int64) * (len.toInt64)) + (mm.toInt64))), .second] []))
      refine own_Go.st (fun _ k => XS.aload X322.here hx rfl (hb hby at_146) rfl rfl k) ?_
      show own_Go _ _ _ _ (T322.setTop (mkF m 148 #[.val (.int p1), .val (.int p2), .val (.int p3), .val (.int p4), .val (.int len), .val (.ref x_233), .val (.int mm), .val (.ref b234), .val (.ref b303), .val (.long (((2 : Int64) * (Int32.ofNat cs_233.length).toInt64) + mm.toInt64)), .second, .val (.long (((2 : Int64) * (Int32.ofNat cs_233.length).toInt64) + mm.toInt64)), .second, .val (.long (((2 : Int64) * (len.toInt64)) + (mm.toInt64))), .second] [(.ref b303)]))
      obtain ⟨cq323, kq323, q323a, q323b, q323c⟩ := isOf hZ K322 f306_0
      obtain ⟨_, _, ⟨T323, L323, k323, n323⟩, -, X323, ⟨Lc323, hQ323, l323, y323, z323⟩, st323⟩ := X322.virtualBack hx (y := (⟨"com/example/roaming_pubsub/roamingpubsub/Message", "payload", "()[B"⟩ : MethodName)) (z := (⟨"com/example/roaming_pubsub/roamingpubsub/Message", "payload", "()[B"⟩ : MethodName)) hown (mvT hZ (hw _ (List.mem_of_getElem? (i := 71) rfl))) (mvT hZ (hw _ (List.mem_of_getElem? (i := 72) rfl))) (notFace_of_selects (args := #[]) (mvT hZ (hw _ (List.mem_of_getElem? (i := 74) rfl)))) (mvT hZ (hw _ (List.mem_of_getElem? (i := 74) rfl))) (mvT hZ (hw _ (List.mem_of_getElem? (i := 73) rfl))) (by decide) (backOf (W := 0) (rm_payload l Z a0 hw [] b303 b234 T306.heap f318 f306_2) hZ (hw _ (List.mem_of_getElem? (i := 75) rfl)) (hw _ (List.mem_of_getElem? (i := 40) rfl)) (by decide) (by decide)) q323a q323c (g := (mkF m 148 #[.val (.int p1), .val (.int p2), .val (.int p3), .val (.int p4), .val (.int len), .val (.ref x_233), .val (.int mm), .val (.ref b234), .val (.ref b303), .val (.long (((2 : Int64) * (Int32.ofNat cs_233.length).toInt64) + mm.toInt64)), .second, .val (.long (((2 : Int64) * (Int32.ofNat cs_233.length).toInt64) + mm.toInt64)), .second, .val (.long (((2 : Int64) * (len.toInt64)) + (mm.toInt64))), .second] [(.ref b303)])) rfl (by rw [hml]; rfl) (Steps.refl _) (argsL := []) (rest := []) (lenOf pd_131 rfl) rfl (by show 2 * 0 + _ ≤ _; exact Nat.le_of_eq rfl) (hb hby at_148) (fun _ _ => ⟨rfl, K322, (by decide : 5 + 0 ≤ _), (by decide : 1037 + 0 ≤ _)⟩)
      dsimp only [Pt.U, Pt.locs, Pt.cells, Pt.slots] at X323 l323 y323 z323 st323 hQ323
      subst l323 y323 z323
      obtain ⟨rfl, N323q, K323⟩ := hQ323
      have N323 := Fr.app N322 N323q
      refine own_Go.tr st323 ?_
      show own_Go _ _ _ _ (T323.setTop (mkF m 151 #[.val (.int p1), .val (.int p2), .val (.int p3), .val (.int p4), .val (.int len), .val (.ref x_233), .val (.int mm), .val (.ref b234), .val (.ref b303), .val (.long (((2 : Int64) * (Int32.ofNat cs_233.length).toInt64) + mm.toInt64)), .second, .val (.long (((2 : Int64) * (Int32.ofNat cs_233.length).toInt64) + mm.toInt64)), .second, .val (.long (((2 : Int64) * (len.toInt64)) + (mm.toInt64))), .second] [(.ref b234)]))
      refine own_Go.st (fun _ k => XS.aload X323.here hx rfl (hb hby at_151) rfl rfl k) ?_
      show own_Go _ _ _ _ (T323.setTop (mkF m 153 #[.val (.int p1), .val (.int p2), .val (.int p3), .val (.int p4), .val (.int len), .val (.ref x_233), .val (.int mm), .val (.ref b234), .val (.ref b303), .val (.long (((2 : Int64) * (Int32.ofNat cs_233.length).toInt64) + mm.toInt64)), .second, .val (.long (((2 : Int64) * (Int32.ofNat cs_233.length).toInt64) + mm.toInt64)), .second, .val (.long (((2 : Int64) * (len.toInt64)) + (mm.toInt64))), .second] [(.ref b234), (.ref b234)]))
      refine own_Go.st (fun _ k => Jvm.RoadKit.acmp (g := (mkF m 153 #[.val (.int p1), .val (.int p2), .val (.int p3), .val (.int p4), .val (.int len), .val (.ref x_233), .val (.int mm), .val (.ref b234), .val (.ref b303), .val (.long (((2 : Int64) * (Int32.ofNat cs_233.length).toInt64) + mm.toInt64)), .second, .val (.long (((2 : Int64) * (Int32.ofNat cs_233.length).toInt64) + mm.toInt64)), .second, .val (.long (((2 : Int64) * (len.toInt64)) + (mm.toInt64))), .second] [(.ref b234), (.ref b234)])) X323 hx rfl rfl rfl (pc0 := 153) (pc' := 156) (same := true) rfl (hb hby at_153) rfl (decide_eq_true rfl) (by decide) (by decide) k) ?_
      show own_Go _ _ _ _ (T323.setTop (mkF m 156 #[.val (.int p1), .val (.int p2), .val (.int p3), .val (.int p4), .val (.int len), .val (.ref x_233), .val (.int mm), .val (.ref b234), .val (.ref b303), .val (.long (((2 : Int64) * (Int32.ofNat cs_233.length).toInt64) + mm.toInt64)), .second, .val (.long (((2 : Int64) * (Int32.ofNat cs_233.length).toInt64) + mm.toInt64)), .second, .val (.long (((2 : Int64) * (len.toInt64)) + (mm.toInt64))), .second] []))
      refine own_Go.st (fun _ k => XS.iconst X323.here hx rfl (hb hby at_156) k) ?_
      show own_Go _ _ _ _ (T323.setTop (mkF m 157 #[.val (.int p1), .val (.int p2), .val (.int p3), .val (.int p4), .val (.int len), .val (.ref x_233), .val (.int mm), .val (.ref b234), .val (.ref b303), .val (.long (((2 : Int64) * (Int32.ofNat cs_233.length).toInt64) + mm.toInt64)), .second, .val (.long (((2 : Int64) * (Int32.ofNat cs_233.length).toInt64) + mm.toInt64)), .second, .val (.long (((2 : Int64) * (len.toInt64)) + (mm.toInt64))), .second] [(.int (1 : Int32))]))
      refine own_Go.st (fun _ k => XS.goto X323.here hx rfl (pc0 := 157) (pc' := 161) rfl (hb hby at_157) (by decide) (by decide) k) ?_
      show own_Go _ _ _ _ (T323.setTop (mkF m 161 #[.val (.int p1), .val (.int p2), .val (.int p3), .val (.int p4), .val (.int len), .val (.ref x_233), .val (.int mm), .val (.ref b234), .val (.ref b303), .val (.long (((2 : Int64) * (Int32.ofNat cs_233.length).toInt64) + mm.toInt64)), .second, .val (.long (((2 : Int64) * (Int32.ofNat cs_233.length).toInt64) + mm.toInt64)), .second, .val (.long (((2 : Int64) * (len.toInt64)) + (mm.toInt64))), .second] [(.int (1 : Int32))]))
      obtain ⟨fs324, hr324, hrun324, hend324, hW324, hsm324⟩ := X323.leave (v := some (.int (nar .boolean (1 : Int32)))) (fun h => by rw [Bd.returns] at h; cases h)
      have K325 : Keep h0 T233.heap [] := (Keep.refl h0 []).trans K233 all0
      have K326 : Keep h0 h234 [] := K325.ext E234
      have K327 : Keep h0 h300 [] := K326.wr W300 (Or.inr (by omega))
      have K328 : Keep h0 h303 [] := K327.ext E303
      have K329 : Keep h0 T306.heap [] := K328.trans K306 (allS (Or.inr (by omega)) all0)
      subst hPP
      refine ⟨_, _, retN X323 hx (t := .boolean) Bd.returns (by simp) (hb hby at_161) hr324, hrun324, hend324, _, _, rfl, ?_, ⟨_, rfl⟩, hW324, hsm324.mono (by decide) (by decide)⟩
      · show Q_law Z p1 p2 p3 p4 zc h0 _ T323.heap _
        rw [K323]
        exact ⟨rfl, N323, K329⟩
    ·
      refine own_Go.st (fun _ k => XS.icmpYes X234.here hx rfl (pc0 := 65) (pc' := 80) rfl (hb hby at_65) rfl (flt hq65).2.2.2 (by decide) (by decide) k) ?_
      show own_Go _ _ _ _ (T234.setTop (mkF m 80 #[.val (.int p1), .val (.int p2), .val (.int p3), .val (.int p4), .val (.int len), .val (.ref x_233), .val (.int mm), .val (.ref b234), .unset, .unset, .unset, .unset, .unset, .unset, .unset] []))
      obtain ⟨T330, h330, X330, e330, E330, A330, D330, U330, st330⟩ := newO X234 hx hZ hown (hw _ (List.mem_of_getElem? (i := 38) rfl)) (hw _ (List.mem_of_getElem? (i := 39) rfl)) (hw _ (List.mem_of_getElem? (i := 40) rfl)) e234 (g := (mkF m 80 #[.val (.int p1), .val (.int p2), .val (.int p3), .val (.int p4), .val (.int len), .val (.ref x_233), .val (.int mm), .val (.ref b234), .unset, .unset, .unset, .unset, .unset, .unset, .unset] [])) rfl (hb hby at_80) (by decide) (by decide)
      obtain ⟨b330, g330⟩ : ∃ z, z = h234.size := ⟨_, rfl⟩
      rw [← g330] at A330 D330 U330 st330
      refine own_Go.st st330 ?_
      have z330 : h234.size ≤ h330.size := E330.1
      have lt_b330 : @LT.lt Nat _ b330 h330.size := A330.lt
      have f331 : Fld Z h330 b330 "com/example/roaming_pubsub/roamingpubsub/Message" "topic" "Ljava/lang/String;" .null := D330 (Or.inr (hw _ (List.mem_of_getElem? (i := 46) rfl))) (ty := (.object "java/lang/String")) (by decide)
      have f332 : Fld Z h330 b330 "com/example/roaming_pubsub/roamingpubsub/Message" "payload" "[B" .null := D330 (Or.inr (hw _ (List.mem_of_getElem? (i := 48) rfl))) (ty := (.array .byte)) (by decide)
      show own_Go _ _ _ _ (T330.setTop (mkF m 83 #[.val (.int p1), .val (.int p2), .val (.int p3), .val (.int p4), .val (.int len), .val (.ref x_233), .val (.int mm), .val (.ref b234), .unset, .unset, .unset, .unset, .unset, .unset, .unset] [(.ref b330)]))
      refine own_Go.st (fun _ k => XS.dup X330.here hx rfl (hb hby at_83) rfl rfl k) ?_
      show own_Go _ _ _ _ (T330.setTop (mkF m 84 #[.val (.int p1), .val (.int p2), .val (.int p3), .val (.int p4), .val (.int len), .val (.ref x_233), .val (.int mm), .val (.ref b234), .unset, .unset, .unset, .unset, .unset, .unset, .unset] [(.ref b330), (.ref b330)]))
      refine own_Go.st (fun _ k => XS.aload X330.here hx rfl (hb hby at_84) rfl rfl k) ?_
      show own_Go _ _ _ _ (T330.setTop (mkF m 86 #[.val (.int p1), .val (.int p2), .val (.int p3), .val (.int p4), .val (.int len), .val (.ref x_233), .val (.int mm), .val (.ref b234), .unset, .unset, .unset, .unset, .unset, .unset, .unset] [(.ref x_233), (.ref b330), (.ref b330)]))
      refine own_Go.st (fun _ k => XS.aload X330.here hx rfl (hb hby at_86) rfl rfl k) ?_
      show own_Go _ _ _ _ (T330.setTop (mkF m 88 #[.val (.int p1), .val (.int p2), .val (.int p3), .val (.int p4), .val (.int len), .val (.ref x_233), .val (.int mm), .val (.ref b234), .unset, .unset, .unset, .unset, .unset, .unset, .unset] [(.ref b234), (.ref x_233), (.ref b330), (.ref b330)]))
      have f334 : Old Z Z.heap.size T233.heap := OL.keep K233 all0
      have f335 : Old Z Z.heap.size h234 := f334.ext E234
      have f336 : Old Z Z.heap.size h330 := f335.ext E330
      obtain ⟨_, _, ⟨T333, L333, k333, n333⟩, -, X333, ⟨Lc333, hQ333, l333, y333, z333⟩, st333⟩ := X330.specialBack hx (y := (⟨"com/example/roaming_pubsub/roamingpubsub/Message", "<init>", "(Ljava/lang/String;[B)V"⟩ : MethodName)) rfl hown (mvT hZ (hw _ (List.mem_of_getElem? (i := 41) rfl))) (mvT hZ (hw _ (List.mem_of_getElem? (i := 42) rfl))) (mvT hZ (hw _ (List.mem_of_getElem? (i := 43) rfl))) (by decide) (backOf (W := 1) (rm_minit l Z a0 hw [] b330 x_233 b234 h330 f336 A330 f331 f332 (by omega)) hZ (hw _ (List.mem_of_getElem? (i := 43) rfl)) (hw _ (List.mem_of_getElem? (i := 40) rfl)) (by decide) (by decide)) (g := (mkF m 88 #[.val (.int p1), .val (.int p2), .val (.int p3), .val (.int p4), .val (.int len), .val (.ref x_233), .val (.int mm), .val (.ref b234), .unset, .unset, .unset, .unset, .unset, .unset, .unset] [(.ref b234), (.ref x_233), (.ref b330), (.ref b330)])) rfl (by rw [hml]; rfl) (Steps.refl _) (a := b330) (argsL := [(.ref x_233), (.ref b234)]) (rest := [(.ref b330)]) (lenOf pd_128 rfl) rfl (by show 2 * 0 + _ ≤ _; exact Nat.le_of_eq rfl) (hb hby at_88) (fun _ _ => ⟨rfl, e330, (by decide : 5 + 0 ≤ _), (by decide : 1037 + 0 ≤ _)⟩)
      dsimp only [Pt.U, Pt.locs, Pt.cells, Pt.slots] at X333 l333 y333 z333 st333 hQ333
      subst l333 y333 z333
      obtain ⟨rfl, N333q, K333, f333_0, f333_1, f333_2⟩ := hQ333
      have N333 := Fr.app N233 N333q
      have z333 : h330.size ≤ T333.heap.size := K333.1
      have lt333_0 : @LT.lt Nat _ b330 T333.heap.size := f333_0.lt
      have lt333_1 : @LT.lt Nat _ b330 T333.heap.size := f333_1.lt
      have lt333_2 : @LT.lt Nat _ b330 T333.heap.size := f333_2.lt
      refine own_Go.tr st333 ?_
      show own_Go _ _ _ _ (T333.setTop (mkF m 91 #[.val (.int p1), .val (.int p2), .val (.int p3), .val (.int p4), .val (.int len), .val (.ref x_233), .val (.int mm), .val (.ref b234), .unset, .unset, .unset, .unset, .unset, .unset, .unset] [(.ref b330)]))
      refine own_Go.st (fun _ k => XS.astore X333.here hx rfl (hb hby at_91) rfl rfl (l' := #[.val (.int p1), .val (.int p2), .val (.int p3), .val (.int p4), .val (.int len), .val (.ref x_233), .val (.int mm), .val (.ref b234), .val (.ref b330), .unset, .unset, .unset, .unset, .unset, .unset]) rfl k) ?_
      show own_Go _ _ _ _ (T333.setTop (mkF m 93 #[.val (.int p1), .val (.int p2), .val (.int p3), .val (.int p4), .val (.int len), .val (.ref x_233), .val (.int mm), .val (.ref b234), .val (.ref b330), .unset, .unset, .unset, .unset, .unset, .unset] []))
      refine own_Go.st (fun _ k => XS.aload X333.here hx rfl (hb hby at_93) rfl rfl k) ?_
      show own_Go _ _ _ _ (T333.setTop (mkF m 95 #[.val (.int p1), .val (.int p2), .val (.int p3), .val (.int p4), .val (.int len), .val (.ref x_233), .val (.int mm), .val (.ref b234), .val (.ref b330), .unset, .unset, .unset, .unset, .unset, .unset] [(.ref b330)]))
      have f338 : own_Str Z h234 x_233 t_233 cs_233 := f233_0.ext E234
      have f339 : own_Str Z h330 x_233 t_233 cs_233 := f338.ext E330
      have f340 : own_Str Z T333.heap x_233 t_233 cs_233 := f339.keep K333 (ninS (by show @Ne Nat x_233 b330; omega) nin0) (ninS (by show @Ne Nat t_233 b330; omega) nin0)
      have f341 : Arv Z h330 b234 k234 .byte mm ([] ++ List.replicate 1024 (Value.int (0 : Int32))) (.int (0 : Int32)) := f236.ext E330
      have f342 : Arv Z T333.heap b234 k234 .byte mm ([] ++ List.replicate 1024 (Value.int (0 : Int32))) (.int (0 : Int32)) := f341.keep K333 (ninS (by show @Ne Nat b234 b330; omega) nin0)
      have f343 : Old Z Z.heap.size T333.heap := f336.keep K333 (allS (by omega) all0)
      obtain ⟨cq337, kq337, q337a, q337b, q337c⟩ := isOf hZ rfl f333_0
      obtain ⟨_, _, ⟨T337, L337, k337, n337⟩, -, X337, ⟨Lc337, hQ337, l337, y337, z337⟩, st337⟩ := X333.virtualBack hx (y := (⟨"com/example/roaming_pubsub/roamingpubsub/Message", "heapBytes", "()J"⟩ : MethodName)) (z := (⟨"com/example/roaming_pubsub/roamingpubsub/Message", "heapBytes", "()J"⟩ : MethodName)) hown (mvT hZ (hw _ (List.mem_of_getElem? (i := 49) rfl))) (mvT hZ (hw _ (List.mem_of_getElem? (i := 50) rfl))) (notFace_of_selects (args := #[]) (mvT hZ (hw _ (List.mem_of_getElem? (i := 52) rfl)))) (mvT hZ (hw _ (List.mem_of_getElem? (i := 52) rfl))) (mvT hZ (hw _ (List.mem_of_getElem? (i := 51) rfl))) (by decide) (backOf (W := 0) (rm_hb l Z a0 hw [] b330 x_233 b234 t_233 cs_233 k234 mm ([] ++ List.replicate 1024 (Value.int (0 : Int32))) (.int (0 : Int32)) zc T333.heap f343 f333_1 f333_2 f340 f342 st_COMPACT_STRINGS (by first | assumption | decide)) hZ (hw _ (List.mem_of_getElem? (i := 53) rfl)) (hw _ (List.mem_of_getElem? (i := 40) rfl)) (by decide) (by decide)) q337a q337c (g := (mkF m 95 #[.val (.int p1), .val (.int p2), .val (.int p3), .val (.int p4), .val (.int len), .val (.ref x_233), .val (.int mm), .val (.ref b234), .val (.ref b330), .unset, .unset, .unset, .unset, .unset, .unset] [(.ref b330)])) rfl (by rw [hml]; rfl) (Steps.refl _) (argsL := []) (rest := []) (lenOf pd_129 rfl) rfl (by show 2 * 0 + _ ≤ _; exact Nat.le_of_eq rfl) (hb hby at_95) (fun _ _ => ⟨rfl, rfl, (by decide : 5 + 0 ≤ _), (by decide : 1037 + 0 ≤ _)⟩)
      dsimp only [Pt.U, Pt.locs, Pt.cells, Pt.slots] at X337 l337 y337 z337 st337 hQ337
      subst l337 y337 z337
      obtain ⟨rfl, N337q, K337⟩ := hQ337
      have N337 := Fr.app N333 N337q
      refine own_Go.tr st337 ?_
      show own_Go _ _ _ _ (T337.setTop (mkF m 98 #[.val (.int p1), .val (.int p2), .val (.int p3), .val (.int p4), .val (.int len), .val (.ref x_233), .val (.int mm), .val (.ref b234), .val (.ref b330), .unset, .unset, .unset, .unset, .unset, .unset] [(.long (((2 : Int64) * (Int32.ofNat cs_233.length).toInt64) + mm.toInt64))]))
      refine own_Go.st (fun _ k => XS.lstore X337.here hx rfl (hb hby at_98) rfl (l' := #[.val (.int p1), .val (.int p2), .val (.int p3), .val (.int p4), .val (.int len), .val (.ref x_233), .val (.int mm), .val (.ref b234), .val (.ref b330), .val (.long (((2 : Int64) * (Int32.ofNat cs_233.length).toInt64) + mm.toInt64)), .second, .unset, .unset, .unset, .unset]) rfl k) ?_
      show own_Go _ _ _ _ (T337.setTop (mkF m 100 #[.val (.int p1), .val (.int p2), .val (.int p3), .val (.int p4), .val (.int len), .val (.ref x_233), .val (.int mm), .val (.ref b234), .val (.ref b330), .val (.long (((2 : Int64) * (Int32.ofNat cs_233.length).toInt64) + mm.toInt64)), .second, .unset, .unset, .unset, .unset] []))
      refine own_Go.st (fun _ k => XS.aload X337.here hx rfl (hb hby at_100) rfl rfl k) ?_
      show own_Go _ _ _ _ (T337.setTop (mkF m 102 #[.val (.int p1), .val (.int p2), .val (.int p3), .val (.int p4), .val (.int len), .val (.ref x_233), .val (.int mm), .val (.ref b234), .val (.ref b330), .val (.long (((2 : Int64) * (Int32.ofNat cs_233.length).toInt64) + mm.toInt64)), .second, .unset, .unset, .unset, .unset] [(.ref b330)]))
      obtain ⟨cq344, kq344, q344a, q344b, q344c⟩ := isOf hZ K337 f333_0
      obtain ⟨_, _, ⟨T344, L344, k344, n344⟩, -, X344, ⟨Lc344, hQ344, l344, y344, z344⟩, st344⟩ := X337.virtualBack hx (y := (⟨"com/example/roaming_pubsub/roamingpubsub/Message", "heapBytes", "()J"⟩ : MethodName)) (z := (⟨"com/example/roaming_pubsub/roamingpubsub/Message", "heapBytes", "()J"⟩ : MethodName)) hown (mvT hZ (hw _ (List.mem_of_getElem? (i := 49) rfl))) (mvT hZ (hw _ (List.mem_of_getElem? (i := 50) rfl))) (notFace_of_selects (args := #[]) (mvT hZ (hw _ (List.mem_of_getElem? (i := 52) rfl)))) (mvT hZ (hw _ (List.mem_of_getElem? (i := 52) rfl))) (mvT hZ (hw _ (List.mem_of_getElem? (i := 51) rfl))) (by decide) (backOf (W := 0) (rm_hb l Z a0 hw [] b330 x_233 b234 t_233 cs_233 k234 mm ([] ++ List.replicate 1024 (Value.int (0 : Int32))) (.int (0 : Int32)) zc T333.heap f343 f333_1 f333_2 f340 f342 st_COMPACT_STRINGS (by first | assumption | decide)) hZ (hw _ (List.mem_of_getElem? (i := 53) rfl)) (hw _ (List.mem_of_getElem? (i := 40) rfl)) (by decide) (by decide)) q344a q344c (g := (mkF m 102 #[.val (.int p1), .val (.int p2), .val (.int p3), .val (.int p4), .val (.int len), .val (.ref x_233), .val (.int mm), .val (.ref b234), .val (.ref b330), .val (.long (((2 : Int64) * (Int32.ofNat cs_233.length).toInt64) + mm.toInt64)), .second, .unset, .unset, .unset, .unset] [(.ref b330)])) rfl (by rw [hml]; rfl) (Steps.refl _) (argsL := []) (rest := []) (lenOf pd_129 rfl) rfl (by show 2 * 0 + _ ≤ _; exact Nat.le_of_eq rfl) (hb hby at_102) (fun _ _ => ⟨rfl, K337, (by decide : 5 + 0 ≤ _), (by decide : 1037 + 0 ≤ _)⟩)
      dsimp only [Pt.U, Pt.locs, Pt.cells, Pt.slots] at X344 l344 y344 z344 st344 hQ344
      subst l344 y344 z344
      obtain ⟨rfl, N344q, K344⟩ := hQ344
      have N344 := Fr.app N337 N344q
      refine own_Go.tr st344 ?_
      show own_Go _ _ _ _ (T344.setTop (mkF m 105 #[.val (.int p1), .val (.int p2), .val (.int p3), .val (.int p4), .val (.int len), .val (.ref x_233), .val (.int mm), .val (.ref b234), .val (.ref b330), .val (.long (((2 : Int64) * (Int32.ofNat cs_233.length).toInt64) + mm.toInt64)), .second, .unset, .unset, .unset, .unset] [(.long (((2 : Int64) * (Int32.ofNat cs_233.length).toInt64) + mm.toInt64))]))
      refine own_Go.st (fun _ k => XS.lstore X344.here hx rfl (hb hby at_105) rfl (l' := #[.val (.int p1), .val (.int p2), .val (.int p3), .val (.int p4), .val (.int len), .val (.ref x_233), .val (.int mm), .val (.ref b234), .val (.ref b330), .val (.long (((2 : Int64) * (Int32.ofNat cs_233.length).toInt64) + mm.toInt64)), .second, .val (.long (((2 : Int64) * (Int32.ofNat cs_233.length).toInt64) + mm.toInt64)), .second, .unset, .unset]) rfl k) ?_
      show own_Go _ _ _ _ (T344.setTop (mkF m 107 #[.val (.int p1), .val (.int p2), .val (.int p3), .val (.int p4), .val (.int len), .val (.ref x_233), .val (.int mm), .val (.ref b234), .val (.ref b330), .val (.long (((2 : Int64) * (Int32.ofNat cs_233.length).toInt64) + mm.toInt64)), .second, .val (.long (((2 : Int64) * (Int32.ofNat cs_233.length).toInt64) + mm.toInt64)), .second, .unset, .unset] []))
      refine own_Go.st (X344.ldc2Long hx hown (mvT hZ (hw _ (List.mem_of_getElem? (i := 65) rfl))) (g := (mkF m 107 #[.val (.int p1), .val (.int p2), .val (.int p3), .val (.int p4), .val (.int len), .val (.ref x_233), .val (.int mm), .val (.ref b234), .val (.ref b330), .val (.long (((2 : Int64) * (Int32.ofNat cs_233.length).toInt64) + mm.toInt64)), .second, .val (.long (((2 : Int64) * (Int32.ofNat cs_233.length).toInt64) + mm.toInt64)), .second, .unset, .unset] [])) rfl (hb hby at_107)) ?_
      show own_Go _ _ _ _ (T344.setTop (mkF m 110 #[.val (.int p1), .val (.int p2), .val (.int p3), .val (.int p4), .val (.int len), .val (.ref x_233), .val (.int mm), .val (.ref b234), .val (.ref b330), .val (.long (((2 : Int64) * (Int32.ofNat cs_233.length).toInt64) + mm.toInt64)), .second, .val (.long (((2 : Int64) * (Int32.ofNat cs_233.length).toInt64) + mm.toInt64)), .second, .unset, .unset] [(.long (2 : Int64))]))
      refine own_Go.st (fun _ k => XS.iload X344.here hx rfl (hb hby at_110) rfl k) ?_
      show own_Go _ _ _ _ (T344.setTop (mkF m 112 #[.val (.int p1), .val (.int p2), .val (.int p3), .val (.int p4), .val (.int len), .val (.ref x_233), .val (.int mm), .val (.ref b234), .val (.ref b330), .val (.long (((2 : Int64) * (Int32.ofNat cs_233.length).toInt64) + mm.toInt64)), .second, .val (.long (((2 : Int64) * (Int32.ofNat cs_233.length).toInt64) + mm.toInt64)), .second, .unset, .unset] [(.int len), (.long (2 : Int64))]))
      refine own_Go.st (fun _ k => XS.i2l X344.here hx rfl (hb hby at_112) rfl k) ?_
      show own_Go _ _ _ _ (T344.setTop (mkF m 113 #[.val (.int p1), .val (.int p2), .val (.int p3), .val (.int p4), .val (.int len), .val (.ref x_233), .val (.int mm), .val (.ref b234), .val (.ref b330), .val (.long (((2 : Int64) * (Int32.ofNat cs_233.length).toInt64) + mm.toInt64)), .second, .val (.long (((2 : Int64) * (Int32.ofNat cs_233.length).toInt64) + mm.toInt64)), .second, .unset, .unset] [(.long (len.toInt64)), (.long (2 : Int64))]))
      refine own_Go.st (fun _ k => XS.lmul X344.here hx rfl (hb hby at_113) rfl k) ?_
      show own_Go _ _ _ _ (T344.setTop (mkF m 114 #[.val (.int p1), .val (.int p2), .val (.int p3), .val (.int p4), .val (.int len), .val (.ref x_233), .val (.int mm), .val (.ref b234), .val (.ref b330), .val (.long (((2 : Int64) * (Int32.ofNat cs_233.length).toInt64) + mm.toInt64)), .second, .val (.long (((2 : Int64) * (Int32.ofNat cs_233.length).toInt64) + mm.toInt64)), .second, .unset, .unset] [(.long ((2 : Int64) * (len.toInt64)))]))
      refine own_Go.st (fun _ k => XS.iload X344.here hx rfl (hb hby at_114) rfl k) ?_
      show own_Go _ _ _ _ (T344.setTop (mkF m 116 #[.val (.int p1), .val (.int p2), .val (.int p3), .val (.int p4), .val (.int len), .val (.ref x_233), .val (.int mm), .val (.ref b234), .val (.ref b330), .val (.long (((2 : Int64) * (Int32.ofNat cs_233.length).toInt64) + mm.toInt64)), .second, .val (.long (((2 : Int64) * (Int32.ofNat cs_233.length).toInt64) + mm.toInt64)), .second, .unset, .unset] [(.int mm), (.long ((2 : Int64) * (len.toInt64)))]))
      refine own_Go.st (fun _ k => XS.i2l X344.here hx rfl (hb hby at_116) rfl k) ?_
      show own_Go _ _ _ _ (T344.setTop (mkF m 117 #[.val (.int p1), .val (.int p2), .val (.int p3), .val (.int p4), .val (.int len), .val (.ref x_233), .val (.int mm), .val (.ref b234), .val (.ref b330), .val (.long (((2 : Int64) * (Int32.ofNat cs_233.length).toInt64) + mm.toInt64)), .second, .val (.long (((2 : Int64) * (Int32.ofNat cs_233.length).toInt64) + mm.toInt64)), .second, .unset, .unset] [(.long (mm.toInt64)), (.long ((2 : Int64) * (len.toInt64)))]))
      refine own_Go.st (fun _ k => XS.ladd X344.here hx rfl (hb hby at_117) rfl k) ?_
      show own_Go _ _ _ _ (T344.setTop (mkF m 118 #[.val (.int p1), .val (.int p2), .val (.int p3), .val (.int p4), .val (.int len), .val (.ref x_233), .val (.int mm), .val (.ref b234), .val (.ref b330), .val (.long (((2 : Int64) * (Int32.ofNat cs_233.length).toInt64) + mm.toInt64)), .second, .val (.long (((2 : Int64) * (Int32.ofNat cs_233.length).toInt64) + mm.toInt64)), .second, .unset, .unset] [(.long (((2 : Int64) * (len.toInt64)) + (mm.toInt64)))]))
      refine own_Go.st (fun _ k => XS.lstore X344.here hx rfl (hb hby at_118) rfl (l' := #[.val (.int p1), .val (.int p2), .val (.int p3), .val (.int p4), .val (.int len), .val (.ref x_233), .val (.int mm), .val (.ref b234), .val (.ref b330), .val (.long (((2 : Int64) * (Int32.ofNat cs_233.length).toInt64) + mm.toInt64)), .second, .val (.long (((2 : Int64) * (Int32.ofNat cs_233.length).toInt64) + mm.toInt64)), .second, .val (.long (((2 : Int64) * (len.toInt64)) + (mm.toInt64))), .second]) rfl k) ?_
      show own_Go _ _ _ _ (T344.setTop (mkF m 120 #[.val (.int p1), .val (.int p2), .val (.int p3), .val (.int p4), .val (.int len), .val (.ref x_233), .val (.int mm), .val (.ref b234), .val (.ref b330), .val (.long (((2 : Int64) * (Int32.ofNat cs_233.length).toInt64) + mm.toInt64)), .second, .val (.long (((2 : Int64) * (Int32.ofNat cs_233.length).toInt64) + mm.toInt64)), .second, .val (.long (((2 : Int64) * (len.toInt64)) + (mm.toInt64))), .second] []))
      refine own_Go.st (fun _ k => XS.lload X344.here hx rfl (hb hby at_120) rfl k) ?_
      show own_Go _ _ _ _ (T344.setTop (mkF m 122 #[.val (.int p1), .val (.int p2), .val (.int p3), .val (.int p4), .val (.int len), .val (.ref x_233), .val (.int mm), .val (.ref b234), .val (.ref b330), .val (.long (((2 : Int64) * (Int32.ofNat cs_233.length).toInt64) + mm.toInt64)), .second, .val (.long (((2 : Int64) * (Int32.ofNat cs_233.length).toInt64) + mm.toInt64)), .second, .val (.long (((2 : Int64) * (len.toInt64)) + (mm.toInt64))), .second] [(.long (((2 : Int64) * (Int32.ofNat cs_233.length).toInt64) + mm.toInt64))]))
      refine own_Go.st (fun _ k => XS.lload X344.here hx rfl (hb hby at_122) rfl k) ?_
      show own_Go _ _ _ _ (T344.setTop (mkF m 124 #[.val (.int p1), .val (.int p2), .val (.int p3), .val (.int p4), .val (.int len), .val (.ref x_233), .val (.int mm), .val (.ref b234), .val (.ref b330), .val (.long (((2 : Int64) * (Int32.ofNat cs_233.length).toInt64) + mm.toInt64)), .second, .val (.long (((2 : Int64) * (Int32.ofNat cs_233.length).toInt64) + mm.toInt64)), .second, .val (.long (((2 : Int64) * (len.toInt64)) + (mm.toInt64))), .second] [(.long (((2 : Int64) * (len.toInt64)) + (mm.toInt64))), (.long (((2 : Int64) * (Int32.ofNat cs_233.length).toInt64) + mm.toInt64))]))
      refine own_Go.st (fun _ k => XS.lcmp X344.here hx rfl (hb hby at_124) rfl k) ?_
      show own_Go _ _ _ _ (T344.setTop (mkF m 125 #[.val (.int p1), .val (.int p2), .val (.int p3), .val (.int p4), .val (.int len), .val (.ref x_233), .val (.int mm), .val (.ref b234), .val (.ref b330), .val (.long (((2 : Int64) * (Int32.ofNat cs_233.length).toInt64) + mm.toInt64)), .second, .val (.long (((2 : Int64) * (Int32.ofNat cs_233.length).toInt64) + mm.toInt64)), .second, .val (.long (((2 : Int64) * (len.toInt64)) + (mm.toInt64))), .second] [(.int (lcmpW (((2 : Int64) * (Int32.ofNat cs_233.length).toInt64) + mm.toInt64) (((2 : Int64) * (len.toInt64)) + (mm.toInt64))))]))
      have hc345 : (lcmpW (((2 : Int64) * (Int32.ofNat cs_233.length).toInt64) + mm.toInt64) (((2 : Int64) * (len.toInt64)) + (mm.toInt64))) = (0 : Int32) := (lw_eq _ _).mpr (by rw [← pr233_0])
      refine own_Go.st (fun _ k => XS.ifNo X344.here hx rfl (hb hby at_125) rfl ((if0 _ _).trans (teq hc345).2) k) ?_
      show own_Go _ _ _ _ (T344.setTop (mkF m 128 #[.val (.int p1), .val (.int p2), .val (.int p3), .val (.int p4), .val (.int len), .val (.ref x_233), .val (.int mm), .val (.ref b234), .val (.ref b330), .val (.long (((2 : Int64) * (Int32.ofNat cs_233.length).toInt64) + mm.toInt64)), .second, .val (.long (((2 : Int64) * (Int32.ofNat cs_233.length).toInt64) + mm.toInt64)), .second, .val (.long (((2 : Int64) * (len.toInt64)) + (mm.toInt64))), .second] []))
      refine own_Go.st (fun _ k => XS.lload X344.here hx rfl (hb hby at_128) rfl k) ?_
      show own_Go _ _ _ _ (T344.setTop (mkF m 130 #[.val (.int p1), .val (.int p2), .val (.int p3), .val (.int p4), .val (.int len), .val (.ref x_233), .val (.int mm), .val (.ref b234), .val (.ref b330), .val (.long (((2 : Int64) * (Int32.ofNat cs_233.length).toInt64) + mm.toInt64)), .second, .val (.long (((2 : Int64) * (Int32.ofNat cs_233.length).toInt64) + mm.toInt64)), .second, .val (.long (((2 : Int64) * (len.toInt64)) + (mm.toInt64))), .second] [(.long (((2 : Int64) * (Int32.ofNat cs_233.length).toInt64) + mm.toInt64))]))
      refine own_Go.st (fun _ k => XS.lload X344.here hx rfl (hb hby at_130) rfl k) ?_
      show own_Go _ _ _ _ (T344.setTop (mkF m 132 #[.val (.int p1), .val (.int p2), .val (.int p3), .val (.int p4), .val (.int len), .val (.ref x_233), .val (.int mm), .val (.ref b234), .val (.ref b330), .val (.long (((2 : Int64) * (Int32.ofNat cs_233.length).toInt64) + mm.toInt64)), .second, .val (.long (((2 : Int64) * (Int32.ofNat cs_233.length).toInt64) + mm.toInt64)), .second, .val (.long (((2 : Int64) * (len.toInt64)) + (mm.toInt64))), .second] [(.long (((2 : Int64) * (Int32.ofNat cs_233.length).toInt64) + mm.toInt64)), (.long (((2 : Int64) * (Int32.ofNat cs_233.length).toInt64) + mm.toInt64))]))
      refine own_Go.st (fun _ k => XS.lcmp X344.here hx rfl (hb hby at_132) rfl k) ?_
      show own_Go _ _ _ _ (T344.setTop (mkF m 133 #[.val (.int p1), .val (.int p2), .val (.int p3), .val (.int p4), .val (.int len), .val (.ref x_233), .val (.int mm), .val (.ref b234), .val (.ref b330), .val (.long (((2 : Int64) * (Int32.ofNat cs_233.length).toInt64) + mm.toInt64)), .second, .val (.long (((2 : Int64) * (Int32.ofNat cs_233.length).toInt64) + mm.toInt64)), .second, .val (.long (((2 : Int64) * (len.toInt64)) + (mm.toInt64))), .second] [(.int (lcmpW (((2 : Int64) * (Int32.ofNat cs_233.length).toInt64) + mm.toInt64) (((2 : Int64) * (Int32.ofNat cs_233.length).toInt64) + mm.toInt64)))]))
      have hc346 : (lcmpW (((2 : Int64) * (Int32.ofNat cs_233.length).toInt64) + mm.toInt64) (((2 : Int64) * (Int32.ofNat cs_233.length).toInt64) + mm.toInt64)) = (0 : Int32) := (lw_eq _ _).mpr rfl
      refine own_Go.st (fun _ k => XS.ifNo X344.here hx rfl (hb hby at_133) rfl ((if0 _ _).trans (teq hc346).2) k) ?_
      show own_Go _ _ _ _ (T344.setTop (mkF m 136 #[.val (.int p1), .val (.int p2), .val (.int p3), .val (.int p4), .val (.int len), .val (.ref x_233), .val (.int mm), .val (.ref b234), .val (.ref b330), .val (.long (((2 : Int64) * (Int32.ofNat cs_233.length).toInt64) + mm.toInt64)), .second, .val (.long (((2 : Int64) * (Int32.ofNat cs_233.length).toInt64) + mm.toInt64)), .second, .val (.long (((2 : Int64) * (len.toInt64)) + (mm.toInt64))), .second] []))
      refine own_Go.st (fun _ k => XS.aload X344.here hx rfl (hb hby at_136) rfl rfl k) ?_
      show own_Go _ _ _ _ (T344.setTop (mkF m 138 #[.val (.int p1), .val (.int p2), .val (.int p3), .val (.int p4), .val (.int len), .val (.ref x_233), .val (.int mm), .val (.ref b234), .val (.ref b330), .val (.long (((2 : Int64) * (Int32.ofNat cs_233.length).toInt64) + mm.toInt64)), .second, .val (.long (((2 : Int64) * (Int32.ofNat cs_233.length).toInt64) + mm.toInt64)), .second, .val (.long (((2 : Int64) * (len.toInt64)) + (mm.toInt64))), .second] [(.ref b330)]))
      obtain ⟨cq347, kq347, q347a, q347b, q347c⟩ := isOf hZ K344 f333_0
      obtain ⟨_, _, ⟨T347, L347, k347, n347⟩, -, X347, ⟨Lc347, hQ347, l347, y347, z347⟩, st347⟩ := X344.virtualBack hx (y := (⟨"com/example/roaming_pubsub/roamingpubsub/Message", "topic", "()Ljava/lang/String;"⟩ : MethodName)) (z := (⟨"com/example/roaming_pubsub/roamingpubsub/Message", "topic", "()Ljava/lang/String;"⟩ : MethodName)) hown (mvT hZ (hw _ (List.mem_of_getElem? (i := 66) rfl))) (mvT hZ (hw _ (List.mem_of_getElem? (i := 67) rfl))) (notFace_of_selects (args := #[]) (mvT hZ (hw _ (List.mem_of_getElem? (i := 69) rfl)))) (mvT hZ (hw _ (List.mem_of_getElem? (i := 69) rfl))) (mvT hZ (hw _ (List.mem_of_getElem? (i := 68) rfl))) (by decide) (backOf (W := 0) (rm_topic l Z a0 hw [] b330 x_233 T333.heap f343 f333_1) hZ (hw _ (List.mem_of_getElem? (i := 70) rfl)) (hw _ (List.mem_of_getElem? (i := 40) rfl)) (by decide) (by decide)) q347a q347c (g := (mkF m 138 #[.val (.int p1), .val (.int p2), .val (.int p3), .val (.int p4), .val (.int len), .val (.ref x_233), .val (.int mm), .val (.ref b234), .val (.ref b330), .val (.long (((2 : Int64) * (Int32.ofNat cs_233.length).toInt64) + mm.toInt64)), .second, .val (.long (((2 : Int64) * (Int32.ofNat cs_233.length).toInt64) + mm.toInt64)), .second, .val (.long (((2 : Int64) * (len.toInt64)) + (mm.toInt64))), .second] [(.ref b330)])) rfl (by rw [hml]; rfl) (Steps.refl _) (argsL := []) (rest := []) (lenOf pd_130 rfl) rfl (by show 2 * 0 + _ ≤ _; exact Nat.le_of_eq rfl) (hb hby at_138) (fun _ _ => ⟨rfl, K344, (by decide : 5 + 0 ≤ _), (by decide : 1037 + 0 ≤ _)⟩)
      dsimp only [Pt.U, Pt.locs, Pt.cells, Pt.slots] at X347 l347 y347 z347 st347 hQ347
      subst l347 y347 z347
      obtain ⟨rfl, N347q, K347⟩ := hQ347
      have N347 := Fr.app N344 N347q
      refine own_Go.tr st347 ?_
      show own_Go _ _ _ _ (T347.setTop (mkF m 141 #[.val (.int p1), .val (.int p2), .val (.int p3), .val (.int p4), .val (.int len), .val (.ref x_233), .val (.int mm), .val (.ref b234), .val (.ref b330), .val (.long (((2 : Int64) * (Int32.ofNat cs_233.length).toInt64) + mm.toInt64)), .second, .val (.long (((2 : Int64) * (Int32.ofNat cs_233.length).toInt64) + mm.toInt64)), .second, .val (.long (((2 : Int64) * (len.toInt64)) + (mm.toInt64))), .second] [(.ref x_233)]))
      refine own_Go.st (fun _ k => XS.aload X347.here hx rfl (hb hby at_141) rfl rfl k) ?_
      show own_Go _ _ _ _ (T347.setTop (mkF m 143 #[.val (.int p1), .val (.int p2), .val (.int p3), .val (.int p4), .val (.int len), .val (.ref x_233), .val (.int mm), .val (.ref b234), .val (.ref b330), .val (.long (((2 : Int64) * (Int32.ofNat cs_233.length).toInt64) + mm.toInt64)), .second, .val (.long (((2 : Int64) * (Int32.ofNat cs_233.length).toInt64) + mm.toInt64)), .second, .val (.long (((2 : Int64) * (len.toInt64)) + (mm.toInt64))), .second] [(.ref x_233), (.ref x_233)]))
      refine own_Go.st (fun _ k => Jvm.RoadKit.acmp (g := (mkF m 143 #[.val (.int p1), .val (.int p2), .val (.int p3), .val (.int p4), .val (.int len), .val (.ref x_233), .val (.int mm), .val (.ref b234), .val (.ref b330), .val (.long (((2 : Int64) * (Int32.ofNat cs_233.length).toInt64) + mm.toInt64)), .second, .val (.long (((2 : Int64) * (Int32.ofNat cs_233.length).toInt64) + mm.toInt64)), .second, .val (.long (((2 : Int64) * (len.toInt64)) + (mm.toInt64))), .second] [(.ref x_233), (.ref x_233)])) X347 hx rfl rfl rfl (pc0 := 143) (pc' := 146) (same := true) rfl (hb hby at_143) rfl (decide_eq_true rfl) (by decide) (by decide) k) ?_
      show own_Go _ _ _ _ (T347.setTop (mkF m 146 #[.val (.int p1), .val (.int p2), .val (.int p3), .val (.int p4), .val (.int len), .val (.ref x_233), .val (.int mm), .val (.ref b234), .val (.ref b330), .val (.long (((2 : Int64) * (Int32.ofNat cs_233.length).toInt64) + mm.toInt64)), .second, .val (.long (((2 : Int64) * (Int32.ofNat cs_233.length).toInt64) + mm.toInt64)), .second, .val (.long (((2 : Int64) * (len.toInt64)) + (mm.toInt64))), .second] []))
      refine own_Go.st (fun _ k => XS.aload X347.here hx rfl (hb hby at_146) rfl rfl k) ?_
      show own_Go _ _ _ _ (T347.setTop (mkF m 148 #[.val (.int p1), .val (.int p2), .val (.int p3), .val (.int p4), .val (.int len), .val (.ref x_233), .val (.int mm), .val (.ref b234), .val (.ref b330), .val (.long (((2 : Int64) * (Int32.ofNat cs_233.length).toInt64) + mm.toInt64)), .second, .val (.long (((2 : Int64) * (Int32.ofNat cs_233.length).toInt64) + mm.toInt64)), .second, .val (.long (((2 : Int64) * (len.toInt64)) + (mm.toInt64))), .second] [(.ref b330)]))
      obtain ⟨cq348, kq348, q348a, q348b, q348c⟩ := isOf hZ K347 f333_0
      obtain ⟨_, _, ⟨T348, L348, k348, n348⟩, -, X348, ⟨Lc348, hQ348, l348, y348, z348⟩, st348⟩ := X347.virtualBack hx (y := (⟨"com/example/roaming_pubsub/roamingpubsub/Message", "payload", "()[B"⟩ : MethodName)) (z := (⟨"com/example/roaming_pubsub/roamingpubsub/Message", "payload", "()[B"⟩ : MethodName)) hown (mvT hZ (hw _ (List.mem_of_getElem? (i := 71) rfl))) (mvT hZ (hw _ (List.mem_of_getElem? (i := 72) rfl))) (notFace_of_selects (args := #[]) (mvT hZ (hw _ (List.mem_of_getElem? (i := 74) rfl)))) (mvT hZ (hw _ (List.mem_of_getElem? (i := 74) rfl))) (mvT hZ (hw _ (List.mem_of_getElem? (i := 73) rfl))) (by decide) (backOf (W := 0) (rm_payload l Z a0 hw [] b330 b234 T333.heap f343 f333_2) hZ (hw _ (List.mem_of_getElem? (i := 75) rfl)) (hw _ (List.mem_of_getElem? (i := 40) rfl)) (by decide) (by decide)) q348a q348c (g := (mkF m 148 #[.val (.int p1), .val (.int p2), .val (.int p3), .val (.int p4), .val (.int len), .val (.ref x_233), .val (.int mm), .val (.ref b234), .val (.ref b330), .val (.long (((2 : Int64) * (Int32.ofNat cs_233.length).toInt64) + mm.toInt64)), .second, .val (.long (((2 : Int64) * (Int32.ofNat cs_233.length).toInt64) + mm.toInt64)), .second, .val (.long (((2 : Int64) * (len.toInt64)) + (mm.toInt64))), .second] [(.ref b330)])) rfl (by rw [hml]; rfl) (Steps.refl _) (argsL := []) (rest := []) (lenOf pd_131 rfl) rfl (by show 2 * 0 + _ ≤ _; exact Nat.le_of_eq rfl) (hb hby at_148) (fun _ _ => ⟨rfl, K347, (by decide : 5 + 0 ≤ _), (by decide : 1037 + 0 ≤ _)⟩)
      dsimp only [Pt.U, Pt.locs, Pt.cells, Pt.slots] at X348 l348 y348 z348 st348 hQ348
      subst l348 y348 z348
      obtain ⟨rfl, N348q, K348⟩ := hQ348
      have N348 := Fr.app N347 N348q
      refine own_Go.tr st348 ?_
      show own_Go _ _ _ _ (T348.setTop (mkF m 151 #[.val (.int p1), .val (.int p2), .val (.int p3), .val (.int p4), .val (.int len), .val (.ref x_233), .val (.int mm), .val (.ref b234), .val (.ref b330), .val (.long (((2 : Int64) * (Int32.ofNat cs_233.length).toInt64) + mm.toInt64)), .second, .val (.long (((2 : Int64) * (Int32.ofNat cs_233.length).toInt64) + mm.toInt64)), .second, .val (.long (((2 : Int64) * (len.toInt64)) + (mm.toInt64))), .second] [(.ref b234)]))
      refine own_Go.st (fun _ k => XS.aload X348.here hx rfl (hb hby at_151) rfl rfl k) ?_
      show own_Go _ _ _ _ (T348.setTop (mkF m 153 #[.val (.int p1), .val (.int p2), .val (.int p3), .val (.int p4), .val (.int len), .val (.ref x_233), .val (.int mm), .val (.ref b234), .val (.ref b330), .val (.long (((2 : Int64) * (Int32.ofNat cs_233.length).toInt64) + mm.toInt64)), .second, .val (.long (((2 : Int64) * (Int32.ofNat cs_233.length).toInt64) + mm.toInt64)), .second, .val (.long (((2 : Int64) * (len.toInt64)) + (mm.toInt64))), .second] [(.ref b234), (.ref b234)]))
      refine own_Go.st (fun _ k => Jvm.RoadKit.acmp (g := (mkF m 153 #[.val (.int p1), .val (.int p2), .val (.int p3), .val (.int p4), .val (.int len), .val (.ref x_233), .val (.int mm), .val (.ref b234), .val (.ref b330), .val (.long (((2 : Int64) * (Int32.ofNat cs_233.length).toInt64) + mm.toInt64)), .second, .val (.long (((2 : Int64) * (Int32.ofNat cs_233.length).toInt64) + mm.toInt64)), .second, .val (.long (((2 : Int64) * (len.toInt64)) + (mm.toInt64))), .second] [(.ref b234), (.ref b234)])) X348 hx rfl rfl rfl (pc0 := 153) (pc' := 156) (same := true) rfl (hb hby at_153) rfl (decide_eq_true rfl) (by decide) (by decide) k) ?_
      show own_Go _ _ _ _ (T348.setTop (mkF m 156 #[.val (.int p1), .val (.int p2), .val (.int p3), .val (.int p4), .val (.int len), .val (.ref x_233), .val (.int mm), .val (.ref b234), .val (.ref b330), .val (.long (((2 : Int64) * (Int32.ofNat cs_233.length).toInt64) + mm.toInt64)), .second, .val (.long (((2 : Int64) * (Int32.ofNat cs_233.length).toInt64) + mm.toInt64)), .second, .val (.long (((2 : Int64) * (len.toInt64)) + (mm.toInt64))), .second] []))
      refine own_Go.st (fun _ k => XS.iconst X348.here hx rfl (hb hby at_156) k) ?_
      show own_Go _ _ _ _ (T348.setTop (mkF m 157 #[.val (.int p1), .val (.int p2), .val (.int p3), .val (.int p4), .val (.int len), .val (.ref x_233), .val (.int mm), .val (.ref b234), .val (.ref b330), .val (.long (((2 : Int64) * (Int32.ofNat cs_233.length).toInt64) + mm.toInt64)), .second, .val (.long (((2 : Int64) * (Int32.ofNat cs_233.length).toInt64) + mm.toInt64)), .second, .val (.long (((2 : Int64) * (len.toInt64)) + (mm.toInt64))), .second] [(.int (1 : Int32))]))
      refine own_Go.st (fun _ k => XS.goto X348.here hx rfl (pc0 := 157) (pc' := 161) rfl (hb hby at_157) (by decide) (by decide) k) ?_
      show own_Go _ _ _ _ (T348.setTop (mkF m 161 #[.val (.int p1), .val (.int p2), .val (.int p3), .val (.int p4), .val (.int len), .val (.ref x_233), .val (.int mm), .val (.ref b234), .val (.ref b330), .val (.long (((2 : Int64) * (Int32.ofNat cs_233.length).toInt64) + mm.toInt64)), .second, .val (.long (((2 : Int64) * (Int32.ofNat cs_233.length).toInt64) + mm.toInt64)), .second, .val (.long (((2 : Int64) * (len.toInt64)) + (mm.toInt64))), .second] [(.int (1 : Int32))]))
      obtain ⟨fs349, hr349, hrun349, hend349, hW349, hsm349⟩ := X348.leave (v := some (.int (nar .boolean (1 : Int32)))) (fun h => by rw [Bd.returns] at h; cases h)
      have K350 : Keep h0 T233.heap [] := (Keep.refl h0 []).trans K233 all0
      have K351 : Keep h0 h234 [] := K350.ext E234
      have K352 : Keep h0 h330 [] := K351.ext E330
      have K353 : Keep h0 T333.heap [] := K352.trans K333 (allS (Or.inr (by omega)) all0)
      subst hPP
      refine ⟨_, _, retN X348 hx (t := .boolean) Bd.returns (by simp) (hb hby at_161) hr349, hrun349, hend349, _, _, rfl, ?_, ⟨_, rfl⟩, hW349, hsm349.mono (by decide) (by decide)⟩
      · show Q_law Z p1 p2 p3 p4 zc h0 _ T348.heap _
        rw [K348]
        exact ⟨rfl, N348, K353⟩
set_option maxRecDepth 65536 in
set_option maxHeartbeats 40000000 in
theorem comes_1 {Post : Tables → Env → Array Value → State → Outcome → State → Prop} (hpost : ∀ tb e args s v u, (limb_1_1.after args s (.returned v) u = true ∧ limb_1_2.after args s (.returned v) u = true ∧ True) → FrameEnd s (.returned v) u (Jvm.fieldLocs frame_1_writes args s ++ Jvm.arrayLocs frame_1_arrays args s ++ Jvm.staticLocs frame_1_statics s) 24 2176 → Post tb e args s (.returned v) u) :
    ArmFor flags0 classFile x code maxLocals ret World_1 tables_1 room_1 Calls_1 rest_1 Pre_1 Post := by
  intro l hfl _ _ p e ha hc hk s m args below hf hA hF happ hP
  obtain ⟨hcalls, hrest, hpre⟩ := hP
  obtain ⟨-, -, -, hnamed, -, -, -, hat⟩ := (Spec.applies_iff hf).mp happ
  obtain ⟨hg, hn⟩ := and_e (Cond.before_iff.mp (show (Jvm.Cond.and given_1 narrow_1).before args s = true from hpre))
  obtain ⟨g0, r0⟩ := and_e hg
  obtain ⟨g1, r1⟩ := and_e r0
  obtain ⟨g2, r2⟩ := and_e r1
  obtain ⟨g3, r3⟩ := and_e r2
  obtain ⟨w0, w1, w2, w3, rfl⟩ : ∃ w0 w1 w2 w3 : Value, args = #[w0, w1, w2, w3] := by
    have hs : args.size = 4 := by simpa [Cond.value, given_1] using g0
    obtain ⟨L⟩ := args
    match L, hs with
    | [w0, w1, w2, w3], _ => exact ⟨w0, w1, w2, w3, rfl⟩
  have hw := fun d (hd : d ∈ tables_1) => atoms_spec (ws := Jvm.Cond.code x code maxLocals ret :: tables_1) hat d (List.mem_cons_of_mem _ hd)
  obtain ⟨hsets, hown0⟩ := atoms_of _ (rest_1_c_eq ▸ (show rest_1_c.before _ s = true from hrest))
  have hfit : Fit s := fun {y c} hc i hi => by
    obtain ⟨ha, rfl⟩ := Array.getElem?_eq_some_iff.mp hc
    have q := List.all_eq_true.mp ((Array.all_eq_true_iff_forall_mem.mp hF) _ (Array.getElem_mem ha)) i (List.mem_range.mpr hi)
    simpa [Array.getElem?_eq_getElem hi] using q
  obtain ⟨i0, e0⟩ := is_v g1
  obtain rfl : w0 = (.int i0) := Option.some.inj e0
  obtain ⟨i1, e1⟩ := is_v g2
  obtain rfl : w1 = (.int i1) := Option.some.inj e1
  obtain ⟨i2, e2⟩ := is_v g3
  obtain rfl : w2 = (.int i2) := Option.some.inj e2
  obtain ⟨i3, e3⟩ := is_v r3
  obtain rfl : w3 = (.int i3) := Option.some.inj e3
  obtain ⟨zc, ez⟩ := is_v (Cond.before_iff.mp (hsets _ (List.mem_of_getElem? (i := 1) rfl)))
  have st_zc : Sta s s.heap "java/lang/String" "COMPACT_STRINGS" "Z" (.int zc) := Sta.start ez (Or.inl (hsets _ (List.mem_of_getElem? (i := 0) rfl)))
  have hzc : ¬ (zc = (0 : Int32)) := gotF (Cond.eq_ints ez (Term.int_eval (0))) (not_v (Cond.before_iff.mp (hsets _ (List.mem_of_getElem? (i := 2) rfl))))
  obtain ⟨n, o, h1, h2, h3, _, L, rfl, ⟨rfl, N, -⟩, hq⟩ := rm_law l s _ hw tables_1 i0 i1 i2 i3 zc s.heap (Old.start s) st_zc hzc p e ha hc hk s m _ below hf ((Spec.applies_iff_loose hf).mp happ).1 ⟨rfl, State.Warmed39.refl s, rfl⟩ trivial
  refine ⟨n, _, h1, h2, h3, hpost _ _ _ _ _ _ ⟨Cond.after_iff.mpr rfl, Cond.after_iff.mpr (eq_i res_at (Term.int_eval (1)) rfl), trivial⟩ ⟨hq.1, hq.2.1, (hq.2.2.sift fun y hy => Or.inr (N y hy)).mono (by decide) (by decide)⟩⟩
theorem main_1_1 : Claimed_1_1 := comes_1 fun _ _ _ _ _ _ h hF => ⟨h.1, hF⟩
theorem main_1_2 : Claimed_1_2 := comes_1 fun _ _ _ _ _ _ h hF => ⟨h.2.1, hF⟩
end Jvm.Pilot.@@N@@
namespace Jvm.Pilot.@@N@@
open Jvm Jvm.ClassFile Sem Op Lib Jvm.Free Jvm.Stand Jvm.Pilot.@@N@@.Jvm.D
/-! MADE BY PROGRAM (witnessworld.py) out of the Statement's table words and the real class files: 20 classes; the members and pool entries that the words name. The judged class is class 1, her method 3. -/
namespace start1
open Jvm.ClassFile
def u (s : String) : CpInfo := .utf8 (stringToUtf16 s)
/-- a pool by its gaps: so many unusable entries, then the entry; so many at the end -/
def gap : Nat → List CpInfo → List CpInfo
  | 0, r => r
  | n + 1, r => .unusable :: gap n r
def poolList (es : List (Nat × CpInfo)) (last : Nat) : List CpInfo := es.foldr (fun e r => gap e.1 (e.2 :: r)) (gap last [])
def pool (es : List (Nat × CpInfo)) (last : Nat) : Array CpInfo := ⟨poolList es last⟩
def fileOf (pool : Array CpInfo) (this : Nat) (attrs : Array Attribute := #[]) (ms : Array MethodInfo := #[]) (fl : Nat := 33) (sup : Nat := 0) (ifs : Array Nat := #[]) (fds : Array FieldInfo := #[]) : ClassFile where
  minorVersion := 0
  majorVersion := 65
  constantPool := pool
  accessFlags := fl
  thisClass := this
  superClass := sup
  interfaces := ifs
  fields := fds
  methods := ms
  attributes := attrs
def plain (name : String) (sup : Option ClassId) : Class where
  name := name
  kind := .ordinary
  loader := none
  accessFlags := 33
  super := sup
  interfaces := #[]
  cf := none
  fields := #[]
  methods := #[]
  instanceTypes := #[]
  staticTypes := #[]
  resolved := #[]
  callSites := []
  init := .initialized
  statics := none
  mirror := none

def pool0 : Array CpInfo := pool [(5, u "<init>"), (0, u "()V"), (1, .class_ 10), (1, u "java/lang/Object")] 113

def k0c0 : Code := { maxStack := 0, maxLocals := 1, code := object_method_1_code, exceptionTable := #[], attributes := #[] }
def k0m0 : Method := { name := "<init>", desc := "()V", sig := { parameters := [], returnType := none }, accessFlags := 1, code := some k0c0 }
/-- java/lang/Object -/
def k0 : Class := { plain "java/lang/Object" none with
  accessFlags := 33
  interfaces := #[]
  cf := some (fileOf pool0 8 #[] #[{ accessFlags := 1, nameIndex := 5, descriptorIndex := 6, attributes := #[] }] 33 0 #[] #[])
  fields := #[]
  methods := #[k0m0]
  instanceTypes := #[]
  staticTypes := #[]
  resolved := Array.replicate 124 none
  statics := none }

def pool1 : Array CpInfo := pool [(2, .class_ 4), (1, u "java/lang/Object"), (0, u "<init>"), (0, u "()V"), (0, .integer 2147483647), (0, .class_ 9), (0, u "java/lang/String"), (0, .methodref 8 11), (0, .nameAndType 5 12), (0, u "([C)V"), (0, .methodref 14 15), (0, .class_ 16), (0, .nameAndType 17 18), (0, u "com/example/roaming_pubsub/roamingpubsub/MessageHeapBytesPinLaw"), (0, u "letter"), (0, u "(I)C"), (0, .methodref 14 20), (0, .nameAndType 21 22), (0, u "make"), (0, u "(ICCCC)Ljava/lang/String;"), (0, .class_ 24), (0, u "com/example/roaming_pubsub/roamingpubsub/Message"), (0, .methodref 23 26), (0, .nameAndType 5 27), (0, u "(Ljava/lang/String;[B)V"), (0, .methodref 23 29), (0, .nameAndType 30 31), (0, u "heapBytes"), (0, u "()J"), (0, .long 2), (1, .methodref 23 35), (0, .nameAndType 36 37), (0, u "topic"), (0, u "()Ljava/lang/String;"), (0, .methodref 23 39), (0, .nameAndType 40 41), (0, u "payload"), (0, u "()[B"), (3, u "law"), (0, u "(IIII)Z")] 4

def k1m0 : Method := { name := "<init>", desc := "()V", sig := { parameters := [], returnType := none }, accessFlags := 1, code := none }
def k1c1 : Code := { maxStack := 3, maxLocals := 1, code := method_2_code, exceptionTable := #[], attributes := #[] }
def k1m1 : Method := { name := "letter", desc := "(I)C", sig := { parameters := [.int], returnType := some .char }, accessFlags := 10, code := some k1c1 }
def k1c2 : Code := { maxStack := 3, maxLocals := 6, code := method_3_code, exceptionTable := #[], attributes := #[] }
def k1m2 : Method := { name := "make", desc := "(ICCCC)Ljava/lang/String;", sig := { parameters := [.int, .char, .char, .char, .char], returnType := some (.object "java/lang/String") }, accessFlags := 10, code := some k1c2 }
def k1c3 : Code := { maxStack := 6, maxLocals := 15, code := code, exceptionTable := #[], attributes := #[] }
def k1m3 : Method := { name := "law", desc := "(IIII)Z", sig := { parameters := [.int, .int, .int, .int], returnType := some .boolean }, accessFlags := 9, code := some k1c3 }
/-- com/example/roaming_pubsub/roamingpubsub/MessageHeapBytesPinLaw -/
def k1 : Class := { plain "com/example/roaming_pubsub/roamingpubsub/MessageHeapBytesPinLaw" (some 0) with
  accessFlags := 49
  interfaces := #[]
  cf := some (fileOf pool1 14 #[] #[{ accessFlags := 1, nameIndex := 5, descriptorIndex := 6, attributes := #[] }, { accessFlags := 10, nameIndex := 17, descriptorIndex := 18, attributes := #[] }, { accessFlags := 10, nameIndex := 21, descriptorIndex := 22, attributes := #[] }, { accessFlags := 9, nameIndex := 45, descriptorIndex := 46, attributes := #[] }] 49 2 #[] #[])
  fields := #[]
  methods := #[k1m0, k1m1, k1m2, k1m3]
  instanceTypes := #[]
  staticTypes := #[]
  resolved := Array.replicate 51 none
  statics := none }

def pool2 : Array CpInfo := pool [(1, .class_ 2), (0, u "java/io/Serializable"), (0, .class_ 4), (0, u "java/lang/Object")] 2

/-- java/io/Serializable -/
def k2 : Class := { plain "java/io/Serializable" (some 0) with
  accessFlags := 1537
  interfaces := #[]
  cf := some (fileOf pool2 1 #[] #[] 1537 3 #[] #[])
  fields := #[]
  methods := #[]
  instanceTypes := #[]
  staticTypes := #[]
  resolved := Array.replicate 7 none
  statics := none }

def pool3 : Array CpInfo := pool [(1, .class_ 2), (0, u "java/lang/Comparable"), (0, .class_ 4), (0, u "java/lang/Object")] 7

/-- java/lang/Comparable -/
def k3 : Class := { plain "java/lang/Comparable" (some 0) with
  accessFlags := 1537
  interfaces := #[]
  cf := some (fileOf pool3 1 #[] #[] 1537 3 #[] #[])
  fields := #[]
  methods := #[]
  instanceTypes := #[]
  staticTypes := #[]
  resolved := Array.replicate 12 none
  statics := none }

def pool4 : Array CpInfo := pool [(2, .class_ 4), (1, u "java/lang/CharSequence"), (42, .class_ 48), (0, u "java/lang/CharSequence$1CodePointIterator"), (10, .class_ 60), (0, u "java/lang/CharSequence$1CharIterator"), (5, .class_ 67), (0, u "java/lang/Object")] 63

/-- java/lang/CharSequence -/
def k4 : Class := { plain "java/lang/CharSequence" (some 0) with
  accessFlags := 1537
  interfaces := #[]
  cf := some (fileOf pool4 2 #[.nestMembers #[47, 59]] #[] 1537 66 #[] #[])
  fields := #[]
  methods := #[]
  instanceTypes := #[]
  staticTypes := #[]
  resolved := Array.replicate 131 none
  statics := none }

def pool5 : Array CpInfo := pool [(1, .class_ 2), (0, u "java/lang/constant/Constable"), (0, .class_ 4), (0, u "java/lang/Object")] 6

/-- java/lang/constant/Constable -/
def k5 : Class := { plain "java/lang/constant/Constable" (some 0) with
  accessFlags := 1537
  interfaces := #[]
  cf := some (fileOf pool5 1 #[] #[] 1537 3 #[] #[])
  fields := #[]
  methods := #[]
  instanceTypes := #[]
  staticTypes := #[]
  resolved := Array.replicate 11 none
  statics := none }

def pool6 : Array CpInfo := pool [(1, .class_ 2), (0, u "java/lang/constant/ConstantDesc"), (0, .class_ 4), (0, u "java/lang/Object")] 32

/-- java/lang/constant/ConstantDesc -/
def k6 : Class := { plain "java/lang/constant/ConstantDesc" (some 0) with
  accessFlags := 1537
  interfaces := #[]
  cf := some (fileOf pool6 1 #[] #[] 1537 3 #[] #[])
  fields := #[]
  methods := #[]
  instanceTypes := #[]
  staticTypes := #[]
  resolved := Array.replicate 37 none
  statics := none }

def pool7 : Array CpInfo := pool [(1, .methodref 2 3), (0, .class_ 4), (0, .nameAndType 5 6), (0, u "java/lang/Object"), (0, u "<init>"), (0, u "()V"), (2, .fieldref 10 11), (0, .class_ 12), (0, .nameAndType 13 14), (0, u "java/lang/String"), (0, u "value"), (0, u "[B"), (0, .fieldref 10 16), (0, .nameAndType 17 18), (0, u "coder"), (0, u "B"), (2, u "hash"), (0, u "I"), (2, u "hashIsZero"), (0, u "Z"), (0, .methodref 10 28), (0, .nameAndType 5 29), (0, u "([CIILjava/lang/Void;)V"), (8, .fieldref 10 39), (0, .nameAndType 40 26), (0, u "COMPACT_STRINGS"), (1, .class_ 44), (1, u "java/lang/StringUTF16"), (0, u "compress"), (1, .methodref 42 48), (0, .nameAndType 49 50), (0, u "coderFromArrayLen"), (0, u "([BI)B"), (126, .methodref 42 178), (0, .nameAndType 45 179), (0, u "([CII)[B"), (154, u "()I"), (0, .methodref 10 336), (0, .nameAndType 17 337), (0, u "()B"), (169, u "length"), (67, .class_ 576), (0, u "java/lang/CharSequence"), (22, u "CASE_INSENSITIVE_ORDER"), (0, u "Ljava/util/Comparator;"), (409, u "([C)V"), (90, u "serialPersistentFields"), (0, u "[Ljava/io/ObjectStreamField;"), (0, .class_ 1104), (0, u "java/lang/String$CaseInsensitiveComparator"), (1, .class_ 1107), (0, u "java/io/Serializable"), (0, .class_ 1109), (0, u "java/lang/Comparable"), (0, .class_ 1111), (0, u "java/lang/constant/Constable"), (0, .class_ 1113), (0, u "java/lang/constant/ConstantDesc"), (2, u "serialVersionUID"), (0, u "J"), (3, u "REPL"), (0, u "C"), (2, u "LATIN1"), (1, u "UTF16")] 323

def k7m0 : Method := { name := "<init>", desc := "()V", sig := { parameters := [], returnType := none }, accessFlags := 1, code := none }
def k7c1 : Code := { maxStack := 5, maxLocals := 2, code := jdk_42_method_3_code, exceptionTable := #[], attributes := #[] }
def k7m1 : Method := { name := "<init>", desc := "([C)V", sig := { parameters := [(.array .char)], returnType := none }, accessFlags := 1, code := some k7c1 }
def k7c2 : Code := { maxStack := 2, maxLocals := 1, code := jdk_42_method_54_code, exceptionTable := #[], attributes := #[] }
def k7m2 : Method := { name := "length", desc := "()I", sig := { parameters := [], returnType := some .int }, accessFlags := 1, code := some k7c2 }
def k7c3 : Code := { maxStack := 4, maxLocals := 6, code := jdk_42_method_149_code, exceptionTable := #[], attributes := #[] }
def k7m3 : Method := { name := "<init>", desc := "([CIILjava/lang/Void;)V", sig := { parameters := [(.array .char), .int, .int, (.object "java/lang/Void")], returnType := none }, accessFlags := 2, code := some k7c3 }
def k7c4 : Code := { maxStack := 1, maxLocals := 1, code := jdk_42_method_152_code, exceptionTable := #[], attributes := #[] }
def k7m4 : Method := { name := "coder", desc := "()B", sig := { parameters := [], returnType := some .byte }, accessFlags := 0, code := some k7c4 }
/-- java/lang/String -/
def k7 : Class := { plain "java/lang/String" (some 0) with
  accessFlags := 49
  interfaces := #[2, 3, 4, 5, 6]
  cf := some (fileOf pool7 10 #[.nestMembers #[1103]] #[{ accessFlags := 1, nameIndex := 5, descriptorIndex := 6, attributes := #[] }, { accessFlags := 1, nameIndex := 5, descriptorIndex := 1010, attributes := #[] }, { accessFlags := 1, nameIndex := 507, descriptorIndex := 334, attributes := #[] }, { accessFlags := 2, nameIndex := 5, descriptorIndex := 29, attributes := #[] }, { accessFlags := 0, nameIndex := 17, descriptorIndex := 337, attributes := #[] }] 49 2 #[1106, 1108, 575, 1110, 1112] #[{ accessFlags := 18, nameIndex := 13, descriptorIndex := 14, attributes := #[] }, { accessFlags := 18, nameIndex := 17, descriptorIndex := 18, attributes := #[] }, { accessFlags := 2, nameIndex := 21, descriptorIndex := 22, attributes := #[] }, { accessFlags := 2, nameIndex := 25, descriptorIndex := 26, attributes := #[] }, { accessFlags := 26, nameIndex := 1116, descriptorIndex := 1117, attributes := #[] }, { accessFlags := 24, nameIndex := 40, descriptorIndex := 26, attributes := #[] }, { accessFlags := 26, nameIndex := 1101, descriptorIndex := 1102, attributes := #[] }, { accessFlags := 26, nameIndex := 1121, descriptorIndex := 1122, attributes := #[] }, { accessFlags := 25, nameIndex := 599, descriptorIndex := 600, attributes := #[] }, { accessFlags := 24, nameIndex := 1125, descriptorIndex := 18, attributes := #[] }, { accessFlags := 24, nameIndex := 1127, descriptorIndex := 18, attributes := #[] }])
  fields := #[{ name := "value", type := (.array .byte), accessFlags := 18, slot := 0, constantValue := 0 }, { name := "coder", type := .byte, accessFlags := 18, slot := 1, constantValue := 0 }, { name := "hash", type := .int, accessFlags := 2, slot := 2, constantValue := 0 }, { name := "hashIsZero", type := .boolean, accessFlags := 2, slot := 3, constantValue := 0 }, { name := "serialVersionUID", type := .long, accessFlags := 26, slot := 0, constantValue := 0 }, { name := "COMPACT_STRINGS", type := .boolean, accessFlags := 24, slot := 1, constantValue := 0 }, { name := "serialPersistentFields", type := (.array (.object "java/io/ObjectStreamField")), accessFlags := 26, slot := 2, constantValue := 0 }, { name := "REPL", type := .char, accessFlags := 26, slot := 3, constantValue := 0 }, { name := "CASE_INSENSITIVE_ORDER", type := (.object "java/util/Comparator"), accessFlags := 25, slot := 4, constantValue := 0 }, { name := "LATIN1", type := .byte, accessFlags := 24, slot := 5, constantValue := 0 }, { name := "UTF16", type := .byte, accessFlags := 24, slot := 6, constantValue := 0 }]
  methods := #[k7m0, k7m1, k7m2, k7m3, k7m4]
  instanceTypes := #[(.array .byte), .byte, .int, .boolean]
  staticTypes := #[.long, .boolean, (.array (.object "java/io/ObjectStreamField")), .char, (.object "java/util/Comparator"), .byte, .byte]
  resolved := Array.replicate 1451 none
  statics := some 0 }

def pool8 : Array CpInfo := pool [(6, .class_ 8), (1, u "java/lang/Object"), (0, u "<init>"), (0, u "()V"), (1, .class_ 14), (1, u "java/lang/StringUTF16"), (31, u "$assertionsDisabled"), (0, u "Z"), (13, u "HI_BYTE_SHIFT"), (0, u "I"), (2, u "LO_BYTE_SHIFT"), (49, .methodref 12 116), (0, .nameAndType 117 118), (0, u "compress"), (0, u "([CI[BII)I"), (3, u "([CII)[B"), (138, u "coderFromArrayLen"), (0, u "([BI)B"), (106, .class_ 371), (1, u "java/lang/StringUTF16$LinesSpliterator"), (58, u "MAX_LENGTH"), (196, .class_ 628), (0, u "java/lang/StringUTF16$CodePointsSpliterator"), (0, .class_ 630), (0, u "java/lang/StringUTF16$CharsSpliterator")] 4

def k8m0 : Method := { name := "<init>", desc := "()V", sig := { parameters := [], returnType := none }, accessFlags := 0, code := none }
def k8c1 : Code := { maxStack := 2, maxLocals := 2, code := jdk_52_method_15_code, exceptionTable := #[], attributes := #[] }
def k8m1 : Method := { name := "coderFromArrayLen", desc := "([BI)B", sig := { parameters := [(.array .byte), .int], returnType := some .byte }, accessFlags := 8, code := some k8c1 }
def k8c2 : Code := { maxStack := 5, maxLocals := 6, code := jdk_52_method_16_code, exceptionTable := #[], attributes := #[] }
def k8m2 : Method := { name := "compress", desc := "([CII)[B", sig := { parameters := [(.array .char), .int, .int], returnType := some (.array .byte) }, accessFlags := 9, code := some k8c2 }
def k8c3 : Code := { maxStack := 3, maxLocals := 7, code := jdk_52_method_21_code, exceptionTable := #[], attributes := #[] }
def k8m3 : Method := { name := "compress", desc := "([CI[BII)I", sig := { parameters := [(.array .char), .int, (.array .byte), .int, .int], returnType := some .int }, accessFlags := 9, code := some k8c3 }
/-- java/lang/StringUTF16 -/
def k8 : Class := { plain "java/lang/StringUTF16" (some 0) with
  accessFlags := 48
  interfaces := #[]
  cf := some (fileOf pool8 12 #[.nestMembers #[627, 629, 369]] #[{ accessFlags := 0, nameIndex := 9, descriptorIndex := 10, attributes := #[] }, { accessFlags := 8, nameIndex := 261, descriptorIndex := 262, attributes := #[] }, { accessFlags := 9, nameIndex := 117, descriptorIndex := 122, attributes := #[] }, { accessFlags := 9, nameIndex := 117, descriptorIndex := 118, attributes := #[] }] 48 6 #[] #[{ accessFlags := 26, nameIndex := 61, descriptorIndex := 62, attributes := #[] }, { accessFlags := 26, nameIndex := 65, descriptorIndex := 62, attributes := #[] }, { accessFlags := 24, nameIndex := 430, descriptorIndex := 62, attributes := #[] }, { accessFlags := 4120, nameIndex := 46, descriptorIndex := 47, attributes := #[] }])
  fields := #[{ name := "HI_BYTE_SHIFT", type := .int, accessFlags := 26, slot := 0, constantValue := 0 }, { name := "LO_BYTE_SHIFT", type := .int, accessFlags := 26, slot := 1, constantValue := 0 }, { name := "MAX_LENGTH", type := .int, accessFlags := 24, slot := 2, constantValue := 0 }, { name := "$assertionsDisabled", type := .boolean, accessFlags := 4120, slot := 3, constantValue := 0 }]
  methods := #[k8m0, k8m1, k8m2, k8m3]
  instanceTypes := #[]
  staticTypes := #[.int, .int, .int, .boolean]
  resolved := Array.replicate 635 none
  statics := none }

def pool9 : Array CpInfo := pool [(1, .methodref 2 3), (0, .class_ 4), (0, .nameAndType 5 6), (0, u "java/lang/Object"), (0, u "<init>"), (0, u "()V"), (0, .fieldref 8 9), (0, .class_ 10), (0, .nameAndType 11 12), (0, u "com/example/roaming_pubsub/roamingpubsub/Message"), (0, u "topic"), (0, u "Ljava/lang/String;"), (0, .fieldref 8 14), (0, .nameAndType 15 16), (0, u "payload"), (0, u "[B"), (0, .long 2), (1, .methodref 20 21), (0, .class_ 22), (0, .nameAndType 23 24), (0, u "java/lang/String"), (0, u "length"), (0, u "()I"), (0, u "(Ljava/lang/String;[B)V"), (2, u "()Ljava/lang/String;"), (0, u "()[B"), (0, u "heapBytes"), (0, u "()J")] 2

def k9c0 : Code := { maxStack := 2, maxLocals := 3, code := prog_11_method_1_code, exceptionTable := #[], attributes := #[] }
def k9m0 : Method := { name := "<init>", desc := "(Ljava/lang/String;[B)V", sig := { parameters := [(.object "java/lang/String"), (.array .byte)], returnType := none }, accessFlags := 0, code := some k9c0 }
def k9c1 : Code := { maxStack := 1, maxLocals := 1, code := prog_11_method_2_code, exceptionTable := #[], attributes := #[] }
def k9m1 : Method := { name := "topic", desc := "()Ljava/lang/String;", sig := { parameters := [], returnType := some (.object "java/lang/String") }, accessFlags := 0, code := some k9c1 }
def k9c2 : Code := { maxStack := 1, maxLocals := 1, code := prog_11_method_3_code, exceptionTable := #[], attributes := #[] }
def k9m2 : Method := { name := "payload", desc := "()[B", sig := { parameters := [], returnType := some (.array .byte) }, accessFlags := 0, code := some k9c2 }
def k9c3 : Code := { maxStack := 4, maxLocals := 1, code := prog_11_method_4_code, exceptionTable := #[], attributes := #[] }
def k9m3 : Method := { name := "heapBytes", desc := "()J", sig := { parameters := [], returnType := some .long }, accessFlags := 0, code := some k9c3 }
/-- com/example/roaming_pubsub/roamingpubsub/Message -/
def k9 : Class := { plain "com/example/roaming_pubsub/roamingpubsub/Message" (some 0) with
  accessFlags := 32
  interfaces := #[]
  cf := some (fileOf pool9 8 #[] #[{ accessFlags := 0, nameIndex := 5, descriptorIndex := 25, attributes := #[] }, { accessFlags := 0, nameIndex := 11, descriptorIndex := 28, attributes := #[] }, { accessFlags := 0, nameIndex := 15, descriptorIndex := 29, attributes := #[] }, { accessFlags := 0, nameIndex := 30, descriptorIndex := 31, attributes := #[] }] 32 2 #[] #[{ accessFlags := 18, nameIndex := 11, descriptorIndex := 12, attributes := #[] }, { accessFlags := 18, nameIndex := 15, descriptorIndex := 16, attributes := #[] }])
  fields := #[{ name := "topic", type := (.object "java/lang/String"), accessFlags := 18, slot := 0, constantValue := 0 }, { name := "payload", type := (.array .byte), accessFlags := 18, slot := 1, constantValue := 0 }]
  methods := #[k9m0, k9m1, k9m2, k9m3]
  instanceTypes := #[(.object "java/lang/String"), (.array .byte)]
  staticTypes := #[]
  resolved := Array.replicate 34 none
  statics := none }

def pool10 : Array CpInfo := pool [(4, .class_ 6), (1, u "java/lang/Object"), (0, u "<init>"), (0, u "()V"), (5, .class_ 16), (1, u "java/lang/StringLatin1"), (104, u "$assertionsDisabled"), (0, u "Z"), (98, .class_ 223), (1, u "java/lang/StringLatin1$LinesSpliterator"), (166, .class_ 391), (0, u "java/lang/StringLatin1$CharsSpliterator")] 3

def k10m0 : Method := { name := "<init>", desc := "()V", sig := { parameters := [], returnType := none }, accessFlags := 0, code := none }
/-- java/lang/StringLatin1 -/
def k10 : Class := { plain "java/lang/StringLatin1" (some 0) with
  accessFlags := 48
  interfaces := #[]
  cf := some (fileOf pool10 14 #[.nestMembers #[390, 221]] #[{ accessFlags := 0, nameIndex := 7, descriptorIndex := 8, attributes := #[] }] 48 4 #[] #[{ accessFlags := 4120, nameIndex := 121, descriptorIndex := 122, attributes := #[] }])
  fields := #[{ name := "$assertionsDisabled", type := .boolean, accessFlags := 4120, slot := 0, constantValue := 0 }]
  methods := #[k10m0]
  instanceTypes := #[]
  staticTypes := #[.boolean]
  resolved := Array.replicate 395 none
  statics := none }

def pool11 : Array CpInfo := pool [(2, .class_ 4), (1, u "java/lang/Object"), (0, u "<init>"), (0, u "()V"), (17, .class_ 26), (1, u "jdk/internal/util/Preconditions"), (28, .class_ 56), (0, u "jdk/internal/util/Preconditions$4"), (57, .class_ 115), (0, u "jdk/internal/util/Preconditions$1"), (7, u "SIOOBE_FORMATTER"), (0, u "Ljava/util/function/BiFunction;"), (0, .class_ 126), (0, u "jdk/internal/util/Preconditions$2"), (3, u "AIOOBE_FORMATTER"), (0, .class_ 132), (0, u "jdk/internal/util/Preconditions$3"), (3, u "IOOBE_FORMATTER")] 57

def k11m0 : Method := { name := "<init>", desc := "()V", sig := { parameters := [], returnType := none }, accessFlags := 1, code := none }
/-- jdk/internal/util/Preconditions -/
def k11 : Class := { plain "jdk/internal/util/Preconditions" (some 0) with
  accessFlags := 33
  interfaces := #[]
  cf := some (fileOf pool11 24 #[.nestMembers #[55, 131, 125, 114]] #[{ accessFlags := 1, nameIndex := 5, descriptorIndex := 6, attributes := #[] }] 33 2 #[] #[{ accessFlags := 25, nameIndex := 123, descriptorIndex := 124, attributes := #[] }, { accessFlags := 25, nameIndex := 130, descriptorIndex := 124, attributes := #[] }, { accessFlags := 25, nameIndex := 136, descriptorIndex := 124, attributes := #[] }])
  fields := #[{ name := "SIOOBE_FORMATTER", type := (.object "java/util/function/BiFunction"), accessFlags := 25, slot := 0, constantValue := 0 }, { name := "AIOOBE_FORMATTER", type := (.object "java/util/function/BiFunction"), accessFlags := 25, slot := 1, constantValue := 0 }, { name := "IOOBE_FORMATTER", type := (.object "java/util/function/BiFunction"), accessFlags := 25, slot := 2, constantValue := 0 }]
  methods := #[k11m0]
  instanceTypes := #[]
  staticTypes := #[(.object "java/util/function/BiFunction"), (.object "java/util/function/BiFunction"), (.object "java/util/function/BiFunction")]
  resolved := Array.replicate 194 none
  statics := some 1 }

def pool12 : Array CpInfo := pool [(9, u "<init>"), (6, .class_ 18), (1, u "java/lang/Object"), (0, u "()V"), (1, .class_ 23), (1, u "jdk/internal/util/ArraysSupport"), (0, u "LOG2_ARRAY_LONG_INDEX_SCALE"), (0, u "I"), (2, u "U"), (0, u "Ljdk/internal/misc/Unsafe;"), (8, u "BIG_ENDIAN"), (0, u "Z"), (8, u "LOG2_BYTE_BIT_SIZE"), (4, u "LOG2_ARRAY_INT_INDEX_SCALE"), (54, u "JLA"), (0, u "Ljdk/internal/access/JavaLangAccess;"), (11, u "LOG2_ARRAY_BOOLEAN_INDEX_SCALE"), (9, u "LOG2_ARRAY_BYTE_INDEX_SCALE"), (5, u "LOG2_ARRAY_CHAR_INDEX_SCALE"), (5, u "LOG2_ARRAY_SHORT_INDEX_SCALE"), (18, u "LOG2_ARRAY_FLOAT_INDEX_SCALE"), (24, u "LOG2_ARRAY_DOUBLE_INDEX_SCALE"), (89, u "T_BOOLEAN"), (2, u "T_CHAR"), (1, u "T_FLOAT"), (1, u "T_DOUBLE"), (1, u "T_BYTE"), (1, u "T_SHORT"), (1, u "T_INT"), (1, u "T_LONG"), (1, u "SOFT_MAX_ARRAY_LENGTH")] 83

def k12m0 : Method := { name := "<init>", desc := "()V", sig := { parameters := [], returnType := none }, accessFlags := 2, code := none }
/-- jdk/internal/util/ArraysSupport -/
def k12 : Class := { plain "jdk/internal/util/ArraysSupport" (some 0) with
  accessFlags := 33
  interfaces := #[]
  cf := some (fileOf pool12 21 #[] #[{ accessFlags := 2, nameIndex := 9, descriptorIndex := 19, attributes := #[] }] 33 16 #[] #[{ accessFlags := 24, nameIndex := 28, descriptorIndex := 29, attributes := #[] }, { accessFlags := 26, nameIndex := 38, descriptorIndex := 39, attributes := #[] }, { accessFlags := 25, nameIndex := 121, descriptorIndex := 25, attributes := #[] }, { accessFlags := 25, nameIndex := 131, descriptorIndex := 25, attributes := #[] }, { accessFlags := 25, nameIndex := 137, descriptorIndex := 25, attributes := #[] }, { accessFlags := 25, nameIndex := 143, descriptorIndex := 25, attributes := #[] }, { accessFlags := 25, nameIndex := 53, descriptorIndex := 25, attributes := #[] }, { accessFlags := 25, nameIndex := 24, descriptorIndex := 25, attributes := #[] }, { accessFlags := 25, nameIndex := 162, descriptorIndex := 25, attributes := #[] }, { accessFlags := 25, nameIndex := 187, descriptorIndex := 25, attributes := #[] }, { accessFlags := 26, nameIndex := 48, descriptorIndex := 25, attributes := #[] }, { accessFlags := 25, nameIndex := 277, descriptorIndex := 25, attributes := #[] }, { accessFlags := 25, nameIndex := 280, descriptorIndex := 25, attributes := #[] }, { accessFlags := 25, nameIndex := 282, descriptorIndex := 25, attributes := #[] }, { accessFlags := 25, nameIndex := 284, descriptorIndex := 25, attributes := #[] }, { accessFlags := 25, nameIndex := 286, descriptorIndex := 25, attributes := #[] }, { accessFlags := 25, nameIndex := 288, descriptorIndex := 25, attributes := #[] }, { accessFlags := 25, nameIndex := 290, descriptorIndex := 25, attributes := #[] }, { accessFlags := 25, nameIndex := 292, descriptorIndex := 25, attributes := #[] }, { accessFlags := 26, nameIndex := 108, descriptorIndex := 109, attributes := #[] }, { accessFlags := 25, nameIndex := 294, descriptorIndex := 25, attributes := #[] }])
  fields := #[{ name := "U", type := (.object "jdk/internal/misc/Unsafe"), accessFlags := 24, slot := 0, constantValue := 0 }, { name := "BIG_ENDIAN", type := .boolean, accessFlags := 26, slot := 1, constantValue := 0 }, { name := "LOG2_ARRAY_BOOLEAN_INDEX_SCALE", type := .int, accessFlags := 25, slot := 2, constantValue := 0 }, { name := "LOG2_ARRAY_BYTE_INDEX_SCALE", type := .int, accessFlags := 25, slot := 3, constantValue := 0 }, { name := "LOG2_ARRAY_CHAR_INDEX_SCALE", type := .int, accessFlags := 25, slot := 4, constantValue := 0 }, { name := "LOG2_ARRAY_SHORT_INDEX_SCALE", type := .int, accessFlags := 25, slot := 5, constantValue := 0 }, { name := "LOG2_ARRAY_INT_INDEX_SCALE", type := .int, accessFlags := 25, slot := 6, constantValue := 0 }, { name := "LOG2_ARRAY_LONG_INDEX_SCALE", type := .int, accessFlags := 25, slot := 7, constantValue := 0 }, { name := "LOG2_ARRAY_FLOAT_INDEX_SCALE", type := .int, accessFlags := 25, slot := 8, constantValue := 0 }, { name := "LOG2_ARRAY_DOUBLE_INDEX_SCALE", type := .int, accessFlags := 25, slot := 9, constantValue := 0 }, { name := "LOG2_BYTE_BIT_SIZE", type := .int, accessFlags := 26, slot := 10, constantValue := 0 }, { name := "T_BOOLEAN", type := .int, accessFlags := 25, slot := 11, constantValue := 0 }, { name := "T_CHAR", type := .int, accessFlags := 25, slot := 12, constantValue := 0 }, { name := "T_FLOAT", type := .int, accessFlags := 25, slot := 13, constantValue := 0 }, { name := "T_DOUBLE", type := .int, accessFlags := 25, slot := 14, constantValue := 0 }, { name := "T_BYTE", type := .int, accessFlags := 25, slot := 15, constantValue := 0 }, { name := "T_SHORT", type := .int, accessFlags := 25, slot := 16, constantValue := 0 }, { name := "T_INT", type := .int, accessFlags := 25, slot := 17, constantValue := 0 }, { name := "T_LONG", type := .int, accessFlags := 25, slot := 18, constantValue := 0 }, { name := "JLA", type := (.object "jdk/internal/access/JavaLangAccess"), accessFlags := 26, slot := 19, constantValue := 0 }, { name := "SOFT_MAX_ARRAY_LENGTH", type := .int, accessFlags := 25, slot := 20, constantValue := 0 }]
  methods := #[k12m0]
  instanceTypes := #[]
  staticTypes := #[(.object "jdk/internal/misc/Unsafe"), .boolean, .int, .int, .int, .int, .int, .int, .int, .int, .int, .int, .int, .int, .int, .int, .int, .int, .int, (.object "jdk/internal/access/JavaLangAccess"), .int]
  resolved := Array.replicate 378 none
  statics := none }

def pool13 : Array CpInfo := pool [(1, u "java/lang/Cloneable"), (0, .class_ 1), (0, u "java/lang/Object"), (0, .class_ 3)] 3

/-- java/lang/Cloneable -/
def k13 : Class := { plain "java/lang/Cloneable" (some 0) with
  accessFlags := 1537
  interfaces := #[]
  cf := some (fileOf pool13 2 #[] #[] 1537 4 #[] #[])
  fields := #[]
  methods := #[]
  instanceTypes := #[]
  staticTypes := #[]
  resolved := Array.replicate 8 none
  statics := none }

/-- the primitive byte -/
def k14 : Class := { plain "byte" none with kind := .primitive 'B', accessFlags := 0x411 }
/-- [B -/
def k15 : Class := { plain "[B" (some 0) with kind := .array 14 .byte, interfaces := #[13, 2], accessFlags := 1041 }

/-- the primitive char -/
def k16 : Class := { plain "char" none with kind := .primitive 'C', accessFlags := 0x411 }
/-- [C -/
def k17 : Class := { plain "[C" (some 0) with kind := .array 16 .char, interfaces := #[13, 2], accessFlags := 1041 }

/-- the primitive int -/
def k18 : Class := { plain "int" none with kind := .primitive 'I', accessFlags := 0x411 }
/-- [I -/
def k19 : Class := { plain "[I" (some 0) with kind := .array 18 .int, interfaces := #[13, 2], accessFlags := 1041 }

def heap : Heap := #[{ cls := 7, slots := #[.long 0, .int 1, .null, .int 0, .null, .int 0, .int 0], vm := .statics 7 },
  { cls := 11, slots := #[.null, .null, .null], vm := .statics 11 }]
def classes : Array Class := #[k0, k1, k2, k3, k4, k5, k6, k7, k8, k9, k10, k11, k12, k13, k14, k15, k16, k17, k18, k19]
def interned : List (Array UInt16 × Addr) := []
def slotsUsed : Nat := 10
def theMethod : MethodId := ⟨1, 3⟩
def args0 : Array Value := #[.int 5, .int 2, .int 7, .int 9]
def aboutOver (below : List Frame) : State where
  vm := { classes := classes, interned := interned.toArray }
  heap := heap
  slotsUsed := slotsUsed
  threads := #[{ frames := .invoking theMethod args0 :: below }]
def below0 : List Frame := [.native { method := ⟨0, 0⟩, args := #[] }]
def about1 : State := aboutOver below0
def p0 : Program := .bare "" "" ""
def e0 : Env := launch0.env 0 0 0
theorem w_frames : about1.frames = Frame.invoking theMethod args0 :: below0 := rfl
set_option maxRecDepth 65536 in
theorem w_args : argsFit about1.vm theMethod args0 = true := by decide +kernel
set_option maxRecDepth 65536 in
theorem w_heap : heapFits about1 = true := by decide +kernel
set_option maxRecDepth 65536 in
theorem w_runnable : about1.curStatus? = some .runnable := by decide +kernel
set_option maxRecDepth 65536 in
theorem w_alone : about1.alone = true := by decide +kernel
set_option maxRecDepth 65536 in
theorem w_named : about1.methodNamed? x = some theMethod := by decide +kernel
set_option maxRecDepth 65536 in
theorem w_hears : about1.hears theMethod below0 = true := by decide +kernel
set_option maxRecDepth 65536 in
theorem w_ripe : about1.ripe theMethod args0 below0 = true := by decide +kernel
theorem w_running : about1.status = .running := rfl
set_option maxRecDepth 65536 in
theorem w_room : about1.hasRoom e0.platform room_1 = true :=
  launch0.hasRoom_least _ room_1 (by decide +kernel) (by decide +kernel) (by decide +kernel) (by decide +kernel) (by decide +kernel) (by decide +kernel)
theorem allAtoms_all (ts : List Jvm.Cond) (a : Array Jvm.Value) (st : Jvm.State) : (allAtoms ts).before a st = ts.all (fun c => c.before a st) := by
  induction ts with
  | nil => rfl
  | cons c t ih =>
    show (Jvm.Cond.and c (allAtoms t)).before a st = _
    rw [Jvm.Cond.before_and, ih, List.all_cons]
def words1 : List Jvm.Cond := Jvm.Cond.code x code maxLocals ret :: tables_1
/-- a 'code' word, met by the world's own term for the bytes: nothing is compared byte by byte -/
theorem code_word {y : MethodName} {bytes : ByteArray} {mx : Nat} {rt : Option FieldType} {a : Array Value} {s : State} {m : MethodId} {meth : Method} {c : Code} (h1 : s.methodNamed? y = some m) (h2 : s.vm.method? m = some meth) (h3 : meth.code = some c) (h4 : c.code = bytes)
    (h5 : (c.maxLocals == mx && c.exceptionTable.isEmpty && decide (c.maxStack ≤ mostOperands) && decide (meth.sig.returnType = rt) && !meth.locks && decide (parseMethodDescriptor y.desc = some meth.sig)) = true) : (Jvm.Cond.code y bytes mx rt).before a s = true := by
  simp only [Bool.and_eq_true, beq_iff_eq, Bool.not_eq_true', decide_eq_true_eq] at h5
  obtain ⟨⟨⟨⟨⟨g1, g2⟩, g3⟩, g4⟩, g5⟩, g6⟩ := h5
  simp [Cond.before, Cond.holds, Cond.value, h1, h2, h3, h4, g1, g2, g3, g4, g5, g6]
def isCode : Jvm.Cond → Bool
  | .code _ _ _ _ => true
  | _ => false
theorem all_split {L : List Jvm.Cond} {P : Jvm.Cond → Bool} (h1 : L.all (fun c => isCode c || P c) = true) (h2 : ∀ c ∈ L.filter isCode, P c = true) : L.all P = true := by
  refine List.all_eq_true.mpr fun c hc => ?_
  have h := List.all_eq_true.mp h1 c hc
  rcases Bool.eq_false_or_eq_true (isCode c) with hi | hi
  · exact h2 c (List.mem_filter.mpr ⟨hc, hi⟩)
  · simpa [hi] using h
set_option maxRecDepth 65536 in
theorem w_c0 : (Jvm.Cond.code x code maxLocals ret).before args0 about1 = true := code_word (m := ⟨1, 3⟩) (meth := k1m3) (c := k1c3) (by decide +kernel) rfl rfl rfl (by decide +kernel)
set_option maxRecDepth 65536 in
theorem w_c1 : (Jvm.Cond.code ({ cls := "com/example/roaming_pubsub/roamingpubsub/MessageHeapBytesPinLaw", name := "letter", desc := "(I)C" } : Jvm.MethodName) method_2_code (1 : Nat) (Option.some Jvm.ClassFile.FieldType.char)).before args0 about1 = true := code_word (m := ⟨1, 1⟩) (meth := k1m1) (c := k1c1) (by decide +kernel) rfl rfl rfl (by decide +kernel)
set_option maxRecDepth 65536 in
theorem w_c2 : (Jvm.Cond.code ({ cls := "com/example/roaming_pubsub/roamingpubsub/MessageHeapBytesPinLaw", name := "make", desc := "(ICCCC)Ljava/lang/String;" } : Jvm.MethodName) method_3_code (6 : Nat) (Option.some (Jvm.ClassFile.FieldType.object "java/lang/String"))).before args0 about1 = true := code_word (m := ⟨1, 2⟩) (meth := k1m2) (c := k1c2) (by decide +kernel) rfl rfl rfl (by decide +kernel)
set_option maxRecDepth 65536 in
theorem w_c3 : (Jvm.Cond.code ({ cls := "java/lang/String", name := "<init>", desc := "([C)V" } : Jvm.MethodName) jdk_42_method_3_code (2 : Nat) (Option.none : Option Jvm.ClassFile.FieldType)).before args0 about1 = true := code_word (m := ⟨7, 1⟩) (meth := k7m1) (c := k7c1) (by decide +kernel) rfl rfl rfl (by decide +kernel)
set_option maxRecDepth 65536 in
theorem w_c4 : (Jvm.Cond.code ({ cls := "java/lang/String", name := "<init>", desc := "([CIILjava/lang/Void;)V" } : Jvm.MethodName) jdk_42_method_149_code (6 : Nat) (Option.none : Option Jvm.ClassFile.FieldType)).before args0 about1 = true := code_word (m := ⟨7, 3⟩) (meth := k7m3) (c := k7c3) (by decide +kernel) rfl rfl rfl (by decide +kernel)
set_option maxRecDepth 65536 in
theorem w_c5 : (Jvm.Cond.code ({ cls := "java/lang/Object", name := "<init>", desc := "()V" } : Jvm.MethodName) object_method_1_code (1 : Nat) (Option.none : Option Jvm.ClassFile.FieldType)).before args0 about1 = true := code_word (m := ⟨0, 0⟩) (meth := k0m0) (c := k0c0) (by decide +kernel) rfl rfl rfl (by decide +kernel)
set_option maxRecDepth 65536 in
theorem w_c6 : (Jvm.Cond.code ({ cls := "java/lang/StringUTF16", name := "compress", desc := "([CII)[B" } : Jvm.MethodName) jdk_52_method_16_code (6 : Nat) (Option.some (Jvm.ClassFile.FieldType.array Jvm.ClassFile.FieldType.byte))).before args0 about1 = true := code_word (m := ⟨8, 2⟩) (meth := k8m2) (c := k8c2) (by decide +kernel) rfl rfl rfl (by decide +kernel)
set_option maxRecDepth 65536 in
theorem w_c7 : (Jvm.Cond.code ({ cls := "java/lang/StringUTF16", name := "compress", desc := "([CI[BII)I" } : Jvm.MethodName) jdk_52_method_21_code (7 : Nat) (Option.some Jvm.ClassFile.FieldType.int)).before args0 about1 = true := code_word (m := ⟨8, 3⟩) (meth := k8m3) (c := k8c3) (by decide +kernel) rfl rfl rfl (by decide +kernel)
set_option maxRecDepth 65536 in
theorem w_c8 : (Jvm.Cond.code ({ cls := "java/lang/StringUTF16", name := "coderFromArrayLen", desc := "([BI)B" } : Jvm.MethodName) jdk_52_method_15_code (2 : Nat) (Option.some Jvm.ClassFile.FieldType.byte)).before args0 about1 = true := code_word (m := ⟨8, 1⟩) (meth := k8m1) (c := k8c1) (by decide +kernel) rfl rfl rfl (by decide +kernel)
set_option maxRecDepth 65536 in
theorem w_c9 : (Jvm.Cond.code ({ cls := "com/example/roaming_pubsub/roamingpubsub/Message", name := "<init>", desc := "(Ljava/lang/String;[B)V" } : Jvm.MethodName) prog_11_method_1_code (3 : Nat) (Option.none : Option Jvm.ClassFile.FieldType)).before args0 about1 = true := code_word (m := ⟨9, 0⟩) (meth := k9m0) (c := k9c0) (by decide +kernel) rfl rfl rfl (by decide +kernel)
set_option maxRecDepth 65536 in
theorem w_c10 : (Jvm.Cond.code ({ cls := "com/example/roaming_pubsub/roamingpubsub/Message", name := "heapBytes", desc := "()J" } : Jvm.MethodName) prog_11_method_4_code (1 : Nat) (Option.some Jvm.ClassFile.FieldType.long)).before args0 about1 = true := code_word (m := ⟨9, 3⟩) (meth := k9m3) (c := k9c3) (by decide +kernel) rfl rfl rfl (by decide +kernel)
set_option maxRecDepth 65536 in
theorem w_c11 : (Jvm.Cond.code ({ cls := "java/lang/String", name := "length", desc := "()I" } : Jvm.MethodName) jdk_42_method_54_code (1 : Nat) (Option.some Jvm.ClassFile.FieldType.int)).before args0 about1 = true := code_word (m := ⟨7, 2⟩) (meth := k7m2) (c := k7c2) (by decide +kernel) rfl rfl rfl (by decide +kernel)
set_option maxRecDepth 65536 in
theorem w_c12 : (Jvm.Cond.code ({ cls := "java/lang/String", name := "coder", desc := "()B" } : Jvm.MethodName) jdk_42_method_152_code (1 : Nat) (Option.some Jvm.ClassFile.FieldType.byte)).before args0 about1 = true := code_word (m := ⟨7, 4⟩) (meth := k7m4) (c := k7c4) (by decide +kernel) rfl rfl rfl (by decide +kernel)
set_option maxRecDepth 65536 in
theorem w_c13 : (Jvm.Cond.code ({ cls := "com/example/roaming_pubsub/roamingpubsub/Message", name := "topic", desc := "()Ljava/lang/String;" } : Jvm.MethodName) prog_11_method_2_code (1 : Nat) (Option.some (Jvm.ClassFile.FieldType.object "java/lang/String"))).before args0 about1 = true := code_word (m := ⟨9, 1⟩) (meth := k9m1) (c := k9c1) (by decide +kernel) rfl rfl rfl (by decide +kernel)
set_option maxRecDepth 65536 in
theorem w_c14 : (Jvm.Cond.code ({ cls := "com/example/roaming_pubsub/roamingpubsub/Message", name := "payload", desc := "()[B" } : Jvm.MethodName) prog_11_method_3_code (1 : Nat) (Option.some (Jvm.ClassFile.FieldType.array Jvm.ClassFile.FieldType.byte))).before args0 about1 = true := code_word (m := ⟨9, 2⟩) (meth := k9m2) (c := k9c2) (by decide +kernel) rfl rfl rfl (by decide +kernel)
def codes1 : List Jvm.Cond := [Jvm.Cond.code x code maxLocals ret, Jvm.Cond.code ({ cls := "com/example/roaming_pubsub/roamingpubsub/MessageHeapBytesPinLaw", name := "letter", desc := "(I)C" } : Jvm.MethodName) method_2_code (1 : Nat) (Option.some Jvm.ClassFile.FieldType.char), Jvm.Cond.code ({ cls := "com/example/roaming_pubsub/roamingpubsub/MessageHeapBytesPinLaw", name := "make", desc := "(ICCCC)Ljava/lang/String;" } : Jvm.MethodName) method_3_code (6 : Nat) (Option.some (Jvm.ClassFile.FieldType.object "java/lang/String")), Jvm.Cond.code ({ cls := "java/lang/String", name := "<init>", desc := "([C)V" } : Jvm.MethodName) jdk_42_method_3_code (2 : Nat) (Option.none : Option Jvm.ClassFile.FieldType), Jvm.Cond.code ({ cls := "java/lang/String", name := "<init>", desc := "([CIILjava/lang/Void;)V" } : Jvm.MethodName) jdk_42_method_149_code (6 : Nat) (Option.none : Option Jvm.ClassFile.FieldType), Jvm.Cond.code ({ cls := "java/lang/Object", name := "<init>", desc := "()V" } : Jvm.MethodName) object_method_1_code (1 : Nat) (Option.none : Option Jvm.ClassFile.FieldType), Jvm.Cond.code ({ cls := "java/lang/StringUTF16", name := "compress", desc := "([CII)[B" } : Jvm.MethodName) jdk_52_method_16_code (6 : Nat) (Option.some (Jvm.ClassFile.FieldType.array Jvm.ClassFile.FieldType.byte)), Jvm.Cond.code ({ cls := "java/lang/StringUTF16", name := "compress", desc := "([CI[BII)I" } : Jvm.MethodName) jdk_52_method_21_code (7 : Nat) (Option.some Jvm.ClassFile.FieldType.int), Jvm.Cond.code ({ cls := "java/lang/StringUTF16", name := "coderFromArrayLen", desc := "([BI)B" } : Jvm.MethodName) jdk_52_method_15_code (2 : Nat) (Option.some Jvm.ClassFile.FieldType.byte), Jvm.Cond.code ({ cls := "com/example/roaming_pubsub/roamingpubsub/Message", name := "<init>", desc := "(Ljava/lang/String;[B)V" } : Jvm.MethodName) prog_11_method_1_code (3 : Nat) (Option.none : Option Jvm.ClassFile.FieldType), Jvm.Cond.code ({ cls := "com/example/roaming_pubsub/roamingpubsub/Message", name := "heapBytes", desc := "()J" } : Jvm.MethodName) prog_11_method_4_code (1 : Nat) (Option.some Jvm.ClassFile.FieldType.long), Jvm.Cond.code ({ cls := "java/lang/String", name := "length", desc := "()I" } : Jvm.MethodName) jdk_42_method_54_code (1 : Nat) (Option.some Jvm.ClassFile.FieldType.int), Jvm.Cond.code ({ cls := "java/lang/String", name := "coder", desc := "()B" } : Jvm.MethodName) jdk_42_method_152_code (1 : Nat) (Option.some Jvm.ClassFile.FieldType.byte), Jvm.Cond.code ({ cls := "com/example/roaming_pubsub/roamingpubsub/Message", name := "topic", desc := "()Ljava/lang/String;" } : Jvm.MethodName) prog_11_method_2_code (1 : Nat) (Option.some (Jvm.ClassFile.FieldType.object "java/lang/String")), Jvm.Cond.code ({ cls := "com/example/roaming_pubsub/roamingpubsub/Message", name := "payload", desc := "()[B" } : Jvm.MethodName) prog_11_method_3_code (1 : Nat) (Option.some (Jvm.ClassFile.FieldType.array Jvm.ClassFile.FieldType.byte))]
set_option maxRecDepth 65536 in
theorem codes_eq : words1.filter isCode = codes1 := rfl
theorem w_codes : ∀ c ∈ words1.filter isCode, c.before args0 about1 = true := by
  rw [codes_eq]
  intro c hc
  simp only [codes1, List.mem_cons, List.not_mem_nil, or_false] at hc
  rcases hc with rfl | rfl | rfl | rfl | rfl | rfl | rfl | rfl | rfl | rfl | rfl | rfl | rfl | rfl | rfl
  · exact w_c0
  · exact w_c1
  · exact w_c2
  · exact w_c3
  · exact w_c4
  · exact w_c5
  · exact w_c6
  · exact w_c7
  · exact w_c8
  · exact w_c9
  · exact w_c10
  · exact w_c11
  · exact w_c12
  · exact w_c13
  · exact w_c14
set_option maxRecDepth 65536 in
theorem w_t1 : (words1.take 24).all (fun c => isCode c || c.before args0 about1) = true := by decide +kernel
set_option maxRecDepth 65536 in
theorem w_t2 : ((words1.drop 24).take 24).all (fun c => isCode c || c.before args0 about1) = true := by decide +kernel
set_option maxRecDepth 65536 in
theorem w_t3 : (((words1.drop 24).drop 24).take 24).all (fun c => isCode c || c.before args0 about1) = true := by decide +kernel
set_option maxRecDepth 65536 in
theorem w_t4 : (((words1.drop 24).drop 24).drop 24).all (fun c => isCode c || c.before args0 about1) = true := by decide +kernel
theorem w_tables : (allAtoms (Jvm.Cond.code x code maxLocals ret :: tables_1)).before args0 about1 = true := by
  rw [allAtoms_all]
  show words1.all (fun c => c.before args0 about1) = true
  refine all_split ?_ w_codes
  rw [← List.take_append_drop 24 words1, List.all_append, w_t1, ← List.take_append_drop 24 (words1.drop 24), List.all_append, w_t2, ← List.take_append_drop 24 ((words1.drop 24).drop 24), List.all_append, w_t3, w_t4]
  rfl
set_option maxRecDepth 65536 in
theorem w_rest : rest_1_c.before args0 about1 = true := by decide +kernel
set_option maxRecDepth 65536 in
theorem w_case : (Jvm.Cond.and given_1 narrow_1).before args0 about1 = true := by decide +kernel
theorem w_applies : (headSpec (Jvm.Cond.code x code maxLocals ret :: tables_1) room_1).applies x e0.platform about1 = true :=
  (Spec.applies_iff w_frames).mpr ⟨w_running, w_runnable, w_alone, w_named, w_hears, w_ripe, w_room, w_tables⟩
theorem atStart : AtStart classFile x code maxLocals ret World_1 tables_1 room_1 Calls_1 rest_1 Pre_1 launch0 p0 e0 about1 theMethod args0 below0 :=
  ⟨lists_1, trivial, launch0.admits_env _ _ _, launch0.least_env, fairChoices_fair.cas, fairChoices_fair.clock, w_frames, w_args, w_heap, w_applies, trivial, w_rest, w_case⟩
end start1
theorem witness_1 : WitnessClaimed_1 := ⟨start1.p0, start1.e0, start1.about1, start1.theMethod, start1.args0, start1.below0, start1.atStart⟩
end Jvm.Pilot.@@N@@
