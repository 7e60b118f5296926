import JvmDerived
import JvmDerived.Pilot.@@N@@Statement
import JvmDerived.Pilot.@@N@@Code
set_option linter.unusedVariables false
set_option linter.unusedSimpArgs false

/- laws to paste: Road.backV, Road.lenW, Road.chN, Road.codOf (cut by pick.py; bodies as the Statement names them) -/
namespace Jvm.Pilot.@@N@@
namespace StrChars
open Jvm Sem ClassFile Op Lib Jvm.Stand Jvm.Free.XT Jvm.Free.ALB Jvm.Free.JM Jvm.Free
open Jvm.Lib.Cold (StaticIs)
/-- a char array whose places are chars -/
def Ch (a : Addr) (A : Cell) (U : State) : Prop := Arr .char a A U ∧ Typed .char A
theorem Ch.mv {a : Addr} {A : Cell} {U U' : State} (h : Ch a A U) (hal : U.vm.Alike U'.vm) (hh : U'.heap = U.heap) : Ch a A U' := ⟨h.1.mv hal hh, h.2⟩
theorem Ch.keep {a : Addr} {A : Cell} {U U' : State} (h : Ch a A U) (hal : U.vm.Alike U'.vm) (hk : U'.heap[a]? = some A) : Ch a A U' := ⟨h.1.keep hal hk, h.2⟩
/-- what place i of a char[]'s cell holds -/
def cv (A : Cell) (i : Nat) : Int32 := match A.slots[i]? with | some (.int x) => x | _ => 0
theorem Ch.get {a : Addr} {A : Cell} {U : State} (h : Ch a A U) {i : Nat} (hi : i < A.slots.size) : A.slots[i]? = some (.int (cv A i)) := by
  have e := Array.getElem?_eq_getElem hi
  have f := h.2 i _ e
  unfold cv; rw [e]
  generalize A.slots[i] = v at f
  cases v <;> simp [fits] at f ⊢
/-- the byte that i2b leaves of a char -/
def lo8 (x : Int32) : Int32 := x.toInt8.toInt32
theorem fits_lo8 (y : Int32) : fits .byte (.int (lo8 y)) = true := by
  have h1 := y.toInt8.le_toInt
  have h2 := y.toInt8.toInt_lt
  simp only [lo8, fits, Bool.and_eq_true, decide_eq_true_eq, Int32.le_iff_toInt_le, Int8.toInt_toInt32, show (-128 : Int32).toInt = -128 from by decide, show (127 : Int32).toInt = 127 from by decide]
  omega
/-- A' is A but that each place j of lo .. hi - 1 holds f j -/
def Laid (A A' : Cell) (lo hi : Nat) (f : Nat → Value) : Prop := A'.cls = A.cls ∧ A'.vm = A.vm ∧ A'.slots.size = A.slots.size ∧ ∀ i, A'.slots[i]? = if lo ≤ i ∧ i < hi then some (f i) else A.slots[i]?
theorem Laid.zero (A : Cell) (lo : Nat) (f : Nat → Value) : Laid A A lo (lo + 0) f := ⟨rfl, rfl, rfl, fun i => by rw [if_neg (by omega)]⟩
theorem Laid.step {A Ak : Cell} {lo k : Nat} {f : Nat → Value} {v : Value} (h : Laid A Ak lo k f) (hlo : lo ≤ k) (hk : k < Ak.slots.size) (hv : v = f k) : Laid A (Ak.setSlot k v) lo (k + 1) f := by
  refine ⟨h.1, h.2.1, by simpa [Cell.setSlot] using h.2.2.1, fun i => ?_⟩
  by_cases e : k = i
  · subst e; rw [Cell.slots_setSlot_self v hk, if_pos (by omega), hv]
  · rw [Cell.slots_setSlot_ne v e, h.2.2.2 i]
    by_cases q : lo ≤ i ∧ i < k
    · rw [if_pos q, if_pos (by omega)]
    · rw [if_neg q, if_neg (by omega)]
def U16 : String := "java/lang/StringUTF16"
namespace Cmp5
def yN : MethodName := ⟨"java/lang/StringUTF16", "compress", "([CI[BII)I"⟩
abbrev yB : ByteArray := jdk_52_method_21_code
theorem d0 : decode yB 0 = .ok (.iconst 0, 1) := by decide +kernel
theorem d1 : decode yB 1 = .ok (.istore 5, 2) := by decide +kernel
theorem d3 : decode yB 3 = .ok (.iload 5, 2) := by decide +kernel
theorem d5 : decode yB 5 = .ok (.iload 4, 2) := by decide +kernel
theorem d7 : decode yB 7 = .ok (.if_icmp (.ge) 37, 3) := by decide +kernel
theorem d10 : decode yB 10 = .ok (.aload_n 0, 1) := by decide +kernel
theorem d11 : decode yB 11 = .ok (.iload_n 1, 1) := by decide +kernel
theorem d12 : decode yB 12 = .ok (.caload, 1) := by decide +kernel
theorem d13 : decode yB 13 = .ok (.istore 6, 2) := by decide +kernel
theorem d15 : decode yB 15 = .ok (.iload 6, 2) := by decide +kernel
theorem d17 : decode yB 17 = .ok (.sipush 255, 3) := by decide +kernel
theorem d20 : decode yB 20 = .ok (.if_icmp (.le) 6, 3) := by decide +kernel
theorem d26 : decode yB 26 = .ok (.aload_n 2, 1) := by decide +kernel
theorem d27 : decode yB 27 = .ok (.iload_n 3, 1) := by decide +kernel
theorem d28 : decode yB 28 = .ok (.iload 6, 2) := by decide +kernel
theorem d30 : decode yB 30 = .ok (.i2b, 1) := by decide +kernel
theorem d31 : decode yB 31 = .ok (.bastore, 1) := by decide +kernel
theorem d32 : decode yB 32 = .ok (.iinc 1 1, 3) := by decide +kernel
theorem d35 : decode yB 35 = .ok (.iinc 3 1, 3) := by decide +kernel
theorem d38 : decode yB 38 = .ok (.iinc 5 1, 3) := by decide +kernel
theorem d41 : decode yB 41 = .ok (.goto (-38), 3) := by decide +kernel
theorem d44 : decode yB 44 = .ok (.iload 4, 2) := by decide +kernel
theorem d46 : decode yB 46 = .ok (.ireturn, 1) := by decide +kernel
def site : List Cond := []
def tab : Cond := tabOf yN yB 7 (some .int) site
def P (b : Addr) (A : Cell) (d : Addr) (B : Cell) (o q len : Nat) (args : Array Value) (s : State) : Prop := args = #[.ref b, .int (Int32.ofNat o), .ref d, .int (Int32.ofNat q), .int (Int32.ofNat len)] ∧ Ch b A s ∧ Arr .byte d B s ∧ b ≠ d ∧ o + len ≤ A.slots.size ∧ q + len ≤ B.slots.size ∧ ∀ i, i < len → ¬ 255 < cv A (o + i)
def E (b : Addr) (A : Cell) (d : Addr) (B : Cell) (o q len : Nat) (r : Option Value) (s u : State) : Prop := r = some (.int (Int32.ofNat len)) ∧ ∃ B', Put d B' s u ∧ Laid B B' q (q + len) (fun j => Value.int (lo8 (cv A (o + (j - q)))))
/-- no char of the range above 255: len; the places written hold each char's low byte -/
theorem law (l : Launch) (b : Addr) (A : Cell) (d : Addr) (B : Cell) (o q len : Nat) : Law l yN 5 5 0 0 yB 7 (some .int) site (P b A d B o q len) (E b A d B o q len) (copyLocs d q len) 0 0 := by
  refine Law.of_walk (plainFor_of_name (by decide +kernel)) (by decide +kernel) (by decide +kernel) (by decide) (fun _ _ h => by rw [h.1]; rfl) (fun _ U U' hal hh h => ⟨h.1, h.2.1.mv hal hh, h.2.2.1.mv hal hh, h.2.2.2⟩) (fun r U U' V V' h1 hal h2 h => ⟨h.1, h.2.elim fun B' q => ⟨B', q.1.mv h1 h2, q.2⟩⟩) ?_
  intro p e s m args below meth c s₁ X0 hexec hbytes hml hret hlk hnm hown hh0 W hP
  obtain ⟨rfl, hA, hB, hne, l1, l2, hp⟩ := hP
  have c1 : Steps p.tables e below (s₁.setTop (entryFrame m #[.ref b, .int (Int32.ofNat o), .ref d, .int (Int32.ofNat q), .int (Int32.ofNat len)] 7)) (s₁.setTop (mkF m 0 #[.val (.ref b), .val (.int (Int32.ofNat o)), .val (.ref d), .val (.int (Int32.ofNat q)), .val (.int (Int32.ofNat len)), .unset, .unset] [])) := entry rfl
  have hA0 := hA.1.mv X0.warmed.alike hh0
  have hB0 := hB.mv X0.warmed.alike hh0
  have a31 := hA.1.2.2.2
  have c2 : Steps p.tables e below (s₁.setTop (entryFrame m #[.ref b, .int (Int32.ofNat o), .ref d, .int (Int32.ofNat q), .int (Int32.ofNat len)] 7)) (s₁.setTop (mkF m 3 #[.val (.ref b), .val (.int (Int32.ofNat o)), .val (.ref d), .val (.int (Int32.ofNat q)), .val (.int (Int32.ofNat len)), .val (.int 0), .unset] [])) := c1.trans (by
    refine iconstV X0.here hexec rfl 0 (hb hbytes d0) (by decide) ?_
    refine XS.istore X0.here hexec rfl (hb hbytes d1) rfl rfl ?_
    exact Steps.refl _)
  have loop : ∀ (r i : Nat), i + r = len → ∀ (z : Slot), (z = .unset ∨ ∃ w, z = .val w ∧ w.category = 1) → ∀ (Tl : State) (Bk : Cell), Stand p l e { frames := 0, locals := 0, cells := 0, slots := 0 } s m #[.ref b, .int (Int32.ofNat o), .ref d, .int (Int32.ofNat q), .int (Int32.ofNat len)] below meth c Tl ([] ++ copyLocs d q i) 0 0 → Put d Bk s₁ Tl → Laid B Bk q (q + i) (fun j => Value.int (lo8 (cv A (o + (j - q))))) →
      Steps p.tables e below (s₁.setTop (entryFrame m #[.ref b, .int (Int32.ofNat o), .ref d, .int (Int32.ofNat q), .int (Int32.ofNat len)] 7)) (Tl.setTop (mkF m 3 #[.val (.ref b), .val (.int (Int32.ofNat (o + i))), .val (.ref d), .val (.int (Int32.ofNat (q + i))), .val (.int (Int32.ofNat len)), .val (.int (Int32.ofNat i)), z] [])) → ∃ (T' : State) (B' : Cell) (z' : Slot), Stand p l e { frames := 0, locals := 0, cells := 0, slots := 0 } s m #[.ref b, .int (Int32.ofNat o), .ref d, .int (Int32.ofNat q), .int (Int32.ofNat len)] below meth c T' ([] ++ copyLocs d q len) 0 0 ∧ Put d B' s₁ T' ∧ Laid B B' q (q + len) (fun j => Value.int (lo8 (cv A (o + (j - q))))) ∧
      Steps p.tables e below (s₁.setTop (entryFrame m #[.ref b, .int (Int32.ofNat o), .ref d, .int (Int32.ofNat q), .int (Int32.ofNat len)] 7)) (T'.setTop (mkF m 3 #[.val (.ref b), .val (.int (Int32.ofNat (o + len))), .val (.ref d), .val (.int (Int32.ofNat (q + len))), .val (.int (Int32.ofNat len)), .val (.int (Int32.ofNat len)), z'] [])) := by
    intro r
    induction r with
    | zero =>
      intro i hi z hz Tl Bk Xl pl fl cl
      have hil : i = len := by omega
      rw [hil] at Xl fl cl
      exact ⟨Tl, Bk, z, Xl, pl, fl, cl⟩
    | succ r ih =>
      intro i hi z hz Tl Bk Xl pl fl cl
      have all := X0.warmed.alike.symm.trans Xl.warmed.alike
      have hAl := hA0.keep all (pl.other hne hA0.1)
      have hBk := hB0.like all pl.1 fl.1 fl.2.1 fl.2.2.1
      have hlt : q + i < Bk.slots.size := by rw [fl.2.2.1]; omega
      have c3 : Steps p.tables e below (s₁.setTop (entryFrame m #[.ref b, .int (Int32.ofNat o), .ref d, .int (Int32.ofNat q), .int (Int32.ofNat len)] 7)) (Tl.setTop (mkF m 12 #[.val (.ref b), .val (.int (Int32.ofNat (o + i))), .val (.ref d), .val (.int (Int32.ofNat (q + i))), .val (.int (Int32.ofNat len)), .val (.int (Int32.ofNat i)), z] [.int (Int32.ofNat (o + i)), .ref b])) := cl.trans (by
        refine XS.iload Xl.here hexec rfl (hb hbytes d3) rfl ?_
        refine XS.iload Xl.here hexec rfl (hb hbytes d5) rfl ?_
        refine XS.icmpNo Xl.here hexec rfl (hb hbytes d7) rfl (ii_ge_f (lt32 (by omega) (by omega))) ?_
        refine XS.aloadN Xl.here hexec rfl (hb hbytes d10) rfl rfl ?_
        refine XS.iloadN Xl.here hexec rfl (hb hbytes d11) rfl ?_
        exact Steps.refl _)
      have c4 : Steps p.tables e below (s₁.setTop (entryFrame m #[.ref b, .int (Int32.ofNat o), .ref d, .int (Int32.ofNat q), .int (Int32.ofNat len)] 7)) (Tl.setTop (mkF m 13 #[.val (.ref b), .val (.int (Int32.ofNat (o + i))), .val (.ref d), .val (.int (Int32.ofNat (q + i))), .val (.int (Int32.ofNat len)), .val (.int (Int32.ofNat i)), z] [.int (cv A (o + i))])) := c3.trans (by
        refine Xl.aget hexec hAl rfl (hA.get (i := o + i) (by omega)) rfl rfl (hb hbytes d12) ?_
        exact Steps.refl _)
      have c5 : Steps p.tables e below (s₁.setTop (entryFrame m #[.ref b, .int (Int32.ofNat o), .ref d, .int (Int32.ofNat q), .int (Int32.ofNat len)] 7)) (Tl.setTop (mkF m 15 #[.val (.ref b), .val (.int (Int32.ofNat (o + i))), .val (.ref d), .val (.int (Int32.ofNat (q + i))), .val (.int (Int32.ofNat len)), .val (.int (Int32.ofNat i)), .val (.int (cv A (o + i)))] [])) := c4.trans (by
        refine XS.istoreS Xl.here hexec rfl (hb hbytes d13) rfl rfl hz ?_
        exact Steps.refl _)
      have c6 : Steps p.tables e below (s₁.setTop (entryFrame m #[.ref b, .int (Int32.ofNat o), .ref d, .int (Int32.ofNat q), .int (Int32.ofNat len)] 7)) (Tl.setTop (mkF m 31 #[.val (.ref b), .val (.int (Int32.ofNat (o + i))), .val (.ref d), .val (.int (Int32.ofNat (q + i))), .val (.int (Int32.ofNat len)), .val (.int (Int32.ofNat i)), .val (.int (cv A (o + i)))] [.int (lo8 (cv A (o + i))), .int (Int32.ofNat (q + i)), .ref d])) := c5.trans (by
        refine XS.iload Xl.here hexec rfl (hb hbytes d15) rfl ?_
        refine sipushV Xl.here hexec rfl 255 (hb hbytes d17) (by decide) ?_
        refine XS.icmpYes Xl.here hexec rfl (pc0 := 20) rfl (hb hbytes d20) rfl (ii_le_t (hp i (by omega))) (by decide) rfl ?_
        refine XS.aloadN Xl.here hexec rfl (hb hbytes d26) rfl rfl ?_
        refine XS.iloadN Xl.here hexec rfl (hb hbytes d27) rfl ?_
        refine XS.iload Xl.here hexec rfl (hb hbytes d28) rfl ?_
        refine i2b Xl.here hexec rfl (hb hbytes d30) rfl ?_
        exact Steps.refl _)
      obtain ⟨T7, X7, p7, st7⟩ := Xl.aput hexec hBk rfl hlt rfl (fits_lo8 (cv A (o + i))) (g := (mkF m 31 #[.val (.ref b), .val (.int (Int32.ofNat (o + i))), .val (.ref d), .val (.int (Int32.ofNat (q + i))), .val (.int (Int32.ofNat len)), .val (.int (Int32.ofNat i)), .val (.int (cv A (o + i)))] [.int (lo8 (cv A (o + i))), .int (Int32.ofNat (q + i)), .ref d])) rfl (rest := []) rfl (hb hbytes d31)
      have c8 : Steps p.tables e below (s₁.setTop (entryFrame m #[.ref b, .int (Int32.ofNat o), .ref d, .int (Int32.ofNat q), .int (Int32.ofNat len)] 7)) (T7.setTop (mkF m 32 #[.val (.ref b), .val (.int (Int32.ofNat (o + i))), .val (.ref d), .val (.int (Int32.ofNat (q + i))), .val (.int (Int32.ofNat len)), .val (.int (Int32.ofNat i)), .val (.int (cv A (o + i)))] [])) := c6.trans (st7 _ (Steps.refl _))
      have c9 : Steps p.tables e below (s₁.setTop (entryFrame m #[.ref b, .int (Int32.ofNat o), .ref d, .int (Int32.ofNat q), .int (Int32.ofNat len)] 7)) (T7.setTop (mkF m 3 #[.val (.ref b), .val (.int (Int32.ofNat (o + i) + 1)), .val (.ref d), .val (.int (Int32.ofNat (q + i) + 1)), .val (.int (Int32.ofNat len)), .val (.int (Int32.ofNat i + 1)), .val (.int (cv A (o + i)))] [])) := c8.trans (by
        refine iincV X7.here hexec rfl 1 (hb hbytes d32) (by decide) rfl rfl ?_
        refine iincV X7.here hexec rfl 1 (hb hbytes d35) (by decide) rfl rfl ?_
        refine iincV X7.here hexec rfl 1 (hb hbytes d38) (by decide) rfl rfl ?_
        refine XS.goto X7.here hexec rfl (pc0 := 41) rfl (hb hbytes d41) (by decide) rfl ?_
        exact Steps.refl _)
      have c10 : Steps p.tables e below (s₁.setTop (entryFrame m #[.ref b, .int (Int32.ofNat o), .ref d, .int (Int32.ofNat q), .int (Int32.ofNat len)] 7)) (T7.setTop (mkF m 3 #[.val (.ref b), .val (.int (Int32.ofNat (o + (i + 1)))), .val (.ref d), .val (.int (Int32.ofNat (q + (i + 1)))), .val (.int (Int32.ofNat len)), .val (.int (Int32.ofNat (i + 1))), .val (.int (cv A (o + i)))] [])) := by
        have := c9
        rw [succ32, succ32, succ32] at this
        exact this
      exact ih (i + 1) (by omega) _ (Or.inr ⟨_, rfl, rfl⟩) T7 _ (by rw [copyLocs_step, ← List.append_assoc]; exact X7) (pl.trans p7) (fl.step (by omega) hlt (by simp)) c10
  obtain ⟨T9, B9, z9, X9, p9, f9, g9⟩ := loop len 0 (by omega) .unset (Or.inl rfl) s₁ B (by simpa [copyLocs] using X0) ⟨hB0.1, fun _ _ => rfl, rfl⟩ (Laid.zero _ _ _) c2
  have c11 : Steps p.tables e below (s₁.setTop (entryFrame m #[.ref b, .int (Int32.ofNat o), .ref d, .int (Int32.ofNat q), .int (Int32.ofNat len)] 7)) (T9.setTop (mkF m 46 #[.val (.ref b), .val (.int (Int32.ofNat (o + len))), .val (.ref d), .val (.int (Int32.ofNat (q + len))), .val (.int (Int32.ofNat len)), .val (.int (Int32.ofNat len)), z9] [.int (Int32.ofNat len)])) := g9.trans (by
    refine XS.iload X9.here hexec rfl (hb hbytes d3) rfl ?_
    refine XS.iload X9.here hexec rfl (hb hbytes d5) rfl ?_
    refine XS.icmpYes X9.here hexec rfl (pc0 := 7) rfl (hb hbytes d7) rfl (ii_ge_t (nlt32 (by omega) (Nat.le_refl _))) (by decide) rfl ?_
    refine XS.iload X9.here hexec rfl (hb hbytes d44) rfl ?_
    exact Steps.refl _)
  exact ⟨T9, some (.int (Int32.ofNat len)), _, _, _, X9, by simp, rfl, rfl, (fun h => by cases h), ⟨rfl, B9, p9.from hh0, f9⟩, fun fs hl => c11.trans (X9.ireturnOut hexec hret rfl (Or.inl rfl) (hb hbytes d46) hl)⟩
end Cmp5
namespace Cmp3
def yN : MethodName := ⟨"java/lang/StringUTF16", "compress", "([CII)[B"⟩
abbrev yB : ByteArray := jdk_52_method_16_code
theorem d0 : decode yB 0 = .ok (.iload_n 2, 1) := by decide +kernel
theorem d1 : decode yB 1 = .ok (.newarray .byte, 2) := by decide +kernel
theorem d3 : decode yB 3 = .ok (.astore_n 3, 1) := by decide +kernel
theorem d4 : decode yB 4 = .ok (.aload_n 0, 1) := by decide +kernel
theorem d5 : decode yB 5 = .ok (.iload_n 1, 1) := by decide +kernel
theorem d6 : decode yB 6 = .ok (.aload_n 3, 1) := by decide +kernel
theorem d7 : decode yB 7 = .ok (.iconst 0, 1) := by decide +kernel
theorem d8 : decode yB 8 = .ok (.iload_n 2, 1) := by decide +kernel
theorem d9 : decode yB 9 = .ok (.invokestatic 115, 3) := by decide +kernel
theorem d12 : decode yB 12 = .ok (.istore 4, 2) := by decide +kernel
theorem d14 : decode yB 14 = .ok (.iload 4, 2) := by decide +kernel
theorem d16 : decode yB 16 = .ok (.iload_n 2, 1) := by decide +kernel
theorem d17 : decode yB 17 = .ok (.if_icmp (.eq) 40, 3) := by decide +kernel
theorem d57 : decode yB 57 = .ok (.aload_n 3, 1) := by decide +kernel
theorem d58 : decode yB 58 = .ok (.areturn, 1) := by decide +kernel
def site : List Cond := [.arrayClass .byte, Cmp5.tab] ++ staticW U16 115 Cmp5.yN
def tab : Cond := tabOf yN yB 6 (some (.array .byte)) site
def P (b : Addr) (A : Cell) (o len : Nat) (args : Array Value) (s : State) : Prop := args = #[.ref b, .int (Int32.ofNat o), .int (Int32.ofNat len)] ∧ Ch b A s ∧ o + len ≤ A.slots.size ∧ len ≤ 536870912 ∧ ∀ i, i < len → ¬ 255 < cv A (o + i)
def E (b : Addr) (A : Cell) (o len : Nat) (r : Option Value) (s u : State) : Prop := NewArr .byte "[B" len (fun j => .int (lo8 (cv A (o + j)))) r s u ∧ u.heap.size = s.heap.size + 1
/-- no char of the range above 255: a new byte[] of their low bytes -/
theorem law (l : Launch) (b : Addr) (A : Cell) (o len : Nat) : Law l yN 3 3 1 18 yB 6 (some (.array .byte)) site (P b A o len) (E b A o len) [] 1 len := by
  refine Law.of_walk (plainFor_of_name (by decide +kernel)) (by decide +kernel) (by decide +kernel) (by decide) (fun _ _ h => by rw [h.1]; rfl) (fun _ U U' hal hh h => ⟨h.1, h.2.1.mv hal hh, h.2.2⟩) (fun r U U' V V' h1 hal h2 h => ⟨NewArr.mv r U U' V V' h1 hal h2 h.1, by rw [h1, h2]; exact h.2⟩) ?_
  intro p e s m args below meth c s₁ X0 hexec hbytes hml hret hlk hnm hown hh0 W hP
  obtain ⟨rfl, hA, l1, l2, hp⟩ := hP
  have a31 := hA.1.2.2.2
  have c1 : Steps p.tables e below (s₁.setTop (entryFrame m #[.ref b, .int (Int32.ofNat o), .int (Int32.ofNat len)] 6)) (s₁.setTop (mkF m 0 #[.val (.ref b), .val (.int (Int32.ofNat o)), .val (.int (Int32.ofNat len)), .unset, .unset, .unset] [])) := entry rfl
  have c2 : Steps p.tables e below (s₁.setTop (entryFrame m #[.ref b, .int (Int32.ofNat o), .int (Int32.ofNat len)] 6)) (s₁.setTop (mkF m 1 #[.val (.ref b), .val (.int (Int32.ofNat o)), .val (.int (Int32.ofNat len)), .unset, .unset, .unset] [.int (Int32.ofNat len)])) := c1.trans (by
    refine XS.iloadN X0.here hexec rfl (hb hbytes d0) rfl ?_
    exact Steps.refl _)
  obtain ⟨T3, B3, X3, ba3, bs3, bv3, bh3, bf3, st3⟩ := X0.anew hexec (atype := .byte) (wk W (.arrayClass .byte)) rfl (by show len * 1 ≤ _; omega) (by omega) (g := (mkF m 1 #[.val (.ref b), .val (.int (Int32.ofNat o)), .val (.int (Int32.ofNat len)), .unset, .unset, .unset] [.int (Int32.ofNat len)])) rfl (hb hbytes d1) (rest := []) rfl (Nat.le_refl _) (by show 0 + len ≤ len; omega)
  rw [hh0] at ba3 st3
  have kp3 : XT.Kept s T3 := (XT.Kept.of_eq hh0).push bh3
  have hA3 := hA.keep X3.warmed.alike (kp3 _ _ hA.1.1)
  have hne : b ≠ s.heap.size := hA.1.ne
  have c4 : Steps p.tables e below (s₁.setTop (entryFrame m #[.ref b, .int (Int32.ofNat o), .int (Int32.ofNat len)] 6)) (T3.setTop (mkF m 3 #[.val (.ref b), .val (.int (Int32.ofNat o)), .val (.int (Int32.ofNat len)), .unset, .unset, .unset] [.ref s.heap.size])) := c2.trans (st3 _ (Steps.refl _))
  have c5 : Steps p.tables e below (s₁.setTop (entryFrame m #[.ref b, .int (Int32.ofNat o), .int (Int32.ofNat len)] 6)) (T3.setTop (mkF m 9 #[.val (.ref b), .val (.int (Int32.ofNat o)), .val (.int (Int32.ofNat len)), .val (.ref s.heap.size), .unset, .unset] [.int (Int32.ofNat len), .int 0, .ref s.heap.size, .int (Int32.ofNat o), .ref b])) := c4.trans (by
    refine XS.astoreN X3.here hexec rfl (hb hbytes d3) rfl rfl rfl ?_
    refine XS.aloadN X3.here hexec rfl (hb hbytes d4) rfl rfl ?_
    refine XS.iloadN X3.here hexec rfl (hb hbytes d5) rfl ?_
    refine XS.aloadN X3.here hexec rfl (hb hbytes d6) rfl rfl ?_
    refine iconstV X3.here hexec rfl 0 (hb hbytes d7) (by decide) ?_
    refine XS.iloadN X3.here hexec rfl (hb hbytes d8) rfl ?_
    exact Steps.refl _)
  obtain ⟨v6, T6, X6, E6, g6⟩ := X3.callS hexec (Cmp5.law l b A s.heap.size B3 o 0 len) hown (wks W (staticW U16 115 Cmp5.yN)) (wk W Cmp5.tab) (W := 0) (Nat.le_of_ble_eq_true rfl) (Nat.le_of_ble_eq_true rfl) (Nat.le_refl _) (by show 0 + len + 0 ≤ len; omega) (g := (mkF m 9 #[.val (.ref b), .val (.int (Int32.ofNat o)), .val (.int (Int32.ofNat len)), .val (.ref s.heap.size), .unset, .unset] [.int (Int32.ofNat len), .int (Int32.ofNat 0), .ref s.heap.size, .int (Int32.ofNat o), .ref b])) rfl (by rw [hml]; rfl) c5 (argsL := [.ref b, .int (Int32.ofNat o), .ref s.heap.size, .int (Int32.ofNat 0), .int (Int32.ofNat len)]) (rest := []) rfl rfl (by show 2 * 0 + 0 ≤ _; decide) (hb hbytes d9) (⟨rfl, hA3, ba3, hne, l1, by rw [bs3]; simp, hp⟩)
  obtain ⟨rfl, B6, p6, f6⟩ := E6
  have c7 : Steps p.tables e below (s₁.setTop (entryFrame m #[.ref b, .int (Int32.ofNat o), .int (Int32.ofNat len)] 6)) (T6.setTop (mkF m 12 #[.val (.ref b), .val (.int (Int32.ofNat o)), .val (.int (Int32.ofNat len)), .val (.ref s.heap.size), .unset, .unset] [.int (Int32.ofNat len)])) := g6
  have c8 : Steps p.tables e below (s₁.setTop (entryFrame m #[.ref b, .int (Int32.ofNat o), .int (Int32.ofNat len)] 6)) (T6.setTop (mkF m 58 #[.val (.ref b), .val (.int (Int32.ofNat o)), .val (.int (Int32.ofNat len)), .val (.ref s.heap.size), .val (.int (Int32.ofNat len)), .unset] [.ref s.heap.size])) := c7.trans (by
    refine XS.istore X6.here hexec rfl (hb hbytes d12) rfl rfl ?_
    refine XS.iload X6.here hexec rfl (hb hbytes d14) rfl ?_
    refine XS.iloadN X6.here hexec rfl (hb hbytes d16) rfl ?_
    refine XS.icmpYes X6.here hexec rfl (pc0 := 17) rfl (hb hbytes d17) rfl (ii_eq_t rfl) (by decide) rfl ?_
    refine XS.aloadN X6.here hexec rfl (hb hbytes d57) rfl rfl ?_
    exact Steps.refl _)
  have X8 := X6.wide (L' := []) (cells' := 1) (slots' := len) (fun x hx hlt => by
    simp only [List.nil_append, copyLocs, List.mem_map, List.mem_range] at hx
    obtain ⟨i, -, rfl⟩ := hx
    exact absurd hlt (Nat.lt_irrefl _)) (Nat.le_refl _) (by omega)
  exact ⟨T6, some (.ref s.heap.size), _, _, _, X8, rfl, rfl, rfl, (fun h => by cases h), ⟨⟨rfl, B6, ba3.like (X3.warmed.alike.symm.trans X6.warmed.alike) p6.1 f6.1 f6.2.1 f6.2.2.1, f6.2.1.trans bv3, by rw [X6.warmed.alike.findClass, f6.1]; exact bf3, by rw [f6.2.2.1, bs3]; simp, fun j hj => by rw [f6.2.2.2 j, if_pos (by omega)]; rfl, kp3.put p6 (Nat.le_refl _)⟩, by rw [p6.2.2, bh3, hh0]; simp⟩, fun fs hl => c8.trans (X8.areturnOut hexec rfl hret rfl (hb hbytes d58) hl)⟩
end Cmp3
namespace CodL
def yN : MethodName := ⟨"java/lang/StringUTF16", "coderFromArrayLen", "([BI)B"⟩
abbrev yB : ByteArray := jdk_52_method_15_code
theorem d0 : decode yB 0 = .ok (.iload_n 1, 1) := by decide +kernel
theorem d1 : decode yB 1 = .ok (.aload_n 0, 1) := by decide +kernel
theorem d2 : decode yB 2 = .ok (.arraylength, 1) := by decide +kernel
theorem d3 : decode yB 3 = .ok (.isub, 1) := by decide +kernel
theorem d4 : decode yB 4 = .ok (.bipush 31, 2) := by decide +kernel
theorem d6 : decode yB 6 = .ok (.iushr, 1) := by decide +kernel
theorem d7 : decode yB 7 = .ok (.i2b, 1) := by decide +kernel
theorem d8 : decode yB 8 = .ok (.ireturn, 1) := by decide +kernel
def site : List Cond := []
def tab : Cond := tabOf yN yB 2 (some .byte) site
def P (d : Addr) (B : Cell) (args : Array Value) (s : State) : Prop := args = #[.ref d, .int (Int32.ofNat B.slots.size)] ∧ Arr .byte d B s
def E (r : Option Value) (s u : State) : Prop := XT.PureE (some (.int 0)) r s u
/-- an array as long as the number of chars: LATIN1 -/
theorem law (l : Launch) (d : Addr) (B : Cell) : Law l yN 2 2 0 0 yB 2 (some .byte) site (P d B) E [] 0 0 := by
  refine Law.of_walk (plainFor_of_name (by decide +kernel)) (by decide +kernel) (by decide +kernel) (by decide) (fun _ _ h => by rw [h.1]; rfl) (fun _ U U' hal hh h => ⟨h.1, h.2.mv hal hh⟩) (fun r U U' V V' h1 hal h2 h => XT.PureE.mv r U U' V V' h1 hal h2 h) ?_
  intro p e s m args below meth c s₁ X0 hexec hbytes hml hret hlk hnm hown hh0 W hP
  obtain ⟨rfl, hB⟩ := hP
  have hB0 := hB.mv X0.warmed.alike hh0
  have c1 : Steps p.tables e below (s₁.setTop (entryFrame m #[.ref d, .int (Int32.ofNat B.slots.size)] 2)) (s₁.setTop (mkF m 0 #[.val (.ref d), .val (.int (Int32.ofNat B.slots.size))] [])) := entry rfl
  have c2 : Steps p.tables e below (s₁.setTop (entryFrame m #[.ref d, .int (Int32.ofNat B.slots.size)] 2)) (s₁.setTop (mkF m 2 #[.val (.ref d), .val (.int (Int32.ofNat B.slots.size))] [.ref d, .int (Int32.ofNat B.slots.size)])) := c1.trans (by
    refine XS.iloadN X0.here hexec rfl (hb hbytes d0) rfl ?_
    refine XS.aloadN X0.here hexec rfl (hb hbytes d1) rfl rfl ?_
    exact Steps.refl _)
  have c3 : Steps p.tables e below (s₁.setTop (entryFrame m #[.ref d, .int (Int32.ofNat B.slots.size)] 2)) (s₁.setTop (mkF m 8 #[.val (.ref d), .val (.int (Int32.ofNat B.slots.size))] [.int (lo8 (ushr (Int32.ofNat B.slots.size - Int32.ofNat B.slots.size) 31))])) := c2.trans (by
    refine X0.alen hexec hB0 rfl rfl (hb hbytes d2) ?_
    refine XS.isub X0.here hexec rfl (hb hbytes d3) rfl ?_
    refine bipushV X0.here hexec rfl 31 (hb hbytes d4) (by decide) ?_
    refine iushr X0.here hexec rfl (hb hbytes d6) rfl ?_
    refine i2b X0.here hexec rfl (hb hbytes d7) rfl ?_
    exact Steps.refl _)
  have e0 : lo8 (ushr (Int32.ofNat B.slots.size - Int32.ofNat B.slots.size) 31) = 0 := by rw [Int32.sub_self]; decide
  rw [e0] at c3
  exact ⟨s₁, some (.int 0), _, _, _, X0, rfl, rfl, rfl, (fun h => by cases h), ⟨rfl, hh0⟩, fun fs hl => c3.trans (X0.ireturnOut hexec hret rfl (Or.inr (Or.inr (Or.inl rfl))) (hb hbytes d8) hl)⟩
end CodL
/-- the String at a is Latin-1 over a new byte[] (the heap's one new cell): the low bytes of the len chars of A from o on; every cell but a is kept -/
def Got (a : Addr) (D : Cell) (fV fC : Field) (A : Cell) (o len : Nat) (r : Option Value) (s u : State) : Prop := r = none ∧ ∃ D' V : Cell, Blank "java/lang/String" a D' u ∧ Same D D' [fV.slot, fC.slot] ∧ D'.slots[fV.slot]? = some (.ref s.heap.size) ∧ D'.slots[fC.slot]? = some (.int 0) ∧ Arr .byte s.heap.size V u ∧ V.vm = .none ∧ u.vm.findClass "[B" = some V.cls ∧ V.slots.size = len ∧ (∀ j, j < len → V.slots[j]? = some (.int (lo8 (cv A (o + j))))) ∧ (∀ (y : Addr) (c : Cell), y ≠ a → s.heap[y]? = some c → u.heap[y]? = some c) ∧ u.heap.size = s.heap.size + 1
theorem Got.mv {a : Addr} {D A : Cell} {fV fC : Field} {o len : Nat} : ∀ r (U U' V V' : State), U'.heap = U.heap → V.vm.Alike V'.vm → V'.heap = V.heap → Got a D fV fC A o len r U V → Got a D fV fC A o len r U' V' :=
  fun r U U' V V' h1 hal h2 ⟨e0, D', X, a1, a2, a3, a4, a5, a6, a7, a8, a9, a10, a11⟩ => ⟨e0, D', X, a1.mv hal h2, a2, by rw [h1]; exact a3, a4, by rw [h1]; exact a5.mv hal h2, a6, by rw [hal.findClass]; exact a7, a8, a9, by rw [h1, h2]; exact a10, by rw [h1, h2]; exact a11⟩
namespace New4
def yN : MethodName := ⟨"java/lang/String", "<init>", "([CIILjava/lang/Void;)V"⟩
abbrev yB : ByteArray := jdk_42_method_149_code
theorem d0 : decode yB 0 = .ok (.aload_n 0, 1) := by decide +kernel
theorem d1 : decode yB 1 = .ok (.invokespecial 1, 3) := by decide +kernel
theorem d4 : decode yB 4 = .ok (.iload_n 3, 1) := by decide +kernel
theorem d5 : decode yB 5 = .ok (.ifCond (.ne) 22, 3) := by decide +kernel
theorem d27 : decode yB 27 = .ok (.getstatic 38, 3) := by decide +kernel
theorem d30 : decode yB 30 = .ok (.ifCond (.eq) 28, 3) := by decide +kernel
theorem d33 : decode yB 33 = .ok (.aload_n 1, 1) := by decide +kernel
theorem d34 : decode yB 34 = .ok (.iload_n 2, 1) := by decide +kernel
theorem d35 : decode yB 35 = .ok (.iload_n 3, 1) := by decide +kernel
theorem d36 : decode yB 36 = .ok (.invokestatic 177, 3) := by decide +kernel
theorem d39 : decode yB 39 = .ok (.astore 5, 2) := by decide +kernel
theorem d41 : decode yB 41 = .ok (.aload_n 0, 1) := by decide +kernel
theorem d42 : decode yB 42 = .ok (.aload 5, 2) := by decide +kernel
theorem d44 : decode yB 44 = .ok (.iload_n 3, 1) := by decide +kernel
theorem d45 : decode yB 45 = .ok (.invokestatic 47, 3) := by decide +kernel
theorem d48 : decode yB 48 = .ok (.putfield 15, 3) := by decide +kernel
theorem d51 : decode yB 51 = .ok (.aload_n 0, 1) := by decide +kernel
theorem d52 : decode yB 52 = .ok (.aload 5, 2) := by decide +kernel
theorem d54 : decode yB 54 = .ok (.putfield 9, 3) := by decide +kernel
theorem d57 : decode yB 57 = .ok (.return_, 1) := by decide +kernel
def site : List Cond := [.fieldLink "java/lang/String" 38 "java/lang/String" "COMPACT_STRINGS" "Z", Cmp3.tab, CodL.tab, .laysFinal "java/lang/String" "java/lang/String" "value" "[B", .fieldLink "java/lang/String" 9 "java/lang/String" "value" "[B", .laysFinal "java/lang/String" "java/lang/String" "coder" "B", .fieldLink "java/lang/String" 15 "java/lang/String" "coder" "B"] ++ objW "java/lang/String" 1 ++ staticW "java/lang/String" 177 Cmp3.yN ++ staticW "java/lang/String" 47 CodL.yN
def tab : Cond := tabOf yN yB 6 none site
def P (a : Addr) (D : Cell) (fV fC : Field) (b : Addr) (A : Cell) (z : Int32) (o len : Nat) (args : Array Value) (s : State) : Prop := args = #[.ref a, .ref b, .int (Int32.ofNat o), .int (Int32.ofNat len), .null] ∧ Blank "java/lang/String" a D s ∧ Found "java/lang/String" "value" "[B" fV s ∧ Found "java/lang/String" "coder" "B" fC s ∧ Ch b A s ∧ StaticIs s "java/lang/String" "COMPACT_STRINGS" "Z" (.int z) ∧ ¬ z = 0 ∧ 0 < len ∧ o + len ≤ A.slots.size ∧ len ≤ 536870912 ∧ ∀ i, i < len → ¬ 255 < cv A (o + i)
def E (a : Addr) (D : Cell) (fV fC : Field) (A : Cell) (o len : Nat) (r : Option Value) (s u : State) : Prop := Got a D fV fC A o len r s u
/-- len > 0, no char of the range above 255: a Latin-1 String of their low bytes -/
theorem law (l : Launch) (a : Addr) (D : Cell) (fV fC : Field) (b : Addr) (A : Cell) (z : Int32) (o len : Nat) : Law l yN 5 4 2 35 yB 6 none site (P a D fV fC b A z o len) (E a D fV fC A o len) [⟨a, fC.slot⟩, ⟨a, fV.slot⟩] 1 len := by
  refine Law.of_walk (plainFor_of_name (by decide +kernel)) (by decide +kernel) (by decide +kernel) (by decide) (fun _ _ h => by rw [h.1]; rfl) (fun _ U U' hal hh h => ⟨h.1, h.2.1.mv hal hh, h.2.2.1.al hal, h.2.2.2.1.al hal, h.2.2.2.2.1.mv hal hh, h.2.2.2.2.2.1.there hal hh, h.2.2.2.2.2.2⟩) (fun r U U' V V' h1 hal h2 h => Got.mv r U U' V V' h1 hal h2 h) ?_
  intro p e s m args below meth c s₁ X0 hexec hbytes hml hret hlk hnm hown hh0 W hP
  obtain ⟨rfl, hB, f1, f2, hA, s1, hz, l0, l1, l2, hp⟩ := hP
  have a31 := hA.1.2.2.2
  have c1 : Steps p.tables e below (s₁.setTop (entryFrame m #[.ref a, .ref b, .int (Int32.ofNat o), .int (Int32.ofNat len), .null] 6)) (s₁.setTop (mkF m 0 #[.val (.ref a), .val (.ref b), .val (.int (Int32.ofNat o)), .val (.int (Int32.ofNat len)), .val .null, .unset] [])) := entry rfl
  have c2 : Steps p.tables e below (s₁.setTop (entryFrame m #[.ref a, .ref b, .int (Int32.ofNat o), .int (Int32.ofNat len), .null] 6)) (s₁.setTop (mkF m 1 #[.val (.ref a), .val (.ref b), .val (.int (Int32.ofNat o)), .val (.int (Int32.ofNat len)), .val .null, .unset] [.ref a])) := c1.trans (by
    refine XS.aloadN X0.here hexec rfl (hb hbytes d0) rfl rfl ?_
    exact Steps.refl _)
  obtain ⟨T3, X3, q3, st3⟩ := X0.oinit hexec hown (wks W (objW "java/lang/String" 1)) (g := (mkF m 1 #[.val (.ref a), .val (.ref b), .val (.int (Int32.ofNat o)), .val (.int (Int32.ofNat len)), .val .null, .unset] [.ref a])) rfl (by rw [hml]; rfl) (rest := []) rfl (hb hbytes d1) (W := 0) (by show 2 * 0 + 0 ≤ _; decide) (Nat.le_of_ble_eq_true rfl) (Nat.le_of_ble_eq_true rfl)
  have hh3 := q3.trans hh0
  have c4 : Steps p.tables e below (s₁.setTop (entryFrame m #[.ref a, .ref b, .int (Int32.ofNat o), .int (Int32.ofNat len), .null] 6)) (T3.setTop (mkF m 27 #[.val (.ref a), .val (.ref b), .val (.int (Int32.ofNat o)), .val (.int (Int32.ofNat len)), .val .null, .unset] [])) := (c2.trans (st3 _ (Steps.refl _))).trans (by
    refine XS.iloadN X3.here hexec rfl (hb hbytes d4) rfl ?_
    refine XS.ifYes X3.here hexec rfl (pc0 := 5) rfl (hb hbytes d5) rfl (i0_ne_t (nz32 (by omega) l0)) (by decide) rfl ?_
    exact Steps.refl _)
  obtain ⟨T5, X5, q5, st5⟩ := X3.sget hexec hown (wk W (.fieldLink "java/lang/String" 38 "java/lang/String" "COMPACT_STRINGS" "Z")) s1 (fun _ _ h => by rw [hh3]; exact h) (g := (mkF m 27 #[.val (.ref a), .val (.ref b), .val (.int (Int32.ofNat o)), .val (.int (Int32.ofNat len)), .val .null, .unset] [])) rfl (hb hbytes d27)
  have hh5 := q5.trans hh3
  have c6 : Steps p.tables e below (s₁.setTop (entryFrame m #[.ref a, .ref b, .int (Int32.ofNat o), .int (Int32.ofNat len), .null] 6)) (T5.setTop (mkF m 30 #[.val (.ref a), .val (.ref b), .val (.int (Int32.ofNat o)), .val (.int (Int32.ofNat len)), .val .null, .unset] [.int z])) := c4.trans (st5 _ (Steps.refl _))
  have c7 : Steps p.tables e below (s₁.setTop (entryFrame m #[.ref a, .ref b, .int (Int32.ofNat o), .int (Int32.ofNat len), .null] 6)) (T5.setTop (mkF m 36 #[.val (.ref a), .val (.ref b), .val (.int (Int32.ofNat o)), .val (.int (Int32.ofNat len)), .val .null, .unset] [.int (Int32.ofNat len), .int (Int32.ofNat o), .ref b])) := c6.trans (by
    refine XS.ifNo X5.here hexec rfl (hb hbytes d30) rfl (i0_eq_f hz) ?_
    refine XS.aloadN X5.here hexec rfl (hb hbytes d33) rfl rfl ?_
    refine XS.iloadN X5.here hexec rfl (hb hbytes d34) rfl ?_
    refine XS.iloadN X5.here hexec rfl (hb hbytes d35) rfl ?_
    exact Steps.refl _)
  obtain ⟨v8, T8, X8, E8, g8⟩ := X5.callS hexec (Cmp3.law l b A o len) hown (wks W (staticW "java/lang/String" 177 Cmp3.yN)) (wk W Cmp3.tab) (W := 0) (Nat.le_of_ble_eq_true rfl) (Nat.le_of_ble_eq_true rfl) (Nat.le_refl _) (by show 0 + len ≤ len; omega) (g := (mkF m 36 #[.val (.ref a), .val (.ref b), .val (.int (Int32.ofNat o)), .val (.int (Int32.ofNat len)), .val .null, .unset] [.int (Int32.ofNat len), .int (Int32.ofNat o), .ref b])) rfl (by rw [hml]; rfl) c7 (argsL := [.ref b, .int (Int32.ofNat o), .int (Int32.ofNat len)]) (rest := []) rfl rfl (by show 2 * 0 + 0 ≤ _; decide) (hb hbytes d36) (⟨rfl, hA.mv X5.warmed.alike hh5, l1, l2, hp⟩)
  obtain ⟨e8, z8⟩ := E8
  obtain ⟨rfl, N, n1, n2, n3, n4, n5, n6⟩ := NewArr.mv _ T5 s _ _ hh5.symm (Vm.Alike.refl _) rfl e8
  rw [hh5] at z8
  have hB1 := hB.keep X8.warmed.alike (n6 _ _ hB.1)
  have hne : s.heap.size ≠ a := (Nat.ne_of_lt (Array.getElem?_eq_some_iff.mp hB.1).1).symm
  have c9 : Steps p.tables e below (s₁.setTop (entryFrame m #[.ref a, .ref b, .int (Int32.ofNat o), .int (Int32.ofNat len), .null] 6)) (T8.setTop (mkF m 39 #[.val (.ref a), .val (.ref b), .val (.int (Int32.ofNat o)), .val (.int (Int32.ofNat len)), .val .null, .unset] [.ref s.heap.size])) := g8
  have c10 : Steps p.tables e below (s₁.setTop (entryFrame m #[.ref a, .ref b, .int (Int32.ofNat o), .int (Int32.ofNat len), .null] 6)) (T8.setTop (mkF m 45 #[.val (.ref a), .val (.ref b), .val (.int (Int32.ofNat o)), .val (.int (Int32.ofNat len)), .val .null, .val (.ref s.heap.size)] [.int (Int32.ofNat N.slots.size), .ref s.heap.size, .ref a])) := by
    have hc : Steps p.tables e below (s₁.setTop (entryFrame m #[.ref a, .ref b, .int (Int32.ofNat o), .int (Int32.ofNat len), .null] 6)) (T8.setTop (mkF m 45 #[.val (.ref a), .val (.ref b), .val (.int (Int32.ofNat o)), .val (.int (Int32.ofNat len)), .val .null, .val (.ref s.heap.size)] [.int (Int32.ofNat len), .ref s.heap.size, .ref a])) := c9.trans (by
      refine XS.astore X8.here hexec rfl (hb hbytes d39) rfl rfl rfl ?_
      refine XS.aloadN X8.here hexec rfl (hb hbytes d41) rfl rfl ?_
      refine XS.aload X8.here hexec rfl (hb hbytes d42) rfl rfl ?_
      refine XS.iloadN X8.here hexec rfl (hb hbytes d44) rfl ?_
      exact Steps.refl _)
    rw [n4]; exact hc
  obtain ⟨v11, T11, X11, E11, g11⟩ := X8.callS hexec (CodL.law l s.heap.size N) hown (wks W (staticW "java/lang/String" 47 CodL.yN)) (wk W CodL.tab) (W := 1) (Nat.le_of_ble_eq_true rfl) (Nat.le_of_ble_eq_true rfl) (Nat.le_refl _) (by show 0 + len + 0 ≤ len; omega) (g := (mkF m 45 #[.val (.ref a), .val (.ref b), .val (.int (Int32.ofNat o)), .val (.int (Int32.ofNat len)), .val .null, .val (.ref s.heap.size)] [.int (Int32.ofNat N.slots.size), .ref s.heap.size, .ref a])) rfl (by rw [hml]; rfl) c10 (argsL := [.ref s.heap.size, .int (Int32.ofNat N.slots.size)]) (rest := [.ref a]) rfl rfl (by show 2 * 0 + (1 + 0) ≤ _; decide) (hb hbytes d45) (⟨rfl, n1⟩)
  obtain ⟨rfl, q11⟩ := E11
  have hB11 := hB1.mv (X8.warmed.alike.symm.trans X11.warmed.alike) q11
  have c12 : Steps p.tables e below (s₁.setTop (entryFrame m #[.ref a, .ref b, .int (Int32.ofNat o), .int (Int32.ofNat len), .null] 6)) (T11.setTop (mkF m 48 #[.val (.ref a), .val (.ref b), .val (.int (Int32.ofNat o)), .val (.int (Int32.ofNat len)), .val .null, .val (.ref s.heap.size)] [.int 0, .ref a])) := g11
  obtain ⟨T13, X13, p13, bl13, sl13, st13⟩ := X11.finit hexec hown (wk W (.fieldLink "java/lang/String" 15 "java/lang/String" "coder" "B")) (Or.inr ⟨_, (wk W (.laysFinal "java/lang/String" "java/lang/String" "coder" "B"))⟩) (Or.inl ⟨rfl, hnm⟩) f2 (Or.inl rfl) hB11 (t := .byte) (by decide +kernel) rfl (g := (mkF m 48 #[.val (.ref a), .val (.ref b), .val (.int (Int32.ofNat o)), .val (.int (Int32.ofNat len)), .val .null, .val (.ref s.heap.size)] [.int 0, .ref a])) rfl (rest := []) rfl (hb hbytes d48)
  have c14 : Steps p.tables e below (s₁.setTop (entryFrame m #[.ref a, .ref b, .int (Int32.ofNat o), .int (Int32.ofNat len), .null] 6)) (T13.setTop (mkF m 54 #[.val (.ref a), .val (.ref b), .val (.int (Int32.ofNat o)), .val (.int (Int32.ofNat len)), .val .null, .val (.ref s.heap.size)] [.ref s.heap.size, .ref a])) := (c12.trans (st13 _ (Steps.refl _))).trans (by
    refine XS.aloadN X13.here hexec rfl (hb hbytes d51) rfl rfl ?_
    refine XS.aload X13.here hexec rfl (hb hbytes d52) rfl rfl ?_
    exact Steps.refl _)
  obtain ⟨T15, X15, p15, bl15, sl15, st15⟩ := X13.finit hexec hown (wk W (.fieldLink "java/lang/String" 9 "java/lang/String" "value" "[B")) (Or.inr ⟨_, (wk W (.laysFinal "java/lang/String" "java/lang/String" "value" "[B"))⟩) (Or.inl ⟨rfl, hnm⟩) f1 (Or.inl rfl) bl13 (t := (.array .byte)) (by decide +kernel) rfl (g := (mkF m 54 #[.val (.ref a), .val (.ref b), .val (.int (Int32.ofNat o)), .val (.int (Int32.ofNat len)), .val .null, .val (.ref s.heap.size)] [.ref s.heap.size, .ref a])) rfl (rest := []) rfl (hb hbytes d54)
  have c16 : Steps p.tables e below (s₁.setTop (entryFrame m #[.ref a, .ref b, .int (Int32.ofNat o), .int (Int32.ofNat len), .null] 6)) (T15.setTop (mkF m 57 #[.val (.ref a), .val (.ref b), .val (.int (Int32.ofNat o)), .val (.int (Int32.ofNat len)), .val .null, .val (.ref s.heap.size)] [])) := c14.trans (st15 _ (Steps.refl _))
  have ap := apart (Or.inr ⟨_, (wk W (.laysFinal "java/lang/String" "java/lang/String" "value" "[B"))⟩) (Or.inr ⟨_, (wk W (.laysFinal "java/lang/String" "java/lang/String" "coder" "B"))⟩) f1 f2 (t₁ := .array .byte) (t₂ := .byte) (by decide +kernel) (by decide +kernel) (by decide)
  have al := X8.warmed.alike.symm.trans X15.warmed.alike
  have n7 : T11.heap[s.heap.size]? = some N := by rw [q11]; exact n1.1
  exact ⟨T15, none, _, _, _, X15, by simp, rfl, by omega, (fun _ => rfl), ⟨rfl, _, N, bl15, ((Same.refl D _).set _ (by simp)).set _ (by simp), sl15, (Cell.slots_setSlot_ne _ ap).trans sl13, n1.keep al (p15.other hne (p13.other hne n7)), n2, by rw [al.findClass]; exact n3, n4, n5, fun y c h1 h2 => p15.other h1 (p13.other h1 (by rw [q11]; exact n6 y c h2)), by rw [p15.2.2, p13.2.2, q11]; exact z8⟩, fun fs hl => c16.trans (X15.returnOut hexec hret (hb hbytes d57) hl)⟩
end New4
namespace New1
def yN : MethodName := ⟨"java/lang/String", "<init>", "([C)V"⟩
abbrev yB : ByteArray := jdk_42_method_3_code
theorem d0 : decode yB 0 = .ok (.aload_n 0, 1) := by decide +kernel
theorem d1 : decode yB 1 = .ok (.aload_n 1, 1) := by decide +kernel
theorem d2 : decode yB 2 = .ok (.iconst 0, 1) := by decide +kernel
theorem d3 : decode yB 3 = .ok (.aload_n 1, 1) := by decide +kernel
theorem d4 : decode yB 4 = .ok (.arraylength, 1) := by decide +kernel
theorem d5 : decode yB 5 = .ok (.aconst_null, 1) := by decide +kernel
theorem d6 : decode yB 6 = .ok (.invokespecial 27, 3) := by decide +kernel
theorem d9 : decode yB 9 = .ok (.return_, 1) := by decide +kernel
def site : List Cond := [New4.tab] ++ initW "java/lang/String" 27 New4.yN
def tab : Cond := tabOf yN yB 2 none site
def P (a : Addr) (D : Cell) (fV fC : Field) (b : Addr) (A : Cell) (z : Int32) (args : Array Value) (s : State) : Prop := args = #[.ref a, .ref b] ∧ Blank "java/lang/String" a D s ∧ Found "java/lang/String" "value" "[B" fV s ∧ Found "java/lang/String" "coder" "B" fC s ∧ Ch b A s ∧ StaticIs s "java/lang/String" "COMPACT_STRINGS" "Z" (.int z) ∧ ¬ z = 0 ∧ 0 < A.slots.size ∧ A.slots.size ≤ 536870912 ∧ ∀ i, i < A.slots.size → ¬ 255 < cv A i
def E (a : Addr) (D : Cell) (fV fC : Field) (A : Cell) (r : Option Value) (s u : State) : Prop := Got a D fV fC A 0 A.slots.size r s u
/-- new String(chars), not empty, no char above 255: a Latin-1 String of their low bytes -/
theorem law (l : Launch) (a : Addr) (D : Cell) (fV fC : Field) (b : Addr) (A : Cell) (z : Int32) : Law l yN 2 1 3 52 yB 2 none site (P a D fV fC b A z) (E a D fV fC A) [⟨a, fC.slot⟩, ⟨a, fV.slot⟩] 1 A.slots.size := by
  refine Law.of_walk (plainFor_of_name (by decide +kernel)) (by decide +kernel) (by decide +kernel) (by decide) (fun _ _ h => by rw [h.1]; rfl) (fun _ U U' hal hh h => ⟨h.1, h.2.1.mv hal hh, h.2.2.1.al hal, h.2.2.2.1.al hal, h.2.2.2.2.1.mv hal hh, h.2.2.2.2.2.1.there hal hh, h.2.2.2.2.2.2⟩) (fun r U U' V V' h1 hal h2 h => Got.mv r U U' V V' h1 hal h2 h) ?_
  intro p e s m args below meth c s₁ X0 hexec hbytes hml hret hlk hnm hown hh0 W hP
  obtain ⟨rfl, hB, f1, f2, hA, s1, hz, l0, l2, hp⟩ := hP
  have c1 : Steps p.tables e below (s₁.setTop (entryFrame m #[.ref a, .ref b] 2)) (s₁.setTop (mkF m 0 #[.val (.ref a), .val (.ref b)] [])) := entry rfl
  have c2 : Steps p.tables e below (s₁.setTop (entryFrame m #[.ref a, .ref b] 2)) (s₁.setTop (mkF m 6 #[.val (.ref a), .val (.ref b)] [.null, .int (Int32.ofNat A.slots.size), .int 0, .ref b, .ref a])) := c1.trans (by
    refine XS.aloadN X0.here hexec rfl (hb hbytes d0) rfl rfl ?_
    refine XS.aloadN X0.here hexec rfl (hb hbytes d1) rfl rfl ?_
    refine iconstV X0.here hexec rfl 0 (hb hbytes d2) (by decide) ?_
    refine XS.aloadN X0.here hexec rfl (hb hbytes d3) rfl rfl ?_
    refine X0.alen hexec (hA.1.mv X0.warmed.alike hh0) rfl rfl (hb hbytes d4) ?_
    refine XS.aconstNull X0.here hexec rfl (hb hbytes d5) ?_
    exact Steps.refl _)
  obtain ⟨v3, T3, X3, E3, g3⟩ := X0.callN hexec (New4.law l a D fV fC b A z 0 A.slots.size) rfl hown (wks W (initW "java/lang/String" 27 New4.yN)) (W New4.tab (by simp only [site, List.mem_cons, List.mem_append, true_or, or_true])) (W := 0) (Nat.le_of_ble_eq_true rfl) (Nat.le_of_ble_eq_true rfl) (Nat.le_refl _) (by show 0 + A.slots.size ≤ A.slots.size; omega) (g := (mkF m 6 #[.val (.ref a), .val (.ref b)] [.null, .int (Int32.ofNat A.slots.size), .int (Int32.ofNat 0), .ref b, .ref a])) rfl (by rw [hml]; rfl) c2 (argsL := [.ref b, .int (Int32.ofNat 0), .int (Int32.ofNat A.slots.size), .null]) (rest := []) rfl rfl (by show 2 * 0 + 0 ≤ _; decide) (hb hbytes d6) (⟨rfl, hB.mv X0.warmed.alike hh0, f1.al X0.warmed.alike, f2.al X0.warmed.alike, hA.mv X0.warmed.alike hh0, s1.there X0.warmed.alike hh0, hz, l0, by omega, l2, fun i hi => by rw [Nat.zero_add]; exact hp i hi⟩)
  have e0 := Got.mv _ s₁ s _ _ hh0.symm (Vm.Alike.refl _) rfl E3
  obtain rfl := e0.1
  have c4 : Steps p.tables e below (s₁.setTop (entryFrame m #[.ref a, .ref b] 2)) (T3.setTop (mkF m 9 #[.val (.ref a), .val (.ref b)] [])) := g3
  exact ⟨T3, none, _, _, _, X3, by simp, rfl, by omega, (fun _ => rfl), e0, fun fs hl => c4.trans (X3.returnOut hexec hret (hb hbytes d9) hl)⟩
theorem pays {l : Launch} {R : Room} {p : Program} {e : Env} {below : List Frame} {s : State} {sargs : Array Value} {len W : Nat} (a : Addr) (D : Cell) (fV fC : Field) (b : Addr) (A : Cell) (z : Int32) (htab : tab.before sargs s = true) (hfr : 4 ≤ R.frames) (hlo : W + 65 ≤ R.locals) :
    Back l R p e below s sargs yN len W (fun A₁ a₁ => A₁.cells + 1 ≤ R.cells ∧ A₁.slots + A.slots.size ≤ R.slots ∧ P a D fV fC b A z a₁ A₁.U) (fun A₁ _ v₁ B₁ => E a D fV fC A v₁ A₁.U B₁.U ∧ B₁.locs = A₁.locs ++ [⟨a, fC.slot⟩, ⟨a, fV.slot⟩] ∧ B₁.cells = A₁.cells + 1 ∧ B₁.slots = A₁.slots + A.slots.size) :=
  (law l a D fV fC b A z).pays htab hfr (by omega)
end New1
/-- the byte, read back as charAt reads it, is the char -/
theorem lo8_mask {x : Int32} (h0 : ¬ x < 0) (h1 : ¬ 255 < x) : lo8 x &&& 255 = x := by
  have t : ∀ k : Fin 256, lo8 (Int32.ofNat k.val) &&& 255 = Int32.ofNat k.val := by decide +kernel
  rw [Int32.lt_iff_toInt_lt] at h0 h1
  have e0 : (0 : Int32).toInt = 0 := rfl
  have e1 : (255 : Int32).toInt = 255 := rfl
  obtain ⟨k, hk⟩ : ∃ k : Nat, x.toInt = k := ⟨x.toInt.toNat, by omega⟩
  have hx : x = Int32.ofNat k := Int32.toInt_inj.mp (by rw [hk, Int32.toInt_ofNat_small (by omega)])
  rw [hx]
  exact t ⟨k, by omega⟩
end StrChars
namespace StrChars.Road
open Jvm Sem ClassFile Op Lib Jvm.Stand Jvm.Free Jvm.Free.XT
open Jvm.Lib.Cold (StaticIs)
abbrev ST : String := "java/lang/String"
/-- every table word that New1's law asks, flat -/
abbrev words : List Jvm.Cond := [.code New1.yN New1.yB 2 none, .initialized ST, .methodLink ST 27 New4.yN, .instanceMethod New4.yN,
  .code New4.yN New4.yB 6 none, .fieldLink ST 38 ST "COMPACT_STRINGS" "Z", .laysFinal ST ST "value" "[B", .fieldLink ST 9 ST "value" "[B", .laysFinal ST ST "coder" "B", .fieldLink ST 15 ST "coder" "B",
  .methodLink ST 1 Lib.objectInit, .instanceMethod Lib.objectInit, .code Lib.objectInit ⟨#[0xb1]⟩ 1 none, .methodLink ST 177 Cmp3.yN, .static Cmp3.yN, .methodLink ST 47 CodL.yN, .static CodL.yN,
  .code Cmp3.yN Cmp3.yB 6 (some (.array .byte)), .initialized U16, .arrayClass .byte, .methodLink U16 115 Cmp5.yN, .static Cmp5.yN, .code Cmp5.yN Cmp5.yB 7 (some .int), .code CodL.yN CodL.yB 2 (some .byte)]
theorem tab_of {a : Array Value} {s : State} (h : ∀ w ∈ words, w.before a s = true) : New1.tab.before a s = true := by
  have h5 : Cmp5.tab.before a s = true := unparts (wk h (.code Cmp5.yN Cmp5.yB 7 (some .int))) (wks h (.initialized Cmp5.yN.cls :: Cmp5.site))
  have hc : CodL.tab.before a s = true := unparts (wk h (.code CodL.yN CodL.yB 2 (some .byte))) (wks h (.initialized CodL.yN.cls :: CodL.site))
  have q5 : ∀ w ∈ Cmp5.tab :: words, w.before a s = true := fun w hw => (List.mem_cons.mp hw).elim (fun e => e ▸ h5) (h w)
  have h3 : Cmp3.tab.before a s = true := unparts (wk q5 (.code Cmp3.yN Cmp3.yB 6 (some (.array .byte)))) (wks q5 (.initialized Cmp3.yN.cls :: Cmp3.site))
  have q3 : ∀ w ∈ Cmp3.tab :: CodL.tab :: words, w.before a s = true := fun w hw => (List.mem_cons.mp hw).elim (fun e => e ▸ h3) fun hw => (List.mem_cons.mp hw).elim (fun e => e ▸ hc) (h w)
  have h4 : New4.tab.before a s = true := unparts (wk q3 (.code New4.yN New4.yB 6 none)) (wks q3 (.initialized New4.yN.cls :: New4.site))
  have q4 : ∀ w ∈ New4.tab :: words, w.before a s = true := fun w hw => (List.mem_cons.mp hw).elim (fun e => e ▸ h4) (h w)
  exact unparts (wk q4 (.code New1.yN New1.yB 2 none)) (wks q4 (.initialized New1.yN.cls :: New1.site))
/-- the words ride from the start Z to the walk's own state -/
theorem moved {Z s : State} {a0 args : Array Value} (hZ : Z.Warmed39 s.vm) (hw : ∀ d ∈ words, d.before a0 Z = true) : ∀ d ∈ words, d.before args s = true := fun d hd => by
  have q := hw d hd
  have t : ∀ d ∈ words, d = .arrayClass .byte ∨ (d.onTables && d.keepsFace) = true := by decide +kernel
  rcases t d hd with rfl | t
  · exact RoadKit.mvA hZ q
  · exact RoadKit.mv hZ q t
/-- WHAT COMES BACK, over the tables of the start Z: h the heap at the call, h' behind it -/
def Q (Z : State) (x : Addr) (A : Cell) (h : Heap) (v : Option Value) (h' : Heap) (L : List Loc) : Prop := v = none ∧ (∀ y ∈ L, y.base = x) ∧ RoadKit.Keep h h' [x] ∧ h'.size = h.size + 1 ∧ RoadKit.Exa Z h' x ST ∧ RoadKit.Fld Z h' x ST "value" "[B" (.ref h.size) ∧ RoadKit.Fld Z h' x ST "coder" "B" (.int 0) ∧
  (∃ V : Cell, RoadKit.Arr Z h' h.size V .byte ∧ V.vm = .none ∧ Z.vm.findClass "[B" = some V.cls ∧ V.slots.size = A.slots.size ∧ ∀ j, j < A.slots.size → V.slots[j]? = some (.int (lo8 (cv A j)))) ∧
  ∀ (O n d : String) (w : Value), RoadKit.Fld Z h x O n d w → RoadKit.slotOf Z O n d ≠ RoadKit.slotOf Z ST "value" "[B" → RoadKit.slotOf Z O n d ≠ RoadKit.slotOf Z ST "coder" "B" → RoadKit.Fld Z h' x O n d w
/-- **new String(chars) AT A CALL, IN THE ROAD'S FORM**: for specialBack behind newO: x the fresh String, b the char[] with the cell A -/
theorem back {p : Program} {l : Launch} {e : Env} {R : Room} {s : State} {args : Array Value} {below : List Frame} {len W : Nat} {Z : State} {a0 : Array Value} {h : Heap} (hZ : Z.Warmed39 s.vm) (hw : ∀ d ∈ words, d.before a0 Z = true) {kI : Nat} (wi : (Jvm.Cond.instantiable ST kI).before a0 Z = true)
    {x b : Addr} {A : Cell} {z : Int32} {v0 c0 : Value} (E : RoadKit.Exa Z h x ST) (V : RoadKit.Fld Z h x ST "value" "[B" v0) (C : RoadKit.Fld Z h x ST "coder" "B" c0) (K : RoadKit.Arr Z h b A .char) (hty : Typed .char A) (S : RoadKit.Sta Z h ST "COMPACT_STRINGS" "Z" (.int z)) (hz : ¬ z = 0)
    (l0 : 0 < A.slots.size) (l2 : A.slots.size ≤ 536870912) (hp : ∀ i, i < A.slots.size → ¬ 255 < cv A i) (hfr : 4 ≤ R.frames) (hlo : W + 65 ≤ R.locals) :
    Back l R p e below s args New1.yN len W (fun P a => a = #[.ref x, .ref b] ∧ P.U.heap = h ∧ P.cells + 1 ≤ R.cells ∧ P.slots + A.slots.size ≤ R.slots)
      (fun P _ v B => ∃ L, Q Z x A h v B.U.heap L ∧ B.locs = P.locs ++ L ∧ B.cells = P.cells + 1 ∧ B.slots = P.slots + A.slots.size) := by
  intro m meth c P g ig mk a X hg hsize hdg hW hn hp'
  obtain ⟨rfl, rfl, r1, r2⟩ := hp'
  have al : Z.vm.Alike P.U.vm := hZ.alike.trans X.warmed.alike
  obtain ⟨D, cfV, kV, iV, fV, hD, gV, stV, knV, obV, asV, slV⟩ := id V
  obtain ⟨D', cfC, kC, iC, fC, hD', gC, stC, -, -, asC, slC⟩ := id C
  cases hD.symm.trans hD'
  obtain ⟨D2, kD, e1, e2, e3, e4, e5⟩ := id E
  cases hD.symm.trans e1
  obtain ⟨c2, k2, i1, i2, i3, -⟩ := Cond.instantiable_spec wi
  cases e2.symm.trans i1
  cases e3.symm.trans i2
  obtain ⟨kU, u1, u2⟩ := al.2.2 _ _ e3
  have hB : Blank ST x D P.U := ⟨hD, ⟨knV, fun q hq => by rw [hq] at obV; cases obV⟩, by rw [al.findClass]; exact e2, kU, u1, by rw [u2]; exact i3, by rw [u2]; exact e5 i3⟩
  have F1 : Found ST "value" "[B" fV P.U := ⟨SBG.found_only al ⟨cfV, kV, iV, gV⟩, stV⟩
  have F2 : Found ST "coder" "B" fC P.U := ⟨SBG.found_only al ⟨cfC, kC, iC, gC⟩, stC⟩
  have hA : Ch b A P.U := ⟨⟨K.1, State.isArrayOf_alike al K.2.1, K.2.2, by omega⟩, hty⟩
  have hS : StaticIs P.U ST "COMPACT_STRINGS" "Z" (.int z) := by
    obtain ⟨cfS, iS, kS, fS, st, cS, t1, t2, t3, t4, t5, t6, t7⟩ := S
    exact StaticIs.there (s := { Z with heap := P.U.heap }) ⟨cfS, iS, kS, fS, st, cS, t1, t2, t3, t4, t5, (fun q => by rw [q] at t6; cases t6), t7⟩ al rfl
  obtain ⟨v, B, X', ⟨⟨hv, E', V', q1, q2, q3, q4, q5, q6, q7, q8, q9, q10, q11⟩, hl, hc, hs⟩, st⟩ := New1.pays x D fV fC b A z (tab_of (moved hZ hw)) hfr hlo m meth c P g ig mk _ X hg hsize hdg hW hn ⟨r1, r2, rfl, hB, F1, F2, hA, hS, hz, l0, l2, hp⟩
  have al' : Z.vm.Alike B.U.vm := hZ.alike.trans X'.warmed.alike
  have hsz : E'.slots.size = D.slots.size := by
    obtain ⟨-, -, -, kB, w1, w2, w3⟩ := q1
    obtain ⟨kB', y1, y2⟩ := al'.2.2 _ _ e3
    rw [q2.2.1] at w1
    cases w1.symm.trans y1
    rw [w3, e5 i3, y2]
  refine ⟨v, B, X', ⟨_, ⟨hv, ?_, ⟨by omega, fun y cy hy hn' => q10 y cy (by simpa using hn') hy, fun y cy hy => ?_⟩, q11, ⟨E', _, q1.1, by rw [q2.2.1]; exact e2, by rw [q2.2.1]; exact e3, by rw [q2.1]; exact obV, fun _ => by rw [hsz]; exact e5 i3⟩,
    ⟨E', cfV, kV, iV, fV, q1.1, gV, stV, by rw [q2.1]; exact knV, by rw [q2.1]; exact obV, by rw [q2.2.1]; exact asV, q3⟩, ⟨E', cfC, kC, iC, fC, q1.1, gC, stC, by rw [q2.1]; exact knV, by rw [q2.1]; exact obV, by rw [q2.2.1]; exact asC, q4⟩,
    ⟨V', ⟨q5.1, State.isArrayOf_alike al'.symm q5.2.1, q5.2.2.1⟩, q6, by rw [← al'.findClass]; exact q7, q8, fun j hj => by have := q9 j hj; rwa [Nat.zero_add] at this⟩, fun O n d w F n1 n2 => ?_⟩, hl, hc, hs⟩, st⟩
  · intro y hy
    simp only [List.mem_cons, List.not_mem_nil, or_false] at hy
    rcases hy with rfl | rfl <;> rfl
  · by_cases q : y = x
    · subst q
      cases hD.symm.trans hy
      exact ⟨E', q1.1, q2.2.1, q2.1, hsz⟩
    · exact ⟨cy, q10 y cy q hy, rfl, rfl, rfl⟩
  · obtain ⟨D3, cf, k, i, f, g1, g2, g3, g4, g5, g6, g7⟩ := F
    cases hD.symm.trans g1
    simp only [RoadKit.slotOf, g2, gV, gC, Option.map_some, Option.getD_some] at n1 n2
    exact ⟨E', cf, k, i, f, q1.1, g2, g3, by rw [q2.1]; exact g4, by rw [q2.1]; exact g5, by rw [q2.2.1]; exact g6, by rw [q2.2.2 f.slot (by simp [n1, n2])]; exact g7⟩
end StrChars.Road
namespace StrChars.Road
open Jvm Sem ClassFile Op Lib Jvm.Stand Jvm.Free Jvm.Free.XT
/-- WHAT COMES BACK, the byte[] as a list of values -/
def QA (Z : State) (x : Addr) (zn : Int32) (cs : List Int32) (h : Heap) (v : Option Value) (h' : Heap) (L : List Loc) : Prop := v = none ∧ (∀ y ∈ L, y.base = x) ∧ RoadKit.Keep h h' [x] ∧ h'.size = h.size + 1 ∧ RoadKit.Exa Z h' x ST ∧ RoadKit.Fld Z h' x ST "value" "[B" (.ref h.size) ∧ RoadKit.Fld Z h' x ST "coder" "B" (.int 0) ∧
  (∃ kb, Z.vm.findClass "[B" = some kb ∧ RoadKit.Arv Z h' h.size kb .byte zn (cs.map fun c => .int (lo8 c)) (.int 0)) ∧
  ∀ (O n d : String) (w : Value), RoadKit.Fld Z h x O n d w → RoadKit.slotOf Z O n d ≠ RoadKit.slotOf Z ST "value" "[B" → RoadKit.slotOf Z O n d ≠ RoadKit.slotOf Z ST "coder" "B" → RoadKit.Fld Z h' x O n d w
/-- **new String(chars) AT A CALL, THE ARRAYS AS LISTS**: the char[] at b holds cs, not empty, no char above 255 -/
theorem backArv {p : Program} {l : Launch} {e : Env} {R : Room} {s : State} {args : Array Value} {below : List Frame} {len W : Nat} {Z : State} {a0 : Array Value} {h : Heap} (hZ : Z.Warmed39 s.vm) (hw : ∀ d ∈ words, d.before a0 Z = true) {kI : Nat} (wi : (Jvm.Cond.instantiable ST kI).before a0 Z = true)
    {x b : Addr} {k : ClassId} {zn z : Int32} {cs : List Int32} {dv v0 c0 : Value} (E : RoadKit.Exa Z h x ST) (V : RoadKit.Fld Z h x ST "value" "[B" v0) (C : RoadKit.Fld Z h x ST "coder" "B" c0) (K : RoadKit.Arv Z h b k .char zn (cs.map Value.int) dv) (S : RoadKit.Sta Z h ST "COMPACT_STRINGS" "Z" (.int z)) (hz : ¬ z = 0)
    (hlen : zn.toNatClampNeg = cs.length) (h0 : 0 < cs.length) (hbig : cs.length ≤ 536870912) (hall : ∀ c ∈ cs, ¬ 255 < c) (hfr : 4 ≤ R.frames) (hlo : W + 65 ≤ R.locals) :
    Back l R p e below s args New1.yN len W (fun P a => a = #[.ref x, .ref b] ∧ P.U.heap = h ∧ P.cells + 1 ≤ R.cells ∧ P.slots + cs.length ≤ R.slots)
      (fun P _ v B => ∃ L, QA Z x zn cs h v B.U.heap L ∧ B.locs = P.locs ++ L ∧ B.cells = P.cells + 1 ∧ B.slots = P.slots + cs.length) := by
  obtain ⟨A, K1, K2, K3, K4, K5, K6⟩ := K
  have e : A.slots.size = cs.length := K3.trans hlen
  have hat : ∀ (i : Nat) (hi : i < cs.length), A.slots[i]? = some (.int cs[i]) := fun i hi => by rw [K5 i (by omega)]; simp [List.getD_eq_getElem?_getD, hi]
  have hcv : ∀ (i : Nat) (hi : i < cs.length), cv A i = cs[i] := fun i hi => by unfold cv; rw [hat i hi]
  have hty : Typed .char A := fun i v hv => by
    have hi : i < A.slots.size := (Array.getElem?_eq_some_iff.mp hv).1
    have q := K5 i hi
    rw [hv] at q
    rw [Option.some.inj q]
    exact K6 i hi
  refine Back.mono (back hZ hw wi E V C K1 hty S hz (by omega) (by omega) (fun i hi => by rw [hcv i (by omega)]; exact hall _ (List.getElem_mem _)) hfr hlo) (fun P a hp => ⟨hp.1, hp.2.1, hp.2.2.1, by rw [e]; exact hp.2.2.2⟩) (fun P a v B hp hq => ?_)
  obtain ⟨L, ⟨q1, q2, q3, q4, q5, q6, q7, ⟨V', v1, v2, v3, v4, v5⟩, q9⟩, hl, hc, hs⟩ := hq
  refine ⟨L, ⟨q1, q2, q3, q4, q5, q6, q7, ⟨V'.cls, v3, V', v1, rfl, by rw [v4, e, hlen], K4, fun i hi => ?_, fun i hi => ?_⟩, q9⟩, hl, hc, by rw [hs, e]⟩
  · have hi' : i < cs.length := by omega
    rw [v5 i (by omega), hcv i hi']; simp [List.getD_eq_getElem?_getD, hi']
  · have hi' : i < cs.length := by omega
    simp only [List.getD_eq_getElem?_getD, List.getElem?_map, List.getElem?_eq_getElem hi', Option.map_some, Option.getD_some]
    exact fits_lo8 _
end StrChars.Road
namespace StrChars.Road
open Jvm Sem ClassFile Op Lib Jvm.Stand Jvm.Free Jvm.Free.XT
/-- WHAT COMES BACK, in the writer's own shape -/
def QV (Z : State) (x : Addr) (N : Int32) (bs : List Int32) (h : Heap) (n0 : Nat) (v : Option Value) (h' : Heap) (L : List Loc) : Prop := v = none ∧ RoadKit.Fr n0 L ∧ RoadKit.Keep h h' [x] ∧ RoadKit.Exa Z h' x ST ∧ RoadKit.Fld Z h' x ST "coder" "B" (.int 0) ∧
  ∃ (t : Addr) (kb : ClassId), n0 ≤ t ∧ h.size ≤ t ∧ ¬ t = x ∧ RoadKit.Fld Z h' x ST "value" "[B" (.ref t) ∧ RoadKit.Arv Z h' t kb .byte N (bs.map Value.int) (.int 0)
/-- **new String(chars) AT A CALL, FOR THE WRITER**: a char[] of n known ints, each 0 to 255 -/
theorem backV {p : Program} {l : Launch} {e : Env} {R : Room} {s : State} {args : Array Value} {below : List Frame} {len W : Nat} {Z : State} {a0 : Array Value} {h : Heap} (hZ : Z.Warmed39 s.vm) (hw : ∀ d ∈ words, d.before a0 Z = true) {kI : Nat} (wi : (Jvm.Cond.instantiable ST kI).before a0 Z = true)
    {x b : Addr} {kC : ClassId} {cs bs : List Int32} {d v0 c0 : Value} {z N : Int32} {n n0 : Nat} (hx0 : n0 ≤ x) (hh0 : n0 ≤ h.size) (E : RoadKit.Exa Z h x ST) (V : RoadKit.Fld Z h x ST "value" "[B" v0) (C : RoadKit.Fld Z h x ST "coder" "B" c0) (K : RoadKit.Arv Z h b kC .char N (cs.map Value.int) d) (S : RoadKit.Sta Z h ST "COMPACT_STRINGS" "Z" (.int z)) (hz : ¬ z = 0)
    (hn : cs.length = n) (hN : N = Int32.ofNat n) (l0 : 0 < n) (l2 : n ≤ 4000) (hp : ∀ c ∈ cs, ¬ c < 0 ∧ ¬ (255 : Int32) < c) (hb : bs = cs.map (fun c => c.toInt8.toInt32)) (hfr : 4 ≤ R.frames) (hlo : W + 65 ≤ R.locals) :
    Back l R p e below s args (⟨"java/lang/String", "<init>", "([C)V"⟩ : MethodName) len W (fun P a => a = #[.ref x, .ref b] ∧ P.U.heap = h ∧ P.cells + 1 ≤ R.cells ∧ P.slots + n ≤ R.slots)
      (fun P _ v B => ∃ L, QV Z x N bs h n0 v B.U.heap L ∧ B.locs = P.locs ++ L ∧ B.cells = P.cells + 1 ∧ B.slots = P.slots + n) := by
  subst hn hN hb
  refine Back.mono (backArv hZ hw wi E V C K S hz (n32 (by omega)) l0 (by omega) (fun c hc => (hp c hc).2) hfr hlo) (fun P a hp => hp) (fun P a v B hp hq => ?_)
  obtain ⟨L, ⟨q1, q2, q3, q4, q5, q6, q7, ⟨kb, v1, v2⟩, q9⟩, hl, hc, hs⟩ := hq
  exact ⟨L, ⟨q1, fun y hy => by rw [q2 y hy]; exact hx0, q3, q5, q7, h.size, kb, hh0, Nat.le_refl _, Nat.ne_of_gt E.lt, q6, by rw [List.map_map]; exact v2⟩, hl, hc, hs⟩
end StrChars.Road
namespace StrChars
open Jvm Sem ClassFile Op Lib Jvm.Stand Jvm.Free.XT Jvm.Free.ALB Jvm.Free.JM Jvm.Free
open Jvm.Lib.Cold (StaticIs)
def hi8 (x : Int32) : Int32 := lo8 (x >>> ((8 : Int32) &&& 31))
/-- what StringUTF16.getChar makes of two bytes -/
def pairCh (u v : Int32) : Int32 := (((u &&& 255) <<< ((0 : Int32) &&& 31)) ||| ((v &&& 255) <<< ((8 : Int32) &&& 31))).toUInt32.toUInt16.toUInt32.toInt32
theorem shr0 (c : Int32) : c >>> ((0 : Int32) &&& 31) = c := by
  have e : ((0 : Int32) &&& 31) = 0 := by decide
  rw [e]
  apply Int32.toBitVec_inj.mp
  rw [Int32.toBitVec_shiftRight]
  have e1 : ((0 : Int32).toBitVec.smod 32) = 0#32 := by decide
  rw [e1, BitVec.sshiftRight_eq']
  exact BitVec.sshiftRight_zero
theorem lo8_and (x : Int32) : (lo8 x &&& 255).toBitVec.toNat = x.toBitVec.toNat % 256 := by
  have h : (lo8 x).toBitVec = (x.toBitVec.signExtend 8).signExtend 32 := by rw [lo8, Int8.toBitVec_toInt32, Int32.toBitVec_toInt8]
  rw [Int32.toBitVec_and, BitVec.toNat_and, h]
  have e : ((x.toBitVec.signExtend 8).signExtend 32).toNat % 256 = x.toBitVec.toNat % 256 := by
    rw [BitVec.toNat_signExtend]
    have hlt := x.toBitVec.isLt
    simp only [BitVec.toNat_setWidth, BitVec.toNat_signExtend]
    split <;> split <;> omega
  rw [← e]
  exact Nat.and_two_pow_sub_one_eq_mod _ 8
theorem pair_says {c : Int32} (h0 : ¬ c < 0) (h1 : ¬ 65535 < c) : pairCh (lo8 c) (hi8 c) = c := by
  rw [Int32.lt_iff_toInt_lt] at h0 h1
  have e0 : (0 : Int32).toInt = 0 := rfl
  have e1 : (65535 : Int32).toInt = 65535 := rfl
  have hc : c.toInt = c.toBitVec.toNat := by
    have := c.toBitVec.isLt
    have e : c.toInt = c.toBitVec.toInt := rfl
    rw [e] at h0 h1
    rw [e]
    rw [BitVec.toInt_eq_toNat_cond] at h0 h1 ⊢
    split at h0 <;> split <;> omega
  have hn : c.toBitVec.toNat < 65536 := by omega
  have a1 := lo8_and c
  have a2 : (hi8 c &&& 255).toBitVec.toNat = c.toBitVec.toNat / 256 := by
    rw [hi8, lo8_and]
    have e : ((8 : Int32) &&& 31) = 8 := by decide
    rw [e, Int32.toBitVec_shiftRight]
    have e2 : ((8 : Int32).toBitVec.smod 32) = 8#32 := by decide
    rw [e2, BitVec.sshiftRight_eq', BitVec.toNat_sshiftRight_of_msb_false (by rw [BitVec.msb_eq_false_iff_two_mul_lt]; omega)]
    show c.toBitVec.toNat >>> 8 % 256 = _
    rw [Nat.shiftRight_eq_div_pow]
    omega
  unfold pairCh
  apply Int32.toBitVec_inj.mp
  apply BitVec.eq_of_toNat_eq
  have f0 : ((0 : Int32) &&& 31) = 0 := by decide
  have f8 : ((8 : Int32) &&& 31) = 8 := by decide
  rw [f0, f8]
  have g : (((lo8 c &&& 255) <<< (0 : Int32)) ||| ((hi8 c &&& 255) <<< (8 : Int32))).toBitVec.toNat = c.toBitVec.toNat := by
    rw [Int32.toBitVec_or, Int32.toBitVec_shiftLeft, Int32.toBitVec_shiftLeft]
    have s0 : ((0 : Int32).toBitVec.smod 32) = 0#32 := by decide
    have s8 : ((8 : Int32).toBitVec.smod 32) = 8#32 := by decide
    rw [s0, s8, BitVec.toNat_or]
    simp only [BitVec.shiftLeft_eq', BitVec.toNat_shiftLeft, a1, a2]
    show (c.toBitVec.toNat % 256) <<< 0 % 2 ^ 32 ||| (c.toBitVec.toNat / 256) <<< 8 % 2 ^ 32 = _
    rw [Nat.shiftLeft_zero, Nat.mod_eq_of_lt (show c.toBitVec.toNat % 256 < 2 ^ 32 by omega), Nat.mod_eq_of_lt (show (c.toBitVec.toNat / 256) <<< 8 < 2 ^ 32 by rw [Nat.shiftLeft_eq]; omega), Nat.or_comm, ← Nat.shiftLeft_add_eq_or_of_lt (by omega), Nat.shiftLeft_eq]
    omega
  show BitVec.toNat (((((lo8 c &&& 255) <<< (0 : Int32)) ||| ((hi8 c &&& 255) <<< (8 : Int32))).toBitVec.setWidth 16).setWidth 32) = _
  rw [BitVec.toNat_setWidth, BitVec.toNat_setWidth, g]
  omega
end StrChars
namespace StrChars
open Jvm Sem ClassFile Op Lib Jvm.Stand Jvm.Free.XT Jvm.Free.ALB Jvm.Free.JM Jvm.Free
open Jvm.Lib.Cold (StaticIs)
theorem shr1 {n : Nat} (h : 2 * n < 2 ^ 31) : Int32.ofNat (2 * n) >>> ((1 : Int32) &&& 31) = Int32.ofNat n := by
  have e : ((1 : Int32) &&& 31) = 1 := by decide
  rw [e]
  apply Int32.toBitVec_inj.mp
  rw [Int32.toBitVec_shiftRight]
  have e1 : ((1 : Int32).toBitVec.smod 32) = 1#32 := by decide
  have hm : (BitVec.ofNat 32 (2 * n)).toNat = 2 * n := by rw [BitVec.toNat_ofNat, Nat.mod_eq_of_lt (by omega)]
  rw [e1, BitVec.sshiftRight_eq']
  apply BitVec.eq_of_toNat_eq
  show ((BitVec.ofNat 32 (2 * n)).sshiftRight 1).toNat = (BitVec.ofNat 32 n).toNat
  rw [BitVec.toNat_sshiftRight_of_msb_false (by rw [BitVec.msb_eq_false_iff_two_mul_lt, hm]; omega), hm, BitVec.toNat_ofNat, Nat.shiftRight_eq_div_pow]
  omega
/-- charAt's cast of a byte read back -/
def chr8 (u : Int32) : Int32 := (u &&& 255).toUInt32.toUInt16.toUInt32.toInt32
theorem chr8_lo8 {c : Int32} (h0 : ¬ c < 0) (h1 : ¬ 255 < c) : chr8 (lo8 c) = c := by
  have t : ∀ k : Fin 256, (Int32.ofNat k.val).toUInt32.toUInt16.toUInt32.toInt32 = Int32.ofNat k.val := by decide +kernel
  unfold chr8
  rw [lo8_mask h0 h1]
  rw [Int32.lt_iff_toInt_lt] at h0 h1
  have e0 : (0 : Int32).toInt = 0 := rfl
  have e1 : (255 : Int32).toInt = 255 := rfl
  obtain ⟨k, hk⟩ : ∃ k : Nat, c.toInt = k := ⟨c.toInt.toNat, by omega⟩
  have hx : c = Int32.ofNat k := Int32.toInt_inj.mp (by rw [hk, Int32.toInt_ofNat_small (by omega)])
  rw [hx]
  exact t ⟨k, by omega⟩
theorem narrow_ch {c : Int32} (h0 : ¬ c < 0) (h1 : ¬ 65535 < c) : narrow .char (.int c) = .int c := by
  have q : narrow .char (.int (pairCh (lo8 c) (hi8 c))) = .int (pairCh (lo8 c) (hi8 c)) := narrow_c _
  rwa [pair_says h0 h1] at q
/-- the array's cell V codes the n chars f 0 .. f (n - 1) by the coder cd, as the JDK does: coder 1 just where some char is above 255 -/
def Cod (cd : Int32) (n : Nat) (f : Nat → Int32) (V : Cell) : Prop := (cd = 0 ∧ V.slots.size = n ∧ ∀ j, j < n → V.slots[j]? = some (.int (lo8 (f j))) ∧ ¬ 255 < f j) ∨ (cd = 1 ∧ V.slots.size = 2 * n ∧ (∀ j, j < n → V.slots[2 * j]? = some (.int (lo8 (f j))) ∧ V.slots[2 * j + 1]? = some (.int (hi8 (f j)))) ∧ ∃ j, j < n ∧ 255 < f j)
theorem Cod.cd {cd : Int32} {n : Nat} {f : Nat → Int32} {V : Cell} (h : Cod cd n f V) : cd = 0 ∨ cd = 1 := h.imp (fun q => q.1) fun q => q.1
theorem Cod.len {cd : Int32} {n : Nat} {f : Nat → Int32} {V : Cell} (h : Cod cd n f V) (hs : V.slots.size < 2 ^ 31) : Int32.ofNat V.slots.size >>> (cd &&& 31) = Int32.ofNat n := by
  rcases h with ⟨rfl, h, -⟩ | ⟨rfl, h, -⟩
  · rw [shr0, h]
  · rw [h, shr1 (by omega)]
/-- **x is a String of the n chars f 0 .. f (n - 1)**, Latin-1 or UTF-16; its array at t has the cell V -/
def Txt (x t : Addr) (V : Cell) (cd : Int32) (n : Nat) (f : Nat → Int32) (U : State) : Prop := Exact "java/lang/String" x U ∧ Has x "java/lang/String" "value" "[B" (.ref t) U ∧ Has x "java/lang/String" "coder" "B" (.int cd) U ∧ XT.Arr .byte t V U ∧ Cod cd n f V ∧ ∀ j, j < n → ¬ f j < 0 ∧ ¬ 65535 < f j
theorem Txt.mv {x t : Addr} {V : Cell} {cd : Int32} {n : Nat} {f : Nat → Int32} {U U' : State} (h : Txt x t V cd n f U) (hal : U.vm.Alike U'.vm) (hh : U'.heap = U.heap) : Txt x t V cd n f U' := ⟨h.1.mv hal hh, h.2.1.mv hal hh, h.2.2.1.mv hal hh, h.2.2.2.1.mv hal hh, h.2.2.2.2⟩
namespace Cdr
def yN : MethodName := ⟨"java/lang/String", "coder", "()B"⟩
abbrev yB : ByteArray := jdk_42_method_152_code
theorem d0 : decode yB 0 = .ok (.getstatic 38, 3) := by decide +kernel
theorem d3 : decode yB 3 = .ok (.ifCond (.eq) 10, 3) := by decide +kernel
theorem d6 : decode yB 6 = .ok (.aload_n 0, 1) := by decide +kernel
theorem d7 : decode yB 7 = .ok (.getfield 15, 3) := by decide +kernel
theorem d10 : decode yB 10 = .ok (.goto 4, 3) := by decide +kernel
theorem d14 : decode yB 14 = .ok (.ireturn, 1) := by decide +kernel
def site : List Cond := [.fieldLink "java/lang/String" 38 "java/lang/String" "COMPACT_STRINGS" "Z", .fieldLink "java/lang/String" 15 "java/lang/String" "coder" "B"]
def tab : Cond := tabOf yN yB 1 (some .byte) site
def P (x : Addr) (cd z : Int32) (args : Array Value) (s : State) : Prop := args = #[.ref x] ∧ Has x "java/lang/String" "coder" "B" (.int cd) s ∧ (cd = 0 ∨ cd = 1) ∧ StaticIs s "java/lang/String" "COMPACT_STRINGS" "Z" (.int z) ∧ ¬ z = 0
def E (cd : Int32) (r : Option Value) (s u : State) : Prop := XT.PureE (some (.int cd)) r s u
theorem law (l : Launch) (x : Addr) (cd z : Int32) : Law l yN 1 0 0 0 yB 1 (some .byte) site (P x cd z) (E cd) [] 0 0 := by
  refine Law.of_walk (plainFor_of_name (by decide +kernel)) (by decide +kernel) (by decide +kernel) (by decide) (fun _ _ h => by rw [h.1]; rfl) (fun _ U U' hal hh h => ⟨h.1, h.2.1.mv hal hh, h.2.2.1, h.2.2.2.1.there hal hh, h.2.2.2.2⟩) (fun r U U' V V' h1 hal h2 h => XT.PureE.mv r U U' V V' h1 hal h2 h) ?_
  intro p e s m args below meth c s₁ X0 hexec hbytes hml hret hlk hnm hown hh0 W hP
  obtain ⟨rfl, hx, hc, s1, hz⟩ := hP
  have c1 : Steps p.tables e below (s₁.setTop (entryFrame m #[.ref x] 1)) (s₁.setTop (mkF m 0 #[.val (.ref x)] [])) := entry rfl
  obtain ⟨T2, X2, q2, st2⟩ := X0.sget hexec hown (wk W (.fieldLink "java/lang/String" 38 "java/lang/String" "COMPACT_STRINGS" "Z")) s1 (fun _ _ h => by rw [hh0]; exact h) (g := (mkF m 0 #[.val (.ref x)] [])) rfl (hb hbytes d0)
  have hh2 := q2.trans hh0
  have c3 : Steps p.tables e below (s₁.setTop (entryFrame m #[.ref x] 1)) (T2.setTop (mkF m 7 #[.val (.ref x)] [.ref x])) := (c1.trans (st2 _ (Steps.refl _))).trans (by
    refine XS.ifNo X2.here hexec rfl (hb hbytes d3) rfl (i0_eq_f hz) ?_
    refine XS.aloadN X2.here hexec rfl (hb hbytes d6) rfl rfl ?_
    exact Steps.refl _)
  obtain ⟨T4, X4, q4, st4⟩ := X2.hget hexec hown (wk W (.fieldLink "java/lang/String" 15 "java/lang/String" "coder" "B")) (hx.mv X2.warmed.alike hh2) (g := (mkF m 7 #[.val (.ref x)] [.ref x])) rfl (rest := []) rfl (hb hbytes d7)
  have c5 : Steps p.tables e below (s₁.setTop (entryFrame m #[.ref x] 1)) (T4.setTop (mkF m 14 #[.val (.ref x)] [.int cd])) := (c3.trans (st4 _ (Steps.refl _))).trans (by
    refine XS.goto X4.here hexec rfl (pc0 := 10) rfl (hb hbytes d10) (by decide) rfl ?_
    exact Steps.refl _)
  exact ⟨T4, some (.int cd), _, _, _, X4, rfl, rfl, rfl, (fun h => by cases h), ⟨rfl, q4.trans hh2⟩, fun fs hl => c5.trans (X4.ireturnOut hexec hret (by rcases hc with rfl | rfl <;> rfl) (Or.inr (Or.inr (Or.inl rfl))) (hb hbytes d14) hl)⟩
end Cdr
namespace Len
def yN : MethodName := ⟨"java/lang/String", "length", "()I"⟩
abbrev yB : ByteArray := jdk_42_method_54_code
theorem d0 : decode yB 0 = .ok (.aload_n 0, 1) := by decide +kernel
theorem d1 : decode yB 1 = .ok (.getfield 9, 3) := by decide +kernel
theorem d4 : decode yB 4 = .ok (.arraylength, 1) := by decide +kernel
theorem d5 : decode yB 5 = .ok (.aload_n 0, 1) := by decide +kernel
theorem d6 : decode yB 6 = .ok (.invokevirtual 335, 3) := by decide +kernel
theorem d9 : decode yB 9 = .ok (.ishr, 1) := by decide +kernel
theorem d10 : decode yB 10 = .ok (.ireturn, 1) := by decide +kernel
def site : List Cond := [.fieldLink "java/lang/String" 9 "java/lang/String" "value" "[B", Cdr.tab] ++ virtW "java/lang/String" 335 "java/lang/String" Cdr.yN Cdr.yN
def tab : Cond := tabOf yN yB 1 (some .int) site
def P (x t : Addr) (V : Cell) (cd : Int32) (n : Nat) (f : Nat → Int32) (z : Int32) (args : Array Value) (s : State) : Prop := args = #[.ref x] ∧ Txt x t V cd n f s ∧ StaticIs s "java/lang/String" "COMPACT_STRINGS" "Z" (.int z) ∧ ¬ z = 0
def E (n : Nat) (r : Option Value) (s u : State) : Prop := XT.PureE (some (.int (Int32.ofNat n))) r s u
/-- length() of a String of n chars, in either coding -/
theorem law (l : Launch) (x t : Addr) (V : Cell) (cd : Int32) (n : Nat) (f : Nat → Int32) (z : Int32) : Law l yN 1 0 1 13 yB 1 (some .int) site (P x t V cd n f z) (E n) [] 0 0 := by
  refine Law.of_walk (plainFor_of_name (by decide +kernel)) (by decide +kernel) (by decide +kernel) (by decide) (fun _ _ h => by rw [h.1]; rfl) (fun _ U U' hal hh h => ⟨h.1, h.2.1.mv hal hh, h.2.2.1.there hal hh, h.2.2.2⟩) (fun r U U' V V' h1 hal h2 h => XT.PureE.mv r U U' V V' h1 hal h2 h) ?_
  intro p e s m args below meth c s₁ X0 hexec hbytes hml hret hlk hnm hown hh0 W hP
  obtain ⟨rfl, hx, s1, hz⟩ := hP
  have v31 := hx.2.2.2.1.2.2.2
  have c1 : Steps p.tables e below (s₁.setTop (entryFrame m #[.ref x] 1)) (s₁.setTop (mkF m 1 #[.val (.ref x)] [.ref x])) := Steps.trans (entry rfl) (by
    show Steps p.tables e below (s₁.setTop (mkF m 0 #[.val (.ref x)] [])) _
    refine XS.aloadN X0.here hexec rfl (hb hbytes d0) rfl rfl ?_
    exact Steps.refl _)
  obtain ⟨T2, X2, q2, st2⟩ := X0.hget hexec hown (wk W (.fieldLink "java/lang/String" 9 "java/lang/String" "value" "[B")) (hx.mv X0.warmed.alike hh0).2.1 (g := (mkF m 1 #[.val (.ref x)] [.ref x])) rfl (rest := []) rfl (hb hbytes d1)
  have hh2 := q2.trans hh0
  have hx2 := hx.mv X2.warmed.alike hh2
  have c3 : Steps p.tables e below (s₁.setTop (entryFrame m #[.ref x] 1)) (T2.setTop (mkF m 6 #[.val (.ref x)] [.ref x, .int (Int32.ofNat V.slots.size)])) := (c1.trans (st2 _ (Steps.refl _))).trans (by
    refine X2.alen hexec hx2.2.2.2.1 rfl rfl (hb hbytes d4) ?_
    refine XS.aloadN X2.here hexec rfl (hb hbytes d5) rfl rfl ?_
    exact Steps.refl _)
  obtain ⟨v4, T4, X4, E4, g4⟩ := X2.callV hexec (Cdr.law l x cd z) hown (wks W (virtW "java/lang/String" 335 "java/lang/String" Cdr.yN Cdr.yN)) rfl (by decide) (wk W Cdr.tab) (W := 1) (Nat.le_of_ble_eq_true rfl) (Nat.le_of_ble_eq_true rfl) (Nat.le_refl _) (Nat.le_refl _) (hx2.1.fc X2.warmed.alike) hx2.1.is (g := (mkF m 6 #[.val (.ref x)] [.ref x, .int (Int32.ofNat V.slots.size)])) rfl (by rw [hml]; rfl) c3 (argsL := []) (rest := [.int (Int32.ofNat V.slots.size)]) rfl rfl (by show 2 * 0 + (1 + 0) ≤ _; decide) (hb hbytes d6) (⟨rfl, hx2.2.2.1, hx.2.2.2.2.1.cd, s1.there X2.warmed.alike hh2, hz⟩)
  obtain ⟨rfl, q4⟩ := E4
  have c5 : Steps p.tables e below (s₁.setTop (entryFrame m #[.ref x] 1)) (T4.setTop (mkF m 10 #[.val (.ref x)] [.int (Int32.ofNat V.slots.size >>> (cd &&& 31))])) := Steps.trans g4 (by
    refine ishr X4.here hexec rfl (hb hbytes d9) rfl ?_
    exact Steps.refl _)
  rw [hx.2.2.2.2.1.len v31] at c5
  exact ⟨T4, some (.int (Int32.ofNat n)), _, _, _, X4, rfl, rfl, rfl, (fun h => by cases h), ⟨rfl, q4.trans hh2⟩, fun fs hl => c5.trans (X4.ireturnOut hexec hret rfl (Or.inl rfl) (hb hbytes d10) hl)⟩
theorem pays {l : Launch} {R : Room} {p : Program} {e : Env} {below : List Frame} {s : State} {sargs : Array Value} {len W : Nat} (x t : Addr) (V : Cell) (cd : Int32) (n : Nat) (f : Nat → Int32) (z : Int32) (htab : tab.before sargs s = true) (hfr : 2 ≤ R.frames) (hlo : W + 25 ≤ R.locals) :
    Back l R p e below s sargs yN len W (fun A₁ a₁ => A₁.cells + 0 ≤ R.cells ∧ A₁.slots + 0 ≤ R.slots ∧ P x t V cd n f z a₁ A₁.U) (fun A₁ _ v₁ B₁ => E n v₁ A₁.U B₁.U ∧ B₁.locs = A₁.locs ++ [] ∧ B₁.cells = A₁.cells + 0 ∧ B₁.slots = A₁.slots + 0) :=
  (law l x t V cd n f z).pays htab hfr (by omega)
end Len
namespace IsL
def yN : MethodName := ⟨"java/lang/String", "isLatin1", "()Z"⟩
abbrev yB : ByteArray := jdk_42_method_154_code
theorem d0 : decode yB 0 = .ok (.getstatic 38, 3) := by decide +kernel
theorem d3 : decode yB 3 = .ok (.ifCond (.eq) 14, 3) := by decide +kernel
theorem d6 : decode yB 6 = .ok (.aload_n 0, 1) := by decide +kernel
theorem d7 : decode yB 7 = .ok (.getfield 15, 3) := by decide +kernel
theorem d10 : decode yB 10 = .ok (.ifCond (.ne) 7, 3) := by decide +kernel
theorem d13 : decode yB 13 = .ok (.iconst 1, 1) := by decide +kernel
theorem d14 : decode yB 14 = .ok (.goto 4, 3) := by decide +kernel
theorem d17 : decode yB 17 = .ok (.iconst 0, 1) := by decide +kernel
theorem d18 : decode yB 18 = .ok (.ireturn, 1) := by decide +kernel
def site : List Cond := [.fieldLink "java/lang/String" 38 "java/lang/String" "COMPACT_STRINGS" "Z", .fieldLink "java/lang/String" 15 "java/lang/String" "coder" "B"]
def tab : Cond := tabOf yN yB 1 (some .boolean) site
def P (x : Addr) (cd z : Int32) (args : Array Value) (s : State) : Prop := args = #[.ref x] ∧ Has x "java/lang/String" "coder" "B" (.int cd) s ∧ (cd = 0 ∨ cd = 1) ∧ StaticIs s "java/lang/String" "COMPACT_STRINGS" "Z" (.int z) ∧ ¬ z = 0
def E (cd : Int32) (r : Option Value) (s u : State) : Prop := XT.PureE (some (.int (1 - cd))) r s u
theorem law (l : Launch) (x : Addr) (cd z : Int32) : Law l yN 1 0 0 0 yB 1 (some .boolean) site (P x cd z) (E cd) [] 0 0 := by
  refine Law.of_walk (plainFor_of_name (by decide +kernel)) (by decide +kernel) (by decide +kernel) (by decide) (fun _ _ h => by rw [h.1]; rfl) (fun _ U U' hal hh h => ⟨h.1, h.2.1.mv hal hh, h.2.2.1, h.2.2.2.1.there hal hh, h.2.2.2.2⟩) (fun r U U' V V' h1 hal h2 h => XT.PureE.mv r U U' V V' h1 hal h2 h) ?_
  intro p e s m args below meth c s₁ X0 hexec hbytes hml hret hlk hnm hown hh0 W hP
  obtain ⟨rfl, hx, hc, s1, hz⟩ := hP
  have c1 : Steps p.tables e below (s₁.setTop (entryFrame m #[.ref x] 1)) (s₁.setTop (mkF m 0 #[.val (.ref x)] [])) := entry rfl
  obtain ⟨T2, X2, q2, st2⟩ := X0.sget hexec hown (wk W (.fieldLink "java/lang/String" 38 "java/lang/String" "COMPACT_STRINGS" "Z")) s1 (fun _ _ h => by rw [hh0]; exact h) (g := (mkF m 0 #[.val (.ref x)] [])) rfl (hb hbytes d0)
  have hh2 := q2.trans hh0
  have c3 : Steps p.tables e below (s₁.setTop (entryFrame m #[.ref x] 1)) (T2.setTop (mkF m 7 #[.val (.ref x)] [.ref x])) := (c1.trans (st2 _ (Steps.refl _))).trans (by
    refine XS.ifNo X2.here hexec rfl (hb hbytes d3) rfl (i0_eq_f hz) ?_
    refine XS.aloadN X2.here hexec rfl (hb hbytes d6) rfl rfl ?_
    exact Steps.refl _)
  obtain ⟨T4, X4, q4, st4⟩ := X2.hget hexec hown (wk W (.fieldLink "java/lang/String" 15 "java/lang/String" "coder" "B")) (hx.mv X2.warmed.alike hh2) (g := (mkF m 7 #[.val (.ref x)] [.ref x])) rfl (rest := []) rfl (hb hbytes d7)
  have c5 : Steps p.tables e below (s₁.setTop (entryFrame m #[.ref x] 1)) (T4.setTop (mkF m 10 #[.val (.ref x)] [.int cd])) := c3.trans (st4 _ (Steps.refl _))
  have c6 : Steps p.tables e below (s₁.setTop (entryFrame m #[.ref x] 1)) (T4.setTop (mkF m 18 #[.val (.ref x)] [.int (1 - cd)])) := by
    rcases hc with rfl | rfl
    · exact c5.trans (by
        refine XS.ifNo X4.here hexec rfl (hb hbytes d10) rfl (i0_ne_f rfl) ?_
        refine iconstV X4.here hexec rfl 1 (hb hbytes d13) (by decide) ?_
        refine XS.goto X4.here hexec rfl (pc0 := 14) rfl (hb hbytes d14) (by decide) rfl ?_
        exact Steps.refl _)
    · exact c5.trans (by
        refine XS.ifYes X4.here hexec rfl (pc0 := 10) rfl (hb hbytes d10) rfl (i0_ne_t (by decide)) (by decide) rfl ?_
        refine iconstV X4.here hexec rfl 0 (hb hbytes d17) (by decide) ?_
        exact Steps.refl _)
  exact ⟨T4, some (.int (1 - cd)), _, _, _, X4, rfl, rfl, rfl, (fun h => by cases h), ⟨rfl, q4.trans hh2⟩, fun fs hl => c6.trans (X4.ireturnOut hexec hret (by rcases hc with rfl | rfl <;> rfl) (Or.inr (Or.inl rfl)) (hb hbytes d18) hl)⟩
end IsL
namespace LChA
def yN : MethodName := ⟨"java/lang/StringLatin1", "charAt", "([BI)C"⟩
abbrev yB : ByteArray := jdk_43_method_2_code
theorem d0 : decode yB 0 = .ok (.iload_n 1, 1) := by decide +kernel
theorem d1 : decode yB 1 = .ok (.aload_n 0, 1) := by decide +kernel
theorem d2 : decode yB 2 = .ok (.arraylength, 1) := by decide +kernel
theorem d3 : decode yB 3 = .ok (.invokestatic 9, 3) := by decide +kernel
theorem d6 : decode yB 6 = .ok (.aload_n 0, 1) := by decide +kernel
theorem d7 : decode yB 7 = .ok (.iload_n 1, 1) := by decide +kernel
theorem d8 : decode yB 8 = .ok (.baload, 1) := by decide +kernel
theorem d9 : decode yB 9 = .ok (.sipush 255, 3) := by decide +kernel
theorem d12 : decode yB 12 = .ok (.iand, 1) := by decide +kernel
theorem d13 : decode yB 13 = .ok (.i2c, 1) := by decide +kernel
theorem d14 : decode yB 14 = .ok (.ireturn, 1) := by decide +kernel
def site : List Cond := [JO.Str_checkIndex.tab] ++ staticW "java/lang/StringLatin1" 9 JO.Str_checkIndex.yN
def tab : Cond := tabOf yN yB 2 (some .char) site
def P (t : Addr) (V : Cell) (i : Nat) (u : Int32) (fm : Value) (args : Array Value) (s : State) : Prop := args = #[.ref t, .int (Int32.ofNat i)] ∧ XT.Arr .byte t V s ∧ V.slots[i]? = some (.int u) ∧ (StaticIs s "jdk/internal/util/Preconditions" "SIOOBE_FORMATTER" "Ljava/util/function/BiFunction;" fm ∧ fm.isRef = true)
def E (u : Int32) (r : Option Value) (s w : State) : Prop := XT.PureE (some (.int (chr8 u))) r s w
theorem law (l : Launch) (t : Addr) (V : Cell) (i : Nat) (u : Int32) (fm : Value) : Law l yN 2 2 2 27 yB 2 (some .char) site (P t V i u fm) (E u) [] 0 0 := by
  refine Law.of_walk (plainFor_of_name (by decide +kernel)) (by decide +kernel) (by decide +kernel) (by decide) (fun _ _ h => by rw [h.1]; rfl) (fun _ U U' hal hh h => ⟨h.1, h.2.1.mv hal hh, h.2.2.1, h.2.2.2.1.there hal hh, h.2.2.2.2⟩) (fun r U U' V V' h1 hal h2 h => XT.PureE.mv r U U' V V' h1 hal h2 h) ?_
  intro p e s m args below meth c s₁ X0 hexec hbytes hml hret hlk hnm hown hh0 W hP
  obtain ⟨rfl, hV, hu, s1, rf⟩ := hP
  have v31 := hV.2.2.2
  have hi : i < V.slots.size := (Array.getElem?_eq_some_iff.mp hu).1
  have c1 : Steps p.tables e below (s₁.setTop (entryFrame m #[.ref t, .int (Int32.ofNat i)] 2)) (s₁.setTop (mkF m 0 #[.val (.ref t), .val (.int (Int32.ofNat i))] [])) := entry rfl
  have c2 : Steps p.tables e below (s₁.setTop (entryFrame m #[.ref t, .int (Int32.ofNat i)] 2)) (s₁.setTop (mkF m 3 #[.val (.ref t), .val (.int (Int32.ofNat i))] [.int (Int32.ofNat V.slots.size), .int (Int32.ofNat i)])) := c1.trans (by
    refine XS.iloadN X0.here hexec rfl (hb hbytes d0) rfl ?_
    refine XS.aloadN X0.here hexec rfl (hb hbytes d1) rfl rfl ?_
    refine X0.alen hexec (hV.mv X0.warmed.alike hh0) rfl rfl (hb hbytes d2) ?_
    exact Steps.refl _)
  obtain ⟨v3, T3, X3, E3, g3⟩ := X0.callS hexec (JO.Str_checkIndex.law l (Int32.ofNat i) (Int32.ofNat V.slots.size) fm) hown (wks W (staticW "java/lang/StringLatin1" 9 JO.Str_checkIndex.yN)) (wk W JO.Str_checkIndex.tab) (W := 0) (Nat.le_of_ble_eq_true rfl) (Nat.le_of_ble_eq_true rfl) (Nat.le_refl _) (Nat.le_refl _) (g := (mkF m 3 #[.val (.ref t), .val (.int (Int32.ofNat i))] [.int (Int32.ofNat V.slots.size), .int (Int32.ofNat i)])) rfl (by rw [hml]; rfl) c2 (argsL := [.int (Int32.ofNat i), .int (Int32.ofNat V.slots.size)]) (rest := []) rfl rfl (by show 2 * 0 + 0 ≤ _; decide) (hb hbytes d3) (⟨rfl, rf, s1.there X0.warmed.alike hh0, Int32.ofNat_not_neg (by omega), lt32 v31 hi⟩)
  obtain ⟨rfl, q3⟩ := E3
  have hh3 := q3.trans hh0
  have c4 : Steps p.tables e below (s₁.setTop (entryFrame m #[.ref t, .int (Int32.ofNat i)] 2)) (T3.setTop (mkF m 14 #[.val (.ref t), .val (.int (Int32.ofNat i))] [.int (chr8 u)])) := Steps.trans g3 (by
    refine XS.aloadN X3.here hexec rfl (hb hbytes d6) rfl rfl ?_
    refine XS.iloadN X3.here hexec rfl (hb hbytes d7) rfl ?_
    refine X3.aget hexec (hV.mv X3.warmed.alike hh3) rfl hu rfl rfl (hb hbytes d8) ?_
    refine sipushV X3.here hexec rfl 255 (hb hbytes d9) (by decide) ?_
    refine XS.iand X3.here hexec rfl (hb hbytes d12) rfl ?_
    refine i2c X3.here hexec rfl (hb hbytes d13) rfl ?_
    exact Steps.refl _)
  exact ⟨T3, some (.int (chr8 u)), _, _, _, X3, rfl, rfl, rfl, (fun h => by cases h), ⟨rfl, hh3⟩, fun fs hl => c4.trans (X3.ireturnOut hexec hret (narrow_c _) (Or.inr (Or.inr (Or.inr (Or.inl rfl)))) (hb hbytes d14) hl)⟩
end LChA
end StrChars
namespace StrChars.Road
open Jvm Sem ClassFile Op Lib Jvm.Stand Jvm.Free Jvm.Free.XT
open Jvm.Lib.Cold (StaticIs)
theorem consq {a : Array Value} {s : State} {c : Jvm.Cond} {L : List Jvm.Cond} (h0 : c.before a s = true) (h : ∀ w ∈ L, w.before a s = true) : ∀ w ∈ c :: L, w.before a s = true := fun w hw => (List.mem_cons.mp hw).elim (fun e => e ▸ h0) (h w)
/-- the words of String.length(), either coding -/
abbrev wordsLen : List Jvm.Cond := [.code Len.yN Len.yB 1 (some .int), .initialized ST, .fieldLink ST 9 ST "value" "[B", .fieldLink ST 38 ST "COMPACT_STRINGS" "Z", .fieldLink ST 15 ST "coder" "B", .code Cdr.yN Cdr.yB 1 (some .byte), .methodLink ST 335 Cdr.yN, .declares Cdr.yN, .selects ST Cdr.yN Cdr.yN, .instanceMethod Cdr.yN]
theorem tabLen_of {a : Array Value} {s : State} (h : ∀ w ∈ wordsLen, w.before a s = true) : Len.tab.before a s = true := by
  have hc : Cdr.tab.before a s = true := unparts (wk h (.code Cdr.yN Cdr.yB 1 (some .byte))) (wks h (.initialized Cdr.yN.cls :: Cdr.site))
  have q := consq hc h
  exact unparts (wk q (.code Len.yN Len.yB 1 (some .int))) (wks q (.initialized Len.yN.cls :: Len.site))
theorem movedLen {Z s : State} {a0 args : Array Value} (hZ : Z.Warmed39 s.vm) (hw : ∀ d ∈ wordsLen, d.before a0 Z = true) : ∀ d ∈ wordsLen, d.before args s = true := fun d hd => by
  have q := hw d hd
  have t : ∀ d ∈ wordsLen, d = .arrayClass .byte ∨ (d.onTables && d.keepsFace) = true := by decide +kernel
  rcases t d hd with rfl | t
  · exact RoadKit.mvA hZ q
  · exact RoadKit.mv hZ q t
/-- the bytes of the chars cs, low before high -/
def wideBytes : List Int32 → List Value
  | [] => []
  | c :: cs => .int (lo8 c) :: .int (hi8 c) :: wideBytes cs
theorem wide_lo (d : Value) : ∀ (cs : List Int32) (j : Nat), j < cs.length → (wideBytes cs).getD (2 * j) d = .int (lo8 (cs.getD j 0))
  | [], j, h => absurd h (Nat.not_lt_zero j)
  | c :: cs, 0, _ => rfl
  | c :: cs, j + 1, h => by
    have q := wide_lo d cs j (by simpa using h)
    rw [show 2 * (j + 1) = 2 * j + 1 + 1 from by omega]
    simpa [wideBytes] using q
theorem wide_hi (d : Value) : ∀ (cs : List Int32) (j : Nat), j < cs.length → (wideBytes cs).getD (2 * j + 1) d = .int (hi8 (cs.getD j 0))
  | [], j, h => absurd h (Nat.not_lt_zero j)
  | c :: cs, 0, _ => rfl
  | c :: cs, j + 1, h => by
    have q := wide_hi d cs j (by simpa using h)
    rw [show 2 * (j + 1) + 1 = 2 * j + 1 + 1 + 1 from by omega]
    simpa [wideBytes] using q
theorem low_at (d : Value) (cs : List Int32) (j : Nat) (h : j < cs.length) : (cs.map fun c => Value.int (lo8 c)).getD j d = .int (lo8 (cs.getD j 0)) := by
  simp [List.getD_eq_getElem?_getD, h]
/-- an array of N2 bytes vs codes the chars cs by the coder cd -/
def CodA (cs : List Int32) (cd N2 : Int32) (vs : List Value) : Prop := (cd = 0 ∧ N2 = Int32.ofNat cs.length ∧ vs = (cs.map fun c => Value.int (lo8 c)) ∧ ∀ c ∈ cs, ¬ 255 < c) ∨ (cd = 1 ∧ N2 = Int32.ofNat (2 * cs.length) ∧ vs = wideBytes cs ∧ ∃ c ∈ cs, 255 < c)
theorem CodA.cod {cs : List Int32} {cd N2 : Int32} {vs : List Value} {V : Cell} (h : CodA cs cd N2 vs) (hn : 2 * cs.length < 2 ^ 31) (hs : V.slots.size = N2.toNatClampNeg) (hv : RoadKit.Has V vs (.int 0)) : Cod cd cs.length (fun j => cs.getD j 0) V := by
  rcases h with ⟨rfl, rfl, rfl, h⟩ | ⟨rfl, rfl, rfl, c, hc, hw⟩
  · rw [n32 (by omega)] at hs
    exact Or.inl ⟨rfl, hs, fun j hj => ⟨by rw [hv j (by omega), low_at _ _ _ hj], by
      have e : cs.getD j 0 = cs[j] := by simp [List.getD_eq_getElem?_getD, hj]
      show ¬ 255 < cs.getD j 0
      rw [e]; exact h _ (List.getElem_mem _)⟩⟩
  · rw [n32 (by omega)] at hs
    obtain ⟨j, hj, rfl⟩ := List.getElem_of_mem hc
    exact Or.inr ⟨rfl, hs, fun j hj => ⟨by rw [hv _ (by omega), wide_lo _ _ _ hj], by rw [hv _ (by omega), wide_hi _ _ _ hj]⟩, j, hj, by
      have e : cs.getD j 0 = cs[j] := by simp [List.getD_eq_getElem?_getD, hj]
      show 255 < cs.getD j 0
      rw [e]; exact hw⟩
/-- an object of exactly java/lang/String, its two fields found: as the laws ask it -/
theorem strObj {Z U : State} {a0 : Array Value} {kI : Nat} (wi : (Jvm.Cond.instantiable ST kI).before a0 Z = true) (al : Z.vm.Alike U.vm) {x : Addr} {v0 c0 : Value} (E : RoadKit.Exa Z U.heap x ST) (V : RoadKit.Fld Z U.heap x ST "value" "[B" v0) (C : RoadKit.Fld Z U.heap x ST "coder" "B" c0) :
    ∃ (D : Cell) (fV fC : Field), Blank ST x D U ∧ Found ST "value" "[B" fV U ∧ Found ST "coder" "B" fC U ∧ D.slots[fV.slot]? = some v0 ∧ D.slots[fC.slot]? = some c0 ∧ RoadKit.slotOf Z ST "value" "[B" = fV.slot ∧ RoadKit.slotOf Z ST "coder" "B" = fC.slot := by
  obtain ⟨D, cfV, kV, iV, fV, hD, gV, stV, knV, obV, asV, slV⟩ := V
  obtain ⟨D', cfC, kC, iC, fC, hD', gC, stC, -, -, asC, slC⟩ := C
  cases hD.symm.trans hD'
  obtain ⟨D2, kD, e1, e2, e3, e4, e5⟩ := E
  cases hD.symm.trans e1
  obtain ⟨c2, k2, i1, i2, i3, -⟩ := Cond.instantiable_spec wi
  cases e2.symm.trans i1
  cases e3.symm.trans i2
  obtain ⟨kU, u1, u2⟩ := al.2.2 _ _ e3
  exact ⟨D, fV, fC, ⟨hD, ⟨knV, fun q hq => by rw [hq] at obV; cases obV⟩, by rw [al.findClass]; exact e2, kU, u1, by rw [u2]; exact i3, by rw [u2]; exact e5 i3⟩, ⟨SBG.found_only al ⟨cfV, kV, iV, gV⟩, stV⟩, ⟨SBG.found_only al ⟨cfC, kC, iC, gC⟩, stC⟩, slV, slC, by simp [RoadKit.slotOf, gV], by simp [RoadKit.slotOf, gC]⟩
theorem sta_is {Z U : State} (al : Z.vm.Alike U.vm) {C n d : String} {v : Value} (S : RoadKit.Sta Z U.heap C n d v) : StaticIs U C n d v := by
  obtain ⟨cfS, iS, kS, fS, st, cS, t1, t2, t3, t4, t5, t6, t7⟩ := S
  exact StaticIs.there (s := { Z with heap := U.heap }) ⟨cfS, iS, kS, fS, st, cS, t1, t2, t3, t4, t5, (fun q => by rw [q] at t6; cases t6), t7⟩ al rfl
/-- **length() OF SUCH A STRING** -/
theorem lenW {p : Program} {l : Launch} {e : Env} {R : Room} {s : State} {args : Array Value} {below : List Frame} {len W : Nat} {Z : State} {a0 : Array Value} {h : Heap} (hZ : Z.Warmed39 s.vm) (hw : ∀ d ∈ wordsLen, d.before a0 Z = true) {kI : Nat} (wi : (Jvm.Cond.instantiable ST kI).before a0 Z = true)
    {x t : Addr} {kb : ClassId} {cs : List Int32} {cd N2 z : Int32} {vs : List Value} (E : RoadKit.Exa Z h x ST) (V : RoadKit.Fld Z h x ST "value" "[B" (.ref t)) (C : RoadKit.Fld Z h x ST "coder" "B" (.int cd)) (K : RoadKit.Arv Z h t kb .byte N2 vs (.int 0)) (hc : CodA cs cd N2 vs) (hb : ∀ c ∈ cs, ¬ c < 0 ∧ ¬ (65535 : Int32) < c)
    (S : RoadKit.Sta Z h ST "COMPACT_STRINGS" "Z" (.int z)) (hz : ¬ z = 0) (l2 : cs.length ≤ 4000) (hfr : 2 ≤ R.frames) (hlo : W + 25 ≤ R.locals) :
    Back l R p e below s args (⟨"java/lang/String", "length", "()I"⟩ : MethodName) len W (fun P a => a = #[.ref x] ∧ P.U.heap = h ∧ P.cells + 0 ≤ R.cells ∧ P.slots + 0 ≤ R.slots)
      (fun P _ v B => ∃ L, (v = some (.int (Int32.ofNat cs.length)) ∧ L = [] ∧ B.U.heap = h) ∧ B.locs = P.locs ++ L ∧ B.cells = P.cells + 0 ∧ B.slots = P.slots + 0) := by
  obtain ⟨A, K1, K2, K3, K4, K5, K6⟩ := K
  have hcod := hc.cod (by omega) K3 K5
  intro m meth c P g ig mk a X hg hsize hdg hW hn hp'
  obtain ⟨rfl, rfl, r1, r2⟩ := hp'
  have al : Z.vm.Alike P.U.vm := hZ.alike.trans X.warmed.alike
  obtain ⟨D, fV, fC, hB, F1, F2, g1, g2, -, -⟩ := strObj wi al E V C
  have hx : Txt x t A cd cs.length (fun j => cs.getD j 0) P.U := ⟨⟨_, hB.2.2.1, D, hB.1, rfl, by cases q : D.vm <;> first | rfl | exact absurd q (hB.2.1.2 _)⟩, Has.of hB F1 g1, Has.of hB F2 g2, ⟨K1.1, State.isArrayOf_alike al K1.2.1, K1.2.2, by rcases hcod with ⟨-, q, -⟩ | ⟨-, q, -⟩ <;> omega⟩, hcod, fun j hj => by
    have e : cs.getD j 0 = cs[j] := by simp [List.getD_eq_getElem?_getD, hj]
    show ¬ cs.getD j 0 < 0 ∧ ¬ 65535 < cs.getD j 0
    rw [e]; exact hb _ (List.getElem_mem _)⟩
  obtain ⟨v, B, X', ⟨⟨hv, hh⟩, hl, hk, hs⟩, st⟩ := Len.pays x t A cd cs.length (fun j => cs.getD j 0) z (tabLen_of (movedLen hZ hw)) hfr hlo m meth c P g ig mk _ X hg hsize hdg hW hn ⟨r1, r2, rfl, hx, sta_is al S, hz⟩
  exact ⟨v, B, X', ⟨[], ⟨hv, rfl, hh⟩, hl, hk, hs⟩, st⟩
end StrChars.Road
namespace StrChars.Road
open Jvm Sem ClassFile Op Lib Jvm.Stand Jvm.Free Jvm.Free.XT
open Jvm.Lib.Cold (StaticIs)
/-- the road's facts of a String, as the laws ask it -/
theorem txt_of {Z U : State} {a0 : Array Value} {kI : Nat} (wi : (Jvm.Cond.instantiable ST kI).before a0 Z = true) (al : Z.vm.Alike U.vm) {x t : Addr} {kb : ClassId} {cs : List Int32} {cd N2 : Int32} {vs : List Value} (E : RoadKit.Exa Z U.heap x ST) (V : RoadKit.Fld Z U.heap x ST "value" "[B" (.ref t)) (C : RoadKit.Fld Z U.heap x ST "coder" "B" (.int cd)) (K : RoadKit.Arv Z U.heap t kb .byte N2 vs (.int 0)) (hc : CodA cs cd N2 vs) (hb : ∀ c ∈ cs, ¬ c < 0 ∧ ¬ (65535 : Int32) < c) (l2 : cs.length ≤ 4000) :
    ∃ A, Txt x t A cd cs.length (fun j => cs.getD j 0) U := by
  obtain ⟨A, K1, K2, K3, K4, K5, K6⟩ := K
  have hcod := hc.cod (by omega) K3 K5
  obtain ⟨D, fV, fC, hB, F1, F2, g1, g2, -, -⟩ := strObj wi al E V C
  exact ⟨A, ⟨_, hB.2.2.1, D, hB.1, rfl, by cases q : D.vm <;> first | rfl | exact absurd q (hB.2.1.2 _)⟩, Has.of hB F1 g1, Has.of hB F2 g2, ⟨K1.1, State.isArrayOf_alike al K1.2.1, K1.2.2, by rcases hcod with ⟨-, q, -⟩ | ⟨-, q, -⟩ <;> omega⟩, hcod, fun j hj => by
    have e : cs.getD j 0 = cs[j] := by simp [List.getD_eq_getElem?_getD, hj]
    show ¬ cs.getD j 0 < 0 ∧ ¬ 65535 < cs.getD j 0
    rw [e]; exact hb _ (List.getElem_mem _)⟩
end StrChars.Road
namespace StrChars
open Jvm Sem ClassFile Op Lib Jvm.Stand Jvm.Free.XT Jvm.Free.ALB Jvm.Free.JM Jvm.Free
open Jvm.Lib.Cold (StaticIs)
namespace ChN
def yN : MethodName := ⟨"java/lang/String", "charAt", "(I)C"⟩
abbrev yB : ByteArray := jdk_42_method_56_code
theorem d0 : decode yB 0 = .ok (.aload_n 0, 1) := by decide +kernel
theorem d1 : decode yB 1 = .ok (.invokevirtual 492, 3) := by decide +kernel
theorem d4 : decode yB 4 = .ok (.ifCond (.eq) 12, 3) := by decide +kernel
theorem d7 : decode yB 7 = .ok (.aload_n 0, 1) := by decide +kernel
theorem d8 : decode yB 8 = .ok (.getfield 9, 3) := by decide +kernel
theorem d11 : decode yB 11 = .ok (.iload_n 1, 1) := by decide +kernel
theorem d12 : decode yB 12 = .ok (.invokestatic 495, 3) := by decide +kernel
theorem d15 : decode yB 15 = .ok (.ireturn, 1) := by decide +kernel
def site : List Cond := [.fieldLink "java/lang/String" 9 "java/lang/String" "value" "[B", IsL.tab, LChA.tab] ++ virtW "java/lang/String" 492 "java/lang/String" IsL.yN IsL.yN ++ staticW "java/lang/String" 495 LChA.yN
def tab : Cond := tabOf yN yB 2 (some .char) site
def P (x t : Addr) (V : Cell) (n : Nat) (f : Nat → Int32) (z : Int32) (fm : Value) (i : Nat) (args : Array Value) (s : State) : Prop := args = #[.ref x, .int (Int32.ofNat i)] ∧ Txt x t V 0 n f s ∧ i < n ∧ StaticIs s "java/lang/String" "COMPACT_STRINGS" "Z" (.int z) ∧ ¬ z = 0 ∧ StaticIs s "jdk/internal/util/Preconditions" "SIOOBE_FORMATTER" "Ljava/util/function/BiFunction;" fm ∧ fm.isRef = true
def E (f : Nat → Int32) (i : Nat) (r : Option Value) (s u : State) : Prop := XT.PureE (some (.int (f i))) r s u
/-- charAt(i) of a Latin-1 String of n chars, i < n: f i -/
theorem law (l : Launch) (x t : Addr) (V : Cell) (n : Nat) (f : Nat → Int32) (z : Int32) (fm : Value) (i : Nat) : Law l yN 2 1 3 40 yB 2 (some .char) site (P x t V n f z fm i) (E f i) [] 0 0 := by
  refine Law.of_walk (plainFor_of_name (by decide +kernel)) (by decide +kernel) (by decide +kernel) (by decide) (fun _ _ h => by rw [h.1]; rfl) (fun _ U U' hal hh h => ⟨h.1, h.2.1.mv hal hh, h.2.2.1, h.2.2.2.1.there hal hh, h.2.2.2.2.1, h.2.2.2.2.2.1.there hal hh, h.2.2.2.2.2.2⟩) (fun r U U' V V' h1 hal h2 h => XT.PureE.mv r U U' V V' h1 hal h2 h) ?_
  intro p e s m args below meth c s₁ X0 hexec hbytes hml hret hlk hnm hown hh0 W hP
  obtain ⟨rfl, hx, hi, s1, hz, s3, rf⟩ := hP
  have v31 := hx.2.2.2.1.2.2.2
  have hr := hx.2.2.2.2.2 i hi
  have hx0 := hx.mv X0.warmed.alike hh0
  have c1 : Steps p.tables e below (s₁.setTop (entryFrame m #[.ref x, .int (Int32.ofNat i)] 2)) (s₁.setTop (mkF m 1 #[.val (.ref x), .val (.int (Int32.ofNat i))] [.ref x])) := Steps.trans (entry rfl) (by
    show Steps p.tables e below (s₁.setTop (mkF m 0 #[.val (.ref x), .val (.int (Int32.ofNat i))] [])) _
    refine XS.aloadN X0.here hexec rfl (hb hbytes d0) rfl rfl ?_
    exact Steps.refl _)
  obtain ⟨v2, T2, X2, E2, g2⟩ := X0.callV hexec (IsL.law l x 0 z) hown (wks W (virtW "java/lang/String" 492 "java/lang/String" IsL.yN IsL.yN)) rfl (by decide) (wk W IsL.tab) (W := 0) (Nat.le_of_ble_eq_true rfl) (Nat.le_of_ble_eq_true rfl) (Nat.le_refl _) (Nat.le_refl _) (hx0.1.fc X0.warmed.alike) hx0.1.is (g := (mkF m 1 #[.val (.ref x), .val (.int (Int32.ofNat i))] [.ref x])) rfl (by rw [hml]; rfl) c1 (argsL := []) (rest := []) rfl rfl (by show 2 * 0 + 0 ≤ _; decide) (hb hbytes d1) (⟨rfl, hx0.2.2.1, hx.2.2.2.2.1.cd, s1.there X0.warmed.alike hh0, hz⟩)
  obtain ⟨rfl, q2⟩ := E2
  have hh2 := q2.trans hh0
  have hx2 := hx.mv X2.warmed.alike hh2
  obtain ⟨-, k1, k2⟩ | ⟨k0, -⟩ := hx.2.2.2.2.1
  · have c3 : Steps p.tables e below (s₁.setTop (entryFrame m #[.ref x, .int (Int32.ofNat i)] 2)) (T2.setTop (mkF m 8 #[.val (.ref x), .val (.int (Int32.ofNat i))] [.ref x])) := Steps.trans g2 (by
      refine XS.ifNo X2.here hexec rfl (hb hbytes d4) rfl (i0_eq_f (by decide)) ?_
      refine XS.aloadN X2.here hexec rfl (hb hbytes d7) rfl rfl ?_
      exact Steps.refl _)
    obtain ⟨T4, X4, q4, st4⟩ := X2.hget hexec hown (wk W (.fieldLink "java/lang/String" 9 "java/lang/String" "value" "[B")) hx2.2.1 (g := (mkF m 8 #[.val (.ref x), .val (.int (Int32.ofNat i))] [.ref x])) rfl (rest := []) rfl (hb hbytes d8)
    have hh4 := q4.trans hh2
    have c5 : Steps p.tables e below (s₁.setTop (entryFrame m #[.ref x, .int (Int32.ofNat i)] 2)) (T4.setTop (mkF m 12 #[.val (.ref x), .val (.int (Int32.ofNat i))] [.int (Int32.ofNat i), .ref t])) := (c3.trans (st4 _ (Steps.refl _))).trans (by
      refine XS.iloadN X4.here hexec rfl (hb hbytes d11) rfl ?_
      exact Steps.refl _)
    obtain ⟨v6, T6, X6, E6, g6⟩ := X4.callS hexec (LChA.law l t V i (lo8 (f i)) fm) hown (wks W (staticW "java/lang/String" 495 LChA.yN)) (wk W LChA.tab) (W := 0) (Nat.le_of_ble_eq_true rfl) (Nat.le_of_ble_eq_true rfl) (Nat.le_refl _) (Nat.le_refl _) (g := (mkF m 12 #[.val (.ref x), .val (.int (Int32.ofNat i))] [.int (Int32.ofNat i), .ref t])) rfl (by rw [hml]; rfl) c5 (argsL := [.ref t, .int (Int32.ofNat i)]) (rest := []) rfl rfl (by show 2 * 0 + 0 ≤ _; decide) (hb hbytes d12) (⟨rfl, hx.2.2.2.1.mv X4.warmed.alike hh4, (k2 i hi).1, s3.there X4.warmed.alike hh4, rf⟩)
    obtain ⟨rfl, q6⟩ := E6
    rw [chr8_lo8 hr.1 (k2 i hi).2] at g6
    exact ⟨T6, some (.int (f i)), _, _, _, X6, rfl, rfl, rfl, (fun h => by cases h), ⟨rfl, q6.trans hh4⟩, fun fs hl => Steps.trans g6 (X6.ireturnOut hexec hret (narrow_ch hr.1 hr.2) (Or.inr (Or.inr (Or.inr (Or.inl rfl)))) (hb hbytes d15) hl)⟩
  · exact absurd k0 (by decide)
theorem pays {l : Launch} {R : Room} {p : Program} {e : Env} {below : List Frame} {s : State} {sargs : Array Value} {len W : Nat} (x t : Addr) (V : Cell) (n : Nat) (f : Nat → Int32) (z : Int32) (fm : Value) (i : Nat) (htab : tab.before sargs s = true) (hfr : 4 ≤ R.frames) (hlo : W + 53 ≤ R.locals) :
    Back l R p e below s sargs yN len W (fun A₁ a₁ => A₁.cells + 0 ≤ R.cells ∧ A₁.slots + 0 ≤ R.slots ∧ P x t V n f z fm i a₁ A₁.U) (fun A₁ _ v₁ B₁ => E f i v₁ A₁.U B₁.U ∧ B₁.locs = A₁.locs ++ [] ∧ B₁.cells = A₁.cells + 0 ∧ B₁.slots = A₁.slots + 0) :=
  (law l x t V n f z fm i).pays htab hfr (by omega)
end ChN
end StrChars
namespace StrChars.Road
open Jvm Sem ClassFile Op Lib Jvm.Stand Jvm.Free Jvm.Free.XT
open Jvm.Lib.Cold (StaticIs)
/-- the words of String.charAt(int), the Latin-1 road alone -/
abbrev wordsChN : List Jvm.Cond := [.code ChN.yN ChN.yB 2 (some .char), .initialized ST, .fieldLink ST 9 ST "value" "[B", .fieldLink ST 38 ST "COMPACT_STRINGS" "Z", .fieldLink ST 15 ST "coder" "B", .code IsL.yN IsL.yB 1 (some .boolean), .methodLink ST 492 IsL.yN, .declares IsL.yN, .selects ST IsL.yN IsL.yN, .instanceMethod IsL.yN,
  .methodLink ST 495 LChA.yN, .static LChA.yN, .code LChA.yN LChA.yB 2 (some .char), .initialized "java/lang/StringLatin1", .methodLink "java/lang/StringLatin1" 9 JO.Str_checkIndex.yN, .static JO.Str_checkIndex.yN, .code JO.Str_checkIndex.yN JO.Str_checkIndex.yB 2 none,
  .fieldLink ST 1053 "jdk/internal/util/Preconditions" "SIOOBE_FORMATTER" "Ljava/util/function/BiFunction;", .methodLink ST 1059 JC.PreCheck.yN, .static JC.PreCheck.yN, .code JC.PreCheck.yN JC.PreCheck.yB 3 (some .int), .initialized "jdk/internal/util/Preconditions"]
theorem tabChN_of {a : Array Value} {s : State} (h : ∀ w ∈ wordsChN, w.before a s = true) : ChN.tab.before a s = true := by
  have hp : JC.PreCheck.tab.before a s = true := unparts (wk h (.code JC.PreCheck.yN JC.PreCheck.yB 3 (some .int))) (wks h (.initialized JC.PreCheck.yN.cls :: JC.PreCheck.site))
  have qk := consq hp h
  have hk : JO.Str_checkIndex.tab.before a s = true := unparts (wk qk (.code JO.Str_checkIndex.yN JO.Str_checkIndex.yB 2 none)) (wks qk (.initialized JO.Str_checkIndex.yN.cls :: JO.Str_checkIndex.site))
  have ql := consq hk h
  have hl : LChA.tab.before a s = true := unparts (wk ql (.code LChA.yN LChA.yB 2 (some .char))) (wks ql (.initialized LChA.yN.cls :: LChA.site))
  have hi : IsL.tab.before a s = true := unparts (wk h (.code IsL.yN IsL.yB 1 (some .boolean))) (wks h (.initialized IsL.yN.cls :: IsL.site))
  have q := consq hi (consq hl h)
  exact unparts (wk q (.code ChN.yN ChN.yB 2 (some .char))) (wks q (.initialized ChN.yN.cls :: ChN.site))
theorem movedChN {Z s : State} {a0 args : Array Value} (hZ : Z.Warmed39 s.vm) (hw : ∀ d ∈ wordsChN, d.before a0 Z = true) : ∀ d ∈ wordsChN, d.before args s = true := fun d hd => by
  have t : ∀ d ∈ wordsChN, (d.onTables && d.keepsFace) = true := by decide +kernel
  exact RoadKit.mv hZ (hw d hd) (t d hd)
/-- **charAt(i) OF A LATIN-1 STRING**, i < n: the char -/
theorem chN {p : Program} {l : Launch} {e : Env} {R : Room} {s : State} {args : Array Value} {below : List Frame} {len W : Nat} {Z : State} {a0 : Array Value} {h : Heap} (hZ : Z.Warmed39 s.vm) (hw : ∀ d ∈ wordsChN, d.before a0 Z = true) {kI : Nat} (wi : (Jvm.Cond.instantiable ST kI).before a0 Z = true)
    {x t : Addr} {kb : ClassId} {cs : List Int32} {N2 z : Int32} {vs : List Value} {fm : Value} {i : Nat} {j : Int32} (E : RoadKit.Exa Z h x ST) (V : RoadKit.Fld Z h x ST "value" "[B" (.ref t)) (C : RoadKit.Fld Z h x ST "coder" "B" (.int 0)) (K : RoadKit.Arv Z h t kb .byte N2 vs (.int 0)) (hc : CodA cs 0 N2 vs) (hb : ∀ c ∈ cs, ¬ c < 0 ∧ ¬ (65535 : Int32) < c)
    (S : RoadKit.Sta Z h ST "COMPACT_STRINGS" "Z" (.int z)) (hz : ¬ z = 0) (F : RoadKit.Sta Z h "jdk/internal/util/Preconditions" "SIOOBE_FORMATTER" "Ljava/util/function/BiFunction;" fm) (rf : fm.isRef = true) (l2 : cs.length ≤ 4000) (hi : i < cs.length) (hj : j = Int32.ofNat i) (hfr : 4 ≤ R.frames) (hlo : W + 53 ≤ R.locals) :
    Back l R p e below s args (⟨"java/lang/String", "charAt", "(I)C"⟩ : MethodName) len W (fun P a => a = #[.ref x, .int j] ∧ P.U.heap = h ∧ P.cells + 0 ≤ R.cells ∧ P.slots + 0 ≤ R.slots)
      (fun P _ v B => ∃ L, (v = some (.int (cs.getD i 0)) ∧ L = [] ∧ B.U.heap = h) ∧ B.locs = P.locs ++ L ∧ B.cells = P.cells + 0 ∧ B.slots = P.slots + 0) := by
  subst hj
  intro m meth c P g ig mk a X hg hsize hdg hW hn hp'
  obtain ⟨rfl, rfl, r1, r2⟩ := hp'
  have al : Z.vm.Alike P.U.vm := hZ.alike.trans X.warmed.alike
  obtain ⟨A, hx⟩ := txt_of wi al E V C K hc hb l2
  obtain ⟨v, B, X', ⟨⟨hv, hh⟩, hl, hk, hs⟩, st⟩ := ChN.pays x t A cs.length (fun j => cs.getD j 0) z fm i (tabChN_of (movedChN hZ hw)) hfr hlo m meth c P g ig mk _ X hg hsize hdg hW hn ⟨r1, r2, rfl, hx, hi, sta_is al S, hz, sta_is al F, rf⟩
  exact ⟨v, B, X', ⟨[], ⟨hv, rfl, hh⟩, hl, hk, hs⟩, st⟩
/-- what backV says of its String, as the contracts of this text ask it: cs's low bytes, coder 0 -/
theorem codOf {cs : List Int32} {n : Nat} (hn : cs.length = n) (hb : ∀ c ∈ cs, ¬ 255 < c) : CodA cs 0 (Int32.ofNat n) ((cs.map lo8).map Value.int) := Or.inl ⟨rfl, by rw [hn], by simp [List.map_map, Function.comp_def], hb⟩
end StrChars.Road
end Jvm.Pilot.@@N@@


namespace Jvm.Pilot.@@N@@
open Jvm Jvm.ClassFile Sem Op Lib Jvm.Free Jvm.Stand Jvm.LawKit Jvm.RoadKit Bundle Jvm.Pilot.@@N@@.Jvm.D
def own_Go (tb : Tables) (e : Env) (below : List Frame) (P : Outcome → State → Prop) (U : State) : Prop := ∃ s₂ o, Steps tb e below U s₂ ∧ s₂.status = .running ∧ Ended s₂ below o ∧ P o s₂
theorem own_Go.st {tb : Tables} {e : Env} {below : List Frame} {P : Outcome → State → Prop} {U U' : State} (h : ∀ t, Steps tb e below U' t → Steps tb e below U t) (k : own_Go tb e below P U') : own_Go tb e below P U := by
  obtain ⟨t, o, a, r⟩ := k
  exact ⟨t, o, h t a, r⟩
theorem own_Go.tr {tb : Tables} {e : Env} {below : List Frame} {P : Outcome → State → Prop} {U U' : State} (h : Steps tb e below U U') (k : own_Go tb e below P U') : own_Go tb e below P U := own_Go.st (fun _ a => h.trans a) k
section OwnRet
variable {p : Program} {l : Launch} {e : Env} {R : Room} {s : State} {m : MethodId} {args : Array Value} {below : List Frame} {meth : Method} {c : Code} {T : State} {locs : List Loc} {cells slots : Nat}
theorem own_retI (X : Stand p l e R s m args below meth c T locs cells slots) (hx : p.tables.exec = Jvm.exec) {pc : Nat} {Ls : Array Slot} {z : Int32} {rest : List Value} (hret : meth.sig.returnType = some .int) (hd : decode c.code pc = .ok (.ireturn, 1)) {fs : List Frame}
    (hl : ∀ (f : JFrame) (acts : List Action), f.method = m → f.locked = none → f.entered = [] → (doReturn e (T.setTop f) acts (some (.int z))).1 = T.setFrames fs) : Steps p.tables e below (T.setTop (mkF m pc Ls (.int z :: rest))) (T.setFrames fs) :=
  retOut X hx hret rfl (Or.inl ⟨rfl, Or.inl rfl, z, rfl⟩) hd hl
theorem own_retL (X : Stand p l e R s m args below meth c T locs cells slots) (hx : p.tables.exec = Jvm.exec) {pc : Nat} {Ls : Array Slot} {z : Int64} {rest : List Value} (hret : meth.sig.returnType = some .long) (hd : decode c.code pc = .ok (.lreturn, 1)) {fs : List Frame}
    (hl : ∀ (f : JFrame) (acts : List Action), f.method = m → f.locked = none → f.entered = [] → (doReturn e (T.setTop f) acts (some (.long z))).1 = T.setFrames fs) : Steps p.tables e below (T.setTop (mkF m pc Ls (.long z :: rest))) (T.setFrames fs) :=
  retOut X hx hret rfl (Or.inr (Or.inl ⟨rfl, rfl, z, rfl⟩)) hd hl
theorem own_narRef {t : FieldType} {w : Value} (ht : t.isReference = true) (hw : w.isRef = true) : narrow t w = w := by
  cases t <;> first | rfl | (simp [FieldType.isReference] at ht; done) | (cases w <;> first | rfl | simp [Value.isRef] at hw)
theorem own_retA (X : Stand p l e R s m args below meth c T locs cells slots) (hx : p.tables.exec = Jvm.exec) {pc : Nat} {Ls : Array Slot} {w : Value} {t : FieldType} {rest : List Value} (hret : meth.sig.returnType = some t) (ht : t.isReference = true) (hw : w.isRef = true) (hd : decode c.code pc = .ok (.areturn, 1)) {fs : List Frame}
    (hl : ∀ (f : JFrame) (acts : List Action), f.method = m → f.locked = none → f.entered = [] → (doReturn e (T.setTop f) acts (some w)).1 = T.setFrames fs) : Steps p.tables e below (T.setTop (mkF m pc Ls (w :: rest))) (T.setFrames fs) :=
  retOut X hx hret (own_narRef ht hw) (Or.inr (Or.inr (Or.inr (Or.inr ⟨rfl, ht, hw⟩)))) hd hl
end OwnRet
theorem own_selP {s : State} {args : Array Value} {C : String} {y : MethodName} (h : (Jvm.Cond.selects C y y).before args s = true) (hp : s.PrivateAt y) (hi : (Jvm.Cond.instanceMethod y).before args s = true) (hy : y.cls ≠ "java/lang/invoke/MethodHandle" ∧ y.cls ≠ "java/lang/invoke/VarHandle") : (Jvm.Cond.selects y.cls y y).before args s = true := by
  obtain ⟨c, r, m, -, -, q3, -, mk, k1, k2⟩ := Cond.selects_spec h
  exact Jvm.Stand.selects_self_of_private (findClass_of_methodNamed q3) k1 k2 hp hi hy
theorem own_nf {s : State} {args : Array Value} {C : String} {y y2 : MethodName} (h : (Jvm.Cond.selects C y2 y2).before args s = true) (he : y2.cls = y.cls) : NotFace s y := fun r0 h0 => by
  obtain ⟨c, r, m, -, -, q3, -, mk, k1, k2⟩ := Cond.selects_spec h
  have e1 := findClass_of_methodNamed q3
  have e2 := findClass_of_methodNamed h0
  rw [he] at e1
  have e3 : m.cls = r0.cls := Option.some.inj (e1.symm.trans e2)
  exact ⟨mk, e3 ▸ k1, k2⟩
theorem own_sameP {s : State} {args : Array Value} {C : String} {y y2 : MethodName} (hd : (Jvm.Cond.declares y).before args s = true) (h : (Jvm.Cond.selects C y2 y2).before args s = true) (he : y2.cls = y.cls) (hy : y.cls ≠ "java/lang/invoke/MethodHandle" ∧ y.cls ≠ "java/lang/invoke/VarHandle") : (Jvm.Cond.sameMethod y.cls y.cls y.name y.desc).before args s = true := by
  obtain ⟨c, r, m, -, -, q3, -, mk, k1, k2⟩ := Cond.selects_spec h
  have e1 := findClass_of_methodNamed q3
  rw [he] at e1
  cases hm : s.methodNamed? y with
  | none => simp [Cond.before, Cond.holds, Cond.value, hm] at hd
  | some mm =>
    have hf : s.methodFound? y.cls y.name y.desc = some mm := State.methodFound?_of_named hm hy
    have hm' : s.methodNamed? ⟨y.cls, y.name, y.desc⟩ = some mm := hm
    simp [Cond.before, Cond.holds, Cond.value, e1, hf, hm', k1, k2]
theorem own_nar {x : Int32} (h : ¬ x < 0 ∧ ¬ (65535 : Int32) < x) : nar .char x = x := by
  have q := c_i2c x
  have h1 := h.1; have h2 := h.2
  rw [Int32.lt_iff_toInt_lt] at h1 h2
  have e1 : (0 : Int32).toInt = 0 := by decide
  have e2 : (65535 : Int32).toInt = 65535 := by decide
  rw [e1] at h1; rw [e2] at h2
  show x.toUInt32.toUInt16.toUInt32.toInt32 = x
  apply Int32.toInt_inj.mp
  omega
theorem own_up {x : Int32} (h : ¬ x < 0 ∧ ¬ (255 : Int32) < x) : ¬ x < 0 ∧ ¬ (65535 : Int32) < x := by
  refine ⟨h.1, fun q => h.2 ?_⟩
  rw [Int32.lt_iff_toInt_lt] at q ⊢
  have e1 : (255 : Int32).toInt = 255 := by decide
  have e2 : (65535 : Int32).toInt = 65535 := by decide
  omega
theorem own_arvTy {Z : State} {h : Heap} {a b : Addr} {k k' : ClassId} {ty ty' : FieldType} {n n' : Int32} {vs vs' : List Value} {d d' : Value} (A : Arv Z h a k ty n vs d) (B : Arv Z h b k' ty' n' vs' d') (ht : ty ≠ ty') : a ≠ b := fun q => by
  subst q
  obtain ⟨c, C, -⟩ := A
  obtain ⟨c', C', -⟩ := B
  cases C.1.symm.trans C'.1
  obtain ⟨-, k1, j1, cp1, j2⟩ := C.2.1
  obtain ⟨-, k2, i1, cp2, i2⟩ := C'.2.1
  cases j1.symm.trans i1
  rw [j2] at i2
  cases i2
  exact ht rfl


def own_Str (Z : State) (h : Heap) (x t : Addr) (cs : List Int32) : Prop := ∃ (kb : ClassId) (cd N2 : Int32) (vs : List Value), Exa Z h x "java/lang/String" ∧ Fld Z h x "java/lang/String" "value" "[B" (.ref t) ∧ Fld Z h x "java/lang/String" "coder" "B" (.int cd) ∧ Arv Z h t kb .byte N2 vs (.int 0) ∧ StrChars.Road.CodA cs cd N2 vs ∧ (∀ c ∈ cs, ¬ c < 0 ∧ ¬ (65535 : Int32) < c) ∧ cs.length ≤ 4000
section OwnStr
variable {Z : State} {h h' : Heap} {x t a : Addr} {cs : List Int32} {sl : Nat} {v : Value} {ws : List Addr}
theorem own_Str.ext (F : own_Str Z h x t cs) (E : Ext h h') : own_Str Z h' x t cs := by
  obtain ⟨kb, cd, N2, vs, h1, h2, h3, h4, r⟩ := F
  exact ⟨kb, cd, N2, vs, h1.ext E, h2.ext E, h3.ext E, h4.ext E, r⟩
theorem own_Str.other (F : own_Str Z h x t cs) (W : Wr h h' a sl v) (n1 : x ≠ a) (n2 : t ≠ a) : own_Str Z h' x t cs := by
  obtain ⟨kb, cd, N2, vs, h1, h2, h3, h4, r⟩ := F
  exact ⟨kb, cd, N2, vs, h1.wr W, h2.other W (Or.inl n1), h3.other W (Or.inl n1), h4.other W n2, r⟩
theorem own_Str.keep (F : own_Str Z h x t cs) (K : Keep h h' ws) (n1 : x ∉ ws) (n2 : t ∉ ws) : own_Str Z h' x t cs := by
  obtain ⟨kb, cd, N2, vs, h1, h2, h3, h4, r⟩ := F
  exact ⟨kb, cd, N2, vs, h1.keep K, h2.keep K n1, h3.keep K n1, h4.keep K n2, r⟩
theorem own_Str.exa (F : own_Str Z h x t cs) : Exa Z h x "java/lang/String" := by obtain ⟨kb, cd, N2, vs, h1, -⟩ := F; exact h1
theorem own_Str.lt (F : own_Str Z h x t cs) : x < h.size := F.exa.lt
theorem own_Str.ltv (F : own_Str Z h x t cs) : t < h.size := by obtain ⟨kb, cd, N2, vs, -, -, -, h4, -⟩ := F; exact h4.lt
theorem own_Str.le (F : own_Str Z h x t cs) : cs.length ≤ 4000 := by obtain ⟨kb, cd, N2, vs, -, -, -, -, -, -, h⟩ := F; exact h
theorem own_Str.rng (F : own_Str Z h x t cs) : ∀ c ∈ cs, ¬ c < 0 ∧ ¬ (65535 : Int32) < c := by obtain ⟨kb, cd, N2, vs, -, -, -, -, -, h, -⟩ := F; exact h
theorem own_Str.neArv {b : Addr} {k : ClassId} {ty : FieldType} {n : Int32} {us : List Value} {d : Value} {a0 : Array Value} {kI : Nat} (F : own_Str Z h x t cs) (B : Arv Z h b k ty n us d) (wi : (Jvm.Cond.instantiable "java/lang/String" kI).before a0 Z = true) : x ≠ b := F.exa.neArv B wi
theorem own_Str.neV {b : Addr} {C : String} {a0 : Array Value} {kI : Nat} (F : own_Str Z h x t cs) (E : Exa Z h b C) (wi : (Jvm.Cond.instantiable C kI).before a0 Z = true) : b ≠ t := by
  obtain ⟨kb, cd, N2, vs, -, -, -, h4, -⟩ := F
  exact E.neArv h4 wi
theorem own_Str.neTy {b : Addr} {k : ClassId} {ty : FieldType} {n : Int32} {us : List Value} {d : Value} (F : own_Str Z h x t cs) (B : Arv Z h b k ty n us d) (ht : .byte ≠ ty) : t ≠ b := by
  obtain ⟨kb, cd, N2, vs, -, -, -, h4, -⟩ := F
  exact own_arvTy h4 B ht
end OwnStr


theorem own_a0 {P : Int32 → Prop} : ∀ c ∈ ([] : List Int32), P c := fun _ q => nomatch q
theorem own_aS {P : Int32 → Prop} {x : Int32} {L : List Int32} (h : P x) (r : ∀ c ∈ L, P c) : ∀ c ∈ x :: L, P c := fun c q => (List.mem_cons.mp q).elim (fun u => u ▸ h) (r c)
theorem own_upL {cs : List Int32} (h : ∀ c ∈ cs, ¬ c < 0 ∧ ¬ (255 : Int32) < c) : ∀ c ∈ cs, ¬ c < 0 ∧ ¬ (65535 : Int32) < c := fun c q => own_up (h c q)


theorem own_Str.lat {Z : State} {h : Heap} {x t : Addr} {cs : List Int32} (F : own_Str Z h x t cs) (hl : ∀ c ∈ cs, ¬ (255 : Int32) < c) : ∃ (kb : ClassId) (N2 : Int32) (vs : List Value), Exa Z h x "java/lang/String" ∧ Fld Z h x "java/lang/String" "value" "[B" (.ref t) ∧ Fld Z h x "java/lang/String" "coder" "B" (.int 0) ∧ Arv Z h t kb .byte N2 vs (.int 0) ∧ StrChars.Road.CodA cs 0 N2 vs := by
  obtain ⟨kb, cd, N2, vs, h1, h2, h3, h4, h5, -⟩ := F
  rcases h5 with ⟨rfl, a, b, c⟩ | ⟨-, -, -, c, hc, q⟩
  · exact ⟨kb, N2, vs, h1, h2, h3, h4, Or.inl ⟨rfl, a, b, c⟩⟩
  · exact absurd q (hl c hc)


theorem own_eqv {v : Option Value} {A : Prop} (h : (v = some (.int 1) ∧ A) ∨ (v = some (.int 0) ∧ ¬ A)) : ∃ r : Int32, v = some (.int r) ∧ ((r = 1 ∧ A) ∨ (r = 0 ∧ ¬ A)) := by
  rcases h with ⟨a, b⟩ | ⟨a, b⟩
  · exact ⟨1, a, Or.inl ⟨rfl, b⟩⟩
  · exact ⟨0, a, Or.inr ⟨rfl, b⟩⟩

theorem own_hws {a0 : Array Value} {Z : State} (hw : ∀ d ∈ tables_1, d.before a0 Z = true) : ∀ d ∈ StrChars.Road.words, d.before a0 Z = true := fun d hd => hw d ((by decide +kernel : ∀ d ∈ StrChars.Road.words, d ∈ tables_1) d hd)
theorem own_hln {a0 : Array Value} {Z : State} (hw : ∀ d ∈ tables_1, d.before a0 Z = true) : ∀ d ∈ StrChars.Road.wordsLen, d.before a0 Z = true := fun d hd => hw d ((by decide +kernel : ∀ d ∈ StrChars.Road.wordsLen, d ∈ tables_1) d hd)
theorem own_hch {a0 : Array Value} {Z : State} (hw : ∀ d ∈ tables_1, d.before a0 Z = true) : ∀ d ∈ StrChars.Road.wordsChN, d.before a0 Z = true := fun d hd => hw d ((by decide +kernel : ∀ d ∈ StrChars.Road.wordsChN, d ∈ tables_1) d hd)

theorem own_wS {a0 : Array Value} {Z : State} (hw : ∀ d ∈ tables_1, d.before a0 Z = true) : ∀ d ∈ Bundle.stringAtoms, d.before a0 Z = true := fun d hd => hw d ((by decide +kernel : ∀ d ∈ Bundle.stringAtoms, d ∈ tables_1) d hd)
theorem own_safeNull {Z : State} {EL : List (String × Nat)} {vm : Vm} {h : Heap} {x : Addr} (hal : Z.vm.Alike vm) (E : Exa Z h x "java/lang/String") (F : Fld Z h x "java/lang/String" "value" "[B" .null) : Safe Z EL vm h x := fun B => by
  obtain ⟨p, -, u, a, -, q, -, G, hx | hx⟩ := B
  · obtain ⟨cS, ⟨S1, -, -⟩, -⟩ := G
    obtain ⟨g1, -, -, ⟨c', k', i', g2, -⟩, -, -, -, g3, -⟩ := S1
    obtain ⟨cell, cf, k, i, f, e1, e2, -, -, -, -, e3⟩ := F
    obtain ⟨k2, g4⟩ := ff_back (U := Wst Z vm h) hal g2
    rw [hx] at e1
    have e4 : cell = q.sC := Option.some.inj (e1.symm.trans g1)
    have e5 : f = q.fSV := by
      have e6 := Option.some.inj (e2.symm.trans g4)
      simp only [Prod.mk.injEq] at e6
      exact e6.2.2.2
    rw [e4, e5, g3] at e3
    cases e3
  · have hd := G.hd
    obtain ⟨cS, -, -, f, -⟩ := G
    obtain ⟨cell, k, e1, e2, -⟩ := E
    rw [hx] at e1
    have e4 : cell = q.SA := Option.some.inj (e1.symm.trans hd)
    have f' : Z.vm.findClass "[B" = some q.SA.cls := by rw [← hal.findClass]; exact f
    rw [e4] at e2
    obtain ⟨k1, q1, q2⟩ := Vm.findClass_spec f'
    obtain ⟨k2, q3, q4⟩ := Vm.findClass_spec e2
    cases q1.symm.trans q3
    exact absurd (q2.symm.trans q4) (by decide)


theorem own_of {i : Nat} (h : i < 2147483648) : (Int32.ofNat i).toInt = i := Int32.toInt_ofNat_small h
theorem own_ofn {i : Nat} (h : i < 2147483648) : (Int32.ofNat i).toNatClampNeg = i := by
  have := own_of h
  simp only [Int32.toNatClampNeg, this]
  omega
theorem own_of0 {i : Nat} (h : i < 2147483648) : ¬ (Int32.ofNat i) < 0 := by
  have := own_of h
  have e0 : (0 : Int32).toInt = 0 := by decide
  rw [Int32.lt_iff_toInt_lt, this, e0]
  omega
theorem own_oflt {i j : Nat} (hi : i < 2147483648) (hj : j < 2147483648) : (Int32.ofNat i) < (Int32.ofNat j) ↔ i < j := by
  rw [Int32.lt_iff_toInt_lt, own_of hi, own_of hj]
  omega
theorem own_ofS {i : Nat} (h : i < 1073741823) : Int32.ofNat i + (1 : Int32) = Int32.ofNat (i + 1) := by
  apply Int32.toInt_inj.mp
  have a := c_iadd (Int32.ofNat i) 1
  have b := own_of (i := i) (by omega)
  have c := own_of (i := i + 1) (by omega)
  have r := rng32 (Int32.ofNat i + 1)
  have e1 : (1 : Int32).toInt = 1 := by decide
  omega
theorem own_getD {cs : List Int32} {i : Nat} (hi : i < cs.length) (hl : cs.length ≤ 4000) (d : Value) : (cs.map Value.int).getD (Int32.ofNat i).toNatClampNeg d = .int (cs.getD i 0) := by
  rw [own_ofn (by omega)]
  simp [List.getD_eq_getElem?_getD, hi]
theorem own_arvAny {Z : State} {h h' : Heap} {a : Addr} {k : ClassId} {ty : FieldType} {n j : Int32} {vs : List Value} {d v : Value} (F : Arv Z h a k ty n vs d) (hv : fits ty v = true) (hj : ¬ j < 0 ∧ j < n) (W : Wr h h' a j.toNatClampNeg v) : ∃ vs', Arv Z h' a k ty n vs' d := by
  have F' := F.pad (pad_rep vs d (j.toNatClampNeg + 1))
  obtain ⟨c, A, q1, S, q3, H, G⟩ := F'
  exact ⟨_, Arv.set A q1 S q3 H G hv W j.toNatClampNeg rfl (by simp only [List.length_append, List.length_replicate]; omega)⟩


theorem own_Str.latF {Z : State} {h : Heap} {x t : Addr} {cs : List Int32} (F : own_Str Z h x t cs) (hl : ∀ c ∈ cs, ¬ (255 : Int32) < c) : ∃ (kb : ClassId), Exa Z h x "java/lang/String" ∧ Fld Z h x "java/lang/String" "value" "[B" (.ref t) ∧ Fld Z h x "java/lang/String" "coder" "B" (.int (0 : Int32)) ∧ Arv Z h t kb .byte (Int32.ofNat cs.length) (cs.map fun c => Value.int (StrChars.lo8 c)) (.int (0 : Int32)) := by
  obtain ⟨kb, N2, vs, h1, h2, h3, h4, h5⟩ := F.lat hl
  rcases h5 with ⟨-, hN, hv, -⟩ | ⟨q, -⟩
  · subst hN hv; exact ⟨kb, h1, h2, h3, h4⟩
  · exact absurd q (by decide)
theorem own_Str.mkL {Z : State} {h : Heap} {x t : Addr} {cs : List Int32} {kb : ClassId} (h1 : Exa Z h x "java/lang/String") (h2 : Fld Z h x "java/lang/String" "value" "[B" (.ref t)) (h3 : Fld Z h x "java/lang/String" "coder" "B" (.int (0 : Int32))) (h4 : Arv Z h t kb .byte (Int32.ofNat cs.length) (cs.map fun c => Value.int (StrChars.lo8 c)) (.int (0 : Int32))) (hl : ∀ c ∈ cs, ¬ c < 0 ∧ ¬ (255 : Int32) < c) (hn : cs.length ≤ 4000) : own_Str Z h x t cs :=
  ⟨kb, 0, _, _, h1, h2, h3, h4, Or.inl ⟨rfl, rfl, rfl, fun c q => (hl c q).2⟩, own_upL hl, hn⟩
theorem own_shl0 (x : Int32) : x <<< ((0 : Int32) &&& 31) = x := by
  apply Int32.toInt_inj.mp
  have a := c_ishl x 0 0 (by decide)
  have r := rng32 x
  have r2 := rng32 (x <<< ((0 : Int32) &&& 31))
  omega
theorem own_shr0 (x : Int32) : x >>> ((0 : Int32) &&& 31) = x := by
  apply Int32.toInt_inj.mp
  have a := c_ishr x 0 0 (by decide)
  omega
theorem own_ofA {i j : Nat} (h : i + j < 1073741823) : Int32.ofNat i + Int32.ofNat j = Int32.ofNat (i + j) := by
  apply Int32.toInt_inj.mp
  have a := c_iadd (Int32.ofNat i) (Int32.ofNat j)
  have b := own_of (i := i) (by omega)
  have c := own_of (i := j) (by omega)
  have d := own_of (i := i + j) (by omega)
  have r := rng32 (Int32.ofNat i + Int32.ofNat j)
  omega
theorem own_ofB {i j : Nat} (h : i < 1073741823) (hj : j ≤ i) : Int32.ofNat i - Int32.ofNat j = Int32.ofNat (i - j) := by
  apply Int32.toInt_inj.mp
  have a := c_isub (Int32.ofNat i) (Int32.ofNat j)
  have b := own_of (i := i) (by omega)
  have c := own_of (i := j) (by omega)
  have d := own_of (i := i - j) (by omega)
  have r := rng32 (Int32.ofNat i - Int32.ofNat j)
  omega
theorem own_ofBle {i j : Nat} (h : i < 1073741823) (hj : j < 1073741823) : (0 : Int32) < Int32.ofNat i - Int32.ofNat j ↔ j < i := by
  have a := c_isub (Int32.ofNat i) (Int32.ofNat j)
  have b := own_of (i := i) (by omega)
  have c := own_of (i := j) (by omega)
  have r := rng32 (Int32.ofNat i - Int32.ofNat j)
  have e0 : (0 : Int32).toInt = 0 := by decide
  rw [Int32.lt_iff_toInt_lt, e0]
  omega
theorem own_ofE {i j : Nat} (hi : i < 2147483648) (hj : j < 2147483648) : Int32.ofNat i = Int32.ofNat j ↔ i = j := ⟨fun q => by
    have q2 := congrArg Int32.toInt q
    rw [own_of hi, own_of hj] at q2
    omega, fun q => by rw [q]⟩
abbrev own_low (cs : List Int32) : List Value := cs.map fun c => Value.int (StrChars.lo8 c)
theorem own_lowG (cs : List Int32) (i : Nat) (d : Value) : (own_low cs).getD i d = if i < cs.length then .int (StrChars.lo8 (cs.getD i 0)) else d := by
  by_cases h : i < cs.length
  · simp [own_low, List.getD_eq_getElem?_getD, h]
  · simp [own_low, List.getD_eq_getElem?_getD, h, List.getElem?_eq_none (Nat.le_of_not_lt h)]
theorem own_appG (cs ds : List Int32) (i : Nat) : (cs ++ ds).getD i 0 = if i < cs.length then cs.getD i 0 else ds.getD (i - cs.length) 0 := by
  by_cases h : i < cs.length
  · rw [if_pos h]; simp [List.getD_eq_getElem?_getD, List.getElem?_append_left h]
  · rw [if_neg h]; simp [List.getD_eq_getElem?_getD, List.getElem?_append_right (Nat.le_of_not_lt h)]
theorem own_us (ds : List Int32) (hn : ds.length < 2147483648) : own_low ds = (List.range (Int32.ofNat ds.length).toNatClampNeg).map fun i => (own_low ds).getD ((0 : Int32).toNatClampNeg + i) (.int (0 : Int32)) := by
  rw [own_ofn hn]
  have e0 : (0 : Int32).toNatClampNeg = 0 := by decide
  rw [e0]
  apply List.ext_getElem
  · simp [own_low]
  · intro i h1 h2
    simp [own_low, List.getD_eq_getElem?_getD] at h1 ⊢
    simp [h1]
theorem own_appV {Z : State} {h : Heap} {a : Addr} {k : ClassId} {n : Int32} {cs ds : List Int32} {m : Nat} (F : Arv Z h a k .byte n (((own_low cs ++ List.replicate m (Value.int (0 : Int32))).take (Int32.ofNat cs.length).toNatClampNeg) ++ own_low ds ++ ((own_low cs ++ List.replicate m (Value.int (0 : Int32))).drop ((Int32.ofNat cs.length).toNatClampNeg + (Int32.ofNat ds.length).toNatClampNeg))) (.int (0 : Int32))) (h1 : cs.length < 100000) (h2 : ds.length < 100000) : Arv Z h a k .byte n (own_low (cs ++ ds)) (.int (0 : Int32)) := by
  refine F.pad (fun i => ?_)
  rw [own_ofn (by omega), own_ofn (by omega)]
  have e1 : (own_low cs ++ List.replicate m (Value.int (0 : Int32))).take cs.length = own_low cs := by
    rw [List.take_append_of_le_length (by simp [own_low]), List.take_of_length_le (by simp [own_low])]
  have e2 : (own_low cs ++ List.replicate m (Value.int (0 : Int32))).drop (cs.length + ds.length) = List.replicate (m - ds.length) (Value.int (0 : Int32)) := by
    rw [List.drop_append, List.drop_of_length_le (by simp [own_low]), List.drop_replicate, List.nil_append]
    congr 1
    simp [own_low]
  rw [e1, e2, show own_low (cs ++ ds) = own_low cs ++ own_low ds by simp [own_low]]
  exact (pad_rep (own_low cs ++ own_low ds) _ _ i).symm

theorem pn_0 : plainName "java/lang/AbstractStringBuilder" = true := by first | (simp [plainName, overriddenIn]; done) | decide +kernel
theorem ef_1 (m : MethodId) (x0 : Nat) (x1 : Int32) : entryFrame m #[(.ref x0), (.int x1)] 2 = mkF m 0 #[.val (.ref x0), .val (.int x1)] [] := by first | (simp [entryFrame, mkF, argsToLocals, Value.category]; done) | rfl
theorem d_jdk_68_method_2_0 : decode jdk_68_method_2_code 0 = .ok (.aload_n 0, 1) := by decide +kernel
theorem d_jdk_68_method_2_1 : decode jdk_68_method_2_code 1 = .ok (.invokespecial 3, 3) := by decide +kernel
theorem d_jdk_68_method_2_4 : decode jdk_68_method_2_code 4 = .ok (.getstatic 18, 3) := by decide +kernel
theorem d_jdk_68_method_2_7 : decode jdk_68_method_2_code 7 = .ok (.ifCond .eq 18, 3) := by decide +kernel
theorem d_jdk_68_method_2_10 : decode jdk_68_method_2_code 10 = .ok (.aload_n 0, 1) := by decide +kernel
theorem d_jdk_68_method_2_11 : decode jdk_68_method_2_code 11 = .ok (.iload_n 1, 1) := by decide +kernel
theorem d_jdk_68_method_2_12 : decode jdk_68_method_2_code 12 = .ok (.newarray .byte, 2) := by decide +kernel
theorem d_jdk_68_method_2_14 : decode jdk_68_method_2_code 14 = .ok (.putfield 15, 3) := by decide +kernel
theorem d_jdk_68_method_2_17 : decode jdk_68_method_2_code 17 = .ok (.aload_n 0, 1) := by decide +kernel
theorem d_jdk_68_method_2_18 : decode jdk_68_method_2_code 18 = .ok (.iconst 0, 1) := by decide +kernel
theorem d_jdk_68_method_2_19 : decode jdk_68_method_2_code 19 = .ok (.putfield 22, 3) := by decide +kernel
theorem d_jdk_68_method_2_22 : decode jdk_68_method_2_code 22 = .ok (.goto 16, 3) := by decide +kernel
theorem d_jdk_68_method_2_38 : decode jdk_68_method_2_code 38 = .ok (.return_, 1) := by decide +kernel
def Q_asbinit (Z : State) (a1 : Nat) (zc : Int32) (h0 : Heap) (v : Option Value) (h : Heap) (L : List Loc) : Prop := ∃ (a3 : Nat), ∃ (k : ClassId), v = none ∧ Fr Z.heap.size L ∧ Keep h0 h [a1] ∧ Exa Z h a1 "java/lang/StringBuilder" ∧ Fld Z h a1 "java/lang/AbstractStringBuilder" "value" "[B" (.ref a3) ∧ Fld Z h a1 "java/lang/AbstractStringBuilder" "coder" "B" (.int (0 : Int32)) ∧ Fld Z h a1 "java/lang/AbstractStringBuilder" "count" "I" (.int (0 : Int32)) ∧ Arv Z h a3 k .byte (Int32.ofNat 16) (own_low ([] : List Int32)) (.int (0 : Int32)) ∧ (h0.size ≤ a3)
set_option maxRecDepth 65536 in
set_option maxHeartbeats 40000000 in
theorem rm_asbinit (l : Launch) (Z : State) (a0 : Array Value) (hw : ∀ d ∈ tables_1, d.before a0 Z = true) (ws : List Jvm.Cond) (a1 : Nat) (zc : Int32) (h0 : Heap) (OL : Old Z Z.heap.size h0) (p0_ : Exa Z h0 a1 "java/lang/StringBuilder") (p1_ : Fld Z h0 a1 "java/lang/AbstractStringBuilder" "value" "[B" .null) (p2_ : Fld Z h0 a1 "java/lang/AbstractStringBuilder" "coder" "B" (.int (0 : Int32))) (p3_ : Fld Z h0 a1 "java/lang/AbstractStringBuilder" "count" "I" (.int (0 : Int32))) (st_COMPACT_STRINGS : Sta Z Z.heap "java/lang/String" "COMPACT_STRINGS" "Z" (.int zc)) (hzc : ¬ zc = 0) (hn0 : Z.heap.size ≤ a1) :
    MetFree l (⟨"java/lang/AbstractStringBuilder", "<init>", "(I)V"⟩ : MethodName) (head1 (Jvm.Cond.code (⟨"java/lang/AbstractStringBuilder", "<init>", "(I)V"⟩ : MethodName) jdk_68_method_2_code 2 none :: ws) ({ frames := 1, cells := 1, slots := 16, locals := 12 } : Room)) (fun a U => a = #[(.ref a1), (.int (16 : Int32))] ∧ Z.Warmed39 U.vm ∧ U.heap = h0) (fun _ _ _ _ _ => True) (fun _ U o U' => ∃ v L, o = .returned v ∧ Q_asbinit Z a1 zc h0 v U'.heap L ∧ FrameEnd U o U' L ({ frames := 1, cells := 1, slots := 16, locals := 12 } : Room).cells ({ frames := 1, cells := 1, slots := 16, locals := 12 } : Room).slots) := by
  refine MetFree.of_bodySF (plainFor_of_name pn_0) hisR ?_
  intro p e s m args below meth c s₁ Bd hml0 hP hK
  obtain ⟨rfl, hZ, hh⟩ := hP
  have hx := Bd.exec
  have hby := Bd.bytes
  have hml : c.maxLocals = 2 := hml0
  have hown : s.vm.findClass "java/lang/AbstractStringBuilder" = some m.cls := findClass_of_methodNamed Bd.named
  have hnm := (name_of_methodNamed Bd.named Bd.method).1
  have X0 : Stand p l e ({ frames := 1, cells := 1, slots := 16, locals := 12 } : Room) s m #[(.ref a1), (.int (16 : Int32))] below meth c s₁ [] 0 0 := Stand.of_body Bd
  have e0 : s₁.heap = h0 := by rw [← hh, Bd.state]; rfl
  have N0 := Fr.nil Z.heap.size
  have Z0 : Z.heap.size ≤ h0.size := OL.2.1
  have lt_0 : @LT.lt Nat _ a1 h0.size := p0_.lt
  have lt_1 : @LT.lt Nat _ a1 h0.size := p1_.lt
  have lt_2 : @LT.lt Nat _ a1 h0.size := p2_.lt
  have lt_3 : @LT.lt Nat _ a1 h0.size := p3_.lt
  obtain ⟨PP, hPP⟩ : ∃ PP : Outcome → State → Prop, PP = (fun o tE => ∃ v L, o = .returned v ∧ Q_asbinit Z a1 zc h0 v tE.heap L ∧ FrameEnd s o tE L ({ frames := 1, cells := 1, slots := 16, locals := 12 } : Room).cells ({ frames := 1, cells := 1, slots := 16, locals := 12 } : Room).slots) := ⟨_, rfl⟩
  show own_Go p.tables e below (fun o tE => ∃ v L, o = .returned v ∧ Q_asbinit Z a1 zc h0 v tE.heap L ∧ FrameEnd s o tE L ({ frames := 1, cells := 1, slots := 16, locals := 12 } : Room).cells ({ frames := 1, cells := 1, slots := 16, locals := 12 } : Room).slots) (s₁.setTop (entryFrame m #[(.ref a1), (.int (16 : Int32))] 2))
  rw [← hPP]
  refine own_Go.st (fun t k => castTop (ef_1 m a1 (16 : Int32)) k) ?_
  show own_Go _ _ _ _ (s₁.setTop (mkF m 0 #[.val (.ref a1), .val (.int (16 : Int32))] []))
  refine own_Go.st (fun _ k => XS.aloadN X0.here hx rfl (hb hby d_jdk_68_method_2_0) rfl rfl k) ?_
  show own_Go _ _ _ _ (s₁.setTop (mkF m 1 #[.val (.ref a1), .val (.int (16 : Int32))] [(.ref a1)]))
  obtain ⟨T101, X101, e101, st101⟩ := initO X0 hx hZ hown (hw _ (List.mem_of_getElem? (i := 50) rfl)) (hw _ (List.mem_of_getElem? (i := 16) rfl)) (hw _ (List.mem_of_getElem? (i := 17) rfl)) e0 (g := (mkF m 1 #[.val (.ref a1), .val (.int (16 : Int32))] [(.ref a1)])) rfl (by rw [hml]; rfl) rfl (hb hby d_jdk_68_method_2_1) (by decide) (W := 0) (by show 2 * 0 + _ ≤ _; exact Nat.le_of_eq rfl) (by decide)
  refine own_Go.st st101 ?_
  show own_Go _ _ _ _ (T101.setTop (mkF m 4 #[.val (.ref a1), .val (.int (16 : Int32))] []))
  obtain ⟨T102, X102, e102, st102⟩ := getS2 X101 hx hZ hown (host := "") (Or.inl (hw _ (List.mem_of_getElem? (i := 51) rfl))) Via.refl e101 (st_COMPACT_STRINGS.ext OL.2) (g := (mkF m 4 #[.val (.ref a1), .val (.int (16 : Int32))] [])) rfl (hb hby d_jdk_68_method_2_4)
  refine own_Go.st st102 ?_
  show own_Go _ _ _ _ (T102.setTop (mkF m 7 #[.val (.ref a1), .val (.int (16 : Int32))] [(.int zc)]))
  have hc103 : ¬ (zc = (0 : Int32)) := hzc
  refine own_Go.st (fun _ k => XS.ifNo X102.here hx rfl (hb hby d_jdk_68_method_2_7) rfl ((if0 _ _).trans (feq hc103).1) k) ?_
  show own_Go _ _ _ _ (T102.setTop (mkF m 10 #[.val (.ref a1), .val (.int (16 : Int32))] []))
  refine own_Go.st (fun _ k => XS.aloadN X102.here hx rfl (hb hby d_jdk_68_method_2_10) rfl rfl k) ?_
  show own_Go _ _ _ _ (T102.setTop (mkF m 11 #[.val (.ref a1), .val (.int (16 : Int32))] [(.ref a1)]))
  refine own_Go.st (fun _ k => XS.iloadN X102.here hx rfl (hb hby d_jdk_68_method_2_11) rfl k) ?_
  show own_Go _ _ _ _ (T102.setTop (mkF m 12 #[.val (.ref a1), .val (.int (16 : Int32))] [(.int (16 : Int32)), (.ref a1)]))
  obtain ⟨T104, h104, k104, X104, e104, E104, A104, st104⟩ := newP X102 hx hZ (hw _ (List.mem_of_getElem? (i := 23) rfl)) e102 (g := (mkF m 12 #[.val (.ref a1), .val (.int (16 : Int32))] [(.int (16 : Int32)), (.ref a1)])) rfl (hb hby d_jdk_68_method_2_12) rfl (by decide) (cap := 16) (by decide) (by decide) (by decide) (by decide)
  obtain ⟨b104, g104⟩ : ∃ z, z = h0.size := ⟨_, rfl⟩
  rw [← g104] at A104 st104
  refine own_Go.st st104 ?_
  have z104 : h0.size ≤ h104.size := E104.1
  have f105 : Arv Z h104 b104 k104 .byte (16 : Int32) [] (.int (0 : Int32)) := Arv.new A104 (by decide)
  have lt_b104 : @LT.lt Nat _ b104 h104.size := f105.lt
  show own_Go _ _ _ _ (T104.setTop (mkF m 14 #[.val (.ref a1), .val (.int (16 : Int32))] [(.ref b104), (.ref a1)]))
  have f106 : Fld Z h104 a1 "java/lang/AbstractStringBuilder" "value" "[B" .null := p1_.ext E104
  have f107 : Exa Z h104 a1 "java/lang/StringBuilder" := p0_.ext E104
  obtain ⟨T108, h108, X108, e108, W108, st108⟩ := putF X104 hx hZ hown (host := "") (Or.inl (hw _ (List.mem_of_getElem? (i := 52) rfl))) Via.refl e104 f106 f107 (Or.inl (hw _ (List.mem_of_getElem? (i := 53) rfl))) (hw _ (List.mem_of_getElem? (i := 39) rfl)) (ty := (.array .byte)) (by decide) rfl rfl (g := (mkF m 14 #[.val (.ref a1), .val (.int (16 : Int32))] [(.ref b104), (.ref a1)])) rfl rfl (hb hby d_jdk_68_method_2_14)
  refine own_Go.st st108 ?_
  have N108 := Fr.snoc X108 N0 (by omega)
  have z108 : h104.size ≤ h108.size := Nat.le_of_eq W108.size.symm
  have f109 : Fld Z h108 a1 "java/lang/AbstractStringBuilder" "value" "[B" (.ref b104) := f106.same W108
  show own_Go _ _ _ _ (T108.setTop (mkF m 17 #[.val (.ref a1), .val (.int (16 : Int32))] []))
  refine own_Go.st (fun _ k => XS.aloadN X108.here hx rfl (hb hby d_jdk_68_method_2_17) rfl rfl k) ?_
  show own_Go _ _ _ _ (T108.setTop (mkF m 18 #[.val (.ref a1), .val (.int (16 : Int32))] [(.ref a1)]))
  refine own_Go.st (fun _ k => XS.iconst X108.here hx rfl (hb hby d_jdk_68_method_2_18) k) ?_
  show own_Go _ _ _ _ (T108.setTop (mkF m 19 #[.val (.ref a1), .val (.int (16 : Int32))] [(.int (0 : Int32)), (.ref a1)]))
  have f110 : Fld Z h104 a1 "java/lang/AbstractStringBuilder" "coder" "B" (.int (0 : Int32)) := p2_.ext E104
  have f111 : Fld Z h108 a1 "java/lang/AbstractStringBuilder" "coder" "B" (.int (0 : Int32)) := f110.other W108 (Or.inr (slot_ne (Or.inl (hw _ (List.mem_of_getElem? (i := 55) rfl))) (Or.inl (hw _ (List.mem_of_getElem? (i := 53) rfl))) (by decide) (t := .byte) (t' := (.array .byte)) (by decide) (by decide)))
  have f112 : Exa Z h108 a1 "java/lang/StringBuilder" := f107.wr W108
  obtain ⟨T113, h113, X113, e113, W113, st113⟩ := putF X108 hx hZ hown (host := "") (Or.inl (hw _ (List.mem_of_getElem? (i := 54) rfl))) Via.refl e108 f111 f112 (Or.inl (hw _ (List.mem_of_getElem? (i := 55) rfl))) (hw _ (List.mem_of_getElem? (i := 39) rfl)) (ty := .byte) (by decide) rfl (by decide) (g := (mkF m 19 #[.val (.ref a1), .val (.int (16 : Int32))] [(.int (0 : Int32)), (.ref a1)])) rfl rfl (hb hby d_jdk_68_method_2_19)
  refine own_Go.st st113 ?_
  have N113 := Fr.snoc X113 N108 (by omega)
  have z113 : h108.size ≤ h113.size := Nat.le_of_eq W113.size.symm
  have f114 : Fld Z h113 a1 "java/lang/AbstractStringBuilder" "coder" "B" (.int (0 : Int32)) := f111.same W113
  show own_Go _ _ _ _ (T113.setTop (mkF m 22 #[.val (.ref a1), .val (.int (16 : Int32))] []))
  refine own_Go.st (fun _ k => XS.goto X113.here hx rfl (pc0 := 22) (pc' := 38) rfl (hb hby d_jdk_68_method_2_22) (by decide) (by decide) k) ?_
  show own_Go _ _ _ _ (T113.setTop (mkF m 38 #[.val (.ref a1), .val (.int (16 : Int32))] []))
  obtain ⟨fs115, hr115, hrun115, hend115, hW115, hsm115⟩ := X113.leave (v := none) (fun _ => rfl)
  have f116 : Fld Z h113 a1 "java/lang/AbstractStringBuilder" "value" "[B" (.ref b104) := f109.other W113 (Or.inr (slot_ne (Or.inl (hw _ (List.mem_of_getElem? (i := 53) rfl))) (Or.inl (hw _ (List.mem_of_getElem? (i := 55) rfl))) (by decide) (t := (.array .byte)) (t' := .byte) (by decide) (by decide)))
  have f117 : Fld Z h104 a1 "java/lang/AbstractStringBuilder" "count" "I" (.int (0 : Int32)) := p3_.ext E104
  have f118 : Fld Z h108 a1 "java/lang/AbstractStringBuilder" "count" "I" (.int (0 : Int32)) := f117.other W108 (Or.inr (slot_ne (Or.inl (hw _ (List.mem_of_getElem? (i := 123) rfl))) (Or.inl (hw _ (List.mem_of_getElem? (i := 53) rfl))) (by decide) (t := .int) (t' := (.array .byte)) (by decide) (by decide)))
  have f119 : Fld Z h113 a1 "java/lang/AbstractStringBuilder" "count" "I" (.int (0 : Int32)) := f118.other W113 (Or.inr (slot_ne (Or.inl (hw _ (List.mem_of_getElem? (i := 123) rfl))) (Or.inl (hw _ (List.mem_of_getElem? (i := 55) rfl))) (by decide) (t := .int) (t' := .byte) (by decide) (by decide)))
  have ne120 : @Ne Nat a1 b104 := Exa.neArv f107 f105 (hw _ (List.mem_of_getElem? (i := 39) rfl))
  have f121 : Arv Z h108 b104 k104 .byte (16 : Int32) [] (.int (0 : Int32)) := f105.other W108 (Ne.symm ne120)
  have f122 : Arv Z h113 b104 k104 .byte (16 : Int32) [] (.int (0 : Int32)) := f121.other W113 (Ne.symm ne120)
  have K123 : Keep h0 h104 [a1] := (Keep.refl h0 [a1]).ext E104
  have K124 : Keep h0 h108 [a1] := K123.wr W108 (Or.inl (List.mem_of_getElem? (i := 0) rfl))
  have K125 : Keep h0 h113 [a1] := K124.wr W113 (Or.inl (List.mem_of_getElem? (i := 0) rfl))
  have f126 : Exa Z h113 a1 "java/lang/StringBuilder" := f112.wr W113
  subst hPP
  refine ⟨_, _, X113.returnOut hx Bd.returns (hb hby d_jdk_68_method_2_38) hr115, hrun115, hend115, _, _, rfl, ?_, ⟨_, rfl⟩, hW115, hsm115.mono (by decide) (by decide)⟩
  · show Q_asbinit Z _ _ h0 _ T113.heap _
    rw [e113]
    exact ⟨b104, k104, rfl, N113, K125, f126, f116, f114, f119, f122, (by omega)⟩
theorem pn_15 : plainName "java/lang/StringBuilder" = true := by first | (simp [plainName, overriddenIn]; done) | decide +kernel
theorem ef_16 (m : MethodId) (x0 : Nat) : entryFrame m #[(.ref x0)] 1 = mkF m 0 #[.val (.ref x0)] [] := by first | (simp [entryFrame, mkF, argsToLocals, Value.category]; done) | rfl
theorem d_jdk_67_method_1_0 : decode jdk_67_method_1_code 0 = .ok (.aload_n 0, 1) := by decide +kernel
theorem d_jdk_67_method_1_1 : decode jdk_67_method_1_code 1 = .ok (.bipush 16, 2) := by decide +kernel
theorem pd_19 : parseMethodDescriptor "(I)V" = some ⟨[.int], none⟩ := by decide +kernel
theorem d_jdk_67_method_1_3 : decode jdk_67_method_1_code 3 = .ok (.invokespecial 1, 3) := by decide +kernel
theorem d_jdk_67_method_1_6 : decode jdk_67_method_1_code 6 = .ok (.return_, 1) := by decide +kernel
def Q_sbinit (Z : State) (a1 : Nat) (zc : Int32) (h0 : Heap) (v : Option Value) (h : Heap) (L : List Loc) : Prop := ∃ (a3 : Nat), ∃ (k : ClassId), v = none ∧ Fr Z.heap.size L ∧ Keep h0 h [a1] ∧ Exa Z h a1 "java/lang/StringBuilder" ∧ Fld Z h a1 "java/lang/AbstractStringBuilder" "value" "[B" (.ref a3) ∧ Fld Z h a1 "java/lang/AbstractStringBuilder" "coder" "B" (.int (0 : Int32)) ∧ Fld Z h a1 "java/lang/AbstractStringBuilder" "count" "I" (.int (0 : Int32)) ∧ Arv Z h a3 k .byte (Int32.ofNat 16) (own_low ([] : List Int32)) (.int (0 : Int32)) ∧ (h0.size ≤ a3)
set_option maxRecDepth 65536 in
set_option maxHeartbeats 40000000 in
theorem rm_sbinit (l : Launch) (Z : State) (a0 : Array Value) (hw : ∀ d ∈ tables_1, d.before a0 Z = true) (ws : List Jvm.Cond) (a1 : Nat) (zc : Int32) (h0 : Heap) (OL : Old Z Z.heap.size h0) (p0_ : Exa Z h0 a1 "java/lang/StringBuilder") (p1_ : Fld Z h0 a1 "java/lang/AbstractStringBuilder" "value" "[B" .null) (p2_ : Fld Z h0 a1 "java/lang/AbstractStringBuilder" "coder" "B" (.int (0 : Int32))) (p3_ : Fld Z h0 a1 "java/lang/AbstractStringBuilder" "count" "I" (.int (0 : Int32))) (st_COMPACT_STRINGS : Sta Z Z.heap "java/lang/String" "COMPACT_STRINGS" "Z" (.int zc)) (hzc : ¬ zc = 0) (hn0 : Z.heap.size ≤ a1) :
    MetFree l (⟨"java/lang/StringBuilder", "<init>", "()V"⟩ : MethodName) (head1 (Jvm.Cond.code (⟨"java/lang/StringBuilder", "<init>", "()V"⟩ : MethodName) jdk_67_method_1_code 1 none :: ws) ({ frames := 2, cells := 1, slots := 16, locals := 27 } : Room)) (fun a U => a = #[(.ref a1)] ∧ Z.Warmed39 U.vm ∧ U.heap = h0) (fun _ _ _ _ _ => True) (fun _ U o U' => ∃ v L, o = .returned v ∧ Q_sbinit Z a1 zc h0 v U'.heap L ∧ FrameEnd U o U' L ({ frames := 2, cells := 1, slots := 16, locals := 27 } : Room).cells ({ frames := 2, cells := 1, slots := 16, locals := 27 } : Room).slots) := by
  refine MetFree.of_bodySF (plainFor_of_name pn_15) hisR ?_
  intro p e s m args below meth c s₁ Bd hml0 hP hK
  obtain ⟨rfl, hZ, hh⟩ := hP
  have hx := Bd.exec
  have hby := Bd.bytes
  have hml : c.maxLocals = 1 := hml0
  have hown : s.vm.findClass "java/lang/StringBuilder" = some m.cls := findClass_of_methodNamed Bd.named
  have hnm := (name_of_methodNamed Bd.named Bd.method).1
  have X0 : Stand p l e ({ frames := 2, cells := 1, slots := 16, locals := 27 } : Room) s m #[(.ref a1)] below meth c s₁ [] 0 0 := Stand.of_body Bd
  have e0 : s₁.heap = h0 := by rw [← hh, Bd.state]; rfl
  have N0 := Fr.nil Z.heap.size
  have Z0 : Z.heap.size ≤ h0.size := OL.2.1
  have lt_0 : @LT.lt Nat _ a1 h0.size := p0_.lt
  have lt_1 : @LT.lt Nat _ a1 h0.size := p1_.lt
  have lt_2 : @LT.lt Nat _ a1 h0.size := p2_.lt
  have lt_3 : @LT.lt Nat _ a1 h0.size := p3_.lt
  obtain ⟨PP, hPP⟩ : ∃ PP : Outcome → State → Prop, PP = (fun o tE => ∃ v L, o = .returned v ∧ Q_sbinit Z a1 zc h0 v tE.heap L ∧ FrameEnd s o tE L ({ frames := 2, cells := 1, slots := 16, locals := 27 } : Room).cells ({ frames := 2, cells := 1, slots := 16, locals := 27 } : Room).slots) := ⟨_, rfl⟩
  show own_Go p.tables e below (fun o tE => ∃ v L, o = .returned v ∧ Q_sbinit Z a1 zc h0 v tE.heap L ∧ FrameEnd s o tE L ({ frames := 2, cells := 1, slots := 16, locals := 27 } : Room).cells ({ frames := 2, cells := 1, slots := 16, locals := 27 } : Room).slots) (s₁.setTop (entryFrame m #[(.ref a1)] 1))
  rw [← hPP]
  refine own_Go.st (fun t k => castTop (ef_16 m a1) k) ?_
  show own_Go _ _ _ _ (s₁.setTop (mkF m 0 #[.val (.ref a1)] []))
  refine own_Go.st (fun _ k => XS.aloadN X0.here hx rfl (hb hby d_jdk_67_method_1_0) rfl rfl k) ?_
  show own_Go _ _ _ _ (s₁.setTop (mkF m 1 #[.val (.ref a1)] [(.ref a1)]))
  refine own_Go.st (fun _ k => XS.bipush X0.here hx rfl (hb hby d_jdk_67_method_1_1) k) ?_
  show own_Go _ _ _ _ (s₁.setTop (mkF m 3 #[.val (.ref a1)] [(.int (16 : Int32)), (.ref a1)]))
  obtain ⟨_, _, ⟨T127, L127, k127, n127⟩, -, X127, ⟨Lc127, hQ127, l127, y127, z127⟩, st127⟩ := X0.specialBack hx (y := (⟨"java/lang/AbstractStringBuilder", "<init>", "(I)V"⟩ : MethodName)) rfl hown (mvT hZ (hw _ (List.mem_of_getElem? (i := 44) rfl))) (mvT hZ (hw _ (List.mem_of_getElem? (i := 45) rfl))) (mvT hZ (hw _ (List.mem_of_getElem? (i := 49) rfl))) (by decide) (backOf (W := 0) (rm_asbinit l Z a0 hw [] a1 zc h0 OL p0_ p1_ p2_ p3_ st_COMPACT_STRINGS (by first | assumption | decide) (by first | assumption | decide)) hZ (hw _ (List.mem_of_getElem? (i := 49) rfl)) (hw _ (List.mem_of_getElem? (i := 48) rfl)) (by decide) (by decide)) (g := (mkF m 3 #[.val (.ref a1)] [(.int (16 : Int32)), (.ref a1)])) rfl (by rw [hml]; rfl) (Steps.refl _) (a := a1) (argsL := [(.int (16 : Int32))]) (rest := []) (lenOf pd_19 rfl) rfl (by show 2 * 0 + _ ≤ _; exact Nat.le_of_eq rfl) (hb hby d_jdk_67_method_1_3) (fun _ _ => ⟨rfl, e0, (by decide : 0 + 1 ≤ _), (by decide : 0 + 16 ≤ _)⟩)
  dsimp only [Pt.U, Pt.locs, Pt.cells, Pt.slots] at X127 l127 y127 z127 st127 hQ127
  subst l127 y127 z127
  obtain ⟨a3_127, k_127, rfl, N127q, K127, f127_0, f127_1, f127_2, f127_3, f127_4, pr127_0⟩ := hQ127
  have N127 := Fr.app N0 N127q
  have z127 : h0.size ≤ T127.heap.size := K127.1
  have lt127_0 : @LT.lt Nat _ a1 T127.heap.size := f127_0.lt
  have lt127_1 : @LT.lt Nat _ a1 T127.heap.size := f127_1.lt
  have lt127_2 : @LT.lt Nat _ a1 T127.heap.size := f127_2.lt
  have lt127_3 : @LT.lt Nat _ a1 T127.heap.size := f127_3.lt
  have lt127_4 : @LT.lt Nat _ a3_127 T127.heap.size := f127_4.lt
  refine own_Go.tr st127 ?_
  show own_Go _ _ _ _ (T127.setTop (mkF m 6 #[.val (.ref a1)] []))
  obtain ⟨fs128, hr128, hrun128, hend128, hW128, hsm128⟩ := X127.leave (v := none) (fun _ => rfl)
  have K129 : Keep h0 T127.heap [a1] := (Keep.refl h0 [a1]).trans K127 (allS (Or.inl (List.mem_of_getElem? (i := 0) rfl)) all0)
  subst hPP
  refine ⟨_, _, X127.returnOut hx Bd.returns (hb hby d_jdk_67_method_1_6) hr128, hrun128, hend128, _, _, rfl, ?_, ⟨_, rfl⟩, hW128, hsm128.mono (by decide) (by decide)⟩
  · show Q_sbinit Z _ _ h0 _ T127.heap _
    exact ⟨a3_127, k_127, rfl, N127, K129, f127_0, f127_1, f127_2, f127_3, f127_4, (by omega)⟩
theorem pn_22 : plainName "java/lang/String" = true := by first | (simp [plainName, overriddenIn]; done) | decide +kernel
theorem d_jdk_42_method_152_0 : decode jdk_42_method_152_code 0 = .ok (.getstatic 38, 3) := by decide +kernel
theorem d_jdk_42_method_152_3 : decode jdk_42_method_152_code 3 = .ok (.ifCond .eq 10, 3) := by decide +kernel
theorem d_jdk_42_method_152_6 : decode jdk_42_method_152_code 6 = .ok (.aload_n 0, 1) := by decide +kernel
theorem d_jdk_42_method_152_7 : decode jdk_42_method_152_code 7 = .ok (.getfield 15, 3) := by decide +kernel
theorem d_jdk_42_method_152_10 : decode jdk_42_method_152_code 10 = .ok (.goto 4, 3) := by decide +kernel
theorem d_jdk_42_method_152_14 : decode jdk_42_method_152_code 14 = .ok (.ireturn, 1) := by decide +kernel
def Q_scoder (Z : State) (a1 : Nat) (zc : Int32) (h0 : Heap) (v : Option Value) (h : Heap) (L : List Loc) : Prop := v = some (.int (0 : Int32)) ∧ Fr Z.heap.size L ∧ h = h0
set_option maxRecDepth 65536 in
set_option maxHeartbeats 40000000 in
theorem rm_scoder (l : Launch) (Z : State) (a0 : Array Value) (hw : ∀ d ∈ tables_1, d.before a0 Z = true) (ws : List Jvm.Cond) (a1 : Nat) (zc : Int32) (h0 : Heap) (OL : Old Z Z.heap.size h0) (p0_ : Fld Z h0 a1 "java/lang/String" "coder" "B" (.int (0 : Int32))) (st_COMPACT_STRINGS : Sta Z Z.heap "java/lang/String" "COMPACT_STRINGS" "Z" (.int zc)) (hzc : ¬ zc = 0) :
    MetFree l (⟨"java/lang/String", "coder", "()B"⟩ : MethodName) (head1 (Jvm.Cond.code (⟨"java/lang/String", "coder", "()B"⟩ : MethodName) jdk_42_method_152_code 1 (some .byte) :: ws) ({ frames := 0, cells := 0, slots := 0, locals := 0 } : Room)) (fun a U => a = #[(.ref a1)] ∧ Z.Warmed39 U.vm ∧ U.heap = h0) (fun _ _ _ _ _ => True) (fun _ U o U' => ∃ v L, o = .returned v ∧ Q_scoder Z a1 zc h0 v U'.heap L ∧ FrameEnd U o U' L ({ frames := 0, cells := 0, slots := 0, locals := 0 } : Room).cells ({ frames := 0, cells := 0, slots := 0, locals := 0 } : Room).slots) := by
  refine MetFree.of_bodySF (plainFor_of_name pn_22) hisR ?_
  intro p e s m args below meth c s₁ Bd hml0 hP hK
  obtain ⟨rfl, hZ, hh⟩ := hP
  have hx := Bd.exec
  have hby := Bd.bytes
  have hml : c.maxLocals = 1 := hml0
  have hown : s.vm.findClass "java/lang/String" = some m.cls := findClass_of_methodNamed Bd.named
  have hnm := (name_of_methodNamed Bd.named Bd.method).1
  have X0 : Stand p l e ({ frames := 0, cells := 0, slots := 0, locals := 0 } : Room) s m #[(.ref a1)] below meth c s₁ [] 0 0 := Stand.of_body Bd
  have e0 : s₁.heap = h0 := by rw [← hh, Bd.state]; rfl
  have N0 := Fr.nil Z.heap.size
  have Z0 : Z.heap.size ≤ h0.size := OL.2.1
  have lt_0 : @LT.lt Nat _ a1 h0.size := p0_.lt
  obtain ⟨PP, hPP⟩ : ∃ PP : Outcome → State → Prop, PP = (fun o tE => ∃ v L, o = .returned v ∧ Q_scoder Z a1 zc h0 v tE.heap L ∧ FrameEnd s o tE L ({ frames := 0, cells := 0, slots := 0, locals := 0 } : Room).cells ({ frames := 0, cells := 0, slots := 0, locals := 0 } : Room).slots) := ⟨_, rfl⟩
  show own_Go p.tables e below (fun o tE => ∃ v L, o = .returned v ∧ Q_scoder Z a1 zc h0 v tE.heap L ∧ FrameEnd s o tE L ({ frames := 0, cells := 0, slots := 0, locals := 0 } : Room).cells ({ frames := 0, cells := 0, slots := 0, locals := 0 } : Room).slots) (s₁.setTop (entryFrame m #[(.ref a1)] 1))
  rw [← hPP]
  refine own_Go.st (fun t k => castTop (ef_16 m a1) k) ?_
  show own_Go _ _ _ _ (s₁.setTop (mkF m 0 #[.val (.ref a1)] []))
  obtain ⟨T130, X130, e130, st130⟩ := getS2 X0 hx hZ hown (host := "") (Or.inl (hw _ (List.mem_of_getElem? (i := 18) rfl))) Via.refl e0 (st_COMPACT_STRINGS.ext OL.2) (g := (mkF m 0 #[.val (.ref a1)] [])) rfl (hb hby d_jdk_42_method_152_0)
  refine own_Go.st st130 ?_
  show own_Go _ _ _ _ (T130.setTop (mkF m 3 #[.val (.ref a1)] [(.int zc)]))
  have hc131 : ¬ (zc = (0 : Int32)) := hzc
  refine own_Go.st (fun _ k => XS.ifNo X130.here hx rfl (hb hby d_jdk_42_method_152_3) rfl ((if0 _ _).trans (feq hc131).1) k) ?_
  show own_Go _ _ _ _ (T130.setTop (mkF m 6 #[.val (.ref a1)] []))
  refine own_Go.st (fun _ k => XS.aloadN X130.here hx rfl (hb hby d_jdk_42_method_152_6) rfl rfl k) ?_
  show own_Go _ _ _ _ (T130.setTop (mkF m 7 #[.val (.ref a1)] [(.ref a1)]))
  obtain ⟨T132, X132, e132, st132⟩ := getF X130 hx hZ hown (host := "") (Or.inl (hw _ (List.mem_of_getElem? (i := 30) rfl))) Via.refl e130 p0_ (g := (mkF m 7 #[.val (.ref a1)] [(.ref a1)])) rfl rfl (hb hby d_jdk_42_method_152_7)
  refine own_Go.st st132 ?_
  show own_Go _ _ _ _ (T132.setTop (mkF m 10 #[.val (.ref a1)] [(.int (0 : Int32))]))
  refine own_Go.st (fun _ k => XS.goto X132.here hx rfl (pc0 := 10) (pc' := 14) rfl (hb hby d_jdk_42_method_152_10) (by decide) (by decide) k) ?_
  show own_Go _ _ _ _ (T132.setTop (mkF m 14 #[.val (.ref a1)] [(.int (0 : Int32))]))
  obtain ⟨fs133, hr133, hrun133, hend133, hW133, hsm133⟩ := X132.leave (v := some (.int (nar .byte (0 : Int32)))) (fun h => by rw [Bd.returns] at h; cases h)
  subst hPP
  refine ⟨_, _, retN X132 hx (t := .byte) Bd.returns (by simp) (hb hby d_jdk_42_method_152_14) hr133, hrun133, hend133, _, _, rfl, ?_, ⟨_, rfl⟩, hW133, hsm133.mono (by decide) (by decide)⟩
  · show Q_scoder Z _ _ h0 _ T132.heap _
    rw [e132]
    exact ⟨rfl, N0, rfl⟩
theorem ef_29 (m : MethodId) (x0 : Nat) (x1 : Nat) : entryFrame m #[(.ref x0), (.ref x1)] 2 = mkF m 0 #[.val (.ref x0), .val (.ref x1)] [] := by first | (simp [entryFrame, mkF, argsToLocals, Value.category]; done) | rfl
theorem d_jdk_68_method_71_0 : decode jdk_68_method_71_code 0 = .ok (.getstatic 18, 3) := by decide +kernel
theorem d_jdk_68_method_71_3 : decode jdk_68_method_71_code 3 = .ok (.ifCond .eq 18, 3) := by decide +kernel
theorem d_jdk_68_method_71_6 : decode jdk_68_method_71_code 6 = .ok (.aload_n 0, 1) := by decide +kernel
theorem d_jdk_68_method_71_7 : decode jdk_68_method_71_code 7 = .ok (.getfield 22, 3) := by decide +kernel
theorem d_jdk_68_method_71_10 : decode jdk_68_method_71_code 10 = .ok (.aload_n 1, 1) := by decide +kernel
theorem pd_35 : parseMethodDescriptor "()B" = some ⟨[], some .byte⟩ := by decide +kernel
theorem d_jdk_68_method_71_11 : decode jdk_68_method_71_code 11 = .ok (.invokevirtual 40, 3) := by decide +kernel
theorem d_jdk_68_method_71_14 : decode jdk_68_method_71_code 14 = .ok (.if_icmp .eq 7, 3) := by decide +kernel
theorem d_jdk_68_method_71_21 : decode jdk_68_method_71_code 21 = .ok (.return_, 1) := by decide +kernel
def Q_inflate (Z : State) (a1 : Nat) (a2 : Nat) (zc : Int32) (h0 : Heap) (v : Option Value) (h : Heap) (L : List Loc) : Prop := v = none ∧ Fr Z.heap.size L ∧ h = h0
set_option maxRecDepth 65536 in
set_option maxHeartbeats 40000000 in
theorem rm_inflate (l : Launch) (Z : State) (a0 : Array Value) (hw : ∀ d ∈ tables_1, d.before a0 Z = true) (ws : List Jvm.Cond) (a1 : Nat) (a2 : Nat) (zc : Int32) (h0 : Heap) (OL : Old Z Z.heap.size h0) (p0_ : Fld Z h0 a1 "java/lang/AbstractStringBuilder" "coder" "B" (.int (0 : Int32))) (p1_ : Exa Z h0 a2 "java/lang/String") (p2_ : Fld Z h0 a2 "java/lang/String" "coder" "B" (.int (0 : Int32))) (st_COMPACT_STRINGS : Sta Z Z.heap "java/lang/String" "COMPACT_STRINGS" "Z" (.int zc)) (hzc : ¬ zc = 0) :
    MetFree l (⟨"java/lang/AbstractStringBuilder", "inflateIfNeededFor", "(Ljava/lang/String;)V"⟩ : MethodName) (head1 (Jvm.Cond.code (⟨"java/lang/AbstractStringBuilder", "inflateIfNeededFor", "(Ljava/lang/String;)V"⟩ : MethodName) jdk_68_method_71_code 2 none :: ws) ({ frames := 1, cells := 0, slots := 0, locals := 13 } : Room)) (fun a U => a = #[(.ref a1), (.ref a2)] ∧ Z.Warmed39 U.vm ∧ U.heap = h0) (fun _ _ _ _ _ => True) (fun _ U o U' => ∃ v L, o = .returned v ∧ Q_inflate Z a1 a2 zc h0 v U'.heap L ∧ FrameEnd U o U' L ({ frames := 1, cells := 0, slots := 0, locals := 13 } : Room).cells ({ frames := 1, cells := 0, slots := 0, locals := 13 } : Room).slots) := by
  refine MetFree.of_bodySF (plainFor_of_name pn_0) hisR ?_
  intro p e s m args below meth c s₁ Bd hml0 hP hK
  obtain ⟨rfl, hZ, hh⟩ := hP
  have hx := Bd.exec
  have hby := Bd.bytes
  have hml : c.maxLocals = 2 := hml0
  have hown : s.vm.findClass "java/lang/AbstractStringBuilder" = some m.cls := findClass_of_methodNamed Bd.named
  have hnm := (name_of_methodNamed Bd.named Bd.method).1
  have X0 : Stand p l e ({ frames := 1, cells := 0, slots := 0, locals := 13 } : Room) s m #[(.ref a1), (.ref a2)] below meth c s₁ [] 0 0 := Stand.of_body Bd
  have e0 : s₁.heap = h0 := by rw [← hh, Bd.state]; rfl
  have N0 := Fr.nil Z.heap.size
  have Z0 : Z.heap.size ≤ h0.size := OL.2.1
  have lt_0 : @LT.lt Nat _ a1 h0.size := p0_.lt
  have lt_1 : @LT.lt Nat _ a2 h0.size := p1_.lt
  have lt_2 : @LT.lt Nat _ a2 h0.size := p2_.lt
  obtain ⟨PP, hPP⟩ : ∃ PP : Outcome → State → Prop, PP = (fun o tE => ∃ v L, o = .returned v ∧ Q_inflate Z a1 a2 zc h0 v tE.heap L ∧ FrameEnd s o tE L ({ frames := 1, cells := 0, slots := 0, locals := 13 } : Room).cells ({ frames := 1, cells := 0, slots := 0, locals := 13 } : Room).slots) := ⟨_, rfl⟩
  show own_Go p.tables e below (fun o tE => ∃ v L, o = .returned v ∧ Q_inflate Z a1 a2 zc h0 v tE.heap L ∧ FrameEnd s o tE L ({ frames := 1, cells := 0, slots := 0, locals := 13 } : Room).cells ({ frames := 1, cells := 0, slots := 0, locals := 13 } : Room).slots) (s₁.setTop (entryFrame m #[(.ref a1), (.ref a2)] 2))
  rw [← hPP]
  refine own_Go.st (fun t k => castTop (ef_29 m a1 a2) k) ?_
  show own_Go _ _ _ _ (s₁.setTop (mkF m 0 #[.val (.ref a1), .val (.ref a2)] []))
  obtain ⟨T134, X134, e134, st134⟩ := getS2 X0 hx hZ hown (host := "") (Or.inl (hw _ (List.mem_of_getElem? (i := 51) rfl))) Via.refl e0 (st_COMPACT_STRINGS.ext OL.2) (g := (mkF m 0 #[.val (.ref a1), .val (.ref a2)] [])) rfl (hb hby d_jdk_68_method_71_0)
  refine own_Go.st st134 ?_
  show own_Go _ _ _ _ (T134.setTop (mkF m 3 #[.val (.ref a1), .val (.ref a2)] [(.int zc)]))
  have hc135 : ¬ (zc = (0 : Int32)) := hzc
  refine own_Go.st (fun _ k => XS.ifNo X134.here hx rfl (hb hby d_jdk_68_method_71_3) rfl ((if0 _ _).trans (feq hc135).1) k) ?_
  show own_Go _ _ _ _ (T134.setTop (mkF m 6 #[.val (.ref a1), .val (.ref a2)] []))
  refine own_Go.st (fun _ k => XS.aloadN X134.here hx rfl (hb hby d_jdk_68_method_71_6) rfl rfl k) ?_
  show own_Go _ _ _ _ (T134.setTop (mkF m 7 #[.val (.ref a1), .val (.ref a2)] [(.ref a1)]))
  obtain ⟨T136, X136, e136, st136⟩ := getF X134 hx hZ hown (host := "") (Or.inl (hw _ (List.mem_of_getElem? (i := 54) rfl))) Via.refl e134 p0_ (g := (mkF m 7 #[.val (.ref a1), .val (.ref a2)] [(.ref a1)])) rfl rfl (hb hby d_jdk_68_method_71_7)
  refine own_Go.st st136 ?_
  show own_Go _ _ _ _ (T136.setTop (mkF m 10 #[.val (.ref a1), .val (.ref a2)] [(.int (0 : Int32))]))
  refine own_Go.st (fun _ k => XS.aloadN X136.here hx rfl (hb hby d_jdk_68_method_71_10) rfl rfl k) ?_
  show own_Go _ _ _ _ (T136.setTop (mkF m 11 #[.val (.ref a1), .val (.ref a2)] [(.ref a2), (.int (0 : Int32))]))
  obtain ⟨cq137, kq137, q137a, q137b, q137c⟩ := isOf hZ e136 p1_
  obtain ⟨_, _, ⟨T137, L137, k137, n137⟩, -, X137, ⟨Lc137, hQ137, l137, y137, z137⟩, st137⟩ := X136.virtualBack hx (y := (⟨"java/lang/String", "coder", "()B"⟩ : MethodName)) (z := (⟨"java/lang/String", "coder", "()B"⟩ : MethodName)) hown (mvT hZ (hw _ (List.mem_of_getElem? (i := 139) rfl))) (mvT hZ (hw _ (List.mem_of_getElem? (i := 62) rfl))) (notFace_of_selects (args := #[]) (mvT hZ (hw _ (List.mem_of_getElem? (i := 64) rfl)))) (mvT hZ (hw _ (List.mem_of_getElem? (i := 64) rfl))) (mvT hZ (hw _ (List.mem_of_getElem? (i := 63) rfl))) (by decide) (backOf (W := 1) (rm_scoder l Z a0 hw [] a2 zc h0 OL p2_ st_COMPACT_STRINGS (by first | assumption | decide)) hZ (hw _ (List.mem_of_getElem? (i := 65) rfl)) (hw _ (List.mem_of_getElem? (i := 6) rfl)) (by decide) (by decide)) q137a q137c (g := (mkF m 11 #[.val (.ref a1), .val (.ref a2)] [(.ref a2), (.int (0 : Int32))])) rfl (by rw [hml]; rfl) (Steps.refl _) (argsL := []) (rest := [(.int (0 : Int32))]) (lenOf pd_35 rfl) rfl (by show 2 * 0 + _ ≤ _; exact Nat.le_of_eq rfl) (hb hby d_jdk_68_method_71_11) (fun _ _ => ⟨rfl, e136, (by decide : 0 + 0 ≤ _), (by decide : 0 + 0 ≤ _)⟩)
  dsimp only [Pt.U, Pt.locs, Pt.cells, Pt.slots] at X137 l137 y137 z137 st137 hQ137
  subst l137 y137 z137
  obtain ⟨rfl, N137q, K137⟩ := hQ137
  have N137 := Fr.app N0 N137q
  refine own_Go.tr st137 ?_
  show own_Go _ _ _ _ (T137.setTop (mkF m 14 #[.val (.ref a1), .val (.ref a2)] [(.int (0 : Int32)), (.int (0 : Int32))]))
  refine own_Go.st (fun _ k => XS.icmpYes X137.here hx rfl (pc0 := 14) (pc' := 21) rfl (hb hby d_jdk_68_method_71_14) rfl (teq (rfl : (0 : Int32) = (0 : Int32))).1 (by decide) (by decide) k) ?_
  show own_Go _ _ _ _ (T137.setTop (mkF m 21 #[.val (.ref a1), .val (.ref a2)] []))
  obtain ⟨fs138, hr138, hrun138, hend138, hW138, hsm138⟩ := X137.leave (v := none) (fun _ => rfl)
  subst hPP
  refine ⟨_, _, X137.returnOut hx Bd.returns (hb hby d_jdk_68_method_71_21) hr138, hrun138, hend138, _, _, rfl, ?_, ⟨_, rfl⟩, hW138, hsm138.mono (by decide) (by decide)⟩
  · show Q_inflate Z _ _ _ h0 _ T137.heap _
    rw [K137]
    exact ⟨rfl, N137, rfl⟩
theorem ef_39 (m : MethodId) (x0 : Nat) (x1 : Nat) (x2 : Int32) (x3 : Int32) : entryFrame m #[(.ref x0), (.ref x1), (.int x2), (.int x3)] 4 = mkF m 0 #[.val (.ref x0), .val (.ref x1), .val (.int x2), .val (.int x3)] [] := by first | (simp [entryFrame, mkF, argsToLocals, Value.category]; done) | rfl
theorem d_jdk_42_method_147_0 : decode jdk_42_method_147_code 0 = .ok (.aload_n 0, 1) := by decide +kernel
theorem d_jdk_42_method_147_1 : decode jdk_42_method_147_code 1 = .ok (.invokevirtual 335, 3) := by decide +kernel
theorem d_jdk_42_method_147_4 : decode jdk_42_method_147_code 4 = .ok (.iload_n 3, 1) := by decide +kernel
theorem d_jdk_42_method_147_5 : decode jdk_42_method_147_code 5 = .ok (.if_icmp .ne 23, 3) := by decide +kernel
theorem d_jdk_42_method_147_8 : decode jdk_42_method_147_code 8 = .ok (.aload_n 0, 1) := by decide +kernel
theorem d_jdk_42_method_147_9 : decode jdk_42_method_147_code 9 = .ok (.getfield 9, 3) := by decide +kernel
theorem d_jdk_42_method_147_12 : decode jdk_42_method_147_code 12 = .ok (.iconst 0, 1) := by decide +kernel
theorem d_jdk_42_method_147_13 : decode jdk_42_method_147_code 13 = .ok (.aload_n 1, 1) := by decide +kernel
theorem d_jdk_42_method_147_14 : decode jdk_42_method_147_code 14 = .ok (.iload_n 2, 1) := by decide +kernel
theorem d_jdk_42_method_147_15 : decode jdk_42_method_147_code 15 = .ok (.iload_n 3, 1) := by decide +kernel
theorem d_jdk_42_method_147_16 : decode jdk_42_method_147_code 16 = .ok (.ishl, 1) := by decide +kernel
theorem d_jdk_42_method_147_17 : decode jdk_42_method_147_code 17 = .ok (.aload_n 0, 1) := by decide +kernel
theorem d_jdk_42_method_147_18 : decode jdk_42_method_147_code 18 = .ok (.getfield 9, 3) := by decide +kernel
theorem d_jdk_42_method_147_21 : decode jdk_42_method_147_code 21 = .ok (.arraylength, 1) := by decide +kernel
theorem d_jdk_42_method_147_22 : decode jdk_42_method_147_code 22 = .ok (.invokestatic 212, 3) := by decide +kernel
theorem d_jdk_42_method_147_25 : decode jdk_42_method_147_code 25 = .ok (.goto 18, 3) := by decide +kernel
theorem d_jdk_42_method_147_43 : decode jdk_42_method_147_code 43 = .ok (.return_, 1) := by decide +kernel
def Q_getBytes (Z : State) (a1 : Nat) (a2 : Nat) (p3 : Int32) (t : Nat) (cs : List Int32) (ds : List Int32) (cap : Nat) (k : ClassId) (kt : ClassId) (zc : Int32) (h0 : Heap) (v : Option Value) (h : Heap) (L : List Loc) : Prop := v = none ∧ Fr Z.heap.size L ∧ Keep h0 h [a2] ∧ Arv Z h a2 k .byte (Int32.ofNat cap) (own_low (cs ++ ds)) (.int (0 : Int32))
set_option maxRecDepth 65536 in
set_option maxHeartbeats 40000000 in
theorem rm_getBytes (l : Launch) (Z : State) (a0 : Array Value) (hw : ∀ d ∈ tables_1, d.before a0 Z = true) (ws : List Jvm.Cond) (a1 : Nat) (a2 : Nat) (p3 : Int32) (t : Nat) (cs : List Int32) (ds : List Int32) (cap : Nat) (k : ClassId) (kt : ClassId) (zc : Int32) (h0 : Heap) (OL : Old Z Z.heap.size h0) (p0_ : Exa Z h0 a1 "java/lang/String") (p1_ : Fld Z h0 a1 "java/lang/String" "value" "[B" (.ref t)) (p2_ : Fld Z h0 a1 "java/lang/String" "coder" "B" (.int (0 : Int32))) (p3_ : Arv Z h0 t kt .byte (Int32.ofNat ds.length) (own_low ds) (.int (0 : Int32))) (p4_ : Arv Z h0 a2 k .byte (Int32.ofNat cap) (own_low cs) (.int (0 : Int32))) (st_COMPACT_STRINGS : Sta Z Z.heap "java/lang/String" "COMPACT_STRINGS" "Z" (.int zc)) (hzc : ¬ zc = 0) (hp3 : p3 = Int32.ofNat cs.length) (hfit : cs.length + ds.length ≤ cap) (hcap : cap ≤ 100) (hne : @Ne Nat t a2) (hn0 : Z.heap.size ≤ a2) :
    MetFree l (⟨"java/lang/String", "getBytes", "([BIB)V"⟩ : MethodName) (head1 (Jvm.Cond.code (⟨"java/lang/String", "getBytes", "([BIB)V"⟩ : MethodName) jdk_42_method_147_code 4 none :: ws) ({ frames := 1, cells := 0, slots := 0, locals := 40 } : Room)) (fun a U => a = #[(.ref a1), (.ref a2), (.int p3), (.int (0 : Int32))] ∧ Z.Warmed39 U.vm ∧ U.heap = h0) (fun _ _ _ _ _ => True) (fun _ U o U' => ∃ v L, o = .returned v ∧ Q_getBytes Z a1 a2 p3 t cs ds cap k kt zc h0 v U'.heap L ∧ FrameEnd U o U' L ({ frames := 1, cells := 0, slots := 0, locals := 40 } : Room).cells ({ frames := 1, cells := 0, slots := 0, locals := 40 } : Room).slots) := by
  refine MetFree.of_bodySF (plainFor_of_name pn_22) hisR ?_
  intro p e s m args below meth c s₁ Bd hml0 hP hK
  obtain ⟨rfl, hZ, hh⟩ := hP
  have hx := Bd.exec
  have hby := Bd.bytes
  have hml : c.maxLocals = 4 := hml0
  have hown : s.vm.findClass "java/lang/String" = some m.cls := findClass_of_methodNamed Bd.named
  have hnm := (name_of_methodNamed Bd.named Bd.method).1
  have X0 : Stand p l e ({ frames := 1, cells := 0, slots := 0, locals := 40 } : Room) s m #[(.ref a1), (.ref a2), (.int p3), (.int (0 : Int32))] below meth c s₁ [] 0 0 := Stand.of_body Bd
  have e0 : s₁.heap = h0 := by rw [← hh, Bd.state]; rfl
  have N0 := Fr.nil Z.heap.size
  have Z0 : Z.heap.size ≤ h0.size := OL.2.1
  have lt_0 : @LT.lt Nat _ a1 h0.size := p0_.lt
  have lt_1 : @LT.lt Nat _ a1 h0.size := p1_.lt
  have lt_2 : @LT.lt Nat _ a1 h0.size := p2_.lt
  have lt_3 : @LT.lt Nat _ t h0.size := p3_.lt
  have lt_4 : @LT.lt Nat _ a2 h0.size := p4_.lt
  obtain ⟨PP, hPP⟩ : ∃ PP : Outcome → State → Prop, PP = (fun o tE => ∃ v L, o = .returned v ∧ Q_getBytes Z a1 a2 p3 t cs ds cap k kt zc h0 v tE.heap L ∧ FrameEnd s o tE L ({ frames := 1, cells := 0, slots := 0, locals := 40 } : Room).cells ({ frames := 1, cells := 0, slots := 0, locals := 40 } : Room).slots) := ⟨_, rfl⟩
  show own_Go p.tables e below (fun o tE => ∃ v L, o = .returned v ∧ Q_getBytes Z a1 a2 p3 t cs ds cap k kt zc h0 v tE.heap L ∧ FrameEnd s o tE L ({ frames := 1, cells := 0, slots := 0, locals := 40 } : Room).cells ({ frames := 1, cells := 0, slots := 0, locals := 40 } : Room).slots) (s₁.setTop (entryFrame m #[(.ref a1), (.ref a2), (.int p3), (.int (0 : Int32))] 4))
  rw [← hPP]
  refine own_Go.st (fun t k => castTop (ef_39 m a1 a2 p3 (0 : Int32)) k) ?_
  subst hp3
  show own_Go _ _ _ _ (s₁.setTop (mkF m 0 #[.val (.ref a1), .val (.ref a2), .val (.int (Int32.ofNat cs.length)), .val (.int (0 : Int32))] []))
  refine own_Go.st (fun _ k => XS.aloadN X0.here hx rfl (hb hby d_jdk_42_method_147_0) rfl rfl k) ?_
  show own_Go _ _ _ _ (s₁.setTop (mkF m 1 #[.val (.ref a1), .val (.ref a2), .val (.int (Int32.ofNat cs.length)), .val (.int (0 : Int32))] [(.ref a1)]))
  obtain ⟨cq139, kq139, q139a, q139b, q139c⟩ := isOf hZ e0 p0_
  obtain ⟨_, _, ⟨T139, L139, k139, n139⟩, -, X139, ⟨Lc139, hQ139, l139, y139, z139⟩, st139⟩ := X0.virtualBack hx (y := (⟨"java/lang/String", "coder", "()B"⟩ : MethodName)) (z := (⟨"java/lang/String", "coder", "()B"⟩ : MethodName)) hown (mvT hZ (hw _ (List.mem_of_getElem? (i := 61) rfl))) (mvT hZ (hw _ (List.mem_of_getElem? (i := 62) rfl))) (notFace_of_selects (args := #[]) (mvT hZ (hw _ (List.mem_of_getElem? (i := 64) rfl)))) (mvT hZ (hw _ (List.mem_of_getElem? (i := 64) rfl))) (mvT hZ (hw _ (List.mem_of_getElem? (i := 63) rfl))) (by decide) (backOf (W := 0) (rm_scoder l Z a0 hw [] a1 zc h0 OL p2_ st_COMPACT_STRINGS (by first | assumption | decide)) hZ (hw _ (List.mem_of_getElem? (i := 65) rfl)) (hw _ (List.mem_of_getElem? (i := 6) rfl)) (by decide) (by decide)) q139a q139c (g := (mkF m 1 #[.val (.ref a1), .val (.ref a2), .val (.int (Int32.ofNat cs.length)), .val (.int (0 : Int32))] [(.ref a1)])) rfl (by rw [hml]; rfl) (Steps.refl _) (argsL := []) (rest := []) (lenOf pd_35 rfl) rfl (by show 2 * 0 + _ ≤ _; exact Nat.le_of_eq rfl) (hb hby d_jdk_42_method_147_1) (fun _ _ => ⟨rfl, e0, (by decide : 0 + 0 ≤ _), (by decide : 0 + 0 ≤ _)⟩)
  dsimp only [Pt.U, Pt.locs, Pt.cells, Pt.slots] at X139 l139 y139 z139 st139 hQ139
  subst l139 y139 z139
  obtain ⟨rfl, N139q, K139⟩ := hQ139
  have N139 := Fr.app N0 N139q
  refine own_Go.tr st139 ?_
  show own_Go _ _ _ _ (T139.setTop (mkF m 4 #[.val (.ref a1), .val (.ref a2), .val (.int (Int32.ofNat cs.length)), .val (.int (0 : Int32))] [(.int (0 : Int32))]))
  refine own_Go.st (fun _ k => XS.iloadN X139.here hx rfl (hb hby d_jdk_42_method_147_4) rfl k) ?_
  show own_Go _ _ _ _ (T139.setTop (mkF m 5 #[.val (.ref a1), .val (.ref a2), .val (.int (Int32.ofNat cs.length)), .val (.int (0 : Int32))] [(.int (0 : Int32)), (.int (0 : Int32))]))
  refine own_Go.st (fun _ k => XS.icmpNo X139.here hx rfl (hb hby d_jdk_42_method_147_5) rfl (teq (rfl : (0 : Int32) = (0 : Int32))).2 k) ?_
  show own_Go _ _ _ _ (T139.setTop (mkF m 8 #[.val (.ref a1), .val (.ref a2), .val (.int (Int32.ofNat cs.length)), .val (.int (0 : Int32))] []))
  refine own_Go.st (fun _ k => XS.aloadN X139.here hx rfl (hb hby d_jdk_42_method_147_8) rfl rfl k) ?_
  show own_Go _ _ _ _ (T139.setTop (mkF m 9 #[.val (.ref a1), .val (.ref a2), .val (.int (Int32.ofNat cs.length)), .val (.int (0 : Int32))] [(.ref a1)]))
  obtain ⟨T140, X140, e140, st140⟩ := getF X139 hx hZ hown (host := "") (Or.inl (hw _ (List.mem_of_getElem? (i := 32) rfl))) Via.refl K139 p1_ (g := (mkF m 9 #[.val (.ref a1), .val (.ref a2), .val (.int (Int32.ofNat cs.length)), .val (.int (0 : Int32))] [(.ref a1)])) rfl rfl (hb hby d_jdk_42_method_147_9)
  refine own_Go.st st140 ?_
  show own_Go _ _ _ _ (T140.setTop (mkF m 12 #[.val (.ref a1), .val (.ref a2), .val (.int (Int32.ofNat cs.length)), .val (.int (0 : Int32))] [(.ref t)]))
  refine own_Go.st (fun _ k => XS.iconst X140.here hx rfl (hb hby d_jdk_42_method_147_12) k) ?_
  show own_Go _ _ _ _ (T140.setTop (mkF m 13 #[.val (.ref a1), .val (.ref a2), .val (.int (Int32.ofNat cs.length)), .val (.int (0 : Int32))] [(.int (0 : Int32)), (.ref t)]))
  refine own_Go.st (fun _ k => XS.aloadN X140.here hx rfl (hb hby d_jdk_42_method_147_13) rfl rfl k) ?_
  show own_Go _ _ _ _ (T140.setTop (mkF m 14 #[.val (.ref a1), .val (.ref a2), .val (.int (Int32.ofNat cs.length)), .val (.int (0 : Int32))] [(.ref a2), (.int (0 : Int32)), (.ref t)]))
  refine own_Go.st (fun _ k => XS.iloadN X140.here hx rfl (hb hby d_jdk_42_method_147_14) rfl k) ?_
  show own_Go _ _ _ _ (T140.setTop (mkF m 15 #[.val (.ref a1), .val (.ref a2), .val (.int (Int32.ofNat cs.length)), .val (.int (0 : Int32))] [(.int (Int32.ofNat cs.length)), (.ref a2), (.int (0 : Int32)), (.ref t)]))
  refine own_Go.st (fun _ k => XS.iloadN X140.here hx rfl (hb hby d_jdk_42_method_147_15) rfl k) ?_
  show own_Go _ _ _ _ (T140.setTop (mkF m 16 #[.val (.ref a1), .val (.ref a2), .val (.int (Int32.ofNat cs.length)), .val (.int (0 : Int32))] [(.int (0 : Int32)), (.int (Int32.ofNat cs.length)), (.ref a2), (.int (0 : Int32)), (.ref t)]))
  refine own_Go.st (fun _ k => XS.ishl X140.here hx rfl (hb hby d_jdk_42_method_147_16) rfl k) ?_
  show own_Go _ _ _ _ (T140.setTop (mkF m 17 #[.val (.ref a1), .val (.ref a2), .val (.int (Int32.ofNat cs.length)), .val (.int (0 : Int32))] [(.int ((Int32.ofNat cs.length) <<< ((0 : Int32) &&& 31))), (.ref a2), (.int (0 : Int32)), (.ref t)]))
  rw [own_shl0]
  show own_Go _ _ _ _ (T140.setTop (mkF m 17 #[.val (.ref a1), .val (.ref a2), .val (.int (Int32.ofNat cs.length)), .val (.int (0 : Int32))] [(.int (Int32.ofNat cs.length)), (.ref a2), (.int (0 : Int32)), (.ref t)]))
  refine own_Go.st (fun _ k => XS.aloadN X140.here hx rfl (hb hby d_jdk_42_method_147_17) rfl rfl k) ?_
  show own_Go _ _ _ _ (T140.setTop (mkF m 18 #[.val (.ref a1), .val (.ref a2), .val (.int (Int32.ofNat cs.length)), .val (.int (0 : Int32))] [(.ref a1), (.int (Int32.ofNat cs.length)), (.ref a2), (.int (0 : Int32)), (.ref t)]))
  obtain ⟨T141, X141, e141, st141⟩ := getF X140 hx hZ hown (host := "") (Or.inl (hw _ (List.mem_of_getElem? (i := 32) rfl))) Via.refl e140 p1_ (g := (mkF m 18 #[.val (.ref a1), .val (.ref a2), .val (.int (Int32.ofNat cs.length)), .val (.int (0 : Int32))] [(.ref a1), (.int (Int32.ofNat cs.length)), (.ref a2), (.int (0 : Int32)), (.ref t)])) rfl rfl (hb hby d_jdk_42_method_147_18)
  refine own_Go.st st141 ?_
  show own_Go _ _ _ _ (T141.setTop (mkF m 21 #[.val (.ref a1), .val (.ref a2), .val (.int (Int32.ofNat cs.length)), .val (.int (0 : Int32))] [(.ref t), (.int (Int32.ofNat cs.length)), (.ref a2), (.int (0 : Int32)), (.ref t)]))
  obtain ⟨c142, Ar142, q142, S142, Nn142, H142, G142⟩ := id p3_
  refine own_Go.st (X141.arraylength hx (by rw [e141]; exact Ar142.1) (State.isArrayOf_alike hZ.alike Ar142.2.1) (g := (mkF m 21 #[.val (.ref a1), .val (.ref a2), .val (.int (Int32.ofNat cs.length)), .val (.int (0 : Int32))] [(.ref t), (.int (Int32.ofNat cs.length)), (.ref a2), (.int (0 : Int32)), (.ref t)])) rfl rfl (hb hby d_jdk_42_method_147_21)) ?_
  rw [len_of S142 Nn142]
  show own_Go _ _ _ _ (T141.setTop (mkF m 22 #[.val (.ref a1), .val (.ref a2), .val (.int (Int32.ofNat cs.length)), .val (.int (0 : Int32))] [(.int (Int32.ofNat ds.length)), (.int (Int32.ofNat cs.length)), (.ref a2), (.int (0 : Int32)), (.ref t)]))
  have f143 : Arv Z h0 a2 k .byte (Int32.ofNat cap) (own_low cs ++ List.replicate (cap - cs.length) (Value.int (0 : Int32))) (.int (0 : Int32)) := p4_.pad (pad_rep (own_low cs) _ _)
  obtain ⟨T144, h144, L144, X144, e144, N144, K144, V144, st144⟩ := cpA (us := (own_low ds)) X141 hx hZ hown (hw _ (List.mem_of_getElem? (i := 145) rfl)) (hw _ (List.mem_of_getElem? (i := 107) rfl)) (hw _ (List.mem_of_getElem? (i := 105) rfl)) (hw _ (List.mem_of_getElem? (i := 106) rfl)) e141 p3_ f143 (Or.inl ⟨rfl, rfl⟩) (by decide) (own_of0 (by omega)) (own_of0 (by omega)) (by rw [own_ofn (by omega)]; have : (0 : Int32).toNatClampNeg = 0 := (by decide); omega) (by rw [own_ofn (by omega), own_ofn (by omega), own_ofn (by omega)]; exact hfit) (own_us ds (by omega)) (by rw [own_ofn (by omega), own_ofn (by omega)]; simp only [List.length_append, List.length_replicate, own_low, List.length_map]; omega) N139 (by omega) (g := (mkF m 22 #[.val (.ref a1), .val (.ref a2), .val (.int (Int32.ofNat cs.length)), .val (.int (0 : Int32))] [(.int (Int32.ofNat ds.length)), (.int (Int32.ofNat cs.length)), (.ref a2), (.int (0 : Int32)), (.ref t)])) rfl (by rw [hml]; rfl) rfl (hb hby d_jdk_42_method_147_22) (by decide) (W := 0) (by show 2 * 0 + _ ≤ _; exact Nat.le_of_eq rfl) (by decide)
  refine own_Go.st st144 ?_
  have z144 : h0.size ≤ h144.size := K144.1
  have f145 : Arv Z h144 a2 k .byte (Int32.ofNat cap) (own_low (cs ++ ds)) (.int (0 : Int32)) := own_appV V144 (by omega) (by omega)
  show own_Go _ _ _ _ (T144.setTop (mkF m 25 #[.val (.ref a1), .val (.ref a2), .val (.int (Int32.ofNat cs.length)), .val (.int (0 : Int32))] []))
  refine own_Go.st (fun _ k => XS.goto X144.here hx rfl (pc0 := 25) (pc' := 43) rfl (hb hby d_jdk_42_method_147_25) (by decide) (by decide) k) ?_
  show own_Go _ _ _ _ (T144.setTop (mkF m 43 #[.val (.ref a1), .val (.ref a2), .val (.int (Int32.ofNat cs.length)), .val (.int (0 : Int32))] []))
  obtain ⟨fs146, hr146, hrun146, hend146, hW146, hsm146⟩ := X144.leave (v := none) (fun _ => rfl)
  have K147 : Keep h0 h144 [a2] := (Keep.refl h0 [a2]).trans K144 (allS (Or.inl (List.mem_of_getElem? (i := 0) rfl)) all0)
  subst hPP
  refine ⟨_, _, X144.returnOut hx Bd.returns (hb hby d_jdk_42_method_147_43) hr146, hrun146, hend146, _, _, rfl, ?_, ⟨_, rfl⟩, hW146, hsm146.mono (by decide) (by decide)⟩
  · show Q_getBytes Z _ _ _ _ _ _ _ _ _ _ h0 _ T144.heap _
    rw [e144]
    exact ⟨rfl, N144, K147, f145⟩
theorem ef_57 (m : MethodId) (x0 : Nat) (x1 : Int32) (x2 : Nat) : entryFrame m #[(.ref x0), (.int x1), (.ref x2)] 3 = mkF m 0 #[.val (.ref x0), .val (.int x1), .val (.ref x2)] [] := by first | (simp [entryFrame, mkF, argsToLocals, Value.category]; done) | rfl
theorem d_jdk_68_method_73_0 : decode jdk_68_method_73_code 0 = .ok (.aload_n 0, 1) := by decide +kernel
theorem d_jdk_68_method_73_1 : decode jdk_68_method_73_code 1 = .ok (.aload_n 2, 1) := by decide +kernel
theorem pd_60 : parseMethodDescriptor "(Ljava/lang/String;)V" = some ⟨[(.object "java/lang/String")], none⟩ := by decide +kernel
theorem d_jdk_68_method_73_2 : decode jdk_68_method_73_code 2 = .ok (.invokevirtual 397, 3) := by decide +kernel
theorem d_jdk_68_method_73_5 : decode jdk_68_method_73_code 5 = .ok (.aload_n 2, 1) := by decide +kernel
theorem d_jdk_68_method_73_6 : decode jdk_68_method_73_code 6 = .ok (.aload_n 0, 1) := by decide +kernel
theorem d_jdk_68_method_73_7 : decode jdk_68_method_73_code 7 = .ok (.getfield 15, 3) := by decide +kernel
theorem d_jdk_68_method_73_10 : decode jdk_68_method_73_code 10 = .ok (.iload_n 1, 1) := by decide +kernel
theorem d_jdk_68_method_73_11 : decode jdk_68_method_73_code 11 = .ok (.aload_n 0, 1) := by decide +kernel
theorem d_jdk_68_method_73_12 : decode jdk_68_method_73_code 12 = .ok (.getfield 22, 3) := by decide +kernel
theorem pd_68 : parseMethodDescriptor "([BIB)V" = some ⟨[(.array .byte), .int, .byte], none⟩ := by decide +kernel
theorem d_jdk_68_method_73_15 : decode jdk_68_method_73_code 15 = .ok (.invokevirtual 399, 3) := by decide +kernel
theorem d_jdk_68_method_73_18 : decode jdk_68_method_73_code 18 = .ok (.return_, 1) := by decide +kernel
def Q_putStringAt (Z : State) (a1 : Nat) (p2 : Int32) (a3 : Nat) (t : Nat) (cs : List Int32) (ds : List Int32) (cap : Nat) (k : ClassId) (zc : Int32) (a4 : Nat) (h0 : Heap) (v : Option Value) (h : Heap) (L : List Loc) : Prop := v = none ∧ Fr Z.heap.size L ∧ Keep h0 h [a4] ∧ Arv Z h a4 k .byte (Int32.ofNat cap) (own_low (cs ++ ds)) (.int (0 : Int32))
set_option maxRecDepth 65536 in
set_option maxHeartbeats 40000000 in
theorem rm_putStringAt (l : Launch) (Z : State) (a0 : Array Value) (hw : ∀ d ∈ tables_1, d.before a0 Z = true) (ws : List Jvm.Cond) (a1 : Nat) (p2 : Int32) (a3 : Nat) (t : Nat) (cs : List Int32) (ds : List Int32) (cap : Nat) (k : ClassId) (zc : Int32) (a4 : Nat) (h0 : Heap) (OL : Old Z Z.heap.size h0) (p0_ : Exa Z h0 a1 "java/lang/StringBuilder") (p1_ : Fld Z h0 a1 "java/lang/AbstractStringBuilder" "value" "[B" (.ref a4)) (p2_ : Fld Z h0 a1 "java/lang/AbstractStringBuilder" "coder" "B" (.int (0 : Int32))) (p3_ : own_Str Z h0 a3 t ds) (p4_ : Arv Z h0 a4 k .byte (Int32.ofNat cap) (own_low cs) (.int (0 : Int32))) (st_COMPACT_STRINGS : Sta Z Z.heap "java/lang/String" "COMPACT_STRINGS" "Z" (.int zc)) (hzc : ¬ zc = 0) (hp2 : p2 = Int32.ofNat cs.length) (hfit : cs.length + ds.length ≤ cap) (hcap : cap ≤ 100) (hne : @Ne Nat t a4) (hn0 : Z.heap.size ≤ a4) (hld : ∀ c ∈ ds, ¬ c < 0 ∧ ¬ (255 : Int32) < c) :
    MetFree l (⟨"java/lang/AbstractStringBuilder", "putStringAt", "(ILjava/lang/String;)V"⟩ : MethodName) (head1 (Jvm.Cond.code (⟨"java/lang/AbstractStringBuilder", "putStringAt", "(ILjava/lang/String;)V"⟩ : MethodName) jdk_68_method_73_code 3 none :: ws) ({ frames := 2, cells := 0, slots := 0, locals := 57 } : Room)) (fun a U => a = #[(.ref a1), (.int p2), (.ref a3)] ∧ Z.Warmed39 U.vm ∧ U.heap = h0) (fun _ _ _ _ _ => True) (fun _ U o U' => ∃ v L, o = .returned v ∧ Q_putStringAt Z a1 p2 a3 t cs ds cap k zc a4 h0 v U'.heap L ∧ FrameEnd U o U' L ({ frames := 2, cells := 0, slots := 0, locals := 57 } : Room).cells ({ frames := 2, cells := 0, slots := 0, locals := 57 } : Room).slots) := by
  refine MetFree.of_bodySF (plainFor_of_name pn_0) hisR ?_
  intro p e s m args below meth c s₁ Bd hml0 hP hK
  obtain ⟨rfl, hZ, hh⟩ := hP
  have hx := Bd.exec
  have hby := Bd.bytes
  have hml : c.maxLocals = 3 := hml0
  have hown : s.vm.findClass "java/lang/AbstractStringBuilder" = some m.cls := findClass_of_methodNamed Bd.named
  have hnm := (name_of_methodNamed Bd.named Bd.method).1
  have X0 : Stand p l e ({ frames := 2, cells := 0, slots := 0, locals := 57 } : Room) s m #[(.ref a1), (.int p2), (.ref a3)] below meth c s₁ [] 0 0 := Stand.of_body Bd
  have e0 : s₁.heap = h0 := by rw [← hh, Bd.state]; rfl
  have N0 := Fr.nil Z.heap.size
  have Z0 : Z.heap.size ≤ h0.size := OL.2.1
  have lt_0 : @LT.lt Nat _ a1 h0.size := p0_.lt
  have lt_1 : @LT.lt Nat _ a1 h0.size := p1_.lt
  have lt_2 : @LT.lt Nat _ a1 h0.size := p2_.lt
  have lt_3 : @LT.lt Nat _ a3 h0.size := p3_.lt
  have ltv_3 : @LT.lt Nat _ t h0.size := p3_.ltv
  have lt_4 : @LT.lt Nat _ a4 h0.size := p4_.lt
  obtain ⟨PP, hPP⟩ : ∃ PP : Outcome → State → Prop, PP = (fun o tE => ∃ v L, o = .returned v ∧ Q_putStringAt Z a1 p2 a3 t cs ds cap k zc a4 h0 v tE.heap L ∧ FrameEnd s o tE L ({ frames := 2, cells := 0, slots := 0, locals := 57 } : Room).cells ({ frames := 2, cells := 0, slots := 0, locals := 57 } : Room).slots) := ⟨_, rfl⟩
  show own_Go p.tables e below (fun o tE => ∃ v L, o = .returned v ∧ Q_putStringAt Z a1 p2 a3 t cs ds cap k zc a4 h0 v tE.heap L ∧ FrameEnd s o tE L ({ frames := 2, cells := 0, slots := 0, locals := 57 } : Room).cells ({ frames := 2, cells := 0, slots := 0, locals := 57 } : Room).slots) (s₁.setTop (entryFrame m #[(.ref a1), (.int p2), (.ref a3)] 3))
  rw [← hPP]
  refine own_Go.st (fun t k => castTop (ef_57 m a1 p2 a3) k) ?_
  obtain ⟨kb148, s1148, s2148, s3148, s4148⟩ := own_Str.latF p3_ (fun c q => (hld c q).2)
  show own_Go _ _ _ _ (s₁.setTop (mkF m 0 #[.val (.ref a1), .val (.int p2), .val (.ref a3)] []))
  refine own_Go.st (fun _ k => XS.aloadN X0.here hx rfl (hb hby d_jdk_68_method_73_0) rfl rfl k) ?_
  show own_Go _ _ _ _ (s₁.setTop (mkF m 1 #[.val (.ref a1), .val (.int p2), .val (.ref a3)] [(.ref a1)]))
  refine own_Go.st (fun _ k => XS.aloadN X0.here hx rfl (hb hby d_jdk_68_method_73_1) rfl rfl k) ?_
  show own_Go _ _ _ _ (s₁.setTop (mkF m 2 #[.val (.ref a1), .val (.int p2), .val (.ref a3)] [(.ref a3), (.ref a1)]))
  obtain ⟨cq149, q149, q149'⟩ := p0_.cell
  obtain ⟨_, _, ⟨T149, L149, k149, n149⟩, -, X149, ⟨Lc149, hQ149, l149, y149, z149⟩, st149⟩ := X0.privateBack hx (y := (⟨"java/lang/AbstractStringBuilder", "inflateIfNeededFor", "(Ljava/lang/String;)V"⟩ : MethodName)) hown (mvT hZ (hw _ (List.mem_of_getElem? (i := 134) rfl))) (mvT hZ (hw _ (List.mem_of_getElem? (i := 135) rfl))) (own_selP (mvT hZ (hw _ (List.mem_of_getElem? (i := 137) rfl))) (Cond.privateMethod_at (mvP hZ (hw _ (List.mem_of_getElem? (i := 136) rfl)) (args := #[]))) (mvT hZ (hw _ (List.mem_of_getElem? (i := 135) rfl))) (by decide)) (Cond.privateMethod_at (mvP hZ (hw _ (List.mem_of_getElem? (i := 136) rfl)) (args := #[]))) (mvT hZ (hw _ (List.mem_of_getElem? (i := 138) rfl))) (by decide) (backOf (W := 0) (rm_inflate l Z a0 hw [] a1 a3 zc h0 OL p2_ s1148 s3148 st_COMPACT_STRINGS (by first | assumption | decide)) hZ (hw _ (List.mem_of_getElem? (i := 138) rfl)) (hw _ (List.mem_of_getElem? (i := 48) rfl)) (by decide) (by decide)) (g := (mkF m 2 #[.val (.ref a1), .val (.int p2), .val (.ref a3)] [(.ref a3), (.ref a1)])) rfl (by rw [hml]; rfl) (Steps.refl _) (a := a1) (by rw [e0]; exact q149) q149' (argsL := [(.ref a3)]) (rest := []) (lenOf pd_60 rfl) rfl (by show 2 * 0 + _ ≤ _; exact Nat.le_of_eq rfl) (hb hby d_jdk_68_method_73_2) (fun _ _ => ⟨rfl, e0, (by decide : 0 + 0 ≤ _), (by decide : 0 + 0 ≤ _)⟩)
  dsimp only [Pt.U, Pt.locs, Pt.cells, Pt.slots] at X149 l149 y149 z149 st149 hQ149
  subst l149 y149 z149
  obtain ⟨rfl, N149q, K149⟩ := hQ149
  have N149 := Fr.app N0 N149q
  refine own_Go.tr st149 ?_
  show own_Go _ _ _ _ (T149.setTop (mkF m 5 #[.val (.ref a1), .val (.int p2), .val (.ref a3)] []))
  refine own_Go.st (fun _ k => XS.aloadN X149.here hx rfl (hb hby d_jdk_68_method_73_5) rfl rfl k) ?_
  show own_Go _ _ _ _ (T149.setTop (mkF m 6 #[.val (.ref a1), .val (.int p2), .val (.ref a3)] [(.ref a3)]))
  refine own_Go.st (fun _ k => XS.aloadN X149.here hx rfl (hb hby d_jdk_68_method_73_6) rfl rfl k) ?_
  show own_Go _ _ _ _ (T149.setTop (mkF m 7 #[.val (.ref a1), .val (.int p2), .val (.ref a3)] [(.ref a1), (.ref a3)]))
  obtain ⟨T150, X150, e150, st150⟩ := getF X149 hx hZ hown (host := "") (Or.inl (hw _ (List.mem_of_getElem? (i := 52) rfl))) Via.refl K149 p1_ (g := (mkF m 7 #[.val (.ref a1), .val (.int p2), .val (.ref a3)] [(.ref a1), (.ref a3)])) rfl rfl (hb hby d_jdk_68_method_73_7)
  refine own_Go.st st150 ?_
  show own_Go _ _ _ _ (T150.setTop (mkF m 10 #[.val (.ref a1), .val (.int p2), .val (.ref a3)] [(.ref a4), (.ref a3)]))
  refine own_Go.st (fun _ k => XS.iloadN X150.here hx rfl (hb hby d_jdk_68_method_73_10) rfl k) ?_
  show own_Go _ _ _ _ (T150.setTop (mkF m 11 #[.val (.ref a1), .val (.int p2), .val (.ref a3)] [(.int p2), (.ref a4), (.ref a3)]))
  refine own_Go.st (fun _ k => XS.aloadN X150.here hx rfl (hb hby d_jdk_68_method_73_11) rfl rfl k) ?_
  show own_Go _ _ _ _ (T150.setTop (mkF m 12 #[.val (.ref a1), .val (.int p2), .val (.ref a3)] [(.ref a1), (.int p2), (.ref a4), (.ref a3)]))
  obtain ⟨T151, X151, e151, st151⟩ := getF X150 hx hZ hown (host := "") (Or.inl (hw _ (List.mem_of_getElem? (i := 54) rfl))) Via.refl e150 p2_ (g := (mkF m 12 #[.val (.ref a1), .val (.int p2), .val (.ref a3)] [(.ref a1), (.int p2), (.ref a4), (.ref a3)])) rfl rfl (hb hby d_jdk_68_method_73_12)
  refine own_Go.st st151 ?_
  show own_Go _ _ _ _ (T151.setTop (mkF m 15 #[.val (.ref a1), .val (.int p2), .val (.ref a3)] [(.int (0 : Int32)), (.int p2), (.ref a4), (.ref a3)]))
  obtain ⟨cq152, kq152, q152a, q152b, q152c⟩ := isOf hZ e151 s1148
  obtain ⟨_, _, ⟨T152, L152, k152, n152⟩, -, X152, ⟨Lc152, hQ152, l152, y152, z152⟩, st152⟩ := X151.virtualBack hx (y := (⟨"java/lang/String", "getBytes", "([BIB)V"⟩ : MethodName)) (z := (⟨"java/lang/String", "getBytes", "([BIB)V"⟩ : MethodName)) hown (mvT hZ (hw _ (List.mem_of_getElem? (i := 140) rfl))) (mvT hZ (hw _ (List.mem_of_getElem? (i := 141) rfl))) (notFace_of_selects (args := #[]) (mvT hZ (hw _ (List.mem_of_getElem? (i := 143) rfl)))) (mvT hZ (hw _ (List.mem_of_getElem? (i := 143) rfl))) (mvT hZ (hw _ (List.mem_of_getElem? (i := 142) rfl))) (by decide) (backOf (W := 0) (rm_getBytes l Z a0 hw [] a3 a4 p2 t cs ds cap k kb148 zc h0 OL s1148 s2148 s3148 s4148 p4_ st_COMPACT_STRINGS (by first | assumption | decide) hp2 (by first | assumption | decide) (by first | assumption | decide) (by first | assumption | decide) (by first | assumption | decide)) hZ (hw _ (List.mem_of_getElem? (i := 144) rfl)) (hw _ (List.mem_of_getElem? (i := 6) rfl)) (by decide) (by decide)) q152a q152c (g := (mkF m 15 #[.val (.ref a1), .val (.int p2), .val (.ref a3)] [(.int (0 : Int32)), (.int p2), (.ref a4), (.ref a3)])) rfl (by rw [hml]; rfl) (Steps.refl _) (argsL := [(.ref a4), (.int p2), (.int (0 : Int32))]) (rest := []) (lenOf pd_68 rfl) rfl (by show 2 * 0 + _ ≤ _; exact Nat.le_of_eq rfl) (hb hby d_jdk_68_method_73_15) (fun _ _ => ⟨rfl, e151, (by decide : 0 + 0 ≤ _), (by decide : 0 + 0 ≤ _)⟩)
  dsimp only [Pt.U, Pt.locs, Pt.cells, Pt.slots] at X152 l152 y152 z152 st152 hQ152
  subst l152 y152 z152
  obtain ⟨rfl, N152q, K152, f152_0⟩ := hQ152
  have N152 := Fr.app N149 N152q
  have z152 : h0.size ≤ T152.heap.size := K152.1
  have lt152_0 : @LT.lt Nat _ a4 T152.heap.size := f152_0.lt
  refine own_Go.tr st152 ?_
  show own_Go _ _ _ _ (T152.setTop (mkF m 18 #[.val (.ref a1), .val (.int p2), .val (.ref a3)] []))
  obtain ⟨fs153, hr153, hrun153, hend153, hW153, hsm153⟩ := X152.leave (v := none) (fun _ => rfl)
  have K154 : Keep h0 T152.heap [a4] := (Keep.refl h0 [a4]).trans K152 (allS (Or.inl (List.mem_of_getElem? (i := 0) rfl)) all0)
  subst hPP
  refine ⟨_, _, X152.returnOut hx Bd.returns (hb hby d_jdk_68_method_73_18) hr153, hrun153, hend153, _, _, rfl, ?_, ⟨_, rfl⟩, hW153, hsm153.mono (by decide) (by decide)⟩
  · show Q_putStringAt Z _ _ _ _ _ _ _ _ _ _ h0 _ T152.heap _
    exact ⟨rfl, N152, K154, f152_0⟩
theorem ef_71 (m : MethodId) (x0 : Nat) (x1 : Int32) : entryFrame m #[(.ref x0), (.int x1)] 3 = mkF m 0 #[.val (.ref x0), .val (.int x1), .unset] [] := by first | (simp [entryFrame, mkF, argsToLocals, Value.category]; done) | rfl
theorem d_jdk_68_method_9_0 : decode jdk_68_method_9_code 0 = .ok (.aload_n 0, 1) := by decide +kernel
theorem d_jdk_68_method_9_1 : decode jdk_68_method_9_code 1 = .ok (.getfield 15, 3) := by decide +kernel
theorem d_jdk_68_method_9_4 : decode jdk_68_method_9_code 4 = .ok (.arraylength, 1) := by decide +kernel
theorem d_jdk_68_method_9_5 : decode jdk_68_method_9_code 5 = .ok (.aload_n 0, 1) := by decide +kernel
theorem d_jdk_68_method_9_6 : decode jdk_68_method_9_code 6 = .ok (.getfield 22, 3) := by decide +kernel
theorem d_jdk_68_method_9_9 : decode jdk_68_method_9_code 9 = .ok (.ishr, 1) := by decide +kernel
theorem d_jdk_68_method_9_10 : decode jdk_68_method_9_code 10 = .ok (.istore_n 2, 1) := by decide +kernel
theorem d_jdk_68_method_9_11 : decode jdk_68_method_9_code 11 = .ok (.iload_n 1, 1) := by decide +kernel
theorem d_jdk_68_method_9_12 : decode jdk_68_method_9_code 12 = .ok (.iload_n 2, 1) := by decide +kernel
theorem d_jdk_68_method_9_13 : decode jdk_68_method_9_code 13 = .ok (.isub, 1) := by decide +kernel
theorem d_jdk_68_method_9_14 : decode jdk_68_method_9_code 14 = .ok (.ifCond .le 24, 3) := by decide +kernel
theorem d_jdk_68_method_9_38 : decode jdk_68_method_9_code 38 = .ok (.return_, 1) := by decide +kernel
def Q_ensure0 (Z : State) (a1 : Nat) (p2 : Int32) (nn : Nat) (cap : Nat) (a4 : Nat) (k : ClassId) (vs : List Value) (h0 : Heap) (v : Option Value) (h : Heap) (L : List Loc) : Prop := v = none ∧ Fr Z.heap.size L ∧ h = h0
set_option maxRecDepth 65536 in
set_option maxHeartbeats 40000000 in
theorem rm_ensure0 (l : Launch) (Z : State) (a0 : Array Value) (hw : ∀ d ∈ tables_1, d.before a0 Z = true) (ws : List Jvm.Cond) (a1 : Nat) (p2 : Int32) (nn : Nat) (cap : Nat) (a4 : Nat) (k : ClassId) (vs : List Value) (h0 : Heap) (OL : Old Z Z.heap.size h0) (p0_ : Fld Z h0 a1 "java/lang/AbstractStringBuilder" "value" "[B" (.ref a4)) (p1_ : Fld Z h0 a1 "java/lang/AbstractStringBuilder" "coder" "B" (.int (0 : Int32))) (p2_ : Arv Z h0 a4 k .byte (Int32.ofNat cap) vs (.int (0 : Int32))) (hp2 : p2 = Int32.ofNat nn) (hle : nn ≤ cap) (hcap : cap ≤ 100) :
    MetFree l (⟨"java/lang/AbstractStringBuilder", "ensureCapacityInternal", "(I)V"⟩ : MethodName) (head1 (Jvm.Cond.code (⟨"java/lang/AbstractStringBuilder", "ensureCapacityInternal", "(I)V"⟩ : MethodName) jdk_68_method_9_code 3 none :: ws) ({ frames := 0, cells := 0, slots := 0, locals := 0 } : Room)) (fun a U => a = #[(.ref a1), (.int p2)] ∧ Z.Warmed39 U.vm ∧ U.heap = h0) (fun _ _ _ _ _ => True) (fun _ U o U' => ∃ v L, o = .returned v ∧ Q_ensure0 Z a1 p2 nn cap a4 k vs h0 v U'.heap L ∧ FrameEnd U o U' L ({ frames := 0, cells := 0, slots := 0, locals := 0 } : Room).cells ({ frames := 0, cells := 0, slots := 0, locals := 0 } : Room).slots) := by
  refine MetFree.of_bodySF (plainFor_of_name pn_0) hisR ?_
  intro p e s m args below meth c s₁ Bd hml0 hP hK
  obtain ⟨rfl, hZ, hh⟩ := hP
  have hx := Bd.exec
  have hby := Bd.bytes
  have hml : c.maxLocals = 3 := hml0
  have hown : s.vm.findClass "java/lang/AbstractStringBuilder" = some m.cls := findClass_of_methodNamed Bd.named
  have hnm := (name_of_methodNamed Bd.named Bd.method).1
  have X0 : Stand p l e ({ frames := 0, cells := 0, slots := 0, locals := 0 } : Room) s m #[(.ref a1), (.int p2)] below meth c s₁ [] 0 0 := Stand.of_body Bd
  have e0 : s₁.heap = h0 := by rw [← hh, Bd.state]; rfl
  have N0 := Fr.nil Z.heap.size
  have Z0 : Z.heap.size ≤ h0.size := OL.2.1
  have lt_0 : @LT.lt Nat _ a1 h0.size := p0_.lt
  have lt_1 : @LT.lt Nat _ a1 h0.size := p1_.lt
  have lt_2 : @LT.lt Nat _ a4 h0.size := p2_.lt
  obtain ⟨PP, hPP⟩ : ∃ PP : Outcome → State → Prop, PP = (fun o tE => ∃ v L, o = .returned v ∧ Q_ensure0 Z a1 p2 nn cap a4 k vs h0 v tE.heap L ∧ FrameEnd s o tE L ({ frames := 0, cells := 0, slots := 0, locals := 0 } : Room).cells ({ frames := 0, cells := 0, slots := 0, locals := 0 } : Room).slots) := ⟨_, rfl⟩
  show own_Go p.tables e below (fun o tE => ∃ v L, o = .returned v ∧ Q_ensure0 Z a1 p2 nn cap a4 k vs h0 v tE.heap L ∧ FrameEnd s o tE L ({ frames := 0, cells := 0, slots := 0, locals := 0 } : Room).cells ({ frames := 0, cells := 0, slots := 0, locals := 0 } : Room).slots) (s₁.setTop (entryFrame m #[(.ref a1), (.int p2)] 3))
  rw [← hPP]
  refine own_Go.st (fun t k => castTop (ef_71 m a1 p2) k) ?_
  show own_Go _ _ _ _ (s₁.setTop (mkF m 0 #[.val (.ref a1), .val (.int p2), .unset] []))
  refine own_Go.st (fun _ k => XS.aloadN X0.here hx rfl (hb hby d_jdk_68_method_9_0) rfl rfl k) ?_
  show own_Go _ _ _ _ (s₁.setTop (mkF m 1 #[.val (.ref a1), .val (.int p2), .unset] [(.ref a1)]))
  obtain ⟨T155, X155, e155, st155⟩ := getF X0 hx hZ hown (host := "") (Or.inl (hw _ (List.mem_of_getElem? (i := 52) rfl))) Via.refl e0 p0_ (g := (mkF m 1 #[.val (.ref a1), .val (.int p2), .unset] [(.ref a1)])) rfl rfl (hb hby d_jdk_68_method_9_1)
  refine own_Go.st st155 ?_
  show own_Go _ _ _ _ (T155.setTop (mkF m 4 #[.val (.ref a1), .val (.int p2), .unset] [(.ref a4)]))
  obtain ⟨c156, Ar156, q156, S156, Nn156, H156, G156⟩ := id p2_
  refine own_Go.st (X155.arraylength hx (by rw [e155]; exact Ar156.1) (State.isArrayOf_alike hZ.alike Ar156.2.1) (g := (mkF m 4 #[.val (.ref a1), .val (.int p2), .unset] [(.ref a4)])) rfl rfl (hb hby d_jdk_68_method_9_4)) ?_
  rw [len_of S156 Nn156]
  show own_Go _ _ _ _ (T155.setTop (mkF m 5 #[.val (.ref a1), .val (.int p2), .unset] [(.int (Int32.ofNat cap))]))
  refine own_Go.st (fun _ k => XS.aloadN X155.here hx rfl (hb hby d_jdk_68_method_9_5) rfl rfl k) ?_
  show own_Go _ _ _ _ (T155.setTop (mkF m 6 #[.val (.ref a1), .val (.int p2), .unset] [(.ref a1), (.int (Int32.ofNat cap))]))
  obtain ⟨T157, X157, e157, st157⟩ := getF X155 hx hZ hown (host := "") (Or.inl (hw _ (List.mem_of_getElem? (i := 54) rfl))) Via.refl e155 p1_ (g := (mkF m 6 #[.val (.ref a1), .val (.int p2), .unset] [(.ref a1), (.int (Int32.ofNat cap))])) rfl rfl (hb hby d_jdk_68_method_9_6)
  refine own_Go.st st157 ?_
  show own_Go _ _ _ _ (T157.setTop (mkF m 9 #[.val (.ref a1), .val (.int p2), .unset] [(.int (0 : Int32)), (.int (Int32.ofNat cap))]))
  refine own_Go.st (fun _ k => XS.ishr X157.here hx rfl (hb hby d_jdk_68_method_9_9) rfl k) ?_
  show own_Go _ _ _ _ (T157.setTop (mkF m 10 #[.val (.ref a1), .val (.int p2), .unset] [(.int ((Int32.ofNat cap) >>> ((0 : Int32) &&& 31)))]))
  rw [own_shr0]
  show own_Go _ _ _ _ (T157.setTop (mkF m 10 #[.val (.ref a1), .val (.int p2), .unset] [(.int (Int32.ofNat cap))]))
  refine own_Go.st (fun _ k => XS.istoreN X157.here hx rfl (hb hby d_jdk_68_method_9_10) rfl (l' := #[.val (.ref a1), .val (.int p2), .val (.int (Int32.ofNat cap))]) rfl k) ?_
  show own_Go _ _ _ _ (T157.setTop (mkF m 11 #[.val (.ref a1), .val (.int p2), .val (.int (Int32.ofNat cap))] []))
  refine own_Go.st (fun _ k => XS.iloadN X157.here hx rfl (hb hby d_jdk_68_method_9_11) rfl k) ?_
  show own_Go _ _ _ _ (T157.setTop (mkF m 12 #[.val (.ref a1), .val (.int p2), .val (.int (Int32.ofNat cap))] [(.int p2)]))
  refine own_Go.st (fun _ k => XS.iloadN X157.here hx rfl (hb hby d_jdk_68_method_9_12) rfl k) ?_
  show own_Go _ _ _ _ (T157.setTop (mkF m 13 #[.val (.ref a1), .val (.int p2), .val (.int (Int32.ofNat cap))] [(.int (Int32.ofNat cap)), (.int p2)]))
  refine own_Go.st (fun _ k => XS.isub X157.here hx rfl (hb hby d_jdk_68_method_9_13) rfl k) ?_
  show own_Go _ _ _ _ (T157.setTop (mkF m 14 #[.val (.ref a1), .val (.int p2), .val (.int (Int32.ofNat cap))] [(.int (p2 - (Int32.ofNat cap)))]))
  have hc158 : ¬ ((0 : Int32) < (p2 - (Int32.ofNat cap))) := by rw [hp2, own_ofBle (by omega) (by omega)]; omega
  refine own_Go.st (fun _ k => XS.ifYes X157.here hx rfl (pc0 := 14) (pc' := 38) rfl (hb hby d_jdk_68_method_9_14) rfl ((if0 _ _).trans (flt hc158).2.2.2) (by decide) (by decide) k) ?_
  show own_Go _ _ _ _ (T157.setTop (mkF m 38 #[.val (.ref a1), .val (.int p2), .val (.int (Int32.ofNat cap))] []))
  obtain ⟨fs159, hr159, hrun159, hend159, hW159, hsm159⟩ := X157.leave (v := none) (fun _ => rfl)
  subst hPP
  refine ⟨_, _, X157.returnOut hx Bd.returns (hb hby d_jdk_68_method_9_38) hr159, hrun159, hend159, _, _, rfl, ?_, ⟨_, rfl⟩, hW159, hsm159.mono (by decide) (by decide)⟩
  · show Q_ensure0 Z _ _ _ _ _ _ _ h0 _ T157.heap _
    rw [e157]
    exact ⟨rfl, N0, rfl⟩
theorem ef_84 (m : MethodId) (x0 : Nat) (x1 : Nat) : entryFrame m #[(.ref x0), (.ref x1)] 3 = mkF m 0 #[.val (.ref x0), .val (.ref x1), .unset] [] := by first | (simp [entryFrame, mkF, argsToLocals, Value.category]; done) | rfl
theorem d_jdk_68_method_22_0 : decode jdk_68_method_22_code 0 = .ok (.aload_n 1, 1) := by decide +kernel
theorem d_jdk_68_method_22_1 : decode jdk_68_method_22_code 1 = .ok (.ifnonnull 8, 3) := by decide +kernel
theorem d_jdk_68_method_22_9 : decode jdk_68_method_22_code 9 = .ok (.aload_n 1, 1) := by decide +kernel
theorem pd_88 : parseMethodDescriptor "()I" = some ⟨[], some .int⟩ := by decide +kernel
theorem d_jdk_68_method_22_10 : decode jdk_68_method_22_code 10 = .ok (.invokevirtual 32, 3) := by decide +kernel
theorem d_jdk_68_method_22_13 : decode jdk_68_method_22_code 13 = .ok (.istore_n 2, 1) := by decide +kernel
theorem d_jdk_68_method_22_14 : decode jdk_68_method_22_code 14 = .ok (.aload_n 0, 1) := by decide +kernel
theorem d_jdk_68_method_22_15 : decode jdk_68_method_22_code 15 = .ok (.aload_n 0, 1) := by decide +kernel
theorem d_jdk_68_method_22_16 : decode jdk_68_method_22_code 16 = .ok (.getfield 79, 3) := by decide +kernel
theorem d_jdk_68_method_22_19 : decode jdk_68_method_22_code 19 = .ok (.iload_n 2, 1) := by decide +kernel
theorem d_jdk_68_method_22_20 : decode jdk_68_method_22_code 20 = .ok (.iadd, 1) := by decide +kernel
theorem d_jdk_68_method_22_21 : decode jdk_68_method_22_code 21 = .ok (.invokevirtual 100, 3) := by decide +kernel
theorem d_jdk_68_method_22_24 : decode jdk_68_method_22_code 24 = .ok (.aload_n 0, 1) := by decide +kernel
theorem d_jdk_68_method_22_25 : decode jdk_68_method_22_code 25 = .ok (.aload_n 0, 1) := by decide +kernel
theorem d_jdk_68_method_22_26 : decode jdk_68_method_22_code 26 = .ok (.getfield 79, 3) := by decide +kernel
theorem d_jdk_68_method_22_29 : decode jdk_68_method_22_code 29 = .ok (.aload_n 1, 1) := by decide +kernel
theorem pd_101 : parseMethodDescriptor "(ILjava/lang/String;)V" = some ⟨[.int, (.object "java/lang/String")], none⟩ := by decide +kernel
theorem d_jdk_68_method_22_30 : decode jdk_68_method_22_code 30 = .ok (.invokevirtual 208, 3) := by decide +kernel
theorem d_jdk_68_method_22_33 : decode jdk_68_method_22_code 33 = .ok (.aload_n 0, 1) := by decide +kernel
theorem d_jdk_68_method_22_34 : decode jdk_68_method_22_code 34 = .ok (.dup, 1) := by decide +kernel
theorem d_jdk_68_method_22_35 : decode jdk_68_method_22_code 35 = .ok (.getfield 79, 3) := by decide +kernel
theorem d_jdk_68_method_22_38 : decode jdk_68_method_22_code 38 = .ok (.iload_n 2, 1) := by decide +kernel
theorem d_jdk_68_method_22_39 : decode jdk_68_method_22_code 39 = .ok (.iadd, 1) := by decide +kernel
theorem d_jdk_68_method_22_40 : decode jdk_68_method_22_code 40 = .ok (.putfield 79, 3) := by decide +kernel
theorem d_jdk_68_method_22_43 : decode jdk_68_method_22_code 43 = .ok (.aload_n 0, 1) := by decide +kernel
theorem d_jdk_68_method_22_44 : decode jdk_68_method_22_code 44 = .ok (.areturn, 1) := by decide +kernel
def Q_asbappend (Z : State) (a1 : Nat) (a2 : Nat) (t : Nat) (cs : List Int32) (ds : List Int32) (cap : Nat) (k : ClassId) (zc : Int32) (a4 : Nat) (h0 : Heap) (v : Option Value) (h : Heap) (L : List Loc) : Prop := v = some (.ref a1) ∧ Fr Z.heap.size L ∧ Keep h0 h [a1, a4] ∧ Exa Z h a1 "java/lang/StringBuilder" ∧ Fld Z h a1 "java/lang/AbstractStringBuilder" "value" "[B" (.ref a4) ∧ Fld Z h a1 "java/lang/AbstractStringBuilder" "coder" "B" (.int (0 : Int32)) ∧ Fld Z h a1 "java/lang/AbstractStringBuilder" "count" "I" (.int (Int32.ofNat (cs ++ ds).length)) ∧ Arv Z h a4 k .byte (Int32.ofNat cap) (own_low (cs ++ ds)) (.int (0 : Int32))
set_option maxRecDepth 65536 in
set_option maxHeartbeats 40000000 in
theorem rm_asbappend (l : Launch) (Z : State) (a0 : Array Value) (hw : ∀ d ∈ tables_1, d.before a0 Z = true) (ws : List Jvm.Cond) (a1 : Nat) (a2 : Nat) (t : Nat) (cs : List Int32) (ds : List Int32) (cap : Nat) (k : ClassId) (zc : Int32) (a4 : Nat) (h0 : Heap) (OL : Old Z Z.heap.size h0) (p0_ : Exa Z h0 a1 "java/lang/StringBuilder") (p1_ : Fld Z h0 a1 "java/lang/AbstractStringBuilder" "value" "[B" (.ref a4)) (p2_ : Fld Z h0 a1 "java/lang/AbstractStringBuilder" "coder" "B" (.int (0 : Int32))) (p3_ : Fld Z h0 a1 "java/lang/AbstractStringBuilder" "count" "I" (.int (Int32.ofNat cs.length))) (p4_ : own_Str Z h0 a2 t ds) (p5_ : Arv Z h0 a4 k .byte (Int32.ofNat cap) (own_low cs) (.int (0 : Int32))) (st_COMPACT_STRINGS : Sta Z Z.heap "java/lang/String" "COMPACT_STRINGS" "Z" (.int zc)) (hzc : ¬ zc = 0) (hfit : cs.length + ds.length ≤ cap) (hcap : cap ≤ 100) (hne : @Ne Nat t a4) (hn0 : Z.heap.size ≤ a1) (hn4 : Z.heap.size ≤ a4) (hld : ∀ c ∈ ds, ¬ c < 0 ∧ ¬ (255 : Int32) < c) :
    MetFree l (⟨"java/lang/AbstractStringBuilder", "append", "(Ljava/lang/String;)Ljava/lang/AbstractStringBuilder;"⟩ : MethodName) (head1 (Jvm.Cond.code (⟨"java/lang/AbstractStringBuilder", "append", "(Ljava/lang/String;)Ljava/lang/AbstractStringBuilder;"⟩ : MethodName) jdk_68_method_22_code 3 (some (.object "java/lang/AbstractStringBuilder")) :: ws) ({ frames := 3, cells := 0, slots := 0, locals := 73 } : Room)) (fun a U => a = #[(.ref a1), (.ref a2)] ∧ Z.Warmed39 U.vm ∧ U.heap = h0) (fun _ _ _ _ _ => True) (fun _ U o U' => ∃ v L, o = .returned v ∧ Q_asbappend Z a1 a2 t cs ds cap k zc a4 h0 v U'.heap L ∧ FrameEnd U o U' L ({ frames := 3, cells := 0, slots := 0, locals := 73 } : Room).cells ({ frames := 3, cells := 0, slots := 0, locals := 73 } : Room).slots) := by
  refine MetFree.of_bodySF (plainFor_of_name pn_0) hisR ?_
  intro p e s m args below meth c s₁ Bd hml0 hP hK
  obtain ⟨rfl, hZ, hh⟩ := hP
  have hx := Bd.exec
  have hby := Bd.bytes
  have hml : c.maxLocals = 3 := hml0
  have hown : s.vm.findClass "java/lang/AbstractStringBuilder" = some m.cls := findClass_of_methodNamed Bd.named
  have hnm := (name_of_methodNamed Bd.named Bd.method).1
  have X0 : Stand p l e ({ frames := 3, cells := 0, slots := 0, locals := 73 } : Room) s m #[(.ref a1), (.ref a2)] below meth c s₁ [] 0 0 := Stand.of_body Bd
  have e0 : s₁.heap = h0 := by rw [← hh, Bd.state]; rfl
  have N0 := Fr.nil Z.heap.size
  have Z0 : Z.heap.size ≤ h0.size := OL.2.1
  have lt_0 : @LT.lt Nat _ a1 h0.size := p0_.lt
  have lt_1 : @LT.lt Nat _ a1 h0.size := p1_.lt
  have lt_2 : @LT.lt Nat _ a1 h0.size := p2_.lt
  have lt_3 : @LT.lt Nat _ a1 h0.size := p3_.lt
  have lt_4 : @LT.lt Nat _ a2 h0.size := p4_.lt
  have ltv_4 : @LT.lt Nat _ t h0.size := p4_.ltv
  have lt_5 : @LT.lt Nat _ a4 h0.size := p5_.lt
  obtain ⟨PP, hPP⟩ : ∃ PP : Outcome → State → Prop, PP = (fun o tE => ∃ v L, o = .returned v ∧ Q_asbappend Z a1 a2 t cs ds cap k zc a4 h0 v tE.heap L ∧ FrameEnd s o tE L ({ frames := 3, cells := 0, slots := 0, locals := 73 } : Room).cells ({ frames := 3, cells := 0, slots := 0, locals := 73 } : Room).slots) := ⟨_, rfl⟩
  show own_Go p.tables e below (fun o tE => ∃ v L, o = .returned v ∧ Q_asbappend Z a1 a2 t cs ds cap k zc a4 h0 v tE.heap L ∧ FrameEnd s o tE L ({ frames := 3, cells := 0, slots := 0, locals := 73 } : Room).cells ({ frames := 3, cells := 0, slots := 0, locals := 73 } : Room).slots) (s₁.setTop (entryFrame m #[(.ref a1), (.ref a2)] 3))
  rw [← hPP]
  refine own_Go.st (fun t k => castTop (ef_84 m a1 a2) k) ?_
  show own_Go _ _ _ _ (s₁.setTop (mkF m 0 #[.val (.ref a1), .val (.ref a2), .unset] []))
  refine own_Go.st (fun _ k => XS.aloadN X0.here hx rfl (hb hby d_jdk_68_method_22_0) rfl rfl k) ?_
  show own_Go _ _ _ _ (s₁.setTop (mkF m 1 #[.val (.ref a1), .val (.ref a2), .unset] [(.ref a2)]))
  refine own_Go.st (fun _ k => XS.ifnonnullYes X0.here hx rfl (pc0 := 1) (pc' := 9) rfl (hb hby d_jdk_68_method_22_1) rfl (by decide) (by decide) k) ?_
  show own_Go _ _ _ _ (s₁.setTop (mkF m 9 #[.val (.ref a1), .val (.ref a2), .unset] []))
  refine own_Go.st (fun _ k => XS.aloadN X0.here hx rfl (hb hby d_jdk_68_method_22_9) rfl rfl k) ?_
  show own_Go _ _ _ _ (s₁.setTop (mkF m 10 #[.val (.ref a1), .val (.ref a2), .unset] [(.ref a2)]))
  obtain ⟨kb161, cd161, N161_, vs161, s1161, s2161, s3161, s4161, s5161, s6161, s7161⟩ := id p4_
  obtain ⟨cq160, kq160, q160a, q160b, q160c⟩ := isOf hZ e0 p4_.exa
  obtain ⟨_, _, ⟨T160, L160, k160, n160⟩, -, X160, ⟨Lc160, hQ160, l160, y160, z160⟩, st160⟩ := X0.virtualBack hx (y := (⟨"java/lang/String", "length", "()I"⟩ : MethodName)) (z := (⟨"java/lang/String", "length", "()I"⟩ : MethodName)) hown (mvT hZ (hw _ (List.mem_of_getElem? (i := 121) rfl))) (mvT hZ (hw _ (List.mem_of_getElem? (i := 57) rfl))) (notFace_of_selects (args := #[]) (mvT hZ (hw _ (List.mem_of_getElem? (i := 59) rfl)))) (mvT hZ (hw _ (List.mem_of_getElem? (i := 59) rfl))) (mvT hZ (hw _ (List.mem_of_getElem? (i := 58) rfl))) (by decide) (StrChars.Road.lenW (W := 0) hZ (own_hln hw) (kI := 4) (hw _ (List.mem_of_getElem? (i := 5) rfl)) s1161 s2161 s3161 s4161 s5161 s6161 (st_COMPACT_STRINGS.ext OL.2) hzc s7161 (by decide) (by decide)) q160a q160c (g := (mkF m 10 #[.val (.ref a1), .val (.ref a2), .unset] [(.ref a2)])) rfl (by rw [hml]; rfl) (Steps.refl _) (argsL := []) (rest := []) (lenOf pd_88 rfl) rfl (by show 2 * 0 + _ ≤ _; exact Nat.le_of_eq rfl) (hb hby d_jdk_68_method_22_10) (fun _ _ => ⟨rfl, e0, (by decide : 0 + 0 ≤ _), (by decide : 0 + 0 ≤ _)⟩)
  dsimp only [Pt.U, Pt.locs, Pt.cells, Pt.slots] at X160 l160 y160 z160 st160 hQ160
  subst l160 y160 z160
  obtain ⟨rfl, rfl, K160⟩ := hQ160
  have N160 := Fr.app N0 (Fr.nil Z.heap.size)
  refine own_Go.tr st160 ?_
  show own_Go _ _ _ _ (T160.setTop (mkF m 13 #[.val (.ref a1), .val (.ref a2), .unset] [(.int (Int32.ofNat ds.length))]))
  refine own_Go.st (fun _ k => XS.istoreN X160.here hx rfl (hb hby d_jdk_68_method_22_13) rfl (l' := #[.val (.ref a1), .val (.ref a2), .val (.int (Int32.ofNat ds.length))]) rfl k) ?_
  show own_Go _ _ _ _ (T160.setTop (mkF m 14 #[.val (.ref a1), .val (.ref a2), .val (.int (Int32.ofNat ds.length))] []))
  refine own_Go.st (fun _ k => XS.aloadN X160.here hx rfl (hb hby d_jdk_68_method_22_14) rfl rfl k) ?_
  show own_Go _ _ _ _ (T160.setTop (mkF m 15 #[.val (.ref a1), .val (.ref a2), .val (.int (Int32.ofNat ds.length))] [(.ref a1)]))
  refine own_Go.st (fun _ k => XS.aloadN X160.here hx rfl (hb hby d_jdk_68_method_22_15) rfl rfl k) ?_
  show own_Go _ _ _ _ (T160.setTop (mkF m 16 #[.val (.ref a1), .val (.ref a2), .val (.int (Int32.ofNat ds.length))] [(.ref a1), (.ref a1)]))
  obtain ⟨T162, X162, e162, st162⟩ := getF X160 hx hZ hown (host := "") (Or.inl (hw _ (List.mem_of_getElem? (i := 122) rfl))) Via.refl K160 p3_ (g := (mkF m 16 #[.val (.ref a1), .val (.ref a2), .val (.int (Int32.ofNat ds.length))] [(.ref a1), (.ref a1)])) rfl rfl (hb hby d_jdk_68_method_22_16)
  refine own_Go.st st162 ?_
  show own_Go _ _ _ _ (T162.setTop (mkF m 19 #[.val (.ref a1), .val (.ref a2), .val (.int (Int32.ofNat ds.length))] [(.int (Int32.ofNat cs.length)), (.ref a1)]))
  refine own_Go.st (fun _ k => XS.iloadN X162.here hx rfl (hb hby d_jdk_68_method_22_19) rfl k) ?_
  show own_Go _ _ _ _ (T162.setTop (mkF m 20 #[.val (.ref a1), .val (.ref a2), .val (.int (Int32.ofNat ds.length))] [(.int (Int32.ofNat ds.length)), (.int (Int32.ofNat cs.length)), (.ref a1)]))
  refine own_Go.st (fun _ k => XS.iadd X162.here hx rfl (hb hby d_jdk_68_method_22_20) rfl k) ?_
  show own_Go _ _ _ _ (T162.setTop (mkF m 21 #[.val (.ref a1), .val (.ref a2), .val (.int (Int32.ofNat ds.length))] [(.int ((Int32.ofNat cs.length) + (Int32.ofNat ds.length))), (.ref a1)]))
  rw [own_ofA (by omega)]
  show own_Go _ _ _ _ (T162.setTop (mkF m 21 #[.val (.ref a1), .val (.ref a2), .val (.int (Int32.ofNat ds.length))] [(.int (Int32.ofNat (cs.length + ds.length))), (.ref a1)]))
  obtain ⟨cq163, q163, q163'⟩ := p0_.cell
  obtain ⟨_, _, ⟨T163, L163, k163, n163⟩, -, X163, ⟨Lc163, hQ163, l163, y163, z163⟩, st163⟩ := X162.privateBack hx (y := (⟨"java/lang/AbstractStringBuilder", "ensureCapacityInternal", "(I)V"⟩ : MethodName)) hown (mvT hZ (hw _ (List.mem_of_getElem? (i := 124) rfl))) (mvT hZ (hw _ (List.mem_of_getElem? (i := 125) rfl))) (own_selP (mvT hZ (hw _ (List.mem_of_getElem? (i := 127) rfl))) (Cond.privateMethod_at (mvP hZ (hw _ (List.mem_of_getElem? (i := 126) rfl)) (args := #[]))) (mvT hZ (hw _ (List.mem_of_getElem? (i := 125) rfl))) (by decide)) (Cond.privateMethod_at (mvP hZ (hw _ (List.mem_of_getElem? (i := 126) rfl)) (args := #[]))) (mvT hZ (hw _ (List.mem_of_getElem? (i := 128) rfl))) (by decide) (backOf (W := 0) (rm_ensure0 l Z a0 hw [] a1 (Int32.ofNat (cs.length + ds.length)) (cs.length + ds.length) cap a4 k (own_low cs) h0 OL p1_ p2_ p5_ rfl hfit (by first | assumption | decide)) hZ (hw _ (List.mem_of_getElem? (i := 128) rfl)) (hw _ (List.mem_of_getElem? (i := 48) rfl)) (by decide) (by decide)) (g := (mkF m 21 #[.val (.ref a1), .val (.ref a2), .val (.int (Int32.ofNat ds.length))] [(.int (Int32.ofNat (cs.length + ds.length))), (.ref a1)])) rfl (by rw [hml]; rfl) (Steps.refl _) (a := a1) (by rw [e162]; exact q163) q163' (argsL := [(.int (Int32.ofNat (cs.length + ds.length)))]) (rest := []) (lenOf pd_19 rfl) rfl (by show 2 * 0 + _ ≤ _; exact Nat.le_of_eq rfl) (hb hby d_jdk_68_method_22_21) (fun _ _ => ⟨rfl, e162, (by decide : 0 + 0 ≤ _), (by decide : 0 + 0 ≤ _)⟩)
  dsimp only [Pt.U, Pt.locs, Pt.cells, Pt.slots] at X163 l163 y163 z163 st163 hQ163
  subst l163 y163 z163
  obtain ⟨rfl, N163q, K163⟩ := hQ163
  have N163 := Fr.app N160 N163q
  refine own_Go.tr st163 ?_
  show own_Go _ _ _ _ (T163.setTop (mkF m 24 #[.val (.ref a1), .val (.ref a2), .val (.int (Int32.ofNat ds.length))] []))
  refine own_Go.st (fun _ k => XS.aloadN X163.here hx rfl (hb hby d_jdk_68_method_22_24) rfl rfl k) ?_
  show own_Go _ _ _ _ (T163.setTop (mkF m 25 #[.val (.ref a1), .val (.ref a2), .val (.int (Int32.ofNat ds.length))] [(.ref a1)]))
  refine own_Go.st (fun _ k => XS.aloadN X163.here hx rfl (hb hby d_jdk_68_method_22_25) rfl rfl k) ?_
  show own_Go _ _ _ _ (T163.setTop (mkF m 26 #[.val (.ref a1), .val (.ref a2), .val (.int (Int32.ofNat ds.length))] [(.ref a1), (.ref a1)]))
  obtain ⟨T164, X164, e164, st164⟩ := getF X163 hx hZ hown (host := "") (Or.inl (hw _ (List.mem_of_getElem? (i := 122) rfl))) Via.refl K163 p3_ (g := (mkF m 26 #[.val (.ref a1), .val (.ref a2), .val (.int (Int32.ofNat ds.length))] [(.ref a1), (.ref a1)])) rfl rfl (hb hby d_jdk_68_method_22_26)
  refine own_Go.st st164 ?_
  show own_Go _ _ _ _ (T164.setTop (mkF m 29 #[.val (.ref a1), .val (.ref a2), .val (.int (Int32.ofNat ds.length))] [(.int (Int32.ofNat cs.length)), (.ref a1)]))
  refine own_Go.st (fun _ k => XS.aloadN X164.here hx rfl (hb hby d_jdk_68_method_22_29) rfl rfl k) ?_
  show own_Go _ _ _ _ (T164.setTop (mkF m 30 #[.val (.ref a1), .val (.ref a2), .val (.int (Int32.ofNat ds.length))] [(.ref a2), (.int (Int32.ofNat cs.length)), (.ref a1)]))
  obtain ⟨cq165, q165, q165'⟩ := p0_.cell
  obtain ⟨_, _, ⟨T165, L165, k165, n165⟩, -, X165, ⟨Lc165, hQ165, l165, y165, z165⟩, st165⟩ := X164.privateBack hx (y := (⟨"java/lang/AbstractStringBuilder", "putStringAt", "(ILjava/lang/String;)V"⟩ : MethodName)) hown (mvT hZ (hw _ (List.mem_of_getElem? (i := 129) rfl))) (mvT hZ (hw _ (List.mem_of_getElem? (i := 130) rfl))) (own_selP (mvT hZ (hw _ (List.mem_of_getElem? (i := 132) rfl))) (Cond.privateMethod_at (mvP hZ (hw _ (List.mem_of_getElem? (i := 131) rfl)) (args := #[]))) (mvT hZ (hw _ (List.mem_of_getElem? (i := 130) rfl))) (by decide)) (Cond.privateMethod_at (mvP hZ (hw _ (List.mem_of_getElem? (i := 131) rfl)) (args := #[]))) (mvT hZ (hw _ (List.mem_of_getElem? (i := 133) rfl))) (by decide) (backOf (W := 0) (rm_putStringAt l Z a0 hw [] a1 (Int32.ofNat cs.length) a2 t cs ds cap k zc a4 h0 OL p0_ p1_ p2_ p4_ p5_ st_COMPACT_STRINGS (by first | assumption | decide) rfl (by first | assumption | decide) (by first | assumption | decide) (by first | assumption | decide) hn4 (by first | assumption | decide)) hZ (hw _ (List.mem_of_getElem? (i := 133) rfl)) (hw _ (List.mem_of_getElem? (i := 48) rfl)) (by decide) (by decide)) (g := (mkF m 30 #[.val (.ref a1), .val (.ref a2), .val (.int (Int32.ofNat ds.length))] [(.ref a2), (.int (Int32.ofNat cs.length)), (.ref a1)])) rfl (by rw [hml]; rfl) (Steps.refl _) (a := a1) (by rw [e164]; exact q165) q165' (argsL := [(.int (Int32.ofNat cs.length)), (.ref a2)]) (rest := []) (lenOf pd_101 rfl) rfl (by show 2 * 0 + _ ≤ _; exact Nat.le_of_eq rfl) (hb hby d_jdk_68_method_22_30) (fun _ _ => ⟨rfl, e164, (by decide : 0 + 0 ≤ _), (by decide : 0 + 0 ≤ _)⟩)
  dsimp only [Pt.U, Pt.locs, Pt.cells, Pt.slots] at X165 l165 y165 z165 st165 hQ165
  subst l165 y165 z165
  obtain ⟨rfl, N165q, K165, f165_0⟩ := hQ165
  have N165 := Fr.app N163 N165q
  have z165 : h0.size ≤ T165.heap.size := K165.1
  have lt165_0 : @LT.lt Nat _ a4 T165.heap.size := f165_0.lt
  refine own_Go.tr st165 ?_
  show own_Go _ _ _ _ (T165.setTop (mkF m 33 #[.val (.ref a1), .val (.ref a2), .val (.int (Int32.ofNat ds.length))] []))
  refine own_Go.st (fun _ k => XS.aloadN X165.here hx rfl (hb hby d_jdk_68_method_22_33) rfl rfl k) ?_
  show own_Go _ _ _ _ (T165.setTop (mkF m 34 #[.val (.ref a1), .val (.ref a2), .val (.int (Int32.ofNat ds.length))] [(.ref a1)]))
  refine own_Go.st (fun _ k => XS.dup X165.here hx rfl (hb hby d_jdk_68_method_22_34) rfl rfl k) ?_
  show own_Go _ _ _ _ (T165.setTop (mkF m 35 #[.val (.ref a1), .val (.ref a2), .val (.int (Int32.ofNat ds.length))] [(.ref a1), (.ref a1)]))
  have ne166 : @Ne Nat a1 a4 := Exa.neArv p0_ p5_ (hw _ (List.mem_of_getElem? (i := 39) rfl))
  have f167 : Fld Z T165.heap a1 "java/lang/AbstractStringBuilder" "count" "I" (.int (Int32.ofNat cs.length)) := p3_.keep K165 (ninS ne166 nin0)
  obtain ⟨T168, X168, e168, st168⟩ := getF X165 hx hZ hown (host := "") (Or.inl (hw _ (List.mem_of_getElem? (i := 122) rfl))) Via.refl rfl f167 (g := (mkF m 35 #[.val (.ref a1), .val (.ref a2), .val (.int (Int32.ofNat ds.length))] [(.ref a1), (.ref a1)])) rfl rfl (hb hby d_jdk_68_method_22_35)
  refine own_Go.st st168 ?_
  show own_Go _ _ _ _ (T168.setTop (mkF m 38 #[.val (.ref a1), .val (.ref a2), .val (.int (Int32.ofNat ds.length))] [(.int (Int32.ofNat cs.length)), (.ref a1)]))
  refine own_Go.st (fun _ k => XS.iloadN X168.here hx rfl (hb hby d_jdk_68_method_22_38) rfl k) ?_
  show own_Go _ _ _ _ (T168.setTop (mkF m 39 #[.val (.ref a1), .val (.ref a2), .val (.int (Int32.ofNat ds.length))] [(.int (Int32.ofNat ds.length)), (.int (Int32.ofNat cs.length)), (.ref a1)]))
  refine own_Go.st (fun _ k => XS.iadd X168.here hx rfl (hb hby d_jdk_68_method_22_39) rfl k) ?_
  show own_Go _ _ _ _ (T168.setTop (mkF m 40 #[.val (.ref a1), .val (.ref a2), .val (.int (Int32.ofNat ds.length))] [(.int ((Int32.ofNat cs.length) + (Int32.ofNat ds.length))), (.ref a1)]))
  rw [own_ofA (by omega), ← List.length_append]
  show own_Go _ _ _ _ (T168.setTop (mkF m 40 #[.val (.ref a1), .val (.ref a2), .val (.int (Int32.ofNat ds.length))] [(.int (Int32.ofNat (cs ++ ds).length)), (.ref a1)]))
  have f169 : Exa Z T165.heap a1 "java/lang/StringBuilder" := p0_.keep K165
  obtain ⟨T170, h170, X170, e170, W170, st170⟩ := putF X168 hx hZ hown (host := "") (Or.inl (hw _ (List.mem_of_getElem? (i := 122) rfl))) Via.refl e168 f167 f169 (Or.inl (hw _ (List.mem_of_getElem? (i := 123) rfl))) (hw _ (List.mem_of_getElem? (i := 39) rfl)) (ty := .int) (by decide) rfl rfl (g := (mkF m 40 #[.val (.ref a1), .val (.ref a2), .val (.int (Int32.ofNat ds.length))] [(.int (Int32.ofNat (cs ++ ds).length)), (.ref a1)])) rfl rfl (hb hby d_jdk_68_method_22_40)
  refine own_Go.st st170 ?_
  have N170 := Fr.snoc X170 N165 (by omega)
  have z170 : T165.heap.size ≤ h170.size := Nat.le_of_eq W170.size.symm
  have f171 : Fld Z h170 a1 "java/lang/AbstractStringBuilder" "count" "I" (.int (Int32.ofNat (cs ++ ds).length)) := f167.same W170
  show own_Go _ _ _ _ (T170.setTop (mkF m 43 #[.val (.ref a1), .val (.ref a2), .val (.int (Int32.ofNat ds.length))] []))
  refine own_Go.st (fun _ k => XS.aloadN X170.here hx rfl (hb hby d_jdk_68_method_22_43) rfl rfl k) ?_
  show own_Go _ _ _ _ (T170.setTop (mkF m 44 #[.val (.ref a1), .val (.ref a2), .val (.int (Int32.ofNat ds.length))] [(.ref a1)]))
  obtain ⟨fs172, hr172, hrun172, hend172, hW172, hsm172⟩ := X170.leave (v := some (.ref a1)) (fun h => by rw [Bd.returns] at h; cases h)
  have K173 : Keep h0 T165.heap [a1, a4] := (Keep.refl h0 [a1, a4]).trans K165 (allS (Or.inl (List.mem_of_getElem? (i := 1) rfl)) all0)
  have K174 : Keep h0 h170 [a1, a4] := K173.wr W170 (Or.inl (List.mem_of_getElem? (i := 0) rfl))
  have f175 : Exa Z h170 a1 "java/lang/StringBuilder" := f169.wr W170
  have f176 : Fld Z T165.heap a1 "java/lang/AbstractStringBuilder" "value" "[B" (.ref a4) := p1_.keep K165 (ninS ne166 nin0)
  have f177 : Fld Z h170 a1 "java/lang/AbstractStringBuilder" "value" "[B" (.ref a4) := f176.other W170 (Or.inr (slot_ne (Or.inl (hw _ (List.mem_of_getElem? (i := 53) rfl))) (Or.inl (hw _ (List.mem_of_getElem? (i := 123) rfl))) (by decide) (t := (.array .byte)) (t' := .int) (by decide) (by decide)))
  have f178 : Fld Z T165.heap a1 "java/lang/AbstractStringBuilder" "coder" "B" (.int (0 : Int32)) := p2_.keep K165 (ninS ne166 nin0)
  have f179 : Fld Z h170 a1 "java/lang/AbstractStringBuilder" "coder" "B" (.int (0 : Int32)) := f178.other W170 (Or.inr (slot_ne (Or.inl (hw _ (List.mem_of_getElem? (i := 55) rfl))) (Or.inl (hw _ (List.mem_of_getElem? (i := 123) rfl))) (by decide) (t := .byte) (t' := .int) (by decide) (by decide)))
  have f180 : Arv Z h170 a4 k .byte (Int32.ofNat cap) (own_low (cs ++ ds)) (.int (0 : Int32)) := f165_0.other W170 (Ne.symm ne166)
  subst hPP
  refine ⟨_, _, own_retA X170 hx Bd.returns rfl rfl (hb hby d_jdk_68_method_22_44) hr172, hrun172, hend172, _, _, rfl, ?_, ⟨_, rfl⟩, hW172, hsm172.mono (by decide) (by decide)⟩
  · show Q_asbappend Z _ _ _ _ _ _ _ _ _ h0 _ T170.heap _
    rw [e170]
    exact ⟨rfl, N170, K174, f175, f177, f179, f171, f180⟩
theorem d_jdk_67_method_7_0 : decode jdk_67_method_7_code 0 = .ok (.aload_n 0, 1) := by decide +kernel
theorem d_jdk_67_method_7_1 : decode jdk_67_method_7_code 1 = .ok (.aload_n 1, 1) := by decide +kernel
theorem pd_113 : parseMethodDescriptor "(Ljava/lang/String;)Ljava/lang/AbstractStringBuilder;" = some ⟨[(.object "java/lang/String")], some (.object "java/lang/AbstractStringBuilder")⟩ := by decide +kernel
theorem d_jdk_67_method_7_2 : decode jdk_67_method_7_code 2 = .ok (.invokespecial 29, 3) := by decide +kernel
theorem d_jdk_67_method_7_5 : decode jdk_67_method_7_code 5 = .ok (.pop, 1) := by decide +kernel
theorem d_jdk_67_method_7_6 : decode jdk_67_method_7_code 6 = .ok (.aload_n 0, 1) := by decide +kernel
theorem d_jdk_67_method_7_7 : decode jdk_67_method_7_code 7 = .ok (.areturn, 1) := by decide +kernel
def Q_sbappend (Z : State) (a1 : Nat) (a2 : Nat) (t : Nat) (cs : List Int32) (ds : List Int32) (cap : Nat) (k : ClassId) (zc : Int32) (a4 : Nat) (h0 : Heap) (v : Option Value) (h : Heap) (L : List Loc) : Prop := v = some (.ref a1) ∧ Fr Z.heap.size L ∧ Keep h0 h [a1, a4] ∧ Exa Z h a1 "java/lang/StringBuilder" ∧ Fld Z h a1 "java/lang/AbstractStringBuilder" "value" "[B" (.ref a4) ∧ Fld Z h a1 "java/lang/AbstractStringBuilder" "coder" "B" (.int (0 : Int32)) ∧ Fld Z h a1 "java/lang/AbstractStringBuilder" "count" "I" (.int (Int32.ofNat (cs ++ ds).length)) ∧ Arv Z h a4 k .byte (Int32.ofNat cap) (own_low (cs ++ ds)) (.int (0 : Int32))
set_option maxRecDepth 65536 in
set_option maxHeartbeats 40000000 in
theorem rm_sbappend (l : Launch) (Z : State) (a0 : Array Value) (hw : ∀ d ∈ tables_1, d.before a0 Z = true) (ws : List Jvm.Cond) (a1 : Nat) (a2 : Nat) (t : Nat) (cs : List Int32) (ds : List Int32) (cap : Nat) (k : ClassId) (zc : Int32) (a4 : Nat) (h0 : Heap) (OL : Old Z Z.heap.size h0) (p0_ : Exa Z h0 a1 "java/lang/StringBuilder") (p1_ : Fld Z h0 a1 "java/lang/AbstractStringBuilder" "value" "[B" (.ref a4)) (p2_ : Fld Z h0 a1 "java/lang/AbstractStringBuilder" "coder" "B" (.int (0 : Int32))) (p3_ : Fld Z h0 a1 "java/lang/AbstractStringBuilder" "count" "I" (.int (Int32.ofNat cs.length))) (p4_ : own_Str Z h0 a2 t ds) (p5_ : Arv Z h0 a4 k .byte (Int32.ofNat cap) (own_low cs) (.int (0 : Int32))) (st_COMPACT_STRINGS : Sta Z Z.heap "java/lang/String" "COMPACT_STRINGS" "Z" (.int zc)) (hzc : ¬ zc = 0) (hfit : cs.length + ds.length ≤ cap) (hcap : cap ≤ 100) (hne : @Ne Nat t a4) (hn0 : Z.heap.size ≤ a1) (hn4 : Z.heap.size ≤ a4) (hld : ∀ c ∈ ds, ¬ c < 0 ∧ ¬ (255 : Int32) < c) :
    MetFree l (⟨"java/lang/StringBuilder", "append", "(Ljava/lang/String;)Ljava/lang/StringBuilder;"⟩ : MethodName) (head1 (Jvm.Cond.code (⟨"java/lang/StringBuilder", "append", "(Ljava/lang/String;)Ljava/lang/StringBuilder;"⟩ : MethodName) jdk_67_method_7_code 2 (some (.object "java/lang/StringBuilder")) :: ws) ({ frames := 4, cells := 0, slots := 0, locals := 90 } : Room)) (fun a U => a = #[(.ref a1), (.ref a2)] ∧ Z.Warmed39 U.vm ∧ U.heap = h0) (fun _ _ _ _ _ => True) (fun _ U o U' => ∃ v L, o = .returned v ∧ Q_sbappend Z a1 a2 t cs ds cap k zc a4 h0 v U'.heap L ∧ FrameEnd U o U' L ({ frames := 4, cells := 0, slots := 0, locals := 90 } : Room).cells ({ frames := 4, cells := 0, slots := 0, locals := 90 } : Room).slots) := by
  refine MetFree.of_bodySF (plainFor_of_name pn_15) hisR ?_
  intro p e s m args below meth c s₁ Bd hml0 hP hK
  obtain ⟨rfl, hZ, hh⟩ := hP
  have hx := Bd.exec
  have hby := Bd.bytes
  have hml : c.maxLocals = 2 := hml0
  have hown : s.vm.findClass "java/lang/StringBuilder" = some m.cls := findClass_of_methodNamed Bd.named
  have hnm := (name_of_methodNamed Bd.named Bd.method).1
  have X0 : Stand p l e ({ frames := 4, cells := 0, slots := 0, locals := 90 } : Room) s m #[(.ref a1), (.ref a2)] below meth c s₁ [] 0 0 := Stand.of_body Bd
  have e0 : s₁.heap = h0 := by rw [← hh, Bd.state]; rfl
  have N0 := Fr.nil Z.heap.size
  have Z0 : Z.heap.size ≤ h0.size := OL.2.1
  have lt_0 : @LT.lt Nat _ a1 h0.size := p0_.lt
  have lt_1 : @LT.lt Nat _ a1 h0.size := p1_.lt
  have lt_2 : @LT.lt Nat _ a1 h0.size := p2_.lt
  have lt_3 : @LT.lt Nat _ a1 h0.size := p3_.lt
  have lt_4 : @LT.lt Nat _ a2 h0.size := p4_.lt
  have ltv_4 : @LT.lt Nat _ t h0.size := p4_.ltv
  have lt_5 : @LT.lt Nat _ a4 h0.size := p5_.lt
  obtain ⟨PP, hPP⟩ : ∃ PP : Outcome → State → Prop, PP = (fun o tE => ∃ v L, o = .returned v ∧ Q_sbappend Z a1 a2 t cs ds cap k zc a4 h0 v tE.heap L ∧ FrameEnd s o tE L ({ frames := 4, cells := 0, slots := 0, locals := 90 } : Room).cells ({ frames := 4, cells := 0, slots := 0, locals := 90 } : Room).slots) := ⟨_, rfl⟩
  show own_Go p.tables e below (fun o tE => ∃ v L, o = .returned v ∧ Q_sbappend Z a1 a2 t cs ds cap k zc a4 h0 v tE.heap L ∧ FrameEnd s o tE L ({ frames := 4, cells := 0, slots := 0, locals := 90 } : Room).cells ({ frames := 4, cells := 0, slots := 0, locals := 90 } : Room).slots) (s₁.setTop (entryFrame m #[(.ref a1), (.ref a2)] 2))
  rw [← hPP]
  refine own_Go.st (fun t k => castTop (ef_29 m a1 a2) k) ?_
  show own_Go _ _ _ _ (s₁.setTop (mkF m 0 #[.val (.ref a1), .val (.ref a2)] []))
  refine own_Go.st (fun _ k => XS.aloadN X0.here hx rfl (hb hby d_jdk_67_method_7_0) rfl rfl k) ?_
  show own_Go _ _ _ _ (s₁.setTop (mkF m 1 #[.val (.ref a1), .val (.ref a2)] [(.ref a1)]))
  refine own_Go.st (fun _ k => XS.aloadN X0.here hx rfl (hb hby d_jdk_67_method_7_1) rfl rfl k) ?_
  show own_Go _ _ _ _ (s₁.setTop (mkF m 2 #[.val (.ref a1), .val (.ref a2)] [(.ref a2), (.ref a1)]))
  obtain ⟨_, _, ⟨T181, L181, k181, n181⟩, -, X181, ⟨Lc181, hQ181, l181, y181, z181⟩, st181⟩ := superBack X0 hx hZ (y := (⟨"java/lang/AbstractStringBuilder", "append", "(Ljava/lang/String;)Ljava/lang/AbstractStringBuilder;"⟩ : MethodName)) hown (hw _ (List.mem_of_getElem? (i := 116) rfl)) (own_sameP (hw _ (List.mem_of_getElem? (i := 119) rfl)) (hw _ (List.mem_of_getElem? (i := 127) rfl)) rfl (by decide)) (hw _ (List.mem_of_getElem? (i := 117) rfl)) (hw _ (List.mem_of_getElem? (i := 118) rfl)) (by decide) (backOf (W := 0) (rm_asbappend l Z a0 hw [] a1 a2 t cs ds cap k zc a4 h0 OL p0_ p1_ p2_ p3_ p4_ p5_ st_COMPACT_STRINGS (by first | assumption | decide) (by first | assumption | decide) (by first | assumption | decide) (by first | assumption | decide) (by first | assumption | decide) (by first | assumption | decide) (by first | assumption | decide)) hZ (hw _ (List.mem_of_getElem? (i := 120) rfl)) (hw _ (List.mem_of_getElem? (i := 48) rfl)) (by decide) (by decide)) e0 (Ins.self p0_) (g := (mkF m 2 #[.val (.ref a1), .val (.ref a2)] [(.ref a2), (.ref a1)])) rfl (by rw [hml]; rfl) (hw _ (List.mem_of_getElem? (i := 120) rfl)) (argsL := [(.ref a2)]) (rest := []) (lenOf pd_113 rfl) rfl (by show 2 * 0 + _ ≤ _; exact Nat.le_of_eq rfl) (hb hby d_jdk_67_method_7_2) (fun _ _ => ⟨rfl, e0, (by decide : 0 + 0 ≤ _), (by decide : 0 + 0 ≤ _)⟩)
  dsimp only [Pt.U, Pt.locs, Pt.cells, Pt.slots] at X181 l181 y181 z181 st181 hQ181
  subst l181 y181 z181
  obtain ⟨rfl, N181q, K181, f181_0, f181_1, f181_2, f181_3, f181_4⟩ := hQ181
  have N181 := Fr.app N0 N181q
  have z181 : h0.size ≤ T181.heap.size := K181.1
  have lt181_0 : @LT.lt Nat _ a1 T181.heap.size := f181_0.lt
  have lt181_1 : @LT.lt Nat _ a1 T181.heap.size := f181_1.lt
  have lt181_2 : @LT.lt Nat _ a1 T181.heap.size := f181_2.lt
  have lt181_3 : @LT.lt Nat _ a1 T181.heap.size := f181_3.lt
  have lt181_4 : @LT.lt Nat _ a4 T181.heap.size := f181_4.lt
  refine own_Go.tr st181 ?_
  show own_Go _ _ _ _ (T181.setTop (mkF m 5 #[.val (.ref a1), .val (.ref a2)] [(.ref a1)]))
  refine own_Go.st (fun _ k => XS.pop X181.here hx rfl (hb hby d_jdk_67_method_7_5) rfl rfl k) ?_
  show own_Go _ _ _ _ (T181.setTop (mkF m 6 #[.val (.ref a1), .val (.ref a2)] []))
  refine own_Go.st (fun _ k => XS.aloadN X181.here hx rfl (hb hby d_jdk_67_method_7_6) rfl rfl k) ?_
  show own_Go _ _ _ _ (T181.setTop (mkF m 7 #[.val (.ref a1), .val (.ref a2)] [(.ref a1)]))
  obtain ⟨fs182, hr182, hrun182, hend182, hW182, hsm182⟩ := X181.leave (v := some (.ref a1)) (fun h => by rw [Bd.returns] at h; cases h)
  have K183 : Keep h0 T181.heap [a1, a4] := (Keep.refl h0 [a1, a4]).trans K181 (allS (Or.inl (List.mem_of_getElem? (i := 0) rfl)) (allS (Or.inl (List.mem_of_getElem? (i := 1) rfl)) all0))
  subst hPP
  refine ⟨_, _, own_retA X181 hx Bd.returns rfl rfl (hb hby d_jdk_67_method_7_7) hr182, hrun182, hend182, _, _, rfl, ?_, ⟨_, rfl⟩, hW182, hsm182.mono (by decide) (by decide)⟩
  · show Q_sbappend Z _ _ _ _ _ _ _ _ _ h0 _ T181.heap _
    exact ⟨rfl, N181, K183, f181_0, f181_1, f181_2, f181_3, f181_4⟩
theorem d_jdk_68_method_64_0 : decode jdk_68_method_64_code 0 = .ok (.aload_n 0, 1) := by decide +kernel
theorem d_jdk_68_method_64_1 : decode jdk_68_method_64_code 1 = .ok (.getfield 15, 3) := by decide +kernel
theorem d_jdk_68_method_64_4 : decode jdk_68_method_64_code 4 = .ok (.areturn, 1) := by decide +kernel
def Q_getValue (Z : State) (a1 : Nat) (a4 : Nat) (h0 : Heap) (v : Option Value) (h : Heap) (L : List Loc) : Prop := v = some (.ref a4) ∧ Fr Z.heap.size L ∧ h = h0
set_option maxRecDepth 65536 in
set_option maxHeartbeats 40000000 in
theorem rm_getValue (l : Launch) (Z : State) (a0 : Array Value) (hw : ∀ d ∈ tables_1, d.before a0 Z = true) (ws : List Jvm.Cond) (a1 : Nat) (a4 : Nat) (h0 : Heap) (OL : Old Z Z.heap.size h0) (p0_ : Fld Z h0 a1 "java/lang/AbstractStringBuilder" "value" "[B" (.ref a4)) :
    MetFree l (⟨"java/lang/AbstractStringBuilder", "getValue", "()[B"⟩ : MethodName) (head1 (Jvm.Cond.code (⟨"java/lang/AbstractStringBuilder", "getValue", "()[B"⟩ : MethodName) jdk_68_method_64_code 1 (some (.array .byte)) :: ws) ({ frames := 0, cells := 0, slots := 0, locals := 0 } : Room)) (fun a U => a = #[(.ref a1)] ∧ Z.Warmed39 U.vm ∧ U.heap = h0) (fun _ _ _ _ _ => True) (fun _ U o U' => ∃ v L, o = .returned v ∧ Q_getValue Z a1 a4 h0 v U'.heap L ∧ FrameEnd U o U' L ({ frames := 0, cells := 0, slots := 0, locals := 0 } : Room).cells ({ frames := 0, cells := 0, slots := 0, locals := 0 } : Room).slots) := by
  refine MetFree.of_bodySF (plainFor_of_name pn_0) hisR ?_
  intro p e s m args below meth c s₁ Bd hml0 hP hK
  obtain ⟨rfl, hZ, hh⟩ := hP
  have hx := Bd.exec
  have hby := Bd.bytes
  have hml : c.maxLocals = 1 := hml0
  have hown : s.vm.findClass "java/lang/AbstractStringBuilder" = some m.cls := findClass_of_methodNamed Bd.named
  have hnm := (name_of_methodNamed Bd.named Bd.method).1
  have X0 : Stand p l e ({ frames := 0, cells := 0, slots := 0, locals := 0 } : Room) s m #[(.ref a1)] below meth c s₁ [] 0 0 := Stand.of_body Bd
  have e0 : s₁.heap = h0 := by rw [← hh, Bd.state]; rfl
  have N0 := Fr.nil Z.heap.size
  have Z0 : Z.heap.size ≤ h0.size := OL.2.1
  have lt_0 : @LT.lt Nat _ a1 h0.size := p0_.lt
  obtain ⟨PP, hPP⟩ : ∃ PP : Outcome → State → Prop, PP = (fun o tE => ∃ v L, o = .returned v ∧ Q_getValue Z a1 a4 h0 v tE.heap L ∧ FrameEnd s o tE L ({ frames := 0, cells := 0, slots := 0, locals := 0 } : Room).cells ({ frames := 0, cells := 0, slots := 0, locals := 0 } : Room).slots) := ⟨_, rfl⟩
  show own_Go p.tables e below (fun o tE => ∃ v L, o = .returned v ∧ Q_getValue Z a1 a4 h0 v tE.heap L ∧ FrameEnd s o tE L ({ frames := 0, cells := 0, slots := 0, locals := 0 } : Room).cells ({ frames := 0, cells := 0, slots := 0, locals := 0 } : Room).slots) (s₁.setTop (entryFrame m #[(.ref a1)] 1))
  rw [← hPP]
  refine own_Go.st (fun t k => castTop (ef_16 m a1) k) ?_
  show own_Go _ _ _ _ (s₁.setTop (mkF m 0 #[.val (.ref a1)] []))
  refine own_Go.st (fun _ k => XS.aloadN X0.here hx rfl (hb hby d_jdk_68_method_64_0) rfl rfl k) ?_
  show own_Go _ _ _ _ (s₁.setTop (mkF m 1 #[.val (.ref a1)] [(.ref a1)]))
  obtain ⟨T184, X184, e184, st184⟩ := getF X0 hx hZ hown (host := "") (Or.inl (hw _ (List.mem_of_getElem? (i := 52) rfl))) Via.refl e0 p0_ (g := (mkF m 1 #[.val (.ref a1)] [(.ref a1)])) rfl rfl (hb hby d_jdk_68_method_64_1)
  refine own_Go.st st184 ?_
  show own_Go _ _ _ _ (T184.setTop (mkF m 4 #[.val (.ref a1)] [(.ref a4)]))
  obtain ⟨fs185, hr185, hrun185, hend185, hW185, hsm185⟩ := X184.leave (v := some (.ref a4)) (fun h => by rw [Bd.returns] at h; cases h)
  subst hPP
  refine ⟨_, _, own_retA X184 hx Bd.returns rfl rfl (hb hby d_jdk_68_method_64_4) hr185, hrun185, hend185, _, _, rfl, ?_, ⟨_, rfl⟩, hW185, hsm185.mono (by decide) (by decide)⟩
  · show Q_getValue Z _ _ h0 _ T184.heap _
    rw [e184]
    exact ⟨rfl, N0, rfl⟩
theorem d_jdk_68_method_6_0 : decode jdk_68_method_6_code 0 = .ok (.aload_n 0, 1) := by decide +kernel
theorem d_jdk_68_method_6_1 : decode jdk_68_method_6_code 1 = .ok (.getfield 79, 3) := by decide +kernel
theorem d_jdk_68_method_6_4 : decode jdk_68_method_6_code 4 = .ok (.ireturn, 1) := by decide +kernel
def Q_asblen (Z : State) (a1 : Nat) (n1 : Int32) (h0 : Heap) (v : Option Value) (h : Heap) (L : List Loc) : Prop := v = some (.int n1) ∧ Fr Z.heap.size L ∧ h = h0
set_option maxRecDepth 65536 in
set_option maxHeartbeats 40000000 in
theorem rm_asblen (l : Launch) (Z : State) (a0 : Array Value) (hw : ∀ d ∈ tables_1, d.before a0 Z = true) (ws : List Jvm.Cond) (a1 : Nat) (n1 : Int32) (h0 : Heap) (OL : Old Z Z.heap.size h0) (p0_ : Fld Z h0 a1 "java/lang/AbstractStringBuilder" "count" "I" (.int n1)) :
    MetFree l (⟨"java/lang/AbstractStringBuilder", "length", "()I"⟩ : MethodName) (head1 (Jvm.Cond.code (⟨"java/lang/AbstractStringBuilder", "length", "()I"⟩ : MethodName) jdk_68_method_6_code 1 (some .int) :: ws) ({ frames := 0, cells := 0, slots := 0, locals := 0 } : Room)) (fun a U => a = #[(.ref a1)] ∧ Z.Warmed39 U.vm ∧ U.heap = h0) (fun _ _ _ _ _ => True) (fun _ U o U' => ∃ v L, o = .returned v ∧ Q_asblen Z a1 n1 h0 v U'.heap L ∧ FrameEnd U o U' L ({ frames := 0, cells := 0, slots := 0, locals := 0 } : Room).cells ({ frames := 0, cells := 0, slots := 0, locals := 0 } : Room).slots) := by
  refine MetFree.of_bodySF (plainFor_of_name pn_0) hisR ?_
  intro p e s m args below meth c s₁ Bd hml0 hP hK
  obtain ⟨rfl, hZ, hh⟩ := hP
  have hx := Bd.exec
  have hby := Bd.bytes
  have hml : c.maxLocals = 1 := hml0
  have hown : s.vm.findClass "java/lang/AbstractStringBuilder" = some m.cls := findClass_of_methodNamed Bd.named
  have hnm := (name_of_methodNamed Bd.named Bd.method).1
  have X0 : Stand p l e ({ frames := 0, cells := 0, slots := 0, locals := 0 } : Room) s m #[(.ref a1)] below meth c s₁ [] 0 0 := Stand.of_body Bd
  have e0 : s₁.heap = h0 := by rw [← hh, Bd.state]; rfl
  have N0 := Fr.nil Z.heap.size
  have Z0 : Z.heap.size ≤ h0.size := OL.2.1
  have lt_0 : @LT.lt Nat _ a1 h0.size := p0_.lt
  obtain ⟨PP, hPP⟩ : ∃ PP : Outcome → State → Prop, PP = (fun o tE => ∃ v L, o = .returned v ∧ Q_asblen Z a1 n1 h0 v tE.heap L ∧ FrameEnd s o tE L ({ frames := 0, cells := 0, slots := 0, locals := 0 } : Room).cells ({ frames := 0, cells := 0, slots := 0, locals := 0 } : Room).slots) := ⟨_, rfl⟩
  show own_Go p.tables e below (fun o tE => ∃ v L, o = .returned v ∧ Q_asblen Z a1 n1 h0 v tE.heap L ∧ FrameEnd s o tE L ({ frames := 0, cells := 0, slots := 0, locals := 0 } : Room).cells ({ frames := 0, cells := 0, slots := 0, locals := 0 } : Room).slots) (s₁.setTop (entryFrame m #[(.ref a1)] 1))
  rw [← hPP]
  refine own_Go.st (fun t k => castTop (ef_16 m a1) k) ?_
  show own_Go _ _ _ _ (s₁.setTop (mkF m 0 #[.val (.ref a1)] []))
  refine own_Go.st (fun _ k => XS.aloadN X0.here hx rfl (hb hby d_jdk_68_method_6_0) rfl rfl k) ?_
  show own_Go _ _ _ _ (s₁.setTop (mkF m 1 #[.val (.ref a1)] [(.ref a1)]))
  obtain ⟨T186, X186, e186, st186⟩ := getF X0 hx hZ hown (host := "") (Or.inl (hw _ (List.mem_of_getElem? (i := 122) rfl))) Via.refl e0 p0_ (g := (mkF m 1 #[.val (.ref a1)] [(.ref a1)])) rfl rfl (hb hby d_jdk_68_method_6_1)
  refine own_Go.st st186 ?_
  show own_Go _ _ _ _ (T186.setTop (mkF m 4 #[.val (.ref a1)] [(.int n1)]))
  obtain ⟨fs187, hr187, hrun187, hend187, hW187, hsm187⟩ := X186.leave (v := some (.int n1)) (fun h => by rw [Bd.returns] at h; cases h)
  subst hPP
  refine ⟨_, _, own_retI X186 hx Bd.returns (hb hby d_jdk_68_method_6_4) hr187, hrun187, hend187, _, _, rfl, ?_, ⟨_, rfl⟩, hW187, hsm187.mono (by decide) (by decide)⟩
  · show Q_asblen Z _ _ h0 _ T186.heap _
    rw [e186]
    exact ⟨rfl, N0, rfl⟩
theorem d_jdk_67_method_93_0 : decode jdk_67_method_93_code 0 = .ok (.aload_n 0, 1) := by decide +kernel
theorem d_jdk_67_method_93_1 : decode jdk_67_method_93_code 1 = .ok (.invokespecial 343, 3) := by decide +kernel
theorem d_jdk_67_method_93_4 : decode jdk_67_method_93_code 4 = .ok (.ireturn, 1) := by decide +kernel
def Q_sblen (Z : State) (a1 : Nat) (n1 : Int32) (h0 : Heap) (v : Option Value) (h : Heap) (L : List Loc) : Prop := v = some (.int n1) ∧ Fr Z.heap.size L ∧ h = h0
set_option maxRecDepth 65536 in
set_option maxHeartbeats 40000000 in
theorem rm_sblen (l : Launch) (Z : State) (a0 : Array Value) (hw : ∀ d ∈ tables_1, d.before a0 Z = true) (ws : List Jvm.Cond) (a1 : Nat) (n1 : Int32) (h0 : Heap) (OL : Old Z Z.heap.size h0) (p0_ : Exa Z h0 a1 "java/lang/StringBuilder") (p1_ : Fld Z h0 a1 "java/lang/AbstractStringBuilder" "count" "I" (.int n1)) :
    MetFree l (⟨"java/lang/StringBuilder", "length", "()I"⟩ : MethodName) (head1 (Jvm.Cond.code (⟨"java/lang/StringBuilder", "length", "()I"⟩ : MethodName) jdk_67_method_93_code 1 (some .int) :: ws) ({ frames := 1, cells := 0, slots := 0, locals := 12 } : Room)) (fun a U => a = #[(.ref a1)] ∧ Z.Warmed39 U.vm ∧ U.heap = h0) (fun _ _ _ _ _ => True) (fun _ U o U' => ∃ v L, o = .returned v ∧ Q_sblen Z a1 n1 h0 v U'.heap L ∧ FrameEnd U o U' L ({ frames := 1, cells := 0, slots := 0, locals := 12 } : Room).cells ({ frames := 1, cells := 0, slots := 0, locals := 12 } : Room).slots) := by
  refine MetFree.of_bodySF (plainFor_of_name pn_15) hisR ?_
  intro p e s m args below meth c s₁ Bd hml0 hP hK
  obtain ⟨rfl, hZ, hh⟩ := hP
  have hx := Bd.exec
  have hby := Bd.bytes
  have hml : c.maxLocals = 1 := hml0
  have hown : s.vm.findClass "java/lang/StringBuilder" = some m.cls := findClass_of_methodNamed Bd.named
  have hnm := (name_of_methodNamed Bd.named Bd.method).1
  have X0 : Stand p l e ({ frames := 1, cells := 0, slots := 0, locals := 12 } : Room) s m #[(.ref a1)] below meth c s₁ [] 0 0 := Stand.of_body Bd
  have e0 : s₁.heap = h0 := by rw [← hh, Bd.state]; rfl
  have N0 := Fr.nil Z.heap.size
  have Z0 : Z.heap.size ≤ h0.size := OL.2.1
  have lt_0 : @LT.lt Nat _ a1 h0.size := p0_.lt
  have lt_1 : @LT.lt Nat _ a1 h0.size := p1_.lt
  obtain ⟨PP, hPP⟩ : ∃ PP : Outcome → State → Prop, PP = (fun o tE => ∃ v L, o = .returned v ∧ Q_sblen Z a1 n1 h0 v tE.heap L ∧ FrameEnd s o tE L ({ frames := 1, cells := 0, slots := 0, locals := 12 } : Room).cells ({ frames := 1, cells := 0, slots := 0, locals := 12 } : Room).slots) := ⟨_, rfl⟩
  show own_Go p.tables e below (fun o tE => ∃ v L, o = .returned v ∧ Q_sblen Z a1 n1 h0 v tE.heap L ∧ FrameEnd s o tE L ({ frames := 1, cells := 0, slots := 0, locals := 12 } : Room).cells ({ frames := 1, cells := 0, slots := 0, locals := 12 } : Room).slots) (s₁.setTop (entryFrame m #[(.ref a1)] 1))
  rw [← hPP]
  refine own_Go.st (fun t k => castTop (ef_16 m a1) k) ?_
  show own_Go _ _ _ _ (s₁.setTop (mkF m 0 #[.val (.ref a1)] []))
  refine own_Go.st (fun _ k => XS.aloadN X0.here hx rfl (hb hby d_jdk_67_method_93_0) rfl rfl k) ?_
  show own_Go _ _ _ _ (s₁.setTop (mkF m 1 #[.val (.ref a1)] [(.ref a1)]))
  obtain ⟨_, _, ⟨T188, L188, k188, n188⟩, -, X188, ⟨Lc188, hQ188, l188, y188, z188⟩, st188⟩ := superBack X0 hx hZ (y := (⟨"java/lang/AbstractStringBuilder", "length", "()I"⟩ : MethodName)) hown (hw _ (List.mem_of_getElem? (i := 174) rfl)) (own_sameP (hw _ (List.mem_of_getElem? (i := 169) rfl)) (hw _ (List.mem_of_getElem? (i := 127) rfl)) rfl (by decide)) (hw _ (List.mem_of_getElem? (i := 170) rfl)) (hw _ (List.mem_of_getElem? (i := 118) rfl)) (by decide) (backOf (W := 0) (rm_asblen l Z a0 hw [] a1 n1 h0 OL p1_) hZ (hw _ (List.mem_of_getElem? (i := 175) rfl)) (hw _ (List.mem_of_getElem? (i := 48) rfl)) (by decide) (by decide)) e0 (Ins.self p0_) (g := (mkF m 1 #[.val (.ref a1)] [(.ref a1)])) rfl (by rw [hml]; rfl) (hw _ (List.mem_of_getElem? (i := 175) rfl)) (argsL := []) (rest := []) (lenOf pd_88 rfl) rfl (by show 2 * 0 + _ ≤ _; exact Nat.le_of_eq rfl) (hb hby d_jdk_67_method_93_1) (fun _ _ => ⟨rfl, e0, (by decide : 0 + 0 ≤ _), (by decide : 0 + 0 ≤ _)⟩)
  dsimp only [Pt.U, Pt.locs, Pt.cells, Pt.slots] at X188 l188 y188 z188 st188 hQ188
  subst l188 y188 z188
  obtain ⟨rfl, N188q, K188⟩ := hQ188
  have N188 := Fr.app N0 N188q
  refine own_Go.tr st188 ?_
  show own_Go _ _ _ _ (T188.setTop (mkF m 4 #[.val (.ref a1)] [(.int n1)]))
  obtain ⟨fs189, hr189, hrun189, hend189, hW189, hsm189⟩ := X188.leave (v := some (.int n1)) (fun h => by rw [Bd.returns] at h; cases h)
  subst hPP
  refine ⟨_, _, own_retI X188 hx Bd.returns (hb hby d_jdk_67_method_93_4) hr189, hrun189, hend189, _, _, rfl, ?_, ⟨_, rfl⟩, hW189, hsm189.mono (by decide) (by decide)⟩
  · show Q_sblen Z _ _ h0 _ T188.heap _
    rw [K188]
    exact ⟨rfl, N188, rfl⟩
theorem d_jdk_68_method_68_0 : decode jdk_68_method_68_code 0 = .ok (.getstatic 18, 3) := by decide +kernel
theorem d_jdk_68_method_68_3 : decode jdk_68_method_68_code 3 = .ok (.ifCond .eq 14, 3) := by decide +kernel
theorem d_jdk_68_method_68_6 : decode jdk_68_method_68_code 6 = .ok (.aload_n 0, 1) := by decide +kernel
theorem d_jdk_68_method_68_7 : decode jdk_68_method_68_code 7 = .ok (.getfield 22, 3) := by decide +kernel
theorem d_jdk_68_method_68_10 : decode jdk_68_method_68_code 10 = .ok (.ifCond .ne 7, 3) := by decide +kernel
theorem d_jdk_68_method_68_13 : decode jdk_68_method_68_code 13 = .ok (.iconst 1, 1) := by decide +kernel
theorem d_jdk_68_method_68_14 : decode jdk_68_method_68_code 14 = .ok (.goto 4, 3) := by decide +kernel
theorem d_jdk_68_method_68_18 : decode jdk_68_method_68_code 18 = .ok (.ireturn, 1) := by decide +kernel
def Q_asbl1 (Z : State) (a1 : Nat) (zc : Int32) (h0 : Heap) (v : Option Value) (h : Heap) (L : List Loc) : Prop := v = some (.int (1 : Int32)) ∧ Fr Z.heap.size L ∧ h = h0
set_option maxRecDepth 65536 in
set_option maxHeartbeats 40000000 in
theorem rm_asbl1 (l : Launch) (Z : State) (a0 : Array Value) (hw : ∀ d ∈ tables_1, d.before a0 Z = true) (ws : List Jvm.Cond) (a1 : Nat) (zc : Int32) (h0 : Heap) (OL : Old Z Z.heap.size h0) (p0_ : Fld Z h0 a1 "java/lang/AbstractStringBuilder" "coder" "B" (.int (0 : Int32))) (st_COMPACT_STRINGS : Sta Z Z.heap "java/lang/String" "COMPACT_STRINGS" "Z" (.int zc)) (hzc : ¬ zc = 0) :
    MetFree l (⟨"java/lang/AbstractStringBuilder", "isLatin1", "()Z"⟩ : MethodName) (head1 (Jvm.Cond.code (⟨"java/lang/AbstractStringBuilder", "isLatin1", "()Z"⟩ : MethodName) jdk_68_method_68_code 1 (some .boolean) :: ws) ({ frames := 0, cells := 0, slots := 0, locals := 0 } : Room)) (fun a U => a = #[(.ref a1)] ∧ Z.Warmed39 U.vm ∧ U.heap = h0) (fun _ _ _ _ _ => True) (fun _ U o U' => ∃ v L, o = .returned v ∧ Q_asbl1 Z a1 zc h0 v U'.heap L ∧ FrameEnd U o U' L ({ frames := 0, cells := 0, slots := 0, locals := 0 } : Room).cells ({ frames := 0, cells := 0, slots := 0, locals := 0 } : Room).slots) := by
  refine MetFree.of_bodySF (plainFor_of_name pn_0) hisR ?_
  intro p e s m args below meth c s₁ Bd hml0 hP hK
  obtain ⟨rfl, hZ, hh⟩ := hP
  have hx := Bd.exec
  have hby := Bd.bytes
  have hml : c.maxLocals = 1 := hml0
  have hown : s.vm.findClass "java/lang/AbstractStringBuilder" = some m.cls := findClass_of_methodNamed Bd.named
  have hnm := (name_of_methodNamed Bd.named Bd.method).1
  have X0 : Stand p l e ({ frames := 0, cells := 0, slots := 0, locals := 0 } : Room) s m #[(.ref a1)] below meth c s₁ [] 0 0 := Stand.of_body Bd
  have e0 : s₁.heap = h0 := by rw [← hh, Bd.state]; rfl
  have N0 := Fr.nil Z.heap.size
  have Z0 : Z.heap.size ≤ h0.size := OL.2.1
  have lt_0 : @LT.lt Nat _ a1 h0.size := p0_.lt
  obtain ⟨PP, hPP⟩ : ∃ PP : Outcome → State → Prop, PP = (fun o tE => ∃ v L, o = .returned v ∧ Q_asbl1 Z a1 zc h0 v tE.heap L ∧ FrameEnd s o tE L ({ frames := 0, cells := 0, slots := 0, locals := 0 } : Room).cells ({ frames := 0, cells := 0, slots := 0, locals := 0 } : Room).slots) := ⟨_, rfl⟩
  show own_Go p.tables e below (fun o tE => ∃ v L, o = .returned v ∧ Q_asbl1 Z a1 zc h0 v tE.heap L ∧ FrameEnd s o tE L ({ frames := 0, cells := 0, slots := 0, locals := 0 } : Room).cells ({ frames := 0, cells := 0, slots := 0, locals := 0 } : Room).slots) (s₁.setTop (entryFrame m #[(.ref a1)] 1))
  rw [← hPP]
  refine own_Go.st (fun t k => castTop (ef_16 m a1) k) ?_
  show own_Go _ _ _ _ (s₁.setTop (mkF m 0 #[.val (.ref a1)] []))
  obtain ⟨T190, X190, e190, st190⟩ := getS2 X0 hx hZ hown (host := "") (Or.inl (hw _ (List.mem_of_getElem? (i := 51) rfl))) Via.refl e0 (st_COMPACT_STRINGS.ext OL.2) (g := (mkF m 0 #[.val (.ref a1)] [])) rfl (hb hby d_jdk_68_method_68_0)
  refine own_Go.st st190 ?_
  show own_Go _ _ _ _ (T190.setTop (mkF m 3 #[.val (.ref a1)] [(.int zc)]))
  have hc191 : ¬ (zc = (0 : Int32)) := hzc
  refine own_Go.st (fun _ k => XS.ifNo X190.here hx rfl (hb hby d_jdk_68_method_68_3) rfl ((if0 _ _).trans (feq hc191).1) k) ?_
  show own_Go _ _ _ _ (T190.setTop (mkF m 6 #[.val (.ref a1)] []))
  refine own_Go.st (fun _ k => XS.aloadN X190.here hx rfl (hb hby d_jdk_68_method_68_6) rfl rfl k) ?_
  show own_Go _ _ _ _ (T190.setTop (mkF m 7 #[.val (.ref a1)] [(.ref a1)]))
  obtain ⟨T192, X192, e192, st192⟩ := getF X190 hx hZ hown (host := "") (Or.inl (hw _ (List.mem_of_getElem? (i := 54) rfl))) Via.refl e190 p0_ (g := (mkF m 7 #[.val (.ref a1)] [(.ref a1)])) rfl rfl (hb hby d_jdk_68_method_68_7)
  refine own_Go.st st192 ?_
  show own_Go _ _ _ _ (T192.setTop (mkF m 10 #[.val (.ref a1)] [(.int (0 : Int32))]))
  refine own_Go.st (fun _ k => XS.ifNo X192.here hx rfl (hb hby d_jdk_68_method_68_10) rfl ((if0 _ _).trans (teq (rfl : (0 : Int32) = (0 : Int32))).2) k) ?_
  show own_Go _ _ _ _ (T192.setTop (mkF m 13 #[.val (.ref a1)] []))
  refine own_Go.st (fun _ k => XS.iconst X192.here hx rfl (hb hby d_jdk_68_method_68_13) k) ?_
  show own_Go _ _ _ _ (T192.setTop (mkF m 14 #[.val (.ref a1)] [(.int (1 : Int32))]))
  refine own_Go.st (fun _ k => XS.goto X192.here hx rfl (pc0 := 14) (pc' := 18) rfl (hb hby d_jdk_68_method_68_14) (by decide) (by decide) k) ?_
  show own_Go _ _ _ _ (T192.setTop (mkF m 18 #[.val (.ref a1)] [(.int (1 : Int32))]))
  obtain ⟨fs193, hr193, hrun193, hend193, hW193, hsm193⟩ := X192.leave (v := some (.int (nar .boolean (1 : Int32)))) (fun h => by rw [Bd.returns] at h; cases h)
  subst hPP
  refine ⟨_, _, retN X192 hx (t := .boolean) Bd.returns (by simp) (hb hby d_jdk_68_method_68_18) hr193, hrun193, hend193, _, _, rfl, ?_, ⟨_, rfl⟩, hW193, hsm193.mono (by decide) (by decide)⟩
  · show Q_asbl1 Z _ _ h0 _ T192.heap _
    rw [e192]
    exact ⟨rfl, N0, rfl⟩
theorem ef_135 (m : MethodId) (x0 : Int32) (x1 : Int32) : entryFrame m #[(.int x0), (.int x1)] 2 = mkF m 0 #[.val (.int x0), .val (.int x1)] [] := by first | (simp [entryFrame, mkF, argsToLocals, Value.category]; done) | rfl
theorem d_jdk_29_method_69_0 : decode jdk_29_method_69_code 0 = .ok (.iload_n 0, 1) := by decide +kernel
theorem d_jdk_29_method_69_1 : decode jdk_29_method_69_code 1 = .ok (.iload_n 1, 1) := by decide +kernel
theorem d_jdk_29_method_69_2 : decode jdk_29_method_69_code 2 = .ok (.if_icmp .gt 7, 3) := by decide +kernel
theorem d_jdk_29_method_69_9 : decode jdk_29_method_69_code 9 = .ok (.iload_n 1, 1) := by decide +kernel
theorem d_jdk_29_method_69_10 : decode jdk_29_method_69_code 10 = .ok (.ireturn, 1) := by decide +kernel
theorem d_jdk_29_method_69_5 : decode jdk_29_method_69_code 5 = .ok (.iload_n 0, 1) := by decide +kernel
theorem d_jdk_29_method_69_6 : decode jdk_29_method_69_code 6 = .ok (.goto 4, 3) := by decide +kernel
def Q_mmin (Z : State) (p1 : Int32) (p2 : Int32) (h0 : Heap) (v : Option Value) (h : Heap) (L : List Loc) : Prop := v = some (.int (if p2 < p1 then p2 else p1)) ∧ Fr Z.heap.size L ∧ h = h0
set_option maxRecDepth 65536 in
set_option maxHeartbeats 40000000 in
theorem rm_mmin (l : Launch) (Z : State) (a0 : Array Value) (hw : ∀ d ∈ tables_1, d.before a0 Z = true) (ws : List Jvm.Cond) (p1 : Int32) (p2 : Int32) (h0 : Heap) (OL : Old Z Z.heap.size h0) :
    MetFree l (⟨"java/lang/Math", "min", "(II)I"⟩ : MethodName) (head1 (Jvm.Cond.code (⟨"java/lang/Math", "min", "(II)I"⟩ : MethodName) jdk_29_method_69_code 2 (some .int) :: ws) ({ frames := 0, cells := 0, slots := 0, locals := 0 } : Room)) (fun a U => a = #[(.int p1), (.int p2)] ∧ Z.Warmed39 U.vm ∧ U.heap = h0) (fun _ _ _ _ _ => True) (fun _ U o U' => ∃ v L, o = .returned v ∧ Q_mmin Z p1 p2 h0 v U'.heap L ∧ FrameEnd U o U' L ({ frames := 0, cells := 0, slots := 0, locals := 0 } : Room).cells ({ frames := 0, cells := 0, slots := 0, locals := 0 } : Room).slots) := by
  refine MetFree.of_bodySF (by decide +kernel) hisR ?_
  intro p e s m args below meth c s₁ Bd hml0 hP hK
  obtain ⟨rfl, hZ, hh⟩ := hP
  have hx := Bd.exec
  have hby := Bd.bytes
  have hml : c.maxLocals = 2 := hml0
  have hown : s.vm.findClass "java/lang/Math" = some m.cls := findClass_of_methodNamed Bd.named
  have hnm := (name_of_methodNamed Bd.named Bd.method).1
  have X0 : Stand p l e ({ frames := 0, cells := 0, slots := 0, locals := 0 } : Room) s m #[(.int p1), (.int p2)] below meth c s₁ [] 0 0 := Stand.of_body Bd
  have e0 : s₁.heap = h0 := by rw [← hh, Bd.state]; rfl
  have N0 := Fr.nil Z.heap.size
  have Z0 : Z.heap.size ≤ h0.size := OL.2.1
  obtain ⟨PP, hPP⟩ : ∃ PP : Outcome → State → Prop, PP = (fun o tE => ∃ v L, o = .returned v ∧ Q_mmin Z p1 p2 h0 v tE.heap L ∧ FrameEnd s o tE L ({ frames := 0, cells := 0, slots := 0, locals := 0 } : Room).cells ({ frames := 0, cells := 0, slots := 0, locals := 0 } : Room).slots) := ⟨_, rfl⟩
  show own_Go p.tables e below (fun o tE => ∃ v L, o = .returned v ∧ Q_mmin Z p1 p2 h0 v tE.heap L ∧ FrameEnd s o tE L ({ frames := 0, cells := 0, slots := 0, locals := 0 } : Room).cells ({ frames := 0, cells := 0, slots := 0, locals := 0 } : Room).slots) (s₁.setTop (entryFrame m #[(.int p1), (.int p2)] 2))
  rw [← hPP]
  refine own_Go.st (fun t k => castTop (ef_135 m p1 p2) k) ?_
  show own_Go _ _ _ _ (s₁.setTop (mkF m 0 #[.val (.int p1), .val (.int p2)] []))
  refine own_Go.st (fun _ k => XS.iloadN X0.here hx rfl (hb hby d_jdk_29_method_69_0) rfl k) ?_
  show own_Go _ _ _ _ (s₁.setTop (mkF m 1 #[.val (.int p1), .val (.int p2)] [(.int p1)]))
  refine own_Go.st (fun _ k => XS.iloadN X0.here hx rfl (hb hby d_jdk_29_method_69_1) rfl k) ?_
  show own_Go _ _ _ _ (s₁.setTop (mkF m 2 #[.val (.int p1), .val (.int p2)] [(.int p2), (.int p1)]))
  by_cases hc194 : p2 < p1
  ·
    refine own_Go.st (fun _ k => XS.icmpYes X0.here hx rfl (pc0 := 2) (pc' := 9) rfl (hb hby d_jdk_29_method_69_2) rfl (tlt hc194).2.2.1 (by decide) (by decide) k) ?_
    show own_Go _ _ _ _ (s₁.setTop (mkF m 9 #[.val (.int p1), .val (.int p2)] []))
    refine own_Go.st (fun _ k => XS.iloadN X0.here hx rfl (hb hby d_jdk_29_method_69_9) rfl k) ?_
    show own_Go _ _ _ _ (s₁.setTop (mkF m 10 #[.val (.int p1), .val (.int p2)] [(.int p2)]))
    obtain ⟨fs195, hr195, hrun195, hend195, hW195, hsm195⟩ := X0.leave (v := some (.int p2)) (fun h => by rw [Bd.returns] at h; cases h)
    subst hPP
    refine ⟨_, _, own_retI X0 hx Bd.returns (hb hby d_jdk_29_method_69_10) hr195, hrun195, hend195, _, _, rfl, ?_, ⟨_, rfl⟩, hW195, hsm195.mono (by decide) (by decide)⟩
    · show Q_mmin Z _ _ h0 _ s₁.heap _
      rw [e0]
      exact ⟨(by rw [if_pos hc194]), N0, rfl⟩
  ·
    refine own_Go.st (fun _ k => XS.icmpNo X0.here hx rfl (hb hby d_jdk_29_method_69_2) rfl (flt hc194).2.2.1 k) ?_
    show own_Go _ _ _ _ (s₁.setTop (mkF m 5 #[.val (.int p1), .val (.int p2)] []))
    refine own_Go.st (fun _ k => XS.iloadN X0.here hx rfl (hb hby d_jdk_29_method_69_5) rfl k) ?_
    show own_Go _ _ _ _ (s₁.setTop (mkF m 6 #[.val (.int p1), .val (.int p2)] [(.int p1)]))
    refine own_Go.st (fun _ k => XS.goto X0.here hx rfl (pc0 := 6) (pc' := 10) rfl (hb hby d_jdk_29_method_69_6) (by decide) (by decide) k) ?_
    show own_Go _ _ _ _ (s₁.setTop (mkF m 10 #[.val (.int p1), .val (.int p2)] [(.int p1)]))
    obtain ⟨fs196, hr196, hrun196, hend196, hW196, hsm196⟩ := X0.leave (v := some (.int p1)) (fun h => by rw [Bd.returns] at h; cases h)
    subst hPP
    refine ⟨_, _, own_retI X0 hx Bd.returns (hb hby d_jdk_29_method_69_10) hr196, hrun196, hend196, _, _, rfl, ?_, ⟨_, rfl⟩, hW196, hsm196.mono (by decide) (by decide)⟩
    · show Q_mmin Z _ _ h0 _ s₁.heap _
      rw [e0]
      exact ⟨(by rw [if_neg hc194]), N0, rfl⟩
theorem pn_143 : plainName "java/util/Arrays" = true := by first | (simp [plainName, overriddenIn]; done) | decide +kernel
theorem d_jdk_65_method_131_0 : decode jdk_65_method_131_code 0 = .ok (.iload_n 1, 1) := by decide +kernel
theorem d_jdk_65_method_131_1 : decode jdk_65_method_131_code 1 = .ok (.iload_n 0, 1) := by decide +kernel
theorem d_jdk_65_method_131_2 : decode jdk_65_method_131_code 2 = .ok (.if_icmp .ge 35, 3) := by decide +kernel
theorem d_jdk_65_method_131_37 : decode jdk_65_method_131_code 37 = .ok (.return_, 1) := by decide +kernel
def Q_cklen (Z : State) (p1 : Int32) (p2 : Int32) (h0 : Heap) (v : Option Value) (h : Heap) (L : List Loc) : Prop := v = none ∧ Fr Z.heap.size L ∧ h = h0
set_option maxRecDepth 65536 in
set_option maxHeartbeats 40000000 in
theorem rm_cklen (l : Launch) (Z : State) (a0 : Array Value) (hw : ∀ d ∈ tables_1, d.before a0 Z = true) (ws : List Jvm.Cond) (p1 : Int32) (p2 : Int32) (h0 : Heap) (OL : Old Z Z.heap.size h0) (h : ¬ p2 < p1) :
    MetFree l (⟨"java/util/Arrays", "checkLength", "(II)V"⟩ : MethodName) (head1 (Jvm.Cond.code (⟨"java/util/Arrays", "checkLength", "(II)V"⟩ : MethodName) jdk_65_method_131_code 2 none :: ws) ({ frames := 0, cells := 0, slots := 0, locals := 0 } : Room)) (fun a U => a = #[(.int p1), (.int p2)] ∧ Z.Warmed39 U.vm ∧ U.heap = h0) (fun _ _ _ _ _ => True) (fun _ U o U' => ∃ v L, o = .returned v ∧ Q_cklen Z p1 p2 h0 v U'.heap L ∧ FrameEnd U o U' L ({ frames := 0, cells := 0, slots := 0, locals := 0 } : Room).cells ({ frames := 0, cells := 0, slots := 0, locals := 0 } : Room).slots) := by
  refine MetFree.of_bodySF (plainFor_of_name pn_143) hisR ?_
  intro p e s m args below meth c s₁ Bd hml0 hP hK
  obtain ⟨rfl, hZ, hh⟩ := hP
  have hx := Bd.exec
  have hby := Bd.bytes
  have hml : c.maxLocals = 2 := hml0
  have hown : s.vm.findClass "java/util/Arrays" = some m.cls := findClass_of_methodNamed Bd.named
  have hnm := (name_of_methodNamed Bd.named Bd.method).1
  have X0 : Stand p l e ({ frames := 0, cells := 0, slots := 0, locals := 0 } : Room) s m #[(.int p1), (.int p2)] below meth c s₁ [] 0 0 := Stand.of_body Bd
  have e0 : s₁.heap = h0 := by rw [← hh, Bd.state]; rfl
  have N0 := Fr.nil Z.heap.size
  have Z0 : Z.heap.size ≤ h0.size := OL.2.1
  obtain ⟨PP, hPP⟩ : ∃ PP : Outcome → State → Prop, PP = (fun o tE => ∃ v L, o = .returned v ∧ Q_cklen Z p1 p2 h0 v tE.heap L ∧ FrameEnd s o tE L ({ frames := 0, cells := 0, slots := 0, locals := 0 } : Room).cells ({ frames := 0, cells := 0, slots := 0, locals := 0 } : Room).slots) := ⟨_, rfl⟩
  show own_Go p.tables e below (fun o tE => ∃ v L, o = .returned v ∧ Q_cklen Z p1 p2 h0 v tE.heap L ∧ FrameEnd s o tE L ({ frames := 0, cells := 0, slots := 0, locals := 0 } : Room).cells ({ frames := 0, cells := 0, slots := 0, locals := 0 } : Room).slots) (s₁.setTop (entryFrame m #[(.int p1), (.int p2)] 2))
  rw [← hPP]
  refine own_Go.st (fun t k => castTop (ef_135 m p1 p2) k) ?_
  show own_Go _ _ _ _ (s₁.setTop (mkF m 0 #[.val (.int p1), .val (.int p2)] []))
  refine own_Go.st (fun _ k => XS.iloadN X0.here hx rfl (hb hby d_jdk_65_method_131_0) rfl k) ?_
  show own_Go _ _ _ _ (s₁.setTop (mkF m 1 #[.val (.int p1), .val (.int p2)] [(.int p2)]))
  refine own_Go.st (fun _ k => XS.iloadN X0.here hx rfl (hb hby d_jdk_65_method_131_1) rfl k) ?_
  show own_Go _ _ _ _ (s₁.setTop (mkF m 2 #[.val (.int p1), .val (.int p2)] [(.int p1), (.int p2)]))
  have hc197 : ¬ (p2 < p1) := h
  refine own_Go.st (fun _ k => XS.icmpYes X0.here hx rfl (pc0 := 2) (pc' := 37) rfl (hb hby d_jdk_65_method_131_2) rfl (flt hc197).2.1 (by decide) (by decide) k) ?_
  show own_Go _ _ _ _ (s₁.setTop (mkF m 37 #[.val (.int p1), .val (.int p2)] []))
  obtain ⟨fs198, hr198, hrun198, hend198, hW198, hsm198⟩ := X0.leave (v := none) (fun _ => rfl)
  subst hPP
  refine ⟨_, _, X0.returnOut hx Bd.returns (hb hby d_jdk_65_method_131_37) hr198, hrun198, hend198, _, _, rfl, ?_, ⟨_, rfl⟩, hW198, hsm198.mono (by decide) (by decide)⟩
  · show Q_cklen Z _ _ h0 _ s₁.heap _
    rw [e0]
    exact ⟨rfl, N0, rfl⟩

theorem own_usR (cs : List Int32) {i j : Nat} (hij : i ≤ j) (hj : j ≤ cs.length) (hn : cs.length < 100000) : own_low ((cs.drop i).take (j - i)) = (List.range (Int32.ofNat (j - i)).toNatClampNeg).map fun x => (own_low cs).getD ((Int32.ofNat i).toNatClampNeg + x) (.int (0 : Int32)) := by
  rw [own_ofn (by omega), own_ofn (by omega)]
  apply List.ext_getElem
  · simp [own_low]; omega
  · intro x h1 h2
    have hx : i + x < cs.length := by simp [own_low] at h1; omega
    simp [own_low, List.getD_eq_getElem?_getD, hx]
theorem own_takeV {Z : State} {h : Heap} {a : Addr} {k : ClassId} {n : Int32} {us : List Value} {m : Nat} (F : Arv Z h a k .byte n ((List.replicate m (Value.int (0 : Int32))).take (0 : Int32).toNatClampNeg ++ us ++ (List.replicate m (Value.int (0 : Int32))).drop ((0 : Int32).toNatClampNeg + (Int32.ofNat m).toNatClampNeg)) (.int (0 : Int32))) (hm : m < 100000) : Arv Z h a k .byte n us (.int (0 : Int32)) := by
  have e0 : (0 : Int32).toNatClampNeg = 0 := by decide
  rw [e0, own_ofn (by omega)] at F
  simpa using F
theorem own_min {i j : Nat} (hi : i < 100000) (hj : j ≤ i) : (if Int32.ofNat j < Int32.ofNat i then Int32.ofNat j else Int32.ofNat i) = Int32.ofNat j := by
  by_cases q : Int32.ofNat j < Int32.ofNat i
  · rw [if_pos q]
  · rw [if_neg q]
    rw [own_oflt (by omega) (by omega)] at q
    rw [show i = j by omega]

theorem ef_148 (m : MethodId) (x0 : Nat) (x1 : Int32) (x2 : Int32) : entryFrame m #[(.ref x0), (.int x1), (.int x2)] 5 = mkF m 0 #[.val (.ref x0), .val (.int x1), .val (.int x2), .unset, .unset] [] := by first | (simp [entryFrame, mkF, argsToLocals, Value.category]; done) | rfl
theorem d_jdk_65_method_133_0 : decode jdk_65_method_133_code 0 = .ok (.iload_n 1, 1) := by decide +kernel
theorem d_jdk_65_method_133_1 : decode jdk_65_method_133_code 1 = .ok (.iload_n 2, 1) := by decide +kernel
theorem pd_151 : parseMethodDescriptor "(II)V" = some ⟨[.int, .int], none⟩ := by decide +kernel
theorem d_jdk_65_method_133_2 : decode jdk_65_method_133_code 2 = .ok (.invokestatic 343, 3) := by decide +kernel
theorem d_jdk_65_method_133_5 : decode jdk_65_method_133_code 5 = .ok (.iload_n 2, 1) := by decide +kernel
theorem d_jdk_65_method_133_6 : decode jdk_65_method_133_code 6 = .ok (.iload_n 1, 1) := by decide +kernel
theorem d_jdk_65_method_133_7 : decode jdk_65_method_133_code 7 = .ok (.isub, 1) := by decide +kernel
theorem d_jdk_65_method_133_8 : decode jdk_65_method_133_code 8 = .ok (.istore_n 3, 1) := by decide +kernel
theorem d_jdk_65_method_133_9 : decode jdk_65_method_133_code 9 = .ok (.iload_n 3, 1) := by decide +kernel
theorem d_jdk_65_method_133_10 : decode jdk_65_method_133_code 10 = .ok (.newarray .byte, 2) := by decide +kernel
theorem d_jdk_65_method_133_12 : decode jdk_65_method_133_code 12 = .ok (.astore 4, 2) := by decide +kernel
theorem d_jdk_65_method_133_14 : decode jdk_65_method_133_code 14 = .ok (.aload_n 0, 1) := by decide +kernel
theorem d_jdk_65_method_133_15 : decode jdk_65_method_133_code 15 = .ok (.iload_n 1, 1) := by decide +kernel
theorem d_jdk_65_method_133_16 : decode jdk_65_method_133_code 16 = .ok (.aload 4, 2) := by decide +kernel
theorem d_jdk_65_method_133_18 : decode jdk_65_method_133_code 18 = .ok (.iconst 0, 1) := by decide +kernel
theorem d_jdk_65_method_133_19 : decode jdk_65_method_133_code 19 = .ok (.aload_n 0, 1) := by decide +kernel
theorem d_jdk_65_method_133_20 : decode jdk_65_method_133_code 20 = .ok (.arraylength, 1) := by decide +kernel
theorem d_jdk_65_method_133_21 : decode jdk_65_method_133_code 21 = .ok (.iload_n 1, 1) := by decide +kernel
theorem d_jdk_65_method_133_22 : decode jdk_65_method_133_code 22 = .ok (.isub, 1) := by decide +kernel
theorem d_jdk_65_method_133_23 : decode jdk_65_method_133_code 23 = .ok (.iload_n 3, 1) := by decide +kernel
theorem pd_169 : parseMethodDescriptor "(II)I" = some ⟨[.int, .int], some .int⟩ := by decide +kernel
theorem d_jdk_65_method_133_24 : decode jdk_65_method_133_code 24 = .ok (.invokestatic 304, 3) := by decide +kernel
theorem d_jdk_65_method_133_27 : decode jdk_65_method_133_code 27 = .ok (.invokestatic 150, 3) := by decide +kernel
theorem d_jdk_65_method_133_30 : decode jdk_65_method_133_code 30 = .ok (.aload 4, 2) := by decide +kernel
theorem d_jdk_65_method_133_32 : decode jdk_65_method_133_code 32 = .ok (.areturn, 1) := by decide +kernel
def Q_corb (Z : State) (a1 : Nat) (p2 : Int32) (p3 : Int32) (i : Nat) (j : Nat) (cs : List Int32) (cap : Nat) (k : ClassId) (h0 : Heap) (v : Option Value) (h : Heap) (L : List Loc) : Prop := ∃ (x : Nat), ∃ (kx : ClassId), v = some (.ref x) ∧ Fr Z.heap.size L ∧ Keep h0 h [] ∧ Arv Z h x kx .byte (Int32.ofNat (j - i)) (own_low ((cs.drop i).take (j - i))) (.int (0 : Int32)) ∧ (h0.size ≤ x)
set_option maxRecDepth 65536 in
set_option maxHeartbeats 40000000 in
theorem rm_corb (l : Launch) (Z : State) (a0 : Array Value) (hw : ∀ d ∈ tables_1, d.before a0 Z = true) (ws : List Jvm.Cond) (a1 : Nat) (p2 : Int32) (p3 : Int32) (i : Nat) (j : Nat) (cs : List Int32) (cap : Nat) (k : ClassId) (h0 : Heap) (OL : Old Z Z.heap.size h0) (p0_ : Arv Z h0 a1 k .byte (Int32.ofNat cap) (own_low cs) (.int (0 : Int32))) (hp2 : p2 = Int32.ofNat i) (hp3 : p3 = Int32.ofNat j) (hij : i ≤ j) (hj : j ≤ cs.length) (hcs : cs.length ≤ cap) (hcap : cap ≤ 100) (hmx : j - i ≤ 16) :
    MetFree l (⟨"java/util/Arrays", "copyOfRangeByte", "([BII)[B"⟩ : MethodName) (head1 (Jvm.Cond.code (⟨"java/util/Arrays", "copyOfRangeByte", "([BII)[B"⟩ : MethodName) jdk_65_method_133_code 5 (some (.array .byte)) :: ws) ({ frames := 1, cells := 1, slots := 16, locals := 40 } : Room)) (fun a U => a = #[(.ref a1), (.int p2), (.int p3)] ∧ Z.Warmed39 U.vm ∧ U.heap = h0) (fun _ _ _ _ _ => True) (fun _ U o U' => ∃ v L, o = .returned v ∧ Q_corb Z a1 p2 p3 i j cs cap k h0 v U'.heap L ∧ FrameEnd U o U' L ({ frames := 1, cells := 1, slots := 16, locals := 40 } : Room).cells ({ frames := 1, cells := 1, slots := 16, locals := 40 } : Room).slots) := by
  refine MetFree.of_bodySF (plainFor_of_name pn_143) hisR ?_
  intro p e s m args below meth c s₁ Bd hml0 hP hK
  obtain ⟨rfl, hZ, hh⟩ := hP
  have hx := Bd.exec
  have hby := Bd.bytes
  have hml : c.maxLocals = 5 := hml0
  have hown : s.vm.findClass "java/util/Arrays" = some m.cls := findClass_of_methodNamed Bd.named
  have hnm := (name_of_methodNamed Bd.named Bd.method).1
  have X0 : Stand p l e ({ frames := 1, cells := 1, slots := 16, locals := 40 } : Room) s m #[(.ref a1), (.int p2), (.int p3)] below meth c s₁ [] 0 0 := Stand.of_body Bd
  have e0 : s₁.heap = h0 := by rw [← hh, Bd.state]; rfl
  have N0 := Fr.nil Z.heap.size
  have Z0 : Z.heap.size ≤ h0.size := OL.2.1
  have lt_0 : @LT.lt Nat _ a1 h0.size := p0_.lt
  obtain ⟨PP, hPP⟩ : ∃ PP : Outcome → State → Prop, PP = (fun o tE => ∃ v L, o = .returned v ∧ Q_corb Z a1 p2 p3 i j cs cap k h0 v tE.heap L ∧ FrameEnd s o tE L ({ frames := 1, cells := 1, slots := 16, locals := 40 } : Room).cells ({ frames := 1, cells := 1, slots := 16, locals := 40 } : Room).slots) := ⟨_, rfl⟩
  show own_Go p.tables e below (fun o tE => ∃ v L, o = .returned v ∧ Q_corb Z a1 p2 p3 i j cs cap k h0 v tE.heap L ∧ FrameEnd s o tE L ({ frames := 1, cells := 1, slots := 16, locals := 40 } : Room).cells ({ frames := 1, cells := 1, slots := 16, locals := 40 } : Room).slots) (s₁.setTop (entryFrame m #[(.ref a1), (.int p2), (.int p3)] 5))
  rw [← hPP]
  refine own_Go.st (fun t k => castTop (ef_148 m a1 p2 p3) k) ?_
  subst hp2 hp3
  show own_Go _ _ _ _ (s₁.setTop (mkF m 0 #[.val (.ref a1), .val (.int (Int32.ofNat i)), .val (.int (Int32.ofNat j)), .unset, .unset] []))
  refine own_Go.st (fun _ k => XS.iloadN X0.here hx rfl (hb hby d_jdk_65_method_133_0) rfl k) ?_
  show own_Go _ _ _ _ (s₁.setTop (mkF m 1 #[.val (.ref a1), .val (.int (Int32.ofNat i)), .val (.int (Int32.ofNat j)), .unset, .unset] [(.int (Int32.ofNat i))]))
  refine own_Go.st (fun _ k => XS.iloadN X0.here hx rfl (hb hby d_jdk_65_method_133_1) rfl k) ?_
  show own_Go _ _ _ _ (s₁.setTop (mkF m 2 #[.val (.ref a1), .val (.int (Int32.ofNat i)), .val (.int (Int32.ofNat j)), .unset, .unset] [(.int (Int32.ofNat j)), (.int (Int32.ofNat i))]))
  obtain ⟨_, _, ⟨T199, L199, k199, n199⟩, -, X199, ⟨Lc199, hQ199, l199, y199, z199⟩, st199⟩ := Jvm.LawKit.callS X0 hx (y := (⟨"java/util/Arrays", "checkLength", "(II)V"⟩ : MethodName)) hown (mvT hZ (hw _ (List.mem_of_getElem? (i := 97) rfl))) (mvT hZ (hw _ (List.mem_of_getElem? (i := 98) rfl))) (mvT hZ (hw _ (List.mem_of_getElem? (i := 92) rfl))) (mvT hZ (hw _ (List.mem_of_getElem? (i := 99) rfl))) (by decide) (backOf (W := 0) (rm_cklen l Z a0 hw [] (Int32.ofNat i) (Int32.ofNat j) h0 OL (by rw [own_oflt (by omega) (by omega)]; omega)) hZ (hw _ (List.mem_of_getElem? (i := 99) rfl)) (hw _ (List.mem_of_getElem? (i := 92) rfl)) (by decide) (by decide)) (g := (mkF m 2 #[.val (.ref a1), .val (.int (Int32.ofNat i)), .val (.int (Int32.ofNat j)), .unset, .unset] [(.int (Int32.ofNat j)), (.int (Int32.ofNat i))])) rfl (by rw [hml]; rfl) (argsL := [(.int (Int32.ofNat i)), (.int (Int32.ofNat j))]) (rest := []) (lenOf pd_151 rfl) rfl (by show 2 * 0 + _ ≤ _; exact Nat.le_of_eq rfl) (hb hby d_jdk_65_method_133_2) (fun _ _ => ⟨rfl, e0, (by decide : 0 + 0 ≤ _), (by decide : 0 + 0 ≤ _)⟩)
  dsimp only [Pt.U, Pt.locs, Pt.cells, Pt.slots] at X199 l199 y199 z199 st199 hQ199
  subst l199 y199 z199
  obtain ⟨rfl, N199q, K199⟩ := hQ199
  have N199 := Fr.app N0 N199q
  refine own_Go.st st199 ?_
  show own_Go _ _ _ _ (T199.setTop (mkF m 5 #[.val (.ref a1), .val (.int (Int32.ofNat i)), .val (.int (Int32.ofNat j)), .unset, .unset] []))
  refine own_Go.st (fun _ k => XS.iloadN X199.here hx rfl (hb hby d_jdk_65_method_133_5) rfl k) ?_
  show own_Go _ _ _ _ (T199.setTop (mkF m 6 #[.val (.ref a1), .val (.int (Int32.ofNat i)), .val (.int (Int32.ofNat j)), .unset, .unset] [(.int (Int32.ofNat j))]))
  refine own_Go.st (fun _ k => XS.iloadN X199.here hx rfl (hb hby d_jdk_65_method_133_6) rfl k) ?_
  show own_Go _ _ _ _ (T199.setTop (mkF m 7 #[.val (.ref a1), .val (.int (Int32.ofNat i)), .val (.int (Int32.ofNat j)), .unset, .unset] [(.int (Int32.ofNat i)), (.int (Int32.ofNat j))]))
  refine own_Go.st (fun _ k => XS.isub X199.here hx rfl (hb hby d_jdk_65_method_133_7) rfl k) ?_
  show own_Go _ _ _ _ (T199.setTop (mkF m 8 #[.val (.ref a1), .val (.int (Int32.ofNat i)), .val (.int (Int32.ofNat j)), .unset, .unset] [(.int ((Int32.ofNat j) - (Int32.ofNat i)))]))
  rw [own_ofB (by omega) hij]
  show own_Go _ _ _ _ (T199.setTop (mkF m 8 #[.val (.ref a1), .val (.int (Int32.ofNat i)), .val (.int (Int32.ofNat j)), .unset, .unset] [(.int (Int32.ofNat (j - i)))]))
  refine own_Go.st (fun _ k => XS.istoreN X199.here hx rfl (hb hby d_jdk_65_method_133_8) rfl (l' := #[.val (.ref a1), .val (.int (Int32.ofNat i)), .val (.int (Int32.ofNat j)), .val (.int (Int32.ofNat (j - i))), .unset]) rfl k) ?_
  show own_Go _ _ _ _ (T199.setTop (mkF m 9 #[.val (.ref a1), .val (.int (Int32.ofNat i)), .val (.int (Int32.ofNat j)), .val (.int (Int32.ofNat (j - i))), .unset] []))
  refine own_Go.st (fun _ k => XS.iloadN X199.here hx rfl (hb hby d_jdk_65_method_133_9) rfl k) ?_
  show own_Go _ _ _ _ (T199.setTop (mkF m 10 #[.val (.ref a1), .val (.int (Int32.ofNat i)), .val (.int (Int32.ofNat j)), .val (.int (Int32.ofNat (j - i))), .unset] [(.int (Int32.ofNat (j - i)))]))
  obtain ⟨T200, h200, k200, X200, e200, E200, A200, st200⟩ := newP X199 hx hZ (hw _ (List.mem_of_getElem? (i := 23) rfl)) K199 (g := (mkF m 10 #[.val (.ref a1), .val (.int (Int32.ofNat i)), .val (.int (Int32.ofNat j)), .val (.int (Int32.ofNat (j - i))), .unset] [(.int (Int32.ofNat (j - i)))])) rfl (hb hby d_jdk_65_method_133_10) rfl (own_of0 (by omega)) (cap := 16) (by rw [own_ofn (by omega)]; exact hmx) (by decide) (by decide) (by decide)
  obtain ⟨b200, g200⟩ : ∃ z, z = h0.size := ⟨_, rfl⟩
  rw [← g200] at A200 st200
  refine own_Go.st st200 ?_
  have z200 : h0.size ≤ h200.size := E200.1
  have f201 : Arv Z h200 b200 k200 .byte (Int32.ofNat (j - i)) [] (.int (0 : Int32)) := Arv.new A200 (own_of0 (by omega))
  have lt_b200 : @LT.lt Nat _ b200 h200.size := f201.lt
  show own_Go _ _ _ _ (T200.setTop (mkF m 12 #[.val (.ref a1), .val (.int (Int32.ofNat i)), .val (.int (Int32.ofNat j)), .val (.int (Int32.ofNat (j - i))), .unset] [(.ref b200)]))
  refine own_Go.st (fun _ k => XS.astore X200.here hx rfl (hb hby d_jdk_65_method_133_12) rfl rfl (l' := #[.val (.ref a1), .val (.int (Int32.ofNat i)), .val (.int (Int32.ofNat j)), .val (.int (Int32.ofNat (j - i))), .val (.ref b200)]) rfl k) ?_
  show own_Go _ _ _ _ (T200.setTop (mkF m 14 #[.val (.ref a1), .val (.int (Int32.ofNat i)), .val (.int (Int32.ofNat j)), .val (.int (Int32.ofNat (j - i))), .val (.ref b200)] []))
  refine own_Go.st (fun _ k => XS.aloadN X200.here hx rfl (hb hby d_jdk_65_method_133_14) rfl rfl k) ?_
  show own_Go _ _ _ _ (T200.setTop (mkF m 15 #[.val (.ref a1), .val (.int (Int32.ofNat i)), .val (.int (Int32.ofNat j)), .val (.int (Int32.ofNat (j - i))), .val (.ref b200)] [(.ref a1)]))
  refine own_Go.st (fun _ k => XS.iloadN X200.here hx rfl (hb hby d_jdk_65_method_133_15) rfl k) ?_
  show own_Go _ _ _ _ (T200.setTop (mkF m 16 #[.val (.ref a1), .val (.int (Int32.ofNat i)), .val (.int (Int32.ofNat j)), .val (.int (Int32.ofNat (j - i))), .val (.ref b200)] [(.int (Int32.ofNat i)), (.ref a1)]))
  refine own_Go.st (fun _ k => XS.aload X200.here hx rfl (hb hby d_jdk_65_method_133_16) rfl rfl k) ?_
  show own_Go _ _ _ _ (T200.setTop (mkF m 18 #[.val (.ref a1), .val (.int (Int32.ofNat i)), .val (.int (Int32.ofNat j)), .val (.int (Int32.ofNat (j - i))), .val (.ref b200)] [(.ref b200), (.int (Int32.ofNat i)), (.ref a1)]))
  refine own_Go.st (fun _ k => XS.iconst X200.here hx rfl (hb hby d_jdk_65_method_133_18) k) ?_
  show own_Go _ _ _ _ (T200.setTop (mkF m 19 #[.val (.ref a1), .val (.int (Int32.ofNat i)), .val (.int (Int32.ofNat j)), .val (.int (Int32.ofNat (j - i))), .val (.ref b200)] [(.int (0 : Int32)), (.ref b200), (.int (Int32.ofNat i)), (.ref a1)]))
  refine own_Go.st (fun _ k => XS.aloadN X200.here hx rfl (hb hby d_jdk_65_method_133_19) rfl rfl k) ?_
  show own_Go _ _ _ _ (T200.setTop (mkF m 20 #[.val (.ref a1), .val (.int (Int32.ofNat i)), .val (.int (Int32.ofNat j)), .val (.int (Int32.ofNat (j - i))), .val (.ref b200)] [(.ref a1), (.int (0 : Int32)), (.ref b200), (.int (Int32.ofNat i)), (.ref a1)]))
  have f202 : Arv Z h200 a1 k .byte (Int32.ofNat cap) (own_low cs) (.int (0 : Int32)) := p0_.ext E200
  obtain ⟨c203, Ar203, q203, S203, Nn203, H203, G203⟩ := id f202
  refine own_Go.st (X200.arraylength hx (by rw [e200]; exact Ar203.1) (State.isArrayOf_alike hZ.alike Ar203.2.1) (g := (mkF m 20 #[.val (.ref a1), .val (.int (Int32.ofNat i)), .val (.int (Int32.ofNat j)), .val (.int (Int32.ofNat (j - i))), .val (.ref b200)] [(.ref a1), (.int (0 : Int32)), (.ref b200), (.int (Int32.ofNat i)), (.ref a1)])) rfl rfl (hb hby d_jdk_65_method_133_20)) ?_
  rw [len_of S203 Nn203]
  show own_Go _ _ _ _ (T200.setTop (mkF m 21 #[.val (.ref a1), .val (.int (Int32.ofNat i)), .val (.int (Int32.ofNat j)), .val (.int (Int32.ofNat (j - i))), .val (.ref b200)] [(.int (Int32.ofNat cap)), (.int (0 : Int32)), (.ref b200), (.int (Int32.ofNat i)), (.ref a1)]))
  refine own_Go.st (fun _ k => XS.iloadN X200.here hx rfl (hb hby d_jdk_65_method_133_21) rfl k) ?_
  show own_Go _ _ _ _ (T200.setTop (mkF m 22 #[.val (.ref a1), .val (.int (Int32.ofNat i)), .val (.int (Int32.ofNat j)), .val (.int (Int32.ofNat (j - i))), .val (.ref b200)] [(.int (Int32.ofNat i)), (.int (Int32.ofNat cap)), (.int (0 : Int32)), (.ref b200), (.int (Int32.ofNat i)), (.ref a1)]))
  refine own_Go.st (fun _ k => XS.isub X200.here hx rfl (hb hby d_jdk_65_method_133_22) rfl k) ?_
  show own_Go _ _ _ _ (T200.setTop (mkF m 23 #[.val (.ref a1), .val (.int (Int32.ofNat i)), .val (.int (Int32.ofNat j)), .val (.int (Int32.ofNat (j - i))), .val (.ref b200)] [(.int ((Int32.ofNat cap) - (Int32.ofNat i))), (.int (0 : Int32)), (.ref b200), (.int (Int32.ofNat i)), (.ref a1)]))
  rw [own_ofB (by omega) (by omega)]
  show own_Go _ _ _ _ (T200.setTop (mkF m 23 #[.val (.ref a1), .val (.int (Int32.ofNat i)), .val (.int (Int32.ofNat j)), .val (.int (Int32.ofNat (j - i))), .val (.ref b200)] [(.int (Int32.ofNat (cap - i))), (.int (0 : Int32)), (.ref b200), (.int (Int32.ofNat i)), (.ref a1)]))
  refine own_Go.st (fun _ k => XS.iloadN X200.here hx rfl (hb hby d_jdk_65_method_133_23) rfl k) ?_
  show own_Go _ _ _ _ (T200.setTop (mkF m 24 #[.val (.ref a1), .val (.int (Int32.ofNat i)), .val (.int (Int32.ofNat j)), .val (.int (Int32.ofNat (j - i))), .val (.ref b200)] [(.int (Int32.ofNat (j - i))), (.int (Int32.ofNat (cap - i))), (.int (0 : Int32)), (.ref b200), (.int (Int32.ofNat i)), (.ref a1)]))
  have f205 : Old Z Z.heap.size h200 := OL.ext E200
  obtain ⟨_, _, ⟨T204, L204, k204, n204⟩, -, X204, ⟨Lc204, hQ204, l204, y204, z204⟩, st204⟩ := Jvm.LawKit.callS X200 hx (y := (⟨"java/lang/Math", "min", "(II)I"⟩ : MethodName)) hown (mvT hZ (hw _ (List.mem_of_getElem? (i := 100) rfl))) (mvT hZ (hw _ (List.mem_of_getElem? (i := 101) rfl))) (mvT hZ (hw _ (List.mem_of_getElem? (i := 102) rfl))) (mvT hZ (hw _ (List.mem_of_getElem? (i := 103) rfl))) (by decide) (backOf (W := 4) (rm_mmin l Z a0 hw [] (Int32.ofNat (cap - i)) (Int32.ofNat (j - i)) h200 f205 ) hZ (hw _ (List.mem_of_getElem? (i := 103) rfl)) (hw _ (List.mem_of_getElem? (i := 102) rfl)) (by decide) (by decide)) (g := (mkF m 24 #[.val (.ref a1), .val (.int (Int32.ofNat i)), .val (.int (Int32.ofNat j)), .val (.int (Int32.ofNat (j - i))), .val (.ref b200)] [(.int (Int32.ofNat (j - i))), (.int (Int32.ofNat (cap - i))), (.int (0 : Int32)), (.ref b200), (.int (Int32.ofNat i)), (.ref a1)])) rfl (by rw [hml]; rfl) (argsL := [(.int (Int32.ofNat (cap - i))), (.int (Int32.ofNat (j - i)))]) (rest := [(.int (0 : Int32)), (.ref b200), (.int (Int32.ofNat i)), (.ref a1)]) (lenOf pd_169 rfl) rfl (by show 2 * 0 + _ ≤ _; exact Nat.le_of_eq rfl) (hb hby d_jdk_65_method_133_24) (fun _ _ => ⟨rfl, e200, (by decide : 1 + 0 ≤ _), (by decide : 16 + 0 ≤ _)⟩)
  dsimp only [Pt.U, Pt.locs, Pt.cells, Pt.slots] at X204 l204 y204 z204 st204 hQ204
  subst l204 y204 z204
  obtain ⟨rfl, N204q, K204⟩ := hQ204
  have N204 := Fr.app N199 N204q
  refine own_Go.st st204 ?_
  show own_Go _ _ _ _ (T204.setTop (mkF m 27 #[.val (.ref a1), .val (.int (Int32.ofNat i)), .val (.int (Int32.ofNat j)), .val (.int (Int32.ofNat (j - i))), .val (.ref b200)] [(.int (if (Int32.ofNat (j - i)) < (Int32.ofNat (cap - i)) then (Int32.ofNat (j - i)) else (Int32.ofNat (cap - i)))), (.int (0 : Int32)), (.ref b200), (.int (Int32.ofNat i)), (.ref a1)]))
  rw [own_min (by omega) (by omega)]
  show own_Go _ _ _ _ (T204.setTop (mkF m 27 #[.val (.ref a1), .val (.int (Int32.ofNat i)), .val (.int (Int32.ofNat j)), .val (.int (Int32.ofNat (j - i))), .val (.ref b200)] [(.int (Int32.ofNat (j - i))), (.int (0 : Int32)), (.ref b200), (.int (Int32.ofNat i)), (.ref a1)]))
  have f206 : Arv Z h200 b200 k200 .byte (Int32.ofNat (j - i)) (List.replicate (j - i) (Value.int (0 : Int32))) (.int (0 : Int32)) := f201.pad (pad_rep [] _ _)
  obtain ⟨T207, h207, L207, X207, e207, N207, K207, V207, st207⟩ := cpA (us := (own_low ((cs.drop i).take (j - i)))) X204 hx hZ hown (hw _ (List.mem_of_getElem? (i := 104) rfl)) (hw _ (List.mem_of_getElem? (i := 107) rfl)) (hw _ (List.mem_of_getElem? (i := 105) rfl)) (hw _ (List.mem_of_getElem? (i := 106) rfl)) K204 f202 f206 (Or.inl ⟨rfl, rfl⟩) (own_of0 (by omega)) (by decide) (own_of0 (by omega)) (by rw [own_ofn (by omega), own_ofn (by omega), own_ofn (by omega)]; omega) (by rw [own_ofn (by omega)]; have : (0 : Int32).toNatClampNeg = 0 := (by decide); omega) (own_usR cs hij hj (by omega)) (by rw [own_ofn (by omega)]; have : (0 : Int32).toNatClampNeg = 0 := (by decide); rw [List.length_replicate]; omega) N204 (by omega) (g := (mkF m 27 #[.val (.ref a1), .val (.int (Int32.ofNat i)), .val (.int (Int32.ofNat j)), .val (.int (Int32.ofNat (j - i))), .val (.ref b200)] [(.int (Int32.ofNat (j - i))), (.int (0 : Int32)), (.ref b200), (.int (Int32.ofNat i)), (.ref a1)])) rfl (by rw [hml]; rfl) rfl (hb hby d_jdk_65_method_133_27) (by decide) (W := 0) (by show 2 * 0 + _ ≤ _; exact Nat.le_of_eq rfl) (by decide)
  refine own_Go.st st207 ?_
  have z207 : h200.size ≤ h207.size := K207.1
  have f208 : Arv Z h207 b200 k200 .byte (Int32.ofNat (j - i)) (own_low ((cs.drop i).take (j - i))) (.int (0 : Int32)) := own_takeV V207 (by omega)
  show own_Go _ _ _ _ (T207.setTop (mkF m 30 #[.val (.ref a1), .val (.int (Int32.ofNat i)), .val (.int (Int32.ofNat j)), .val (.int (Int32.ofNat (j - i))), .val (.ref b200)] []))
  refine own_Go.st (fun _ k => XS.aload X207.here hx rfl (hb hby d_jdk_65_method_133_30) rfl rfl k) ?_
  show own_Go _ _ _ _ (T207.setTop (mkF m 32 #[.val (.ref a1), .val (.int (Int32.ofNat i)), .val (.int (Int32.ofNat j)), .val (.int (Int32.ofNat (j - i))), .val (.ref b200)] [(.ref b200)]))
  obtain ⟨fs209, hr209, hrun209, hend209, hW209, hsm209⟩ := X207.leave (v := some (.ref b200)) (fun h => by rw [Bd.returns] at h; cases h)
  have K210 : Keep h0 h200 [] := (Keep.refl h0 []).ext E200
  have K211 : Keep h0 h207 [] := K210.trans K207 (allS (Or.inr (by omega)) all0)
  subst hPP
  refine ⟨_, _, own_retA X207 hx Bd.returns rfl rfl (hb hby d_jdk_65_method_133_32) hr209, hrun209, hend209, _, _, rfl, ?_, ⟨_, rfl⟩, hW209, hsm209.mono (by decide) (by decide)⟩
  · show Q_corb Z _ _ _ _ _ _ _ _ h0 _ T207.heap _
    rw [e207]
    exact ⟨b200, k200, rfl, N207, K211, f208, (by omega)⟩
theorem ef_174 (m : MethodId) (x0 : Nat) (x1 : Int32) (x2 : Int32) : entryFrame m #[(.ref x0), (.int x1), (.int x2)] 3 = mkF m 0 #[.val (.ref x0), .val (.int x1), .val (.int x2)] [] := by first | (simp [entryFrame, mkF, argsToLocals, Value.category]; done) | rfl
theorem d_jdk_65_method_132_0 : decode jdk_65_method_132_code 0 = .ok (.iload_n 1, 1) := by decide +kernel
theorem d_jdk_65_method_132_1 : decode jdk_65_method_132_code 1 = .ok (.ifCond .ne 9, 3) := by decide +kernel
theorem d_jdk_65_method_132_4 : decode jdk_65_method_132_code 4 = .ok (.iload_n 2, 1) := by decide +kernel
theorem d_jdk_65_method_132_5 : decode jdk_65_method_132_code 5 = .ok (.aload_n 0, 1) := by decide +kernel
theorem d_jdk_65_method_132_6 : decode jdk_65_method_132_code 6 = .ok (.arraylength, 1) := by decide +kernel
theorem d_jdk_65_method_132_7 : decode jdk_65_method_132_code 7 = .ok (.if_icmp .eq 10, 3) := by decide +kernel
theorem d_jdk_65_method_132_10 : decode jdk_65_method_132_code 10 = .ok (.aload_n 0, 1) := by decide +kernel
theorem d_jdk_65_method_132_11 : decode jdk_65_method_132_code 11 = .ok (.iload_n 1, 1) := by decide +kernel
theorem d_jdk_65_method_132_12 : decode jdk_65_method_132_code 12 = .ok (.iload_n 2, 1) := by decide +kernel
theorem pd_184 : parseMethodDescriptor "([BII)[B" = some ⟨[(.array .byte), .int, .int], some (.array .byte)⟩ := by decide +kernel
theorem d_jdk_65_method_132_13 : decode jdk_65_method_132_code 13 = .ok (.invokestatic 339, 3) := by decide +kernel
theorem d_jdk_65_method_132_16 : decode jdk_65_method_132_code 16 = .ok (.areturn, 1) := by decide +kernel
def Q_cor (Z : State) (a1 : Nat) (p2 : Int32) (p3 : Int32) (i : Nat) (j : Nat) (cs : List Int32) (cap : Nat) (k : ClassId) (h0 : Heap) (v : Option Value) (h : Heap) (L : List Loc) : Prop := ∃ (x : Nat), ∃ (kx : ClassId), v = some (.ref x) ∧ Fr Z.heap.size L ∧ Keep h0 h [] ∧ Arv Z h x kx .byte (Int32.ofNat (j - i)) (own_low ((cs.drop i).take (j - i))) (.int (0 : Int32)) ∧ (h0.size ≤ x)
set_option maxRecDepth 65536 in
set_option maxHeartbeats 40000000 in
theorem rm_cor (l : Launch) (Z : State) (a0 : Array Value) (hw : ∀ d ∈ tables_1, d.before a0 Z = true) (ws : List Jvm.Cond) (a1 : Nat) (p2 : Int32) (p3 : Int32) (i : Nat) (j : Nat) (cs : List Int32) (cap : Nat) (k : ClassId) (h0 : Heap) (OL : Old Z Z.heap.size h0) (p0_ : Arv Z h0 a1 k .byte (Int32.ofNat cap) (own_low cs) (.int (0 : Int32))) (hp2 : p2 = Int32.ofNat i) (hp3 : p3 = Int32.ofNat j) (hij : i ≤ j) (hj : j ≤ cs.length) (hcs : cs.length ≤ cap) (hcap : cap ≤ 100) (hmx : j - i ≤ 16) (hnw : ¬ (i = 0 ∧ j = cap)) :
    MetFree l (⟨"java/util/Arrays", "copyOfRange", "([BII)[B"⟩ : MethodName) (head1 (Jvm.Cond.code (⟨"java/util/Arrays", "copyOfRange", "([BII)[B"⟩ : MethodName) jdk_65_method_132_code 3 (some (.array .byte)) :: ws) ({ frames := 2, cells := 1, slots := 16, locals := 56 } : Room)) (fun a U => a = #[(.ref a1), (.int p2), (.int p3)] ∧ Z.Warmed39 U.vm ∧ U.heap = h0) (fun _ _ _ _ _ => True) (fun _ U o U' => ∃ v L, o = .returned v ∧ Q_cor Z a1 p2 p3 i j cs cap k h0 v U'.heap L ∧ FrameEnd U o U' L ({ frames := 2, cells := 1, slots := 16, locals := 56 } : Room).cells ({ frames := 2, cells := 1, slots := 16, locals := 56 } : Room).slots) := by
  refine MetFree.of_bodySF (plainFor_of_name pn_143) hisR ?_
  intro p e s m args below meth c s₁ Bd hml0 hP hK
  obtain ⟨rfl, hZ, hh⟩ := hP
  have hx := Bd.exec
  have hby := Bd.bytes
  have hml : c.maxLocals = 3 := hml0
  have hown : s.vm.findClass "java/util/Arrays" = some m.cls := findClass_of_methodNamed Bd.named
  have hnm := (name_of_methodNamed Bd.named Bd.method).1
  have X0 : Stand p l e ({ frames := 2, cells := 1, slots := 16, locals := 56 } : Room) s m #[(.ref a1), (.int p2), (.int p3)] below meth c s₁ [] 0 0 := Stand.of_body Bd
  have e0 : s₁.heap = h0 := by rw [← hh, Bd.state]; rfl
  have N0 := Fr.nil Z.heap.size
  have Z0 : Z.heap.size ≤ h0.size := OL.2.1
  have lt_0 : @LT.lt Nat _ a1 h0.size := p0_.lt
  obtain ⟨PP, hPP⟩ : ∃ PP : Outcome → State → Prop, PP = (fun o tE => ∃ v L, o = .returned v ∧ Q_cor Z a1 p2 p3 i j cs cap k h0 v tE.heap L ∧ FrameEnd s o tE L ({ frames := 2, cells := 1, slots := 16, locals := 56 } : Room).cells ({ frames := 2, cells := 1, slots := 16, locals := 56 } : Room).slots) := ⟨_, rfl⟩
  show own_Go p.tables e below (fun o tE => ∃ v L, o = .returned v ∧ Q_cor Z a1 p2 p3 i j cs cap k h0 v tE.heap L ∧ FrameEnd s o tE L ({ frames := 2, cells := 1, slots := 16, locals := 56 } : Room).cells ({ frames := 2, cells := 1, slots := 16, locals := 56 } : Room).slots) (s₁.setTop (entryFrame m #[(.ref a1), (.int p2), (.int p3)] 3))
  rw [← hPP]
  refine own_Go.st (fun t k => castTop (ef_174 m a1 p2 p3) k) ?_
  subst hp2 hp3
  show own_Go _ _ _ _ (s₁.setTop (mkF m 0 #[.val (.ref a1), .val (.int (Int32.ofNat i)), .val (.int (Int32.ofNat j))] []))
  refine own_Go.st (fun _ k => XS.iloadN X0.here hx rfl (hb hby d_jdk_65_method_132_0) rfl k) ?_
  show own_Go _ _ _ _ (s₁.setTop (mkF m 1 #[.val (.ref a1), .val (.int (Int32.ofNat i)), .val (.int (Int32.ofNat j))] [(.int (Int32.ofNat i))]))
  by_cases h1 : (Int32.ofNat i) = (0 : Int32)
  ·
    refine own_Go.st (fun _ k => XS.ifNo X0.here hx rfl (hb hby d_jdk_65_method_132_1) rfl ((if0 _ _).trans (teq h1).2) k) ?_
    show own_Go _ _ _ _ (s₁.setTop (mkF m 4 #[.val (.ref a1), .val (.int (Int32.ofNat i)), .val (.int (Int32.ofNat j))] []))
    refine own_Go.st (fun _ k => XS.iloadN X0.here hx rfl (hb hby d_jdk_65_method_132_4) rfl k) ?_
    show own_Go _ _ _ _ (s₁.setTop (mkF m 5 #[.val (.ref a1), .val (.int (Int32.ofNat i)), .val (.int (Int32.ofNat j))] [(.int (Int32.ofNat j))]))
    refine own_Go.st (fun _ k => XS.aloadN X0.here hx rfl (hb hby d_jdk_65_method_132_5) rfl rfl k) ?_
    show own_Go _ _ _ _ (s₁.setTop (mkF m 6 #[.val (.ref a1), .val (.int (Int32.ofNat i)), .val (.int (Int32.ofNat j))] [(.ref a1), (.int (Int32.ofNat j))]))
    obtain ⟨c212, Ar212, q212, S212, Nn212, H212, G212⟩ := id p0_
    refine own_Go.st (X0.arraylength hx (by rw [e0]; exact Ar212.1) (State.isArrayOf_alike hZ.alike Ar212.2.1) (g := (mkF m 6 #[.val (.ref a1), .val (.int (Int32.ofNat i)), .val (.int (Int32.ofNat j))] [(.ref a1), (.int (Int32.ofNat j))])) rfl rfl (hb hby d_jdk_65_method_132_6)) ?_
    rw [len_of S212 Nn212]
    show own_Go _ _ _ _ (s₁.setTop (mkF m 7 #[.val (.ref a1), .val (.int (Int32.ofNat i)), .val (.int (Int32.ofNat j))] [(.int (Int32.ofNat cap)), (.int (Int32.ofNat j))]))
    have hc213 : ¬ ((Int32.ofNat j) = (Int32.ofNat cap)) := fun q => hnw ⟨(own_ofE (by omega) (by omega)).mp h1, (own_ofE (by omega) (by omega)).mp q⟩
    refine own_Go.st (fun _ k => XS.icmpNo X0.here hx rfl (hb hby d_jdk_65_method_132_7) rfl (feq hc213).1 k) ?_
    show own_Go _ _ _ _ (s₁.setTop (mkF m 10 #[.val (.ref a1), .val (.int (Int32.ofNat i)), .val (.int (Int32.ofNat j))] []))
    refine own_Go.st (fun _ k => XS.aloadN X0.here hx rfl (hb hby d_jdk_65_method_132_10) rfl rfl k) ?_
    show own_Go _ _ _ _ (s₁.setTop (mkF m 11 #[.val (.ref a1), .val (.int (Int32.ofNat i)), .val (.int (Int32.ofNat j))] [(.ref a1)]))
    refine own_Go.st (fun _ k => XS.iloadN X0.here hx rfl (hb hby d_jdk_65_method_132_11) rfl k) ?_
    show own_Go _ _ _ _ (s₁.setTop (mkF m 12 #[.val (.ref a1), .val (.int (Int32.ofNat i)), .val (.int (Int32.ofNat j))] [(.int (Int32.ofNat i)), (.ref a1)]))
    refine own_Go.st (fun _ k => XS.iloadN X0.here hx rfl (hb hby d_jdk_65_method_132_12) rfl k) ?_
    show own_Go _ _ _ _ (s₁.setTop (mkF m 13 #[.val (.ref a1), .val (.int (Int32.ofNat i)), .val (.int (Int32.ofNat j))] [(.int (Int32.ofNat j)), (.int (Int32.ofNat i)), (.ref a1)]))
    obtain ⟨_, _, ⟨T214, L214, k214, n214⟩, -, X214, ⟨Lc214, hQ214, l214, y214, z214⟩, st214⟩ := Jvm.LawKit.callS X0 hx (y := (⟨"java/util/Arrays", "copyOfRangeByte", "([BII)[B"⟩ : MethodName)) hown (mvT hZ (hw _ (List.mem_of_getElem? (i := 94) rfl))) (mvT hZ (hw _ (List.mem_of_getElem? (i := 95) rfl))) (mvT hZ (hw _ (List.mem_of_getElem? (i := 92) rfl))) (mvT hZ (hw _ (List.mem_of_getElem? (i := 96) rfl))) (by decide) (backOf (W := 0) (rm_corb l Z a0 hw [] a1 (Int32.ofNat i) (Int32.ofNat j) i j cs cap k h0 OL p0_ rfl rfl (by first | assumption | decide) (by first | assumption | decide) (by first | assumption | decide) (by first | assumption | decide) (by first | assumption | decide)) hZ (hw _ (List.mem_of_getElem? (i := 96) rfl)) (hw _ (List.mem_of_getElem? (i := 92) rfl)) (by decide) (by decide)) (g := (mkF m 13 #[.val (.ref a1), .val (.int (Int32.ofNat i)), .val (.int (Int32.ofNat j))] [(.int (Int32.ofNat j)), (.int (Int32.ofNat i)), (.ref a1)])) rfl (by rw [hml]; rfl) (argsL := [(.ref a1), (.int (Int32.ofNat i)), (.int (Int32.ofNat j))]) (rest := []) (lenOf pd_184 rfl) rfl (by show 2 * 0 + _ ≤ _; exact Nat.le_of_eq rfl) (hb hby d_jdk_65_method_132_13) (fun _ _ => ⟨rfl, e0, (by decide : 0 + 1 ≤ _), (by decide : 0 + 16 ≤ _)⟩)
    dsimp only [Pt.U, Pt.locs, Pt.cells, Pt.slots] at X214 l214 y214 z214 st214 hQ214
    subst l214 y214 z214
    obtain ⟨x_214, kx_214, rfl, N214q, K214, f214_0, pr214_0⟩ := hQ214
    have N214 := Fr.app N0 N214q
    have z214 : h0.size ≤ T214.heap.size := K214.1
    have lt214_0 : @LT.lt Nat _ x_214 T214.heap.size := f214_0.lt
    refine own_Go.st st214 ?_
    show own_Go _ _ _ _ (T214.setTop (mkF m 16 #[.val (.ref a1), .val (.int (Int32.ofNat i)), .val (.int (Int32.ofNat j))] [(.ref x_214)]))
    obtain ⟨fs215, hr215, hrun215, hend215, hW215, hsm215⟩ := X214.leave (v := some (.ref x_214)) (fun h => by rw [Bd.returns] at h; cases h)
    have K216 : Keep h0 T214.heap [] := (Keep.refl h0 []).trans K214 all0
    subst hPP
    refine ⟨_, _, own_retA X214 hx Bd.returns rfl rfl (hb hby d_jdk_65_method_132_16) hr215, hrun215, hend215, _, _, rfl, ?_, ⟨_, rfl⟩, hW215, hsm215.mono (by decide) (by decide)⟩
    · show Q_cor Z _ _ _ _ _ _ _ _ h0 _ T214.heap _
      exact ⟨x_214, kx_214, rfl, N214, K216, f214_0, (by omega)⟩
  ·
    refine own_Go.st (fun _ k => XS.ifYes X0.here hx rfl (pc0 := 1) (pc' := 10) rfl (hb hby d_jdk_65_method_132_1) rfl ((if0 _ _).trans (feq h1).2) (by decide) (by decide) k) ?_
    show own_Go _ _ _ _ (s₁.setTop (mkF m 10 #[.val (.ref a1), .val (.int (Int32.ofNat i)), .val (.int (Int32.ofNat j))] []))
    refine own_Go.st (fun _ k => XS.aloadN X0.here hx rfl (hb hby d_jdk_65_method_132_10) rfl rfl k) ?_
    show own_Go _ _ _ _ (s₁.setTop (mkF m 11 #[.val (.ref a1), .val (.int (Int32.ofNat i)), .val (.int (Int32.ofNat j))] [(.ref a1)]))
    refine own_Go.st (fun _ k => XS.iloadN X0.here hx rfl (hb hby d_jdk_65_method_132_11) rfl k) ?_
    show own_Go _ _ _ _ (s₁.setTop (mkF m 12 #[.val (.ref a1), .val (.int (Int32.ofNat i)), .val (.int (Int32.ofNat j))] [(.int (Int32.ofNat i)), (.ref a1)]))
    refine own_Go.st (fun _ k => XS.iloadN X0.here hx rfl (hb hby d_jdk_65_method_132_12) rfl k) ?_
    show own_Go _ _ _ _ (s₁.setTop (mkF m 13 #[.val (.ref a1), .val (.int (Int32.ofNat i)), .val (.int (Int32.ofNat j))] [(.int (Int32.ofNat j)), (.int (Int32.ofNat i)), (.ref a1)]))
    obtain ⟨_, _, ⟨T217, L217, k217, n217⟩, -, X217, ⟨Lc217, hQ217, l217, y217, z217⟩, st217⟩ := Jvm.LawKit.callS X0 hx (y := (⟨"java/util/Arrays", "copyOfRangeByte", "([BII)[B"⟩ : MethodName)) hown (mvT hZ (hw _ (List.mem_of_getElem? (i := 94) rfl))) (mvT hZ (hw _ (List.mem_of_getElem? (i := 95) rfl))) (mvT hZ (hw _ (List.mem_of_getElem? (i := 92) rfl))) (mvT hZ (hw _ (List.mem_of_getElem? (i := 96) rfl))) (by decide) (backOf (W := 0) (rm_corb l Z a0 hw [] a1 (Int32.ofNat i) (Int32.ofNat j) i j cs cap k h0 OL p0_ rfl rfl (by first | assumption | decide) (by first | assumption | decide) (by first | assumption | decide) (by first | assumption | decide) (by first | assumption | decide)) hZ (hw _ (List.mem_of_getElem? (i := 96) rfl)) (hw _ (List.mem_of_getElem? (i := 92) rfl)) (by decide) (by decide)) (g := (mkF m 13 #[.val (.ref a1), .val (.int (Int32.ofNat i)), .val (.int (Int32.ofNat j))] [(.int (Int32.ofNat j)), (.int (Int32.ofNat i)), (.ref a1)])) rfl (by rw [hml]; rfl) (argsL := [(.ref a1), (.int (Int32.ofNat i)), (.int (Int32.ofNat j))]) (rest := []) (lenOf pd_184 rfl) rfl (by show 2 * 0 + _ ≤ _; exact Nat.le_of_eq rfl) (hb hby d_jdk_65_method_132_13) (fun _ _ => ⟨rfl, e0, (by decide : 0 + 1 ≤ _), (by decide : 0 + 16 ≤ _)⟩)
    dsimp only [Pt.U, Pt.locs, Pt.cells, Pt.slots] at X217 l217 y217 z217 st217 hQ217
    subst l217 y217 z217
    obtain ⟨x_217, kx_217, rfl, N217q, K217, f217_0, pr217_0⟩ := hQ217
    have N217 := Fr.app N0 N217q
    have z217 : h0.size ≤ T217.heap.size := K217.1
    have lt217_0 : @LT.lt Nat _ x_217 T217.heap.size := f217_0.lt
    refine own_Go.st st217 ?_
    show own_Go _ _ _ _ (T217.setTop (mkF m 16 #[.val (.ref a1), .val (.int (Int32.ofNat i)), .val (.int (Int32.ofNat j))] [(.ref x_217)]))
    obtain ⟨fs218, hr218, hrun218, hend218, hW218, hsm218⟩ := X217.leave (v := some (.ref x_217)) (fun h => by rw [Bd.returns] at h; cases h)
    have K219 : Keep h0 T217.heap [] := (Keep.refl h0 []).trans K217 all0
    subst hPP
    refine ⟨_, _, own_retA X217 hx Bd.returns rfl rfl (hb hby d_jdk_65_method_132_16) hr218, hrun218, hend218, _, _, rfl, ?_, ⟨_, rfl⟩, hW218, hsm218.mono (by decide) (by decide)⟩
    · show Q_cor Z _ _ _ _ _ _ _ _ h0 _ T217.heap _
      exact ⟨x_217, kx_217, rfl, N217, K219, f217_0, (by omega)⟩

theorem own_all (cs : List Int32) : (cs.drop 0).take (cs.length - 0) = cs := by simp

theorem ef_187 (m : MethodId) (x0 : Nat) (x1 : Nat) : entryFrame m #[(.ref x0), (.ref x1), .null] 5 = mkF m 0 #[.val (.ref x0), .val (.ref x1), .val .null, .unset, .unset] [] := by first | (simp [entryFrame, mkF, argsToLocals, Value.category]; done) | rfl
theorem d_jdk_42_method_150_0 : decode jdk_42_method_150_code 0 = .ok (.aload_n 0, 1) := by decide +kernel
theorem d_jdk_42_method_150_1 : decode jdk_42_method_150_code 1 = .ok (.invokespecial 1, 3) := by decide +kernel
theorem d_jdk_42_method_150_4 : decode jdk_42_method_150_code 4 = .ok (.aload_n 1, 1) := by decide +kernel
theorem pd_191 : parseMethodDescriptor "()[B" = some ⟨[], some (.array .byte)⟩ := by decide +kernel
theorem d_jdk_42_method_150_5 : decode jdk_42_method_150_code 5 = .ok (.invokevirtual 552, 3) := by decide +kernel
theorem d_jdk_42_method_150_8 : decode jdk_42_method_150_code 8 = .ok (.astore_n 3, 1) := by decide +kernel
theorem d_jdk_42_method_150_9 : decode jdk_42_method_150_code 9 = .ok (.aload_n 1, 1) := by decide +kernel
theorem d_jdk_42_method_150_10 : decode jdk_42_method_150_code 10 = .ok (.invokevirtual 549, 3) := by decide +kernel
theorem d_jdk_42_method_150_13 : decode jdk_42_method_150_code 13 = .ok (.istore 4, 2) := by decide +kernel
theorem d_jdk_42_method_150_15 : decode jdk_42_method_150_code 15 = .ok (.aload_n 1, 1) := by decide +kernel
theorem pd_198 : parseMethodDescriptor "()Z" = some ⟨[], some .boolean⟩ := by decide +kernel
theorem d_jdk_42_method_150_16 : decode jdk_42_method_150_code 16 = .ok (.invokevirtual 1047, 3) := by decide +kernel
theorem d_jdk_42_method_150_19 : decode jdk_42_method_150_code 19 = .ok (.ifCond .eq 22, 3) := by decide +kernel
theorem d_jdk_42_method_150_22 : decode jdk_42_method_150_code 22 = .ok (.aload_n 0, 1) := by decide +kernel
theorem d_jdk_42_method_150_23 : decode jdk_42_method_150_code 23 = .ok (.iconst 0, 1) := by decide +kernel
theorem d_jdk_42_method_150_24 : decode jdk_42_method_150_code 24 = .ok (.putfield 15, 3) := by decide +kernel
theorem d_jdk_42_method_150_27 : decode jdk_42_method_150_code 27 = .ok (.aload_n 0, 1) := by decide +kernel
theorem d_jdk_42_method_150_28 : decode jdk_42_method_150_code 28 = .ok (.aload_n 3, 1) := by decide +kernel
theorem d_jdk_42_method_150_29 : decode jdk_42_method_150_code 29 = .ok (.iconst 0, 1) := by decide +kernel
theorem d_jdk_42_method_150_30 : decode jdk_42_method_150_code 30 = .ok (.iload 4, 2) := by decide +kernel
theorem d_jdk_42_method_150_32 : decode jdk_42_method_150_code 32 = .ok (.invokestatic 54, 3) := by decide +kernel
theorem d_jdk_42_method_150_35 : decode jdk_42_method_150_code 35 = .ok (.putfield 9, 3) := by decide +kernel
theorem d_jdk_42_method_150_38 : decode jdk_42_method_150_code 38 = .ok (.goto 59, 3) := by decide +kernel
theorem d_jdk_42_method_150_97 : decode jdk_42_method_150_code 97 = .ok (.return_, 1) := by decide +kernel
def Q_sinit2 (Z : State) (a1 : Nat) (a2 : Nat) (cs : List Int32) (cap : Nat) (a4 : Nat) (k : ClassId) (zc : Int32) (h0 : Heap) (v : Option Value) (h : Heap) (L : List Loc) : Prop := ∃ (t : Nat), v = none ∧ Fr Z.heap.size L ∧ Keep h0 h [a1] ∧ own_Str Z h a1 t cs ∧ (h0.size ≤ t)
set_option maxRecDepth 65536 in
set_option maxHeartbeats 40000000 in
theorem rm_sinit2 (l : Launch) (Z : State) (a0 : Array Value) (hw : ∀ d ∈ tables_1, d.before a0 Z = true) (ws : List Jvm.Cond) (a1 : Nat) (a2 : Nat) (cs : List Int32) (cap : Nat) (a4 : Nat) (k : ClassId) (zc : Int32) (h0 : Heap) (OL : Old Z Z.heap.size h0) (p0_ : Exa Z h0 a1 "java/lang/String") (p1_ : Fld Z h0 a1 "java/lang/String" "value" "[B" .null) (p2_ : Fld Z h0 a1 "java/lang/String" "coder" "B" (.int (0 : Int32))) (p3_ : Exa Z h0 a2 "java/lang/StringBuilder") (p4_ : Fld Z h0 a2 "java/lang/AbstractStringBuilder" "value" "[B" (.ref a4)) (p5_ : Fld Z h0 a2 "java/lang/AbstractStringBuilder" "coder" "B" (.int (0 : Int32))) (p6_ : Fld Z h0 a2 "java/lang/AbstractStringBuilder" "count" "I" (.int (Int32.ofNat cs.length))) (p7_ : Arv Z h0 a4 k .byte (Int32.ofNat cap) (own_low cs) (.int (0 : Int32))) (st_COMPACT_STRINGS : Sta Z Z.heap "java/lang/String" "COMPACT_STRINGS" "Z" (.int zc)) (hzc : ¬ zc = 0) (hcs : cs.length < cap) (hcap : cap ≤ 100) (hmx : cs.length ≤ 16) (hlc : ∀ c ∈ cs, ¬ c < 0 ∧ ¬ (255 : Int32) < c) (hn0 : Z.heap.size ≤ a1) :
    MetFree l (⟨"java/lang/String", "<init>", "(Ljava/lang/AbstractStringBuilder;Ljava/lang/Void;)V"⟩ : MethodName) (head1 (Jvm.Cond.code (⟨"java/lang/String", "<init>", "(Ljava/lang/AbstractStringBuilder;Ljava/lang/Void;)V"⟩ : MethodName) jdk_42_method_150_code 5 none :: ws) ({ frames := 3, cells := 1, slots := 16, locals := 72 } : Room)) (fun a U => a = #[(.ref a1), (.ref a2), .null] ∧ Z.Warmed39 U.vm ∧ U.heap = h0) (fun _ _ _ _ _ => True) (fun _ U o U' => ∃ v L, o = .returned v ∧ Q_sinit2 Z a1 a2 cs cap a4 k zc h0 v U'.heap L ∧ FrameEnd U o U' L ({ frames := 3, cells := 1, slots := 16, locals := 72 } : Room).cells ({ frames := 3, cells := 1, slots := 16, locals := 72 } : Room).slots) := by
  refine MetFree.of_bodySF (plainFor_of_name pn_22) hisR ?_
  intro p e s m args below meth c s₁ Bd hml0 hP hK
  obtain ⟨rfl, hZ, hh⟩ := hP
  have hx := Bd.exec
  have hby := Bd.bytes
  have hml : c.maxLocals = 5 := hml0
  have hown : s.vm.findClass "java/lang/String" = some m.cls := findClass_of_methodNamed Bd.named
  have hnm := (name_of_methodNamed Bd.named Bd.method).1
  have X0 : Stand p l e ({ frames := 3, cells := 1, slots := 16, locals := 72 } : Room) s m #[(.ref a1), (.ref a2), .null] below meth c s₁ [] 0 0 := Stand.of_body Bd
  have e0 : s₁.heap = h0 := by rw [← hh, Bd.state]; rfl
  have N0 := Fr.nil Z.heap.size
  have Z0 : Z.heap.size ≤ h0.size := OL.2.1
  have lt_0 : @LT.lt Nat _ a1 h0.size := p0_.lt
  have lt_1 : @LT.lt Nat _ a1 h0.size := p1_.lt
  have lt_2 : @LT.lt Nat _ a1 h0.size := p2_.lt
  have lt_3 : @LT.lt Nat _ a2 h0.size := p3_.lt
  have lt_4 : @LT.lt Nat _ a2 h0.size := p4_.lt
  have lt_5 : @LT.lt Nat _ a2 h0.size := p5_.lt
  have lt_6 : @LT.lt Nat _ a2 h0.size := p6_.lt
  have lt_7 : @LT.lt Nat _ a4 h0.size := p7_.lt
  obtain ⟨PP, hPP⟩ : ∃ PP : Outcome → State → Prop, PP = (fun o tE => ∃ v L, o = .returned v ∧ Q_sinit2 Z a1 a2 cs cap a4 k zc h0 v tE.heap L ∧ FrameEnd s o tE L ({ frames := 3, cells := 1, slots := 16, locals := 72 } : Room).cells ({ frames := 3, cells := 1, slots := 16, locals := 72 } : Room).slots) := ⟨_, rfl⟩
  show own_Go p.tables e below (fun o tE => ∃ v L, o = .returned v ∧ Q_sinit2 Z a1 a2 cs cap a4 k zc h0 v tE.heap L ∧ FrameEnd s o tE L ({ frames := 3, cells := 1, slots := 16, locals := 72 } : Room).cells ({ frames := 3, cells := 1, slots := 16, locals := 72 } : Room).slots) (s₁.setTop (entryFrame m #[(.ref a1), (.ref a2), .null] 5))
  rw [← hPP]
  refine own_Go.st (fun t k => castTop (ef_187 m a1 a2) k) ?_
  show own_Go _ _ _ _ (s₁.setTop (mkF m 0 #[.val (.ref a1), .val (.ref a2), .val .null, .unset, .unset] []))
  refine own_Go.st (fun _ k => XS.aloadN X0.here hx rfl (hb hby d_jdk_42_method_150_0) rfl rfl k) ?_
  show own_Go _ _ _ _ (s₁.setTop (mkF m 1 #[.val (.ref a1), .val (.ref a2), .val .null, .unset, .unset] [(.ref a1)]))
  obtain ⟨T220, X220, e220, st220⟩ := initO X0 hx hZ hown (hw _ (List.mem_of_getElem? (i := 15) rfl)) (hw _ (List.mem_of_getElem? (i := 16) rfl)) (hw _ (List.mem_of_getElem? (i := 17) rfl)) e0 (g := (mkF m 1 #[.val (.ref a1), .val (.ref a2), .val .null, .unset, .unset] [(.ref a1)])) rfl (by rw [hml]; rfl) rfl (hb hby d_jdk_42_method_150_1) (by decide) (W := 0) (by show 2 * 0 + _ ≤ _; exact Nat.le_of_eq rfl) (by decide)
  refine own_Go.st st220 ?_
  show own_Go _ _ _ _ (T220.setTop (mkF m 4 #[.val (.ref a1), .val (.ref a2), .val .null, .unset, .unset] []))
  refine own_Go.st (fun _ k => XS.aloadN X220.here hx rfl (hb hby d_jdk_42_method_150_4) rfl rfl k) ?_
  show own_Go _ _ _ _ (T220.setTop (mkF m 5 #[.val (.ref a1), .val (.ref a2), .val .null, .unset, .unset] [(.ref a2)]))
  obtain ⟨cq221, kq221, q221a, q221b, q221c⟩ := isOf hZ e220 p3_
  obtain ⟨_, _, ⟨T221, L221, k221, n221⟩, -, X221, ⟨Lc221, hQ221, l221, y221, z221⟩, st221⟩ := X220.virtualBack hx (y := (⟨"java/lang/AbstractStringBuilder", "getValue", "()[B"⟩ : MethodName)) (z := (⟨"java/lang/AbstractStringBuilder", "getValue", "()[B"⟩ : MethodName)) hown (mvT hZ (hw _ (List.mem_of_getElem? (i := 163) rfl))) (mvT hZ (hw _ (List.mem_of_getElem? (i := 164) rfl))) (notFace_of_selects (args := #[]) (mvT hZ (hw _ (List.mem_of_getElem? (i := 166) rfl)))) (mvT hZ (hw _ (List.mem_of_getElem? (i := 166) rfl))) (mvT hZ (hw _ (List.mem_of_getElem? (i := 165) rfl))) (by decide) (backOf (W := 0) (rm_getValue l Z a0 hw [] a2 a4 h0 OL p4_) hZ (hw _ (List.mem_of_getElem? (i := 167) rfl)) (hw _ (List.mem_of_getElem? (i := 48) rfl)) (by decide) (by decide)) q221a q221c (g := (mkF m 5 #[.val (.ref a1), .val (.ref a2), .val .null, .unset, .unset] [(.ref a2)])) rfl (by rw [hml]; rfl) (Steps.refl _) (argsL := []) (rest := []) (lenOf pd_191 rfl) rfl (by show 2 * 0 + _ ≤ _; exact Nat.le_of_eq rfl) (hb hby d_jdk_42_method_150_5) (fun _ _ => ⟨rfl, e220, (by decide : 0 + 0 ≤ _), (by decide : 0 + 0 ≤ _)⟩)
  dsimp only [Pt.U, Pt.locs, Pt.cells, Pt.slots] at X221 l221 y221 z221 st221 hQ221
  subst l221 y221 z221
  obtain ⟨rfl, N221q, K221⟩ := hQ221
  have N221 := Fr.app N0 N221q
  refine own_Go.tr st221 ?_
  show own_Go _ _ _ _ (T221.setTop (mkF m 8 #[.val (.ref a1), .val (.ref a2), .val .null, .unset, .unset] [(.ref a4)]))
  refine own_Go.st (fun _ k => XS.astoreN X221.here hx rfl (hb hby d_jdk_42_method_150_8) rfl rfl (l' := #[.val (.ref a1), .val (.ref a2), .val .null, .val (.ref a4), .unset]) rfl k) ?_
  show own_Go _ _ _ _ (T221.setTop (mkF m 9 #[.val (.ref a1), .val (.ref a2), .val .null, .val (.ref a4), .unset] []))
  refine own_Go.st (fun _ k => XS.aloadN X221.here hx rfl (hb hby d_jdk_42_method_150_9) rfl rfl k) ?_
  show own_Go _ _ _ _ (T221.setTop (mkF m 10 #[.val (.ref a1), .val (.ref a2), .val .null, .val (.ref a4), .unset] [(.ref a2)]))
  obtain ⟨cq222, kq222, q222a, q222b, q222c⟩ := isOf hZ K221 p3_
  obtain ⟨_, _, ⟨T222, L222, k222, n222⟩, -, X222, ⟨Lc222, hQ222, l222, y222, z222⟩, st222⟩ := X221.virtualBack hx (y := (⟨"java/lang/AbstractStringBuilder", "length", "()I"⟩ : MethodName)) (z := (⟨"java/lang/StringBuilder", "length", "()I"⟩ : MethodName)) hown (mvT hZ (hw _ (List.mem_of_getElem? (i := 168) rfl))) (mvT hZ (hw _ (List.mem_of_getElem? (i := 169) rfl))) (own_nf (args := #[]) (mvT hZ (hw _ (List.mem_of_getElem? (i := 127) rfl))) rfl) (mvT hZ (hw _ (List.mem_of_getElem? (i := 171) rfl))) (mvT hZ (hw _ (List.mem_of_getElem? (i := 172) rfl))) (by decide) (backOf (W := 0) (rm_sblen l Z a0 hw [] a2 (Int32.ofNat cs.length) h0 OL p3_ p6_) hZ (hw _ (List.mem_of_getElem? (i := 173) rfl)) (hw _ (List.mem_of_getElem? (i := 40) rfl)) (by decide) (by decide)) q222a q222c (g := (mkF m 10 #[.val (.ref a1), .val (.ref a2), .val .null, .val (.ref a4), .unset] [(.ref a2)])) rfl (by rw [hml]; rfl) (Steps.refl _) (argsL := []) (rest := []) (lenOf pd_88 rfl) rfl (by show 2 * 0 + _ ≤ _; exact Nat.le_of_eq rfl) (hb hby d_jdk_42_method_150_10) (fun _ _ => ⟨rfl, K221, (by decide : 0 + 0 ≤ _), (by decide : 0 + 0 ≤ _)⟩)
  dsimp only [Pt.U, Pt.locs, Pt.cells, Pt.slots] at X222 l222 y222 z222 st222 hQ222
  subst l222 y222 z222
  obtain ⟨rfl, N222q, K222⟩ := hQ222
  have N222 := Fr.app N221 N222q
  refine own_Go.tr st222 ?_
  show own_Go _ _ _ _ (T222.setTop (mkF m 13 #[.val (.ref a1), .val (.ref a2), .val .null, .val (.ref a4), .unset] [(.int (Int32.ofNat cs.length))]))
  refine own_Go.st (fun _ k => XS.istore X222.here hx rfl (hb hby d_jdk_42_method_150_13) rfl (l' := #[.val (.ref a1), .val (.ref a2), .val .null, .val (.ref a4), .val (.int (Int32.ofNat cs.length))]) rfl k) ?_
  show own_Go _ _ _ _ (T222.setTop (mkF m 15 #[.val (.ref a1), .val (.ref a2), .val .null, .val (.ref a4), .val (.int (Int32.ofNat cs.length))] []))
  refine own_Go.st (fun _ k => XS.aloadN X222.here hx rfl (hb hby d_jdk_42_method_150_15) rfl rfl k) ?_
  show own_Go _ _ _ _ (T222.setTop (mkF m 16 #[.val (.ref a1), .val (.ref a2), .val .null, .val (.ref a4), .val (.int (Int32.ofNat cs.length))] [(.ref a2)]))
  obtain ⟨cq223, kq223, q223a, q223b, q223c⟩ := isOf hZ K222 p3_
  obtain ⟨_, _, ⟨T223, L223, k223, n223⟩, -, X223, ⟨Lc223, hQ223, l223, y223, z223⟩, st223⟩ := X222.virtualBack hx (y := (⟨"java/lang/AbstractStringBuilder", "isLatin1", "()Z"⟩ : MethodName)) (z := (⟨"java/lang/AbstractStringBuilder", "isLatin1", "()Z"⟩ : MethodName)) hown (mvT hZ (hw _ (List.mem_of_getElem? (i := 176) rfl))) (mvT hZ (hw _ (List.mem_of_getElem? (i := 177) rfl))) (notFace_of_selects (args := #[]) (mvT hZ (hw _ (List.mem_of_getElem? (i := 179) rfl)))) (mvT hZ (hw _ (List.mem_of_getElem? (i := 179) rfl))) (mvT hZ (hw _ (List.mem_of_getElem? (i := 178) rfl))) (by decide) (backOf (W := 0) (rm_asbl1 l Z a0 hw [] a2 zc h0 OL p5_ st_COMPACT_STRINGS (by first | assumption | decide)) hZ (hw _ (List.mem_of_getElem? (i := 180) rfl)) (hw _ (List.mem_of_getElem? (i := 48) rfl)) (by decide) (by decide)) q223a q223c (g := (mkF m 16 #[.val (.ref a1), .val (.ref a2), .val .null, .val (.ref a4), .val (.int (Int32.ofNat cs.length))] [(.ref a2)])) rfl (by rw [hml]; rfl) (Steps.refl _) (argsL := []) (rest := []) (lenOf pd_198 rfl) rfl (by show 2 * 0 + _ ≤ _; exact Nat.le_of_eq rfl) (hb hby d_jdk_42_method_150_16) (fun _ _ => ⟨rfl, K222, (by decide : 0 + 0 ≤ _), (by decide : 0 + 0 ≤ _)⟩)
  dsimp only [Pt.U, Pt.locs, Pt.cells, Pt.slots] at X223 l223 y223 z223 st223 hQ223
  subst l223 y223 z223
  obtain ⟨rfl, N223q, K223⟩ := hQ223
  have N223 := Fr.app N222 N223q
  refine own_Go.tr st223 ?_
  show own_Go _ _ _ _ (T223.setTop (mkF m 19 #[.val (.ref a1), .val (.ref a2), .val .null, .val (.ref a4), .val (.int (Int32.ofNat cs.length))] [(.int (1 : Int32))]))
  refine own_Go.st (fun _ k => XS.ifNo X223.here hx rfl (hb hby d_jdk_42_method_150_19) rfl ((if0 _ _).trans (feq (by decide : ¬ ((1 : Int32) = (0 : Int32)))).1) k) ?_
  show own_Go _ _ _ _ (T223.setTop (mkF m 22 #[.val (.ref a1), .val (.ref a2), .val .null, .val (.ref a4), .val (.int (Int32.ofNat cs.length))] []))
  refine own_Go.st (fun _ k => XS.aloadN X223.here hx rfl (hb hby d_jdk_42_method_150_22) rfl rfl k) ?_
  show own_Go _ _ _ _ (T223.setTop (mkF m 23 #[.val (.ref a1), .val (.ref a2), .val .null, .val (.ref a4), .val (.int (Int32.ofNat cs.length))] [(.ref a1)]))
  refine own_Go.st (fun _ k => XS.iconst X223.here hx rfl (hb hby d_jdk_42_method_150_23) k) ?_
  show own_Go _ _ _ _ (T223.setTop (mkF m 24 #[.val (.ref a1), .val (.ref a2), .val .null, .val (.ref a4), .val (.int (Int32.ofNat cs.length))] [(.int (0 : Int32)), (.ref a1)]))
  obtain ⟨T224, h224, X224, e224, W224, st224⟩ := putF X223 hx hZ hown (host := "") (Or.inl (hw _ (List.mem_of_getElem? (i := 30) rfl))) Via.refl K223 p2_ p0_ (Or.inr ⟨(hw _ (List.mem_of_getElem? (i := 31) rfl)), rfl, hnm⟩) (hw _ (List.mem_of_getElem? (i := 5) rfl)) (ty := .byte) (by decide) rfl (by decide) (g := (mkF m 24 #[.val (.ref a1), .val (.ref a2), .val .null, .val (.ref a4), .val (.int (Int32.ofNat cs.length))] [(.int (0 : Int32)), (.ref a1)])) rfl rfl (hb hby d_jdk_42_method_150_24)
  refine own_Go.st st224 ?_
  have N224 := Fr.snoc X224 N223 (by omega)
  have z224 : h0.size ≤ h224.size := Nat.le_of_eq W224.size.symm
  have f225 : Fld Z h224 a1 "java/lang/String" "coder" "B" (.int (0 : Int32)) := p2_.same W224
  show own_Go _ _ _ _ (T224.setTop (mkF m 27 #[.val (.ref a1), .val (.ref a2), .val .null, .val (.ref a4), .val (.int (Int32.ofNat cs.length))] []))
  refine own_Go.st (fun _ k => XS.aloadN X224.here hx rfl (hb hby d_jdk_42_method_150_27) rfl rfl k) ?_
  show own_Go _ _ _ _ (T224.setTop (mkF m 28 #[.val (.ref a1), .val (.ref a2), .val .null, .val (.ref a4), .val (.int (Int32.ofNat cs.length))] [(.ref a1)]))
  refine own_Go.st (fun _ k => XS.aloadN X224.here hx rfl (hb hby d_jdk_42_method_150_28) rfl rfl k) ?_
  show own_Go _ _ _ _ (T224.setTop (mkF m 29 #[.val (.ref a1), .val (.ref a2), .val .null, .val (.ref a4), .val (.int (Int32.ofNat cs.length))] [(.ref a4), (.ref a1)]))
  refine own_Go.st (fun _ k => XS.iconst X224.here hx rfl (hb hby d_jdk_42_method_150_29) k) ?_
  show own_Go _ _ _ _ (T224.setTop (mkF m 30 #[.val (.ref a1), .val (.ref a2), .val .null, .val (.ref a4), .val (.int (Int32.ofNat cs.length))] [(.int (0 : Int32)), (.ref a4), (.ref a1)]))
  refine own_Go.st (fun _ k => XS.iload X224.here hx rfl (hb hby d_jdk_42_method_150_30) rfl k) ?_
  show own_Go _ _ _ _ (T224.setTop (mkF m 32 #[.val (.ref a1), .val (.ref a2), .val .null, .val (.ref a4), .val (.int (Int32.ofNat cs.length))] [(.int (Int32.ofNat cs.length)), (.int (0 : Int32)), (.ref a4), (.ref a1)]))
  have ne227 : @Ne Nat a1 a4 := Exa.neArv p0_ p7_ (hw _ (List.mem_of_getElem? (i := 5) rfl))
  have f228 : Arv Z h224 a4 k .byte (Int32.ofNat cap) (own_low cs) (.int (0 : Int32)) := p7_.other W224 (Ne.symm ne227)
  have f229 : Old Z Z.heap.size h224 := OL.wr W224 (by omega)
  obtain ⟨_, _, ⟨T226, L226, k226, n226⟩, -, X226, ⟨Lc226, hQ226, l226, y226, z226⟩, st226⟩ := Jvm.LawKit.callS X224 hx (y := (⟨"java/util/Arrays", "copyOfRange", "([BII)[B"⟩ : MethodName)) hown (mvT hZ (hw _ (List.mem_of_getElem? (i := 181) rfl))) (mvT hZ (hw _ (List.mem_of_getElem? (i := 91) rfl))) (mvT hZ (hw _ (List.mem_of_getElem? (i := 92) rfl))) (mvT hZ (hw _ (List.mem_of_getElem? (i := 93) rfl))) (by decide) (backOf (W := 1) (rm_cor l Z a0 hw [] a4 (0 : Int32) (Int32.ofNat cs.length) 0 cs.length cs cap k h224 f229 f228 rfl rfl (Nat.zero_le _) (Nat.le_refl _) (by omega) (by first | assumption | decide) (by omega) (fun q => by omega)) hZ (hw _ (List.mem_of_getElem? (i := 93) rfl)) (hw _ (List.mem_of_getElem? (i := 92) rfl)) (by decide) (by decide)) (g := (mkF m 32 #[.val (.ref a1), .val (.ref a2), .val .null, .val (.ref a4), .val (.int (Int32.ofNat cs.length))] [(.int (Int32.ofNat cs.length)), (.int (0 : Int32)), (.ref a4), (.ref a1)])) rfl (by rw [hml]; rfl) (argsL := [(.ref a4), (.int (0 : Int32)), (.int (Int32.ofNat cs.length))]) (rest := [(.ref a1)]) (lenOf pd_184 rfl) rfl (by show 2 * 0 + _ ≤ _; exact Nat.le_of_eq rfl) (hb hby d_jdk_42_method_150_32) (fun _ _ => ⟨rfl, e224, (by decide : 0 + 1 ≤ _), (by decide : 0 + 16 ≤ _)⟩)
  dsimp only [Pt.U, Pt.locs, Pt.cells, Pt.slots] at X226 l226 y226 z226 st226 hQ226
  subst l226 y226 z226
  obtain ⟨x_226, kx_226, rfl, N226q, K226, f226_0, pr226_0⟩ := hQ226
  have N226 := Fr.app N224 N226q
  have z226 : h224.size ≤ T226.heap.size := K226.1
  have lt226_0 : @LT.lt Nat _ x_226 T226.heap.size := f226_0.lt
  have f230 : Arv Z T226.heap x_226 kx_226 .byte (Int32.ofNat cs.length) (own_low cs) (.int (0 : Int32)) := by
    have q := f226_0
    rw [own_all, Nat.sub_zero] at q
    exact q
  refine own_Go.st st226 ?_
  show own_Go _ _ _ _ (T226.setTop (mkF m 35 #[.val (.ref a1), .val (.ref a2), .val .null, .val (.ref a4), .val (.int (Int32.ofNat cs.length))] [(.ref x_226), (.ref a1)]))
  have f231 : Fld Z h224 a1 "java/lang/String" "value" "[B" .null := p1_.other W224 (Or.inr (slot_ne (Or.inr (hw _ (List.mem_of_getElem? (i := 33) rfl))) (Or.inr (hw _ (List.mem_of_getElem? (i := 31) rfl))) (by decide) (t := (.array .byte)) (t' := .byte) (by decide) (by decide)))
  have f232 : Fld Z T226.heap a1 "java/lang/String" "value" "[B" .null := f231.keep K226 nin0
  have f233 : Exa Z h224 a1 "java/lang/String" := p0_.wr W224
  have f234 : Exa Z T226.heap a1 "java/lang/String" := f233.keep K226
  obtain ⟨T235, h235, X235, e235, W235, st235⟩ := putF X226 hx hZ hown (host := "") (Or.inl (hw _ (List.mem_of_getElem? (i := 32) rfl))) Via.refl rfl f232 f234 (Or.inr ⟨(hw _ (List.mem_of_getElem? (i := 33) rfl)), rfl, hnm⟩) (hw _ (List.mem_of_getElem? (i := 5) rfl)) (ty := (.array .byte)) (by decide) rfl rfl (g := (mkF m 35 #[.val (.ref a1), .val (.ref a2), .val .null, .val (.ref a4), .val (.int (Int32.ofNat cs.length))] [(.ref x_226), (.ref a1)])) rfl rfl (hb hby d_jdk_42_method_150_35)
  refine own_Go.st st235 ?_
  have N235 := Fr.snoc X235 N226 (by omega)
  have z235 : T226.heap.size ≤ h235.size := Nat.le_of_eq W235.size.symm
  have f236 : Fld Z h235 a1 "java/lang/String" "value" "[B" (.ref x_226) := f232.same W235
  show own_Go _ _ _ _ (T235.setTop (mkF m 38 #[.val (.ref a1), .val (.ref a2), .val .null, .val (.ref a4), .val (.int (Int32.ofNat cs.length))] []))
  refine own_Go.st (fun _ k => XS.goto X235.here hx rfl (pc0 := 38) (pc' := 97) rfl (hb hby d_jdk_42_method_150_38) (by decide) (by decide) k) ?_
  show own_Go _ _ _ _ (T235.setTop (mkF m 97 #[.val (.ref a1), .val (.ref a2), .val .null, .val (.ref a4), .val (.int (Int32.ofNat cs.length))] []))
  obtain ⟨fs237, hr237, hrun237, hend237, hW237, hsm237⟩ := X235.leave (v := none) (fun _ => rfl)
  have f238 : Exa Z h235 a1 "java/lang/String" := f234.wr W235
  have f239 : Fld Z T226.heap a1 "java/lang/String" "coder" "B" (.int (0 : Int32)) := f225.keep K226 nin0
  have f240 : Fld Z h235 a1 "java/lang/String" "coder" "B" (.int (0 : Int32)) := f239.other W235 (Or.inr (slot_ne (Or.inr (hw _ (List.mem_of_getElem? (i := 31) rfl))) (Or.inr (hw _ (List.mem_of_getElem? (i := 33) rfl))) (by decide) (t := .byte) (t' := (.array .byte)) (by decide) (by decide)))
  have ne241 : @Ne Nat a1 x_226 := Exa.neArv f234 f230 (hw _ (List.mem_of_getElem? (i := 5) rfl))
  have f242 : Arv Z h235 x_226 kx_226 .byte (Int32.ofNat cs.length) (own_low cs) (.int (0 : Int32)) := f230.other W235 (Ne.symm ne241)
  have K243 : Keep h0 h224 [a1] := (Keep.refl h0 [a1]).wr W224 (Or.inl (List.mem_of_getElem? (i := 0) rfl))
  have K244 : Keep h0 T226.heap [a1] := K243.trans K226 all0
  have K245 : Keep h0 h235 [a1] := K244.wr W235 (Or.inl (List.mem_of_getElem? (i := 0) rfl))
  subst hPP
  refine ⟨_, _, X235.returnOut hx Bd.returns (hb hby d_jdk_42_method_150_97) hr237, hrun237, hend237, _, _, rfl, ?_, ⟨_, rfl⟩, hW237, hsm237.mono (by decide) (by decide)⟩
  · show Q_sinit2 Z _ _ _ _ _ _ _ h0 _ T235.heap _
    rw [e235]
    exact ⟨x_226, rfl, N235, K245, (own_Str.mkL f238 f236 f240 f242 hlc (by omega)), (by omega)⟩
theorem d_jdk_42_method_53_0 : decode jdk_42_method_53_code 0 = .ok (.aload_n 0, 1) := by decide +kernel
theorem d_jdk_42_method_53_1 : decode jdk_42_method_53_code 1 = .ok (.aload_n 1, 1) := by decide +kernel
theorem d_jdk_42_method_53_2 : decode jdk_42_method_53_code 2 = .ok (.aconst_null, 1) := by decide +kernel
theorem pd_215 : parseMethodDescriptor "(Ljava/lang/AbstractStringBuilder;Ljava/lang/Void;)V" = some ⟨[(.object "java/lang/AbstractStringBuilder"), (.object "java/lang/Void")], none⟩ := by decide +kernel
theorem d_jdk_42_method_53_3 : decode jdk_42_method_53_code 3 = .ok (.invokespecial 489, 3) := by decide +kernel
theorem d_jdk_42_method_53_6 : decode jdk_42_method_53_code 6 = .ok (.return_, 1) := by decide +kernel
def Q_sinit1 (Z : State) (a1 : Nat) (a2 : Nat) (cs : List Int32) (cap : Nat) (a4 : Nat) (k : ClassId) (zc : Int32) (h0 : Heap) (v : Option Value) (h : Heap) (L : List Loc) : Prop := ∃ (t : Nat), v = none ∧ Fr Z.heap.size L ∧ Keep h0 h [a1] ∧ own_Str Z h a1 t cs ∧ (h0.size ≤ t)
set_option maxRecDepth 65536 in
set_option maxHeartbeats 40000000 in
theorem rm_sinit1 (l : Launch) (Z : State) (a0 : Array Value) (hw : ∀ d ∈ tables_1, d.before a0 Z = true) (ws : List Jvm.Cond) (a1 : Nat) (a2 : Nat) (cs : List Int32) (cap : Nat) (a4 : Nat) (k : ClassId) (zc : Int32) (h0 : Heap) (OL : Old Z Z.heap.size h0) (p0_ : Exa Z h0 a1 "java/lang/String") (p1_ : Fld Z h0 a1 "java/lang/String" "value" "[B" .null) (p2_ : Fld Z h0 a1 "java/lang/String" "coder" "B" (.int (0 : Int32))) (p3_ : Exa Z h0 a2 "java/lang/StringBuilder") (p4_ : Fld Z h0 a2 "java/lang/AbstractStringBuilder" "value" "[B" (.ref a4)) (p5_ : Fld Z h0 a2 "java/lang/AbstractStringBuilder" "coder" "B" (.int (0 : Int32))) (p6_ : Fld Z h0 a2 "java/lang/AbstractStringBuilder" "count" "I" (.int (Int32.ofNat cs.length))) (p7_ : Arv Z h0 a4 k .byte (Int32.ofNat cap) (own_low cs) (.int (0 : Int32))) (st_COMPACT_STRINGS : Sta Z Z.heap "java/lang/String" "COMPACT_STRINGS" "Z" (.int zc)) (hzc : ¬ zc = 0) (hcs : cs.length < cap) (hcap : cap ≤ 100) (hmx : cs.length ≤ 16) (hlc : ∀ c ∈ cs, ¬ c < 0 ∧ ¬ (255 : Int32) < c) (hn0 : Z.heap.size ≤ a1) :
    MetFree l (⟨"java/lang/String", "<init>", "(Ljava/lang/StringBuilder;)V"⟩ : MethodName) (head1 (Jvm.Cond.code (⟨"java/lang/String", "<init>", "(Ljava/lang/StringBuilder;)V"⟩ : MethodName) jdk_42_method_53_code 2 none :: ws) ({ frames := 4, cells := 1, slots := 16, locals := 90 } : Room)) (fun a U => a = #[(.ref a1), (.ref a2)] ∧ Z.Warmed39 U.vm ∧ U.heap = h0) (fun _ _ _ _ _ => True) (fun _ U o U' => ∃ v L, o = .returned v ∧ Q_sinit1 Z a1 a2 cs cap a4 k zc h0 v U'.heap L ∧ FrameEnd U o U' L ({ frames := 4, cells := 1, slots := 16, locals := 90 } : Room).cells ({ frames := 4, cells := 1, slots := 16, locals := 90 } : Room).slots) := by
  refine MetFree.of_bodySF (plainFor_of_name pn_22) hisR ?_
  intro p e s m args below meth c s₁ Bd hml0 hP hK
  obtain ⟨rfl, hZ, hh⟩ := hP
  have hx := Bd.exec
  have hby := Bd.bytes
  have hml : c.maxLocals = 2 := hml0
  have hown : s.vm.findClass "java/lang/String" = some m.cls := findClass_of_methodNamed Bd.named
  have hnm := (name_of_methodNamed Bd.named Bd.method).1
  have X0 : Stand p l e ({ frames := 4, cells := 1, slots := 16, locals := 90 } : Room) s m #[(.ref a1), (.ref a2)] below meth c s₁ [] 0 0 := Stand.of_body Bd
  have e0 : s₁.heap = h0 := by rw [← hh, Bd.state]; rfl
  have N0 := Fr.nil Z.heap.size
  have Z0 : Z.heap.size ≤ h0.size := OL.2.1
  have lt_0 : @LT.lt Nat _ a1 h0.size := p0_.lt
  have lt_1 : @LT.lt Nat _ a1 h0.size := p1_.lt
  have lt_2 : @LT.lt Nat _ a1 h0.size := p2_.lt
  have lt_3 : @LT.lt Nat _ a2 h0.size := p3_.lt
  have lt_4 : @LT.lt Nat _ a2 h0.size := p4_.lt
  have lt_5 : @LT.lt Nat _ a2 h0.size := p5_.lt
  have lt_6 : @LT.lt Nat _ a2 h0.size := p6_.lt
  have lt_7 : @LT.lt Nat _ a4 h0.size := p7_.lt
  obtain ⟨PP, hPP⟩ : ∃ PP : Outcome → State → Prop, PP = (fun o tE => ∃ v L, o = .returned v ∧ Q_sinit1 Z a1 a2 cs cap a4 k zc h0 v tE.heap L ∧ FrameEnd s o tE L ({ frames := 4, cells := 1, slots := 16, locals := 90 } : Room).cells ({ frames := 4, cells := 1, slots := 16, locals := 90 } : Room).slots) := ⟨_, rfl⟩
  show own_Go p.tables e below (fun o tE => ∃ v L, o = .returned v ∧ Q_sinit1 Z a1 a2 cs cap a4 k zc h0 v tE.heap L ∧ FrameEnd s o tE L ({ frames := 4, cells := 1, slots := 16, locals := 90 } : Room).cells ({ frames := 4, cells := 1, slots := 16, locals := 90 } : Room).slots) (s₁.setTop (entryFrame m #[(.ref a1), (.ref a2)] 2))
  rw [← hPP]
  refine own_Go.st (fun t k => castTop (ef_29 m a1 a2) k) ?_
  show own_Go _ _ _ _ (s₁.setTop (mkF m 0 #[.val (.ref a1), .val (.ref a2)] []))
  refine own_Go.st (fun _ k => XS.aloadN X0.here hx rfl (hb hby d_jdk_42_method_53_0) rfl rfl k) ?_
  show own_Go _ _ _ _ (s₁.setTop (mkF m 1 #[.val (.ref a1), .val (.ref a2)] [(.ref a1)]))
  refine own_Go.st (fun _ k => XS.aloadN X0.here hx rfl (hb hby d_jdk_42_method_53_1) rfl rfl k) ?_
  show own_Go _ _ _ _ (s₁.setTop (mkF m 2 #[.val (.ref a1), .val (.ref a2)] [(.ref a2), (.ref a1)]))
  refine own_Go.st (fun _ k => XS.aconstNull X0.here hx rfl (hb hby d_jdk_42_method_53_2) k) ?_
  show own_Go _ _ _ _ (s₁.setTop (mkF m 3 #[.val (.ref a1), .val (.ref a2)] [.null, (.ref a2), (.ref a1)]))
  obtain ⟨_, _, ⟨T246, L246, k246, n246⟩, -, X246, ⟨Lc246, hQ246, l246, y246, z246⟩, st246⟩ := X0.specialBack hx (y := (⟨"java/lang/String", "<init>", "(Ljava/lang/AbstractStringBuilder;Ljava/lang/Void;)V"⟩ : MethodName)) rfl hown (mvT hZ (hw _ (List.mem_of_getElem? (i := 160) rfl))) (mvT hZ (hw _ (List.mem_of_getElem? (i := 161) rfl))) (mvT hZ (hw _ (List.mem_of_getElem? (i := 162) rfl))) (by decide) (backOf (W := 0) (rm_sinit2 l Z a0 hw [] a1 a2 cs cap a4 k zc h0 OL p0_ p1_ p2_ p3_ p4_ p5_ p6_ p7_ st_COMPACT_STRINGS (by first | assumption | decide) (by first | assumption | decide) (by first | assumption | decide) (by first | assumption | decide) (by first | assumption | decide) (by first | assumption | decide)) hZ (hw _ (List.mem_of_getElem? (i := 162) rfl)) (hw _ (List.mem_of_getElem? (i := 6) rfl)) (by decide) (by decide)) (g := (mkF m 3 #[.val (.ref a1), .val (.ref a2)] [.null, (.ref a2), (.ref a1)])) rfl (by rw [hml]; rfl) (Steps.refl _) (a := a1) (argsL := [(.ref a2), .null]) (rest := []) (lenOf pd_215 rfl) rfl (by show 2 * 0 + _ ≤ _; exact Nat.le_of_eq rfl) (hb hby d_jdk_42_method_53_3) (fun _ _ => ⟨rfl, e0, (by decide : 0 + 1 ≤ _), (by decide : 0 + 16 ≤ _)⟩)
  dsimp only [Pt.U, Pt.locs, Pt.cells, Pt.slots] at X246 l246 y246 z246 st246 hQ246
  subst l246 y246 z246
  obtain ⟨t_246, rfl, N246q, K246, f246_0, pr246_0⟩ := hQ246
  have N246 := Fr.app N0 N246q
  have z246 : h0.size ≤ T246.heap.size := K246.1
  have lt246_0 : @LT.lt Nat _ a1 T246.heap.size := f246_0.lt
  have ltv246_0 : @LT.lt Nat _ t_246 T246.heap.size := f246_0.ltv
  refine own_Go.tr st246 ?_
  show own_Go _ _ _ _ (T246.setTop (mkF m 6 #[.val (.ref a1), .val (.ref a2)] []))
  obtain ⟨fs247, hr247, hrun247, hend247, hW247, hsm247⟩ := X246.leave (v := none) (fun _ => rfl)
  have K248 : Keep h0 T246.heap [a1] := (Keep.refl h0 [a1]).trans K246 (allS (Or.inl (List.mem_of_getElem? (i := 0) rfl)) all0)
  subst hPP
  refine ⟨_, _, X246.returnOut hx Bd.returns (hb hby d_jdk_42_method_53_6) hr247, hrun247, hend247, _, _, rfl, ?_, ⟨_, rfl⟩, hW247, hsm247.mono (by decide) (by decide)⟩
  · show Q_sinit1 Z _ _ _ _ _ _ _ h0 _ T246.heap _
    exact ⟨t_246, rfl, N246, K248, f246_0, (by omega)⟩
theorem d_jdk_67_method_42_0 : decode jdk_67_method_42_code 0 = .ok (.new 18, 3) := by decide +kernel
theorem d_jdk_67_method_42_3 : decode jdk_67_method_42_code 3 = .ok (.dup, 1) := by decide +kernel
theorem d_jdk_67_method_42_4 : decode jdk_67_method_42_code 4 = .ok (.aload_n 0, 1) := by decide +kernel
theorem pd_221 : parseMethodDescriptor "(Ljava/lang/StringBuilder;)V" = some ⟨[(.object "java/lang/StringBuilder")], none⟩ := by decide +kernel
theorem d_jdk_67_method_42_5 : decode jdk_67_method_42_code 5 = .ok (.invokespecial 137, 3) := by decide +kernel
theorem d_jdk_67_method_42_8 : decode jdk_67_method_42_code 8 = .ok (.areturn, 1) := by decide +kernel
def Q_tostr (Z : State) (a1 : Nat) (cs : List Int32) (cap : Nat) (a4 : Nat) (k : ClassId) (zc : Int32) (h0 : Heap) (v : Option Value) (h : Heap) (L : List Loc) : Prop := ∃ (x : Nat), ∃ (t : Nat), v = some (.ref x) ∧ Fr Z.heap.size L ∧ Keep h0 h [] ∧ own_Str Z h x t cs ∧ (h0.size ≤ x) ∧ (h0.size ≤ t)
set_option maxRecDepth 65536 in
set_option maxHeartbeats 40000000 in
theorem rm_tostr (l : Launch) (Z : State) (a0 : Array Value) (hw : ∀ d ∈ tables_1, d.before a0 Z = true) (ws : List Jvm.Cond) (a1 : Nat) (cs : List Int32) (cap : Nat) (a4 : Nat) (k : ClassId) (zc : Int32) (h0 : Heap) (OL : Old Z Z.heap.size h0) (p0_ : Exa Z h0 a1 "java/lang/StringBuilder") (p1_ : Fld Z h0 a1 "java/lang/AbstractStringBuilder" "value" "[B" (.ref a4)) (p2_ : Fld Z h0 a1 "java/lang/AbstractStringBuilder" "coder" "B" (.int (0 : Int32))) (p3_ : Fld Z h0 a1 "java/lang/AbstractStringBuilder" "count" "I" (.int (Int32.ofNat cs.length))) (p4_ : Arv Z h0 a4 k .byte (Int32.ofNat cap) (own_low cs) (.int (0 : Int32))) (st_COMPACT_STRINGS : Sta Z Z.heap "java/lang/String" "COMPACT_STRINGS" "Z" (.int zc)) (hzc : ¬ zc = 0) (hcs : cs.length < cap) (hcap : cap ≤ 100) (hmx : cs.length ≤ 16) (hlc : ∀ c ∈ cs, ¬ c < 0 ∧ ¬ (255 : Int32) < c) :
    MetFree l (⟨"java/lang/StringBuilder", "toString", "()Ljava/lang/String;"⟩ : MethodName) (head1 (Jvm.Cond.code (⟨"java/lang/StringBuilder", "toString", "()Ljava/lang/String;"⟩ : MethodName) jdk_67_method_42_code 1 (some (.object "java/lang/String")) :: ws) ({ frames := 5, cells := 2, slots := 20, locals := 105 } : Room)) (fun a U => a = #[(.ref a1)] ∧ Z.Warmed39 U.vm ∧ U.heap = h0) (fun _ _ _ _ _ => True) (fun _ U o U' => ∃ v L, o = .returned v ∧ Q_tostr Z a1 cs cap a4 k zc h0 v U'.heap L ∧ FrameEnd U o U' L ({ frames := 5, cells := 2, slots := 20, locals := 105 } : Room).cells ({ frames := 5, cells := 2, slots := 20, locals := 105 } : Room).slots) := by
  refine MetFree.of_bodySF (plainFor_of_name pn_15) hisR ?_
  intro p e s m args below meth c s₁ Bd hml0 hP hK
  obtain ⟨rfl, hZ, hh⟩ := hP
  have hx := Bd.exec
  have hby := Bd.bytes
  have hml : c.maxLocals = 1 := hml0
  have hown : s.vm.findClass "java/lang/StringBuilder" = some m.cls := findClass_of_methodNamed Bd.named
  have hnm := (name_of_methodNamed Bd.named Bd.method).1
  have X0 : Stand p l e ({ frames := 5, cells := 2, slots := 20, locals := 105 } : Room) s m #[(.ref a1)] below meth c s₁ [] 0 0 := Stand.of_body Bd
  have e0 : s₁.heap = h0 := by rw [← hh, Bd.state]; rfl
  have N0 := Fr.nil Z.heap.size
  have Z0 : Z.heap.size ≤ h0.size := OL.2.1
  have lt_0 : @LT.lt Nat _ a1 h0.size := p0_.lt
  have lt_1 : @LT.lt Nat _ a1 h0.size := p1_.lt
  have lt_2 : @LT.lt Nat _ a1 h0.size := p2_.lt
  have lt_3 : @LT.lt Nat _ a1 h0.size := p3_.lt
  have lt_4 : @LT.lt Nat _ a4 h0.size := p4_.lt
  obtain ⟨PP, hPP⟩ : ∃ PP : Outcome → State → Prop, PP = (fun o tE => ∃ v L, o = .returned v ∧ Q_tostr Z a1 cs cap a4 k zc h0 v tE.heap L ∧ FrameEnd s o tE L ({ frames := 5, cells := 2, slots := 20, locals := 105 } : Room).cells ({ frames := 5, cells := 2, slots := 20, locals := 105 } : Room).slots) := ⟨_, rfl⟩
  show own_Go p.tables e below (fun o tE => ∃ v L, o = .returned v ∧ Q_tostr Z a1 cs cap a4 k zc h0 v tE.heap L ∧ FrameEnd s o tE L ({ frames := 5, cells := 2, slots := 20, locals := 105 } : Room).cells ({ frames := 5, cells := 2, slots := 20, locals := 105 } : Room).slots) (s₁.setTop (entryFrame m #[(.ref a1)] 1))
  rw [← hPP]
  refine own_Go.st (fun t k => castTop (ef_16 m a1) k) ?_
  show own_Go _ _ _ _ (s₁.setTop (mkF m 0 #[.val (.ref a1)] []))
  obtain ⟨T249, h249, X249, e249, E249, A249, D249, U249, st249⟩ := newO X0 hx hZ hown (hw _ (List.mem_of_getElem? (i := 156) rfl)) (hw _ (List.mem_of_getElem? (i := 5) rfl)) (hw _ (List.mem_of_getElem? (i := 6) rfl)) e0 (g := (mkF m 0 #[.val (.ref a1)] [])) rfl (hb hby d_jdk_67_method_42_0) (by decide) (by decide)
  obtain ⟨b249, g249⟩ : ∃ z, z = h0.size := ⟨_, rfl⟩
  rw [← g249] at A249 D249 U249 st249
  refine own_Go.st st249 ?_
  have z249 : h0.size ≤ h249.size := E249.1
  have lt_b249 : @LT.lt Nat _ b249 h249.size := A249.lt
  have f250 : Fld Z h249 b249 "java/lang/String" "coder" "B" (.int (0 : Int32)) := D249 (Or.inr (hw _ (List.mem_of_getElem? (i := 31) rfl))) (ty := .byte) (by decide)
  have f251 : Fld Z h249 b249 "java/lang/String" "value" "[B" .null := D249 (Or.inr (hw _ (List.mem_of_getElem? (i := 33) rfl))) (ty := (.array .byte)) (by decide)
  show own_Go _ _ _ _ (T249.setTop (mkF m 3 #[.val (.ref a1)] [(.ref b249)]))
  refine own_Go.st (fun _ k => XS.dup X249.here hx rfl (hb hby d_jdk_67_method_42_3) rfl rfl k) ?_
  show own_Go _ _ _ _ (T249.setTop (mkF m 4 #[.val (.ref a1)] [(.ref b249), (.ref b249)]))
  refine own_Go.st (fun _ k => XS.aloadN X249.here hx rfl (hb hby d_jdk_67_method_42_4) rfl rfl k) ?_
  show own_Go _ _ _ _ (T249.setTop (mkF m 5 #[.val (.ref a1)] [(.ref a1), (.ref b249), (.ref b249)]))
  have f253 : Exa Z h249 a1 "java/lang/StringBuilder" := p0_.ext E249
  have f254 : Fld Z h249 a1 "java/lang/AbstractStringBuilder" "value" "[B" (.ref a4) := p1_.ext E249
  have f255 : Fld Z h249 a1 "java/lang/AbstractStringBuilder" "coder" "B" (.int (0 : Int32)) := p2_.ext E249
  have f256 : Fld Z h249 a1 "java/lang/AbstractStringBuilder" "count" "I" (.int (Int32.ofNat cs.length)) := p3_.ext E249
  have f257 : Arv Z h249 a4 k .byte (Int32.ofNat cap) (own_low cs) (.int (0 : Int32)) := p4_.ext E249
  have f258 : Old Z Z.heap.size h249 := OL.ext E249
  obtain ⟨_, _, ⟨T252, L252, k252, n252⟩, -, X252, ⟨Lc252, hQ252, l252, y252, z252⟩, st252⟩ := X249.specialBack hx (y := (⟨"java/lang/String", "<init>", "(Ljava/lang/StringBuilder;)V"⟩ : MethodName)) rfl hown (mvT hZ (hw _ (List.mem_of_getElem? (i := 157) rfl))) (mvT hZ (hw _ (List.mem_of_getElem? (i := 158) rfl))) (mvT hZ (hw _ (List.mem_of_getElem? (i := 159) rfl))) (by decide) (backOf (W := 1) (rm_sinit1 l Z a0 hw [] b249 a1 cs cap a4 k zc h249 f258 A249 f251 f250 f253 f254 f255 f256 f257 st_COMPACT_STRINGS (by first | assumption | decide) (by first | assumption | decide) (by first | assumption | decide) (by first | assumption | decide) (by first | assumption | decide) (by omega)) hZ (hw _ (List.mem_of_getElem? (i := 159) rfl)) (hw _ (List.mem_of_getElem? (i := 6) rfl)) (by decide) (by decide)) (g := (mkF m 5 #[.val (.ref a1)] [(.ref a1), (.ref b249), (.ref b249)])) rfl (by rw [hml]; rfl) (Steps.refl _) (a := b249) (argsL := [(.ref a1)]) (rest := [(.ref b249)]) (lenOf pd_221 rfl) rfl (by show 2 * 0 + _ ≤ _; exact Nat.le_of_eq rfl) (hb hby d_jdk_67_method_42_5) (fun _ _ => ⟨rfl, e249, (by decide : 1 + 1 ≤ _), (by decide : 4 + 16 ≤ _)⟩)
  dsimp only [Pt.U, Pt.locs, Pt.cells, Pt.slots] at X252 l252 y252 z252 st252 hQ252
  subst l252 y252 z252
  obtain ⟨t_252, rfl, N252q, K252, f252_0, pr252_0⟩ := hQ252
  have N252 := Fr.app N0 N252q
  have z252 : h249.size ≤ T252.heap.size := K252.1
  have lt252_0 : @LT.lt Nat _ b249 T252.heap.size := f252_0.lt
  have ltv252_0 : @LT.lt Nat _ t_252 T252.heap.size := f252_0.ltv
  refine own_Go.tr st252 ?_
  show own_Go _ _ _ _ (T252.setTop (mkF m 8 #[.val (.ref a1)] [(.ref b249)]))
  obtain ⟨fs259, hr259, hrun259, hend259, hW259, hsm259⟩ := X252.leave (v := some (.ref b249)) (fun h => by rw [Bd.returns] at h; cases h)
  have K260 : Keep h0 h249 [] := (Keep.refl h0 []).ext E249
  have K261 : Keep h0 T252.heap [] := K260.trans K252 (allS (Or.inr (by omega)) all0)
  subst hPP
  refine ⟨_, _, own_retA X252 hx Bd.returns rfl rfl (hb hby d_jdk_67_method_42_8) hr259, hrun259, hend259, _, _, rfl, ?_, ⟨_, rfl⟩, hW259, hsm259.mono (by decide) (by decide)⟩
  · show Q_tostr Z _ _ _ _ _ _ h0 _ T252.heap _
    exact ⟨b249, t_252, rfl, N252, K261, f252_0, (by omega), (by omega)⟩
theorem d_jdk_42_method_154_0 : decode jdk_42_method_154_code 0 = .ok (.getstatic 38, 3) := by decide +kernel
theorem d_jdk_42_method_154_3 : decode jdk_42_method_154_code 3 = .ok (.ifCond .eq 14, 3) := by decide +kernel
theorem d_jdk_42_method_154_6 : decode jdk_42_method_154_code 6 = .ok (.aload_n 0, 1) := by decide +kernel
theorem d_jdk_42_method_154_7 : decode jdk_42_method_154_code 7 = .ok (.getfield 15, 3) := by decide +kernel
theorem d_jdk_42_method_154_10 : decode jdk_42_method_154_code 10 = .ok (.ifCond .ne 7, 3) := by decide +kernel
theorem d_jdk_42_method_154_13 : decode jdk_42_method_154_code 13 = .ok (.iconst 1, 1) := by decide +kernel
theorem d_jdk_42_method_154_14 : decode jdk_42_method_154_code 14 = .ok (.goto 4, 3) := by decide +kernel
theorem d_jdk_42_method_154_18 : decode jdk_42_method_154_code 18 = .ok (.ireturn, 1) := by decide +kernel
theorem d_jdk_42_method_154_17 : decode jdk_42_method_154_code 17 = .ok (.iconst 0, 1) := by decide +kernel
def Q_isl1 (Z : State) (a1 : Nat) (cd : Int32) (zc : Int32) (h0 : Heap) (v : Option Value) (h : Heap) (L : List Loc) : Prop := v = some (.int (if cd = 0 then (1 : Int32) else 0)) ∧ Fr Z.heap.size L ∧ h = h0
set_option maxRecDepth 65536 in
set_option maxHeartbeats 40000000 in
theorem rm_isl1 (l : Launch) (Z : State) (a0 : Array Value) (hw : ∀ d ∈ tables_1, d.before a0 Z = true) (ws : List Jvm.Cond) (a1 : Nat) (cd : Int32) (zc : Int32) (h0 : Heap) (OL : Old Z Z.heap.size h0) (p0_ : Fld Z h0 a1 "java/lang/String" "coder" "B" (.int cd)) (st_COMPACT_STRINGS : Sta Z Z.heap "java/lang/String" "COMPACT_STRINGS" "Z" (.int zc)) (hzc : ¬ zc = 0) :
    MetFree l (⟨"java/lang/String", "isLatin1", "()Z"⟩ : MethodName) (head1 (Jvm.Cond.code (⟨"java/lang/String", "isLatin1", "()Z"⟩ : MethodName) jdk_42_method_154_code 1 (some .boolean) :: ws) ({ frames := 0, cells := 0, slots := 0, locals := 0 } : Room)) (fun a U => a = #[(.ref a1)] ∧ Z.Warmed39 U.vm ∧ U.heap = h0) (fun _ _ _ _ _ => True) (fun _ U o U' => ∃ v L, o = .returned v ∧ Q_isl1 Z a1 cd zc h0 v U'.heap L ∧ FrameEnd U o U' L ({ frames := 0, cells := 0, slots := 0, locals := 0 } : Room).cells ({ frames := 0, cells := 0, slots := 0, locals := 0 } : Room).slots) := by
  refine MetFree.of_bodySF (plainFor_of_name pn_22) hisR ?_
  intro p e s m args below meth c s₁ Bd hml0 hP hK
  obtain ⟨rfl, hZ, hh⟩ := hP
  have hx := Bd.exec
  have hby := Bd.bytes
  have hml : c.maxLocals = 1 := hml0
  have hown : s.vm.findClass "java/lang/String" = some m.cls := findClass_of_methodNamed Bd.named
  have hnm := (name_of_methodNamed Bd.named Bd.method).1
  have X0 : Stand p l e ({ frames := 0, cells := 0, slots := 0, locals := 0 } : Room) s m #[(.ref a1)] below meth c s₁ [] 0 0 := Stand.of_body Bd
  have e0 : s₁.heap = h0 := by rw [← hh, Bd.state]; rfl
  have N0 := Fr.nil Z.heap.size
  have Z0 : Z.heap.size ≤ h0.size := OL.2.1
  have lt_0 : @LT.lt Nat _ a1 h0.size := p0_.lt
  obtain ⟨PP, hPP⟩ : ∃ PP : Outcome → State → Prop, PP = (fun o tE => ∃ v L, o = .returned v ∧ Q_isl1 Z a1 cd zc h0 v tE.heap L ∧ FrameEnd s o tE L ({ frames := 0, cells := 0, slots := 0, locals := 0 } : Room).cells ({ frames := 0, cells := 0, slots := 0, locals := 0 } : Room).slots) := ⟨_, rfl⟩
  show own_Go p.tables e below (fun o tE => ∃ v L, o = .returned v ∧ Q_isl1 Z a1 cd zc h0 v tE.heap L ∧ FrameEnd s o tE L ({ frames := 0, cells := 0, slots := 0, locals := 0 } : Room).cells ({ frames := 0, cells := 0, slots := 0, locals := 0 } : Room).slots) (s₁.setTop (entryFrame m #[(.ref a1)] 1))
  rw [← hPP]
  refine own_Go.st (fun t k => castTop (ef_16 m a1) k) ?_
  show own_Go _ _ _ _ (s₁.setTop (mkF m 0 #[.val (.ref a1)] []))
  obtain ⟨T262, X262, e262, st262⟩ := getS2 X0 hx hZ hown (host := "") (Or.inl (hw _ (List.mem_of_getElem? (i := 18) rfl))) Via.refl e0 (st_COMPACT_STRINGS.ext OL.2) (g := (mkF m 0 #[.val (.ref a1)] [])) rfl (hb hby d_jdk_42_method_154_0)
  refine own_Go.st st262 ?_
  show own_Go _ _ _ _ (T262.setTop (mkF m 3 #[.val (.ref a1)] [(.int zc)]))
  have hc263 : ¬ (zc = (0 : Int32)) := hzc
  refine own_Go.st (fun _ k => XS.ifNo X262.here hx rfl (hb hby d_jdk_42_method_154_3) rfl ((if0 _ _).trans (feq hc263).1) k) ?_
  show own_Go _ _ _ _ (T262.setTop (mkF m 6 #[.val (.ref a1)] []))
  refine own_Go.st (fun _ k => XS.aloadN X262.here hx rfl (hb hby d_jdk_42_method_154_6) rfl rfl k) ?_
  show own_Go _ _ _ _ (T262.setTop (mkF m 7 #[.val (.ref a1)] [(.ref a1)]))
  obtain ⟨T264, X264, e264, st264⟩ := getF X262 hx hZ hown (host := "") (Or.inl (hw _ (List.mem_of_getElem? (i := 30) rfl))) Via.refl e262 p0_ (g := (mkF m 7 #[.val (.ref a1)] [(.ref a1)])) rfl rfl (hb hby d_jdk_42_method_154_7)
  refine own_Go.st st264 ?_
  show own_Go _ _ _ _ (T264.setTop (mkF m 10 #[.val (.ref a1)] [(.int cd)]))
  by_cases hc265 : cd = (0 : Int32)
  ·
    refine own_Go.st (fun _ k => XS.ifNo X264.here hx rfl (hb hby d_jdk_42_method_154_10) rfl ((if0 _ _).trans (teq hc265).2) k) ?_
    show own_Go _ _ _ _ (T264.setTop (mkF m 13 #[.val (.ref a1)] []))
    refine own_Go.st (fun _ k => XS.iconst X264.here hx rfl (hb hby d_jdk_42_method_154_13) k) ?_
    show own_Go _ _ _ _ (T264.setTop (mkF m 14 #[.val (.ref a1)] [(.int (1 : Int32))]))
    refine own_Go.st (fun _ k => XS.goto X264.here hx rfl (pc0 := 14) (pc' := 18) rfl (hb hby d_jdk_42_method_154_14) (by decide) (by decide) k) ?_
    show own_Go _ _ _ _ (T264.setTop (mkF m 18 #[.val (.ref a1)] [(.int (1 : Int32))]))
    obtain ⟨fs266, hr266, hrun266, hend266, hW266, hsm266⟩ := X264.leave (v := some (.int (nar .boolean (1 : Int32)))) (fun h => by rw [Bd.returns] at h; cases h)
    subst hPP
    refine ⟨_, _, retN X264 hx (t := .boolean) Bd.returns (by simp) (hb hby d_jdk_42_method_154_18) hr266, hrun266, hend266, _, _, rfl, ?_, ⟨_, rfl⟩, hW266, hsm266.mono (by decide) (by decide)⟩
    · show Q_isl1 Z _ _ _ h0 _ T264.heap _
      rw [e264]
      exact ⟨(by rw [if_pos hc265]; rfl), N0, rfl⟩
  ·
    refine own_Go.st (fun _ k => XS.ifYes X264.here hx rfl (pc0 := 10) (pc' := 17) rfl (hb hby d_jdk_42_method_154_10) rfl ((if0 _ _).trans (feq hc265).2) (by decide) (by decide) k) ?_
    show own_Go _ _ _ _ (T264.setTop (mkF m 17 #[.val (.ref a1)] []))
    refine own_Go.st (fun _ k => XS.iconst X264.here hx rfl (hb hby d_jdk_42_method_154_17) k) ?_
    show own_Go _ _ _ _ (T264.setTop (mkF m 18 #[.val (.ref a1)] [(.int (0 : Int32))]))
    obtain ⟨fs267, hr267, hrun267, hend267, hW267, hsm267⟩ := X264.leave (v := some (.int (nar .boolean (0 : Int32)))) (fun h => by rw [Bd.returns] at h; cases h)
    subst hPP
    refine ⟨_, _, retN X264 hx (t := .boolean) Bd.returns (by simp) (hb hby d_jdk_42_method_154_18) hr267, hrun267, hend267, _, _, rfl, ?_, ⟨_, rfl⟩, hW267, hsm267.mono (by decide) (by decide)⟩
    · show Q_isl1 Z _ _ _ h0 _ T264.heap _
      rw [e264]
      exact ⟨(by rw [if_neg hc265]; rfl), N0, rfl⟩
theorem pn_233 : plainName "jdk/internal/util/Preconditions" = true := by first | (simp [plainName, overriddenIn]; done) | decide +kernel
theorem ef_234 (m : MethodId) (x0 : Int32) (x1 : Int32) (x2 : Int32) (x3 : Value) (hx3 : x3.isRef = true) : entryFrame m #[(.int x0), (.int x1), (.int x2), x3] 4 = mkF m 0 #[.val (.int x0), .val (.int x1), .val (.int x2), .val x3] [] := by rcases ref_cases hx3 with rfl | ⟨_, rfl⟩ <;> first | (simp [entryFrame, mkF, argsToLocals, Value.category]; done) | rfl
theorem d_jdk_41_method_12_0 : decode jdk_41_method_12_code 0 = .ok (.iload_n 0, 1) := by decide +kernel
theorem d_jdk_41_method_12_1 : decode jdk_41_method_12_code 1 = .ok (.ifCond .lt 13, 3) := by decide +kernel
theorem d_jdk_41_method_12_4 : decode jdk_41_method_12_code 4 = .ok (.iload_n 0, 1) := by decide +kernel
theorem d_jdk_41_method_12_5 : decode jdk_41_method_12_code 5 = .ok (.iload_n 1, 1) := by decide +kernel
theorem d_jdk_41_method_12_6 : decode jdk_41_method_12_code 6 = .ok (.if_icmp .gt 8, 3) := by decide +kernel
theorem d_jdk_41_method_12_9 : decode jdk_41_method_12_code 9 = .ok (.iload_n 1, 1) := by decide +kernel
theorem d_jdk_41_method_12_10 : decode jdk_41_method_12_code 10 = .ok (.iload_n 2, 1) := by decide +kernel
theorem d_jdk_41_method_12_11 : decode jdk_41_method_12_code 11 = .ok (.if_icmp .le 11, 3) := by decide +kernel
theorem d_jdk_41_method_12_22 : decode jdk_41_method_12_code 22 = .ok (.iload_n 0, 1) := by decide +kernel
theorem d_jdk_41_method_12_23 : decode jdk_41_method_12_code 23 = .ok (.ireturn, 1) := by decide +kernel
def Q_pcft (Z : State) (p1 : Int32) (p2 : Int32) (p3 : Int32) (fm : Value) (h0 : Heap) (v : Option Value) (h : Heap) (L : List Loc) : Prop := v = some (.int p1) ∧ Fr Z.heap.size L ∧ h = h0
set_option maxRecDepth 65536 in
set_option maxHeartbeats 40000000 in
theorem rm_pcft (l : Launch) (Z : State) (a0 : Array Value) (hw : ∀ d ∈ tables_1, d.before a0 Z = true) (ws : List Jvm.Cond) (p1 : Int32) (p2 : Int32) (p3 : Int32) (fm : Value) (h0 : Heap) (OL : Old Z Z.heap.size h0) (h1 : ¬ p1 < 0) (h2 : ¬ p2 < p1) (h3 : ¬ p3 < p2) (hfm : fm.isRef = true) :
    MetFree l (⟨"jdk/internal/util/Preconditions", "checkFromToIndex", "(IIILjava/util/function/BiFunction;)I"⟩ : MethodName) (head1 (Jvm.Cond.code (⟨"jdk/internal/util/Preconditions", "checkFromToIndex", "(IIILjava/util/function/BiFunction;)I"⟩ : MethodName) jdk_41_method_12_code 4 (some .int) :: ws) ({ frames := 0, cells := 0, slots := 0, locals := 0 } : Room)) (fun a U => a = #[(.int p1), (.int p2), (.int p3), fm] ∧ Z.Warmed39 U.vm ∧ U.heap = h0) (fun _ _ _ _ _ => True) (fun _ U o U' => ∃ v L, o = .returned v ∧ Q_pcft Z p1 p2 p3 fm h0 v U'.heap L ∧ FrameEnd U o U' L ({ frames := 0, cells := 0, slots := 0, locals := 0 } : Room).cells ({ frames := 0, cells := 0, slots := 0, locals := 0 } : Room).slots) := by
  refine MetFree.of_bodySF (plainFor_of_name pn_233) hisR ?_
  intro p e s m args below meth c s₁ Bd hml0 hP hK
  obtain ⟨rfl, hZ, hh⟩ := hP
  have hx := Bd.exec
  have hby := Bd.bytes
  have hml : c.maxLocals = 4 := hml0
  have hown : s.vm.findClass "jdk/internal/util/Preconditions" = some m.cls := findClass_of_methodNamed Bd.named
  have hnm := (name_of_methodNamed Bd.named Bd.method).1
  have X0 : Stand p l e ({ frames := 0, cells := 0, slots := 0, locals := 0 } : Room) s m #[(.int p1), (.int p2), (.int p3), fm] below meth c s₁ [] 0 0 := Stand.of_body Bd
  have e0 : s₁.heap = h0 := by rw [← hh, Bd.state]; rfl
  have N0 := Fr.nil Z.heap.size
  have Z0 : Z.heap.size ≤ h0.size := OL.2.1
  obtain ⟨PP, hPP⟩ : ∃ PP : Outcome → State → Prop, PP = (fun o tE => ∃ v L, o = .returned v ∧ Q_pcft Z p1 p2 p3 fm h0 v tE.heap L ∧ FrameEnd s o tE L ({ frames := 0, cells := 0, slots := 0, locals := 0 } : Room).cells ({ frames := 0, cells := 0, slots := 0, locals := 0 } : Room).slots) := ⟨_, rfl⟩
  show own_Go p.tables e below (fun o tE => ∃ v L, o = .returned v ∧ Q_pcft Z p1 p2 p3 fm h0 v tE.heap L ∧ FrameEnd s o tE L ({ frames := 0, cells := 0, slots := 0, locals := 0 } : Room).cells ({ frames := 0, cells := 0, slots := 0, locals := 0 } : Room).slots) (s₁.setTop (entryFrame m #[(.int p1), (.int p2), (.int p3), fm] 4))
  rw [← hPP]
  refine own_Go.st (fun t k => castTop (ef_234 m p1 p2 p3 fm hfm) k) ?_
  show own_Go _ _ _ _ (s₁.setTop (mkF m 0 #[.val (.int p1), .val (.int p2), .val (.int p3), .val fm] []))
  refine own_Go.st (fun _ k => XS.iloadN X0.here hx rfl (hb hby d_jdk_41_method_12_0) rfl k) ?_
  show own_Go _ _ _ _ (s₁.setTop (mkF m 1 #[.val (.int p1), .val (.int p2), .val (.int p3), .val fm] [(.int p1)]))
  have hc268 : ¬ (p1 < (0 : Int32)) := h1
  refine own_Go.st (fun _ k => XS.ifNo X0.here hx rfl (hb hby d_jdk_41_method_12_1) rfl ((if0 _ _).trans (flt hc268).1) k) ?_
  show own_Go _ _ _ _ (s₁.setTop (mkF m 4 #[.val (.int p1), .val (.int p2), .val (.int p3), .val fm] []))
  refine own_Go.st (fun _ k => XS.iloadN X0.here hx rfl (hb hby d_jdk_41_method_12_4) rfl k) ?_
  show own_Go _ _ _ _ (s₁.setTop (mkF m 5 #[.val (.int p1), .val (.int p2), .val (.int p3), .val fm] [(.int p1)]))
  refine own_Go.st (fun _ k => XS.iloadN X0.here hx rfl (hb hby d_jdk_41_method_12_5) rfl k) ?_
  show own_Go _ _ _ _ (s₁.setTop (mkF m 6 #[.val (.int p1), .val (.int p2), .val (.int p3), .val fm] [(.int p2), (.int p1)]))
  have hc269 : ¬ (p2 < p1) := h2
  refine own_Go.st (fun _ k => XS.icmpNo X0.here hx rfl (hb hby d_jdk_41_method_12_6) rfl (flt hc269).2.2.1 k) ?_
  show own_Go _ _ _ _ (s₁.setTop (mkF m 9 #[.val (.int p1), .val (.int p2), .val (.int p3), .val fm] []))
  refine own_Go.st (fun _ k => XS.iloadN X0.here hx rfl (hb hby d_jdk_41_method_12_9) rfl k) ?_
  show own_Go _ _ _ _ (s₁.setTop (mkF m 10 #[.val (.int p1), .val (.int p2), .val (.int p3), .val fm] [(.int p2)]))
  refine own_Go.st (fun _ k => XS.iloadN X0.here hx rfl (hb hby d_jdk_41_method_12_10) rfl k) ?_
  show own_Go _ _ _ _ (s₁.setTop (mkF m 11 #[.val (.int p1), .val (.int p2), .val (.int p3), .val fm] [(.int p3), (.int p2)]))
  have hc270 : ¬ (p3 < p2) := h3
  refine own_Go.st (fun _ k => XS.icmpYes X0.here hx rfl (pc0 := 11) (pc' := 22) rfl (hb hby d_jdk_41_method_12_11) rfl (flt hc270).2.2.2 (by decide) (by decide) k) ?_
  show own_Go _ _ _ _ (s₁.setTop (mkF m 22 #[.val (.int p1), .val (.int p2), .val (.int p3), .val fm] []))
  refine own_Go.st (fun _ k => XS.iloadN X0.here hx rfl (hb hby d_jdk_41_method_12_22) rfl k) ?_
  show own_Go _ _ _ _ (s₁.setTop (mkF m 23 #[.val (.int p1), .val (.int p2), .val (.int p3), .val fm] [(.int p1)]))
  obtain ⟨fs271, hr271, hrun271, hend271, hW271, hsm271⟩ := X0.leave (v := some (.int p1)) (fun h => by rw [Bd.returns] at h; cases h)
  subst hPP
  refine ⟨_, _, own_retI X0 hx Bd.returns (hb hby d_jdk_41_method_12_23) hr271, hrun271, hend271, _, _, rfl, ?_, ⟨_, rfl⟩, hW271, hsm271.mono (by decide) (by decide)⟩
  · show Q_pcft Z _ _ _ _ h0 _ s₁.heap _
    rw [e0]
    exact ⟨rfl, N0, rfl⟩
theorem ef_245 (m : MethodId) (x0 : Int32) (x1 : Int32) (x2 : Int32) : entryFrame m #[(.int x0), (.int x1), (.int x2)] 3 = mkF m 0 #[.val (.int x0), .val (.int x1), .val (.int x2)] [] := by first | (simp [entryFrame, mkF, argsToLocals, Value.category]; done) | rfl
theorem d_jdk_42_method_158_0 : decode jdk_42_method_158_code 0 = .ok (.iload_n 0, 1) := by decide +kernel
theorem d_jdk_42_method_158_1 : decode jdk_42_method_158_code 1 = .ok (.iload_n 1, 1) := by decide +kernel
theorem d_jdk_42_method_158_2 : decode jdk_42_method_158_code 2 = .ok (.iload_n 2, 1) := by decide +kernel
theorem d_jdk_42_method_158_3 : decode jdk_42_method_158_code 3 = .ok (.getstatic 1053, 3) := by decide +kernel
theorem pd_250 : parseMethodDescriptor "(IIILjava/util/function/BiFunction;)I" = some ⟨[.int, .int, .int, (.object "java/util/function/BiFunction")], some .int⟩ := by decide +kernel
theorem d_jdk_42_method_158_6 : decode jdk_42_method_158_code 6 = .ok (.invokestatic 1062, 3) := by decide +kernel
theorem d_jdk_42_method_158_9 : decode jdk_42_method_158_code 9 = .ok (.pop, 1) := by decide +kernel
theorem d_jdk_42_method_158_10 : decode jdk_42_method_158_code 10 = .ok (.return_, 1) := by decide +kernel
def Q_cbbe (Z : State) (p1 : Int32) (p2 : Int32) (p3 : Int32) (fm : Value) (h0 : Heap) (v : Option Value) (h : Heap) (L : List Loc) : Prop := v = none ∧ Fr Z.heap.size L ∧ h = h0
set_option maxRecDepth 65536 in
set_option maxHeartbeats 40000000 in
theorem rm_cbbe (l : Launch) (Z : State) (a0 : Array Value) (hw : ∀ d ∈ tables_1, d.before a0 Z = true) (ws : List Jvm.Cond) (p1 : Int32) (p2 : Int32) (p3 : Int32) (fm : Value) (h0 : Heap) (OL : Old Z Z.heap.size h0) (st_SIOOBE_FORMATTER : Sta Z Z.heap "jdk/internal/util/Preconditions" "SIOOBE_FORMATTER" "Ljava/util/function/BiFunction;" fm) (h1 : ¬ p1 < 0) (h2 : ¬ p2 < p1) (h3 : ¬ p3 < p2) (hfm : fm.isRef = true) :
    MetFree l (⟨"java/lang/String", "checkBoundsBeginEnd", "(III)V"⟩ : MethodName) (head1 (Jvm.Cond.code (⟨"java/lang/String", "checkBoundsBeginEnd", "(III)V"⟩ : MethodName) jdk_42_method_158_code 3 none :: ws) ({ frames := 1, cells := 0, slots := 0, locals := 15 } : Room)) (fun a U => a = #[(.int p1), (.int p2), (.int p3)] ∧ Z.Warmed39 U.vm ∧ U.heap = h0) (fun _ _ _ _ _ => True) (fun _ U o U' => ∃ v L, o = .returned v ∧ Q_cbbe Z p1 p2 p3 fm h0 v U'.heap L ∧ FrameEnd U o U' L ({ frames := 1, cells := 0, slots := 0, locals := 15 } : Room).cells ({ frames := 1, cells := 0, slots := 0, locals := 15 } : Room).slots) := by
  refine MetFree.of_bodySF (plainFor_of_name pn_22) hisR ?_
  intro p e s m args below meth c s₁ Bd hml0 hP hK
  obtain ⟨rfl, hZ, hh⟩ := hP
  have hx := Bd.exec
  have hby := Bd.bytes
  have hml : c.maxLocals = 3 := hml0
  have hown : s.vm.findClass "java/lang/String" = some m.cls := findClass_of_methodNamed Bd.named
  have hnm := (name_of_methodNamed Bd.named Bd.method).1
  have X0 : Stand p l e ({ frames := 1, cells := 0, slots := 0, locals := 15 } : Room) s m #[(.int p1), (.int p2), (.int p3)] below meth c s₁ [] 0 0 := Stand.of_body Bd
  have e0 : s₁.heap = h0 := by rw [← hh, Bd.state]; rfl
  have N0 := Fr.nil Z.heap.size
  have Z0 : Z.heap.size ≤ h0.size := OL.2.1
  obtain ⟨PP, hPP⟩ : ∃ PP : Outcome → State → Prop, PP = (fun o tE => ∃ v L, o = .returned v ∧ Q_cbbe Z p1 p2 p3 fm h0 v tE.heap L ∧ FrameEnd s o tE L ({ frames := 1, cells := 0, slots := 0, locals := 15 } : Room).cells ({ frames := 1, cells := 0, slots := 0, locals := 15 } : Room).slots) := ⟨_, rfl⟩
  show own_Go p.tables e below (fun o tE => ∃ v L, o = .returned v ∧ Q_cbbe Z p1 p2 p3 fm h0 v tE.heap L ∧ FrameEnd s o tE L ({ frames := 1, cells := 0, slots := 0, locals := 15 } : Room).cells ({ frames := 1, cells := 0, slots := 0, locals := 15 } : Room).slots) (s₁.setTop (entryFrame m #[(.int p1), (.int p2), (.int p3)] 3))
  rw [← hPP]
  refine own_Go.st (fun t k => castTop (ef_245 m p1 p2 p3) k) ?_
  show own_Go _ _ _ _ (s₁.setTop (mkF m 0 #[.val (.int p1), .val (.int p2), .val (.int p3)] []))
  refine own_Go.st (fun _ k => XS.iloadN X0.here hx rfl (hb hby d_jdk_42_method_158_0) rfl k) ?_
  show own_Go _ _ _ _ (s₁.setTop (mkF m 1 #[.val (.int p1), .val (.int p2), .val (.int p3)] [(.int p1)]))
  refine own_Go.st (fun _ k => XS.iloadN X0.here hx rfl (hb hby d_jdk_42_method_158_1) rfl k) ?_
  show own_Go _ _ _ _ (s₁.setTop (mkF m 2 #[.val (.int p1), .val (.int p2), .val (.int p3)] [(.int p2), (.int p1)]))
  refine own_Go.st (fun _ k => XS.iloadN X0.here hx rfl (hb hby d_jdk_42_method_158_2) rfl k) ?_
  show own_Go _ _ _ _ (s₁.setTop (mkF m 3 #[.val (.int p1), .val (.int p2), .val (.int p3)] [(.int p3), (.int p2), (.int p1)]))
  obtain ⟨T272, X272, e272, st272⟩ := getS2 X0 hx hZ hown (host := "") (Or.inl (hw _ (List.mem_of_getElem? (i := 75) rfl))) Via.refl e0 (st_SIOOBE_FORMATTER.ext OL.2) (g := (mkF m 3 #[.val (.int p1), .val (.int p2), .val (.int p3)] [(.int p3), (.int p2), (.int p1)])) rfl (hb hby d_jdk_42_method_158_3)
  refine own_Go.st st272 ?_
  show own_Go _ _ _ _ (T272.setTop (mkF m 6 #[.val (.int p1), .val (.int p2), .val (.int p3)] [fm, (.int p3), (.int p2), (.int p1)]))
  obtain ⟨_, _, ⟨T273, L273, k273, n273⟩, -, X273, ⟨Lc273, hQ273, l273, y273, z273⟩, st273⟩ := Jvm.LawKit.callS X272 hx (y := (⟨"jdk/internal/util/Preconditions", "checkFromToIndex", "(IIILjava/util/function/BiFunction;)I"⟩ : MethodName)) hown (mvT hZ (hw _ (List.mem_of_getElem? (i := 77) rfl))) (mvT hZ (hw _ (List.mem_of_getElem? (i := 78) rfl))) (mvT hZ (hw _ (List.mem_of_getElem? (i := 76) rfl))) (mvT hZ (hw _ (List.mem_of_getElem? (i := 79) rfl))) (by decide) (backOf (W := 0) (rm_pcft l Z a0 hw [] p1 p2 p3 fm h0 OL (by first | assumption | decide) (by first | assumption | decide) (by first | assumption | decide) (by first | assumption | decide)) hZ (hw _ (List.mem_of_getElem? (i := 79) rfl)) (hw _ (List.mem_of_getElem? (i := 76) rfl)) (by decide) (by decide)) (g := (mkF m 6 #[.val (.int p1), .val (.int p2), .val (.int p3)] [fm, (.int p3), (.int p2), (.int p1)])) rfl (by rw [hml]; rfl) (argsL := [(.int p1), (.int p2), (.int p3), fm]) (rest := []) (lenOf pd_250 rfl) rfl (by show 2 * 0 + _ ≤ _; exact Nat.le_of_eq rfl) (hb hby d_jdk_42_method_158_6) (fun _ _ => ⟨rfl, e272, (by decide : 0 + 0 ≤ _), (by decide : 0 + 0 ≤ _)⟩)
  dsimp only [Pt.U, Pt.locs, Pt.cells, Pt.slots] at X273 l273 y273 z273 st273 hQ273
  subst l273 y273 z273
  obtain ⟨rfl, N273q, K273⟩ := hQ273
  have N273 := Fr.app N0 N273q
  refine own_Go.st st273 ?_
  show own_Go _ _ _ _ (T273.setTop (mkF m 9 #[.val (.int p1), .val (.int p2), .val (.int p3)] [(.int p1)]))
  refine own_Go.st (fun _ k => XS.pop X273.here hx rfl (hb hby d_jdk_42_method_158_9) rfl rfl k) ?_
  show own_Go _ _ _ _ (T273.setTop (mkF m 10 #[.val (.int p1), .val (.int p2), .val (.int p3)] []))
  obtain ⟨fs274, hr274, hrun274, hend274, hW274, hsm274⟩ := X273.leave (v := none) (fun _ => rfl)
  subst hPP
  refine ⟨_, _, X273.returnOut hx Bd.returns (hb hby d_jdk_42_method_158_10) hr274, hrun274, hend274, _, _, rfl, ?_, ⟨_, rfl⟩, hW274, hsm274.mono (by decide) (by decide)⟩
  · show Q_cbbe Z _ _ _ _ h0 _ T273.heap _
    rw [K273]
    exact ⟨rfl, N273, rfl⟩
theorem ef_254 (m : MethodId) (x0 : Nat) (x1 : Nat) (x2 : Int32) : entryFrame m #[(.ref x0), (.ref x1), (.int x2)] 3 = mkF m 0 #[.val (.ref x0), .val (.ref x1), .val (.int x2)] [] := by first | (simp [entryFrame, mkF, argsToLocals, Value.category]; done) | rfl
theorem d_jdk_42_method_151_0 : decode jdk_42_method_151_code 0 = .ok (.aload_n 0, 1) := by decide +kernel
theorem d_jdk_42_method_151_1 : decode jdk_42_method_151_code 1 = .ok (.invokespecial 1, 3) := by decide +kernel
theorem d_jdk_42_method_151_4 : decode jdk_42_method_151_code 4 = .ok (.aload_n 0, 1) := by decide +kernel
theorem d_jdk_42_method_151_5 : decode jdk_42_method_151_code 5 = .ok (.aload_n 1, 1) := by decide +kernel
theorem d_jdk_42_method_151_6 : decode jdk_42_method_151_code 6 = .ok (.putfield 9, 3) := by decide +kernel
theorem d_jdk_42_method_151_9 : decode jdk_42_method_151_code 9 = .ok (.aload_n 0, 1) := by decide +kernel
theorem d_jdk_42_method_151_10 : decode jdk_42_method_151_code 10 = .ok (.iload_n 2, 1) := by decide +kernel
theorem d_jdk_42_method_151_11 : decode jdk_42_method_151_code 11 = .ok (.putfield 15, 3) := by decide +kernel
theorem d_jdk_42_method_151_14 : decode jdk_42_method_151_code 14 = .ok (.return_, 1) := by decide +kernel
def Q_sinitBB (Z : State) (a1 : Nat) (a2 : Nat) (h0 : Heap) (v : Option Value) (h : Heap) (L : List Loc) : Prop := v = none ∧ Fr Z.heap.size L ∧ Keep h0 h [a1] ∧ Exa Z h a1 "java/lang/String" ∧ Fld Z h a1 "java/lang/String" "value" "[B" (.ref a2) ∧ Fld Z h a1 "java/lang/String" "coder" "B" (.int (0 : Int32))
set_option maxRecDepth 65536 in
set_option maxHeartbeats 40000000 in
theorem rm_sinitBB (l : Launch) (Z : State) (a0 : Array Value) (hw : ∀ d ∈ tables_1, d.before a0 Z = true) (ws : List Jvm.Cond) (a1 : Nat) (a2 : Nat) (h0 : Heap) (OL : Old Z Z.heap.size h0) (p0_ : Exa Z h0 a1 "java/lang/String") (p1_ : Fld Z h0 a1 "java/lang/String" "value" "[B" .null) (p2_ : Fld Z h0 a1 "java/lang/String" "coder" "B" (.int (0 : Int32))) (hn0 : Z.heap.size ≤ a1) :
    MetFree l (⟨"java/lang/String", "<init>", "([BB)V"⟩ : MethodName) (head1 (Jvm.Cond.code (⟨"java/lang/String", "<init>", "([BB)V"⟩ : MethodName) jdk_42_method_151_code 3 none :: ws) ({ frames := 1, cells := 0, slots := 0, locals := 12 } : Room)) (fun a U => a = #[(.ref a1), (.ref a2), (.int (0 : Int32))] ∧ Z.Warmed39 U.vm ∧ U.heap = h0) (fun _ _ _ _ _ => True) (fun _ U o U' => ∃ v L, o = .returned v ∧ Q_sinitBB Z a1 a2 h0 v U'.heap L ∧ FrameEnd U o U' L ({ frames := 1, cells := 0, slots := 0, locals := 12 } : Room).cells ({ frames := 1, cells := 0, slots := 0, locals := 12 } : Room).slots) := by
  refine MetFree.of_bodySF (plainFor_of_name pn_22) hisR ?_
  intro p e s m args below meth c s₁ Bd hml0 hP hK
  obtain ⟨rfl, hZ, hh⟩ := hP
  have hx := Bd.exec
  have hby := Bd.bytes
  have hml : c.maxLocals = 3 := hml0
  have hown : s.vm.findClass "java/lang/String" = some m.cls := findClass_of_methodNamed Bd.named
  have hnm := (name_of_methodNamed Bd.named Bd.method).1
  have X0 : Stand p l e ({ frames := 1, cells := 0, slots := 0, locals := 12 } : Room) s m #[(.ref a1), (.ref a2), (.int (0 : Int32))] below meth c s₁ [] 0 0 := Stand.of_body Bd
  have e0 : s₁.heap = h0 := by rw [← hh, Bd.state]; rfl
  have N0 := Fr.nil Z.heap.size
  have Z0 : Z.heap.size ≤ h0.size := OL.2.1
  have lt_0 : @LT.lt Nat _ a1 h0.size := p0_.lt
  have lt_1 : @LT.lt Nat _ a1 h0.size := p1_.lt
  have lt_2 : @LT.lt Nat _ a1 h0.size := p2_.lt
  obtain ⟨PP, hPP⟩ : ∃ PP : Outcome → State → Prop, PP = (fun o tE => ∃ v L, o = .returned v ∧ Q_sinitBB Z a1 a2 h0 v tE.heap L ∧ FrameEnd s o tE L ({ frames := 1, cells := 0, slots := 0, locals := 12 } : Room).cells ({ frames := 1, cells := 0, slots := 0, locals := 12 } : Room).slots) := ⟨_, rfl⟩
  show own_Go p.tables e below (fun o tE => ∃ v L, o = .returned v ∧ Q_sinitBB Z a1 a2 h0 v tE.heap L ∧ FrameEnd s o tE L ({ frames := 1, cells := 0, slots := 0, locals := 12 } : Room).cells ({ frames := 1, cells := 0, slots := 0, locals := 12 } : Room).slots) (s₁.setTop (entryFrame m #[(.ref a1), (.ref a2), (.int (0 : Int32))] 3))
  rw [← hPP]
  refine own_Go.st (fun t k => castTop (ef_254 m a1 a2 (0 : Int32)) k) ?_
  show own_Go _ _ _ _ (s₁.setTop (mkF m 0 #[.val (.ref a1), .val (.ref a2), .val (.int (0 : Int32))] []))
  refine own_Go.st (fun _ k => XS.aloadN X0.here hx rfl (hb hby d_jdk_42_method_151_0) rfl rfl k) ?_
  show own_Go _ _ _ _ (s₁.setTop (mkF m 1 #[.val (.ref a1), .val (.ref a2), .val (.int (0 : Int32))] [(.ref a1)]))
  obtain ⟨T275, X275, e275, st275⟩ := initO X0 hx hZ hown (hw _ (List.mem_of_getElem? (i := 15) rfl)) (hw _ (List.mem_of_getElem? (i := 16) rfl)) (hw _ (List.mem_of_getElem? (i := 17) rfl)) e0 (g := (mkF m 1 #[.val (.ref a1), .val (.ref a2), .val (.int (0 : Int32))] [(.ref a1)])) rfl (by rw [hml]; rfl) rfl (hb hby d_jdk_42_method_151_1) (by decide) (W := 0) (by show 2 * 0 + _ ≤ _; exact Nat.le_of_eq rfl) (by decide)
  refine own_Go.st st275 ?_
  show own_Go _ _ _ _ (T275.setTop (mkF m 4 #[.val (.ref a1), .val (.ref a2), .val (.int (0 : Int32))] []))
  refine own_Go.st (fun _ k => XS.aloadN X275.here hx rfl (hb hby d_jdk_42_method_151_4) rfl rfl k) ?_
  show own_Go _ _ _ _ (T275.setTop (mkF m 5 #[.val (.ref a1), .val (.ref a2), .val (.int (0 : Int32))] [(.ref a1)]))
  refine own_Go.st (fun _ k => XS.aloadN X275.here hx rfl (hb hby d_jdk_42_method_151_5) rfl rfl k) ?_
  show own_Go _ _ _ _ (T275.setTop (mkF m 6 #[.val (.ref a1), .val (.ref a2), .val (.int (0 : Int32))] [(.ref a2), (.ref a1)]))
  obtain ⟨T276, h276, X276, e276, W276, st276⟩ := putF X275 hx hZ hown (host := "") (Or.inl (hw _ (List.mem_of_getElem? (i := 32) rfl))) Via.refl e275 p1_ p0_ (Or.inr ⟨(hw _ (List.mem_of_getElem? (i := 33) rfl)), rfl, hnm⟩) (hw _ (List.mem_of_getElem? (i := 5) rfl)) (ty := (.array .byte)) (by decide) rfl rfl (g := (mkF m 6 #[.val (.ref a1), .val (.ref a2), .val (.int (0 : Int32))] [(.ref a2), (.ref a1)])) rfl rfl (hb hby d_jdk_42_method_151_6)
  refine own_Go.st st276 ?_
  have N276 := Fr.snoc X276 N0 (by omega)
  have z276 : h0.size ≤ h276.size := Nat.le_of_eq W276.size.symm
  have f277 : Fld Z h276 a1 "java/lang/String" "value" "[B" (.ref a2) := p1_.same W276
  show own_Go _ _ _ _ (T276.setTop (mkF m 9 #[.val (.ref a1), .val (.ref a2), .val (.int (0 : Int32))] []))
  refine own_Go.st (fun _ k => XS.aloadN X276.here hx rfl (hb hby d_jdk_42_method_151_9) rfl rfl k) ?_
  show own_Go _ _ _ _ (T276.setTop (mkF m 10 #[.val (.ref a1), .val (.ref a2), .val (.int (0 : Int32))] [(.ref a1)]))
  refine own_Go.st (fun _ k => XS.iloadN X276.here hx rfl (hb hby d_jdk_42_method_151_10) rfl k) ?_
  show own_Go _ _ _ _ (T276.setTop (mkF m 11 #[.val (.ref a1), .val (.ref a2), .val (.int (0 : Int32))] [(.int (0 : Int32)), (.ref a1)]))
  have f278 : Fld Z h276 a1 "java/lang/String" "coder" "B" (.int (0 : Int32)) := p2_.other W276 (Or.inr (slot_ne (Or.inr (hw _ (List.mem_of_getElem? (i := 31) rfl))) (Or.inr (hw _ (List.mem_of_getElem? (i := 33) rfl))) (by decide) (t := .byte) (t' := (.array .byte)) (by decide) (by decide)))
  have f279 : Exa Z h276 a1 "java/lang/String" := p0_.wr W276
  obtain ⟨T280, h280, X280, e280, W280, st280⟩ := putF X276 hx hZ hown (host := "") (Or.inl (hw _ (List.mem_of_getElem? (i := 30) rfl))) Via.refl e276 f278 f279 (Or.inr ⟨(hw _ (List.mem_of_getElem? (i := 31) rfl)), rfl, hnm⟩) (hw _ (List.mem_of_getElem? (i := 5) rfl)) (ty := .byte) (by decide) rfl (by decide) (g := (mkF m 11 #[.val (.ref a1), .val (.ref a2), .val (.int (0 : Int32))] [(.int (0 : Int32)), (.ref a1)])) rfl rfl (hb hby d_jdk_42_method_151_11)
  refine own_Go.st st280 ?_
  have N280 := Fr.snoc X280 N276 (by omega)
  have z280 : h276.size ≤ h280.size := Nat.le_of_eq W280.size.symm
  have f281 : Fld Z h280 a1 "java/lang/String" "coder" "B" (.int (0 : Int32)) := f278.same W280
  show own_Go _ _ _ _ (T280.setTop (mkF m 14 #[.val (.ref a1), .val (.ref a2), .val (.int (0 : Int32))] []))
  obtain ⟨fs282, hr282, hrun282, hend282, hW282, hsm282⟩ := X280.leave (v := none) (fun _ => rfl)
  have K283 : Keep h0 h276 [a1] := (Keep.refl h0 [a1]).wr W276 (Or.inl (List.mem_of_getElem? (i := 0) rfl))
  have K284 : Keep h0 h280 [a1] := K283.wr W280 (Or.inl (List.mem_of_getElem? (i := 0) rfl))
  have f285 : Exa Z h280 a1 "java/lang/String" := f279.wr W280
  have f286 : Fld Z h280 a1 "java/lang/String" "value" "[B" (.ref a2) := f277.other W280 (Or.inr (slot_ne (Or.inr (hw _ (List.mem_of_getElem? (i := 33) rfl))) (Or.inr (hw _ (List.mem_of_getElem? (i := 31) rfl))) (by decide) (t := (.array .byte)) (t' := .byte) (by decide) (by decide)))
  subst hPP
  refine ⟨_, _, X280.returnOut hx Bd.returns (hb hby d_jdk_42_method_151_14) hr282, hrun282, hend282, _, _, rfl, ?_, ⟨_, rfl⟩, hW282, hsm282.mono (by decide) (by decide)⟩
  · show Q_sinitBB Z _ _ h0 _ T280.heap _
    rw [e280]
    exact ⟨rfl, N280, K284, f285, f286, f281⟩

theorem own_latT {cs : List Int32} {i m : Nat} (h : ∀ c ∈ cs, ¬ c < 0 ∧ ¬ (255 : Int32) < c) : ∀ c ∈ (cs.drop i).take m, ¬ c < 0 ∧ ¬ (255 : Int32) < c := fun c hc => h c (List.mem_of_mem_drop (List.mem_of_mem_take hc))
theorem own_latA {a b : List Int32} (h1 : ∀ c ∈ a, ¬ c < 0 ∧ ¬ (255 : Int32) < c) (h2 : ∀ c ∈ b, ¬ c < 0 ∧ ¬ (255 : Int32) < c) : ∀ c ∈ a ++ b, ¬ c < 0 ∧ ¬ (255 : Int32) < c := fun c hc => (List.mem_append.mp hc).elim (h1 c) (h2 c)
theorem own_subl {cs : List Int32} {i m : Nat} (h : i + m ≤ cs.length) : ((cs.drop i).take m).length = m := by simp; omega

theorem pn_264 : plainName "java/lang/StringLatin1" = true := by first | (simp [plainName, overriddenIn]; done) | decide +kernel
theorem d_jdk_43_method_47_0 : decode jdk_43_method_47_code 0 = .ok (.iload_n 2, 1) := by decide +kernel
theorem d_jdk_43_method_47_1 : decode jdk_43_method_47_code 1 = .ok (.ifCond .ne 6, 3) := by decide +kernel
theorem d_jdk_43_method_47_7 : decode jdk_43_method_47_code 7 = .ok (.new 1, 3) := by decide +kernel
theorem d_jdk_43_method_47_10 : decode jdk_43_method_47_code 10 = .ok (.dup, 1) := by decide +kernel
theorem d_jdk_43_method_47_11 : decode jdk_43_method_47_code 11 = .ok (.aload_n 0, 1) := by decide +kernel
theorem d_jdk_43_method_47_12 : decode jdk_43_method_47_code 12 = .ok (.iload_n 1, 1) := by decide +kernel
theorem d_jdk_43_method_47_13 : decode jdk_43_method_47_code 13 = .ok (.iload_n 1, 1) := by decide +kernel
theorem d_jdk_43_method_47_14 : decode jdk_43_method_47_code 14 = .ok (.iload_n 2, 1) := by decide +kernel
theorem d_jdk_43_method_47_15 : decode jdk_43_method_47_code 15 = .ok (.iadd, 1) := by decide +kernel
theorem d_jdk_43_method_47_16 : decode jdk_43_method_47_code 16 = .ok (.invokestatic 232, 3) := by decide +kernel
theorem d_jdk_43_method_47_19 : decode jdk_43_method_47_code 19 = .ok (.iconst 0, 1) := by decide +kernel
theorem pd_276 : parseMethodDescriptor "([BB)V" = some ⟨[(.array .byte), .byte], none⟩ := by decide +kernel
theorem d_jdk_43_method_47_20 : decode jdk_43_method_47_code 20 = .ok (.invokespecial 112, 3) := by decide +kernel
theorem d_jdk_43_method_47_23 : decode jdk_43_method_47_code 23 = .ok (.areturn, 1) := by decide +kernel
def Q_newStr (Z : State) (a1 : Nat) (p2 : Int32) (p3 : Int32) (i : Nat) (mm : Nat) (cs : List Int32) (k : ClassId) (h0 : Heap) (v : Option Value) (h : Heap) (L : List Loc) : Prop := ∃ (x : Nat), ∃ (t : Nat), v = some (.ref x) ∧ Fr Z.heap.size L ∧ Keep h0 h [] ∧ own_Str Z h x t ((cs.drop i).take mm) ∧ (h0.size ≤ x) ∧ (h0.size ≤ t)
set_option maxRecDepth 65536 in
set_option maxHeartbeats 40000000 in
theorem rm_newStr (l : Launch) (Z : State) (a0 : Array Value) (hw : ∀ d ∈ tables_1, d.before a0 Z = true) (ws : List Jvm.Cond) (a1 : Nat) (p2 : Int32) (p3 : Int32) (i : Nat) (mm : Nat) (cs : List Int32) (k : ClassId) (h0 : Heap) (OL : Old Z Z.heap.size h0) (p0_ : Arv Z h0 a1 k .byte (Int32.ofNat cs.length) (own_low cs) (.int (0 : Int32))) (hp2 : p2 = Int32.ofNat i) (hp3 : p3 = Int32.ofNat mm) (hm : 0 < mm) (him : i + mm ≤ cs.length) (hnw : ¬ (i = 0 ∧ i + mm = cs.length)) (hcs : cs.length ≤ 100) (hmx : mm ≤ 16) (hlc : ∀ c ∈ cs, ¬ c < 0 ∧ ¬ (255 : Int32) < c) :
    MetFree l (⟨"java/lang/StringLatin1", "newString", "([BII)Ljava/lang/String;"⟩ : MethodName) (head1 (Jvm.Cond.code (⟨"java/lang/StringLatin1", "newString", "([BII)Ljava/lang/String;"⟩ : MethodName) jdk_43_method_47_code 3 (some (.object "java/lang/String")) :: ws) ({ frames := 3, cells := 2, slots := 20, locals := 72 } : Room)) (fun a U => a = #[(.ref a1), (.int p2), (.int p3)] ∧ Z.Warmed39 U.vm ∧ U.heap = h0) (fun _ _ _ _ _ => True) (fun _ U o U' => ∃ v L, o = .returned v ∧ Q_newStr Z a1 p2 p3 i mm cs k h0 v U'.heap L ∧ FrameEnd U o U' L ({ frames := 3, cells := 2, slots := 20, locals := 72 } : Room).cells ({ frames := 3, cells := 2, slots := 20, locals := 72 } : Room).slots) := by
  refine MetFree.of_bodySF (plainFor_of_name pn_264) hisR ?_
  intro p e s m args below meth c s₁ Bd hml0 hP hK
  obtain ⟨rfl, hZ, hh⟩ := hP
  have hx := Bd.exec
  have hby := Bd.bytes
  have hml : c.maxLocals = 3 := hml0
  have hown : s.vm.findClass "java/lang/StringLatin1" = some m.cls := findClass_of_methodNamed Bd.named
  have hnm := (name_of_methodNamed Bd.named Bd.method).1
  have X0 : Stand p l e ({ frames := 3, cells := 2, slots := 20, locals := 72 } : Room) s m #[(.ref a1), (.int p2), (.int p3)] below meth c s₁ [] 0 0 := Stand.of_body Bd
  have e0 : s₁.heap = h0 := by rw [← hh, Bd.state]; rfl
  have N0 := Fr.nil Z.heap.size
  have Z0 : Z.heap.size ≤ h0.size := OL.2.1
  have lt_0 : @LT.lt Nat _ a1 h0.size := p0_.lt
  obtain ⟨PP, hPP⟩ : ∃ PP : Outcome → State → Prop, PP = (fun o tE => ∃ v L, o = .returned v ∧ Q_newStr Z a1 p2 p3 i mm cs k h0 v tE.heap L ∧ FrameEnd s o tE L ({ frames := 3, cells := 2, slots := 20, locals := 72 } : Room).cells ({ frames := 3, cells := 2, slots := 20, locals := 72 } : Room).slots) := ⟨_, rfl⟩
  show own_Go p.tables e below (fun o tE => ∃ v L, o = .returned v ∧ Q_newStr Z a1 p2 p3 i mm cs k h0 v tE.heap L ∧ FrameEnd s o tE L ({ frames := 3, cells := 2, slots := 20, locals := 72 } : Room).cells ({ frames := 3, cells := 2, slots := 20, locals := 72 } : Room).slots) (s₁.setTop (entryFrame m #[(.ref a1), (.int p2), (.int p3)] 3))
  rw [← hPP]
  refine own_Go.st (fun t k => castTop (ef_174 m a1 p2 p3) k) ?_
  subst hp2 hp3
  show own_Go _ _ _ _ (s₁.setTop (mkF m 0 #[.val (.ref a1), .val (.int (Int32.ofNat i)), .val (.int (Int32.ofNat mm))] []))
  refine own_Go.st (fun _ k => XS.iloadN X0.here hx rfl (hb hby d_jdk_43_method_47_0) rfl k) ?_
  show own_Go _ _ _ _ (s₁.setTop (mkF m 1 #[.val (.ref a1), .val (.int (Int32.ofNat i)), .val (.int (Int32.ofNat mm))] [(.int (Int32.ofNat mm))]))
  have hc287 : ¬ ((Int32.ofNat mm) = (0 : Int32)) := fun q => by have := (own_ofE (j := 0) (by omega) (by omega)).mp q; omega
  refine own_Go.st (fun _ k => XS.ifYes X0.here hx rfl (pc0 := 1) (pc' := 7) rfl (hb hby d_jdk_43_method_47_1) rfl ((if0 _ _).trans (feq hc287).2) (by decide) (by decide) k) ?_
  show own_Go _ _ _ _ (s₁.setTop (mkF m 7 #[.val (.ref a1), .val (.int (Int32.ofNat i)), .val (.int (Int32.ofNat mm))] []))
  obtain ⟨T288, h288, X288, e288, E288, A288, D288, U288, st288⟩ := newO X0 hx hZ hown (hw _ (List.mem_of_getElem? (i := 89) rfl)) (hw _ (List.mem_of_getElem? (i := 5) rfl)) (hw _ (List.mem_of_getElem? (i := 6) rfl)) e0 (g := (mkF m 7 #[.val (.ref a1), .val (.int (Int32.ofNat i)), .val (.int (Int32.ofNat mm))] [])) rfl (hb hby d_jdk_43_method_47_7) (by decide) (by decide)
  obtain ⟨b288, g288⟩ : ∃ z, z = h0.size := ⟨_, rfl⟩
  rw [← g288] at A288 D288 U288 st288
  refine own_Go.st st288 ?_
  have z288 : h0.size ≤ h288.size := E288.1
  have lt_b288 : @LT.lt Nat _ b288 h288.size := A288.lt
  have f289 : Fld Z h288 b288 "java/lang/String" "coder" "B" (.int (0 : Int32)) := D288 (Or.inr (hw _ (List.mem_of_getElem? (i := 31) rfl))) (ty := .byte) (by decide)
  have f290 : Fld Z h288 b288 "java/lang/String" "value" "[B" .null := D288 (Or.inr (hw _ (List.mem_of_getElem? (i := 33) rfl))) (ty := (.array .byte)) (by decide)
  show own_Go _ _ _ _ (T288.setTop (mkF m 10 #[.val (.ref a1), .val (.int (Int32.ofNat i)), .val (.int (Int32.ofNat mm))] [(.ref b288)]))
  refine own_Go.st (fun _ k => XS.dup X288.here hx rfl (hb hby d_jdk_43_method_47_10) rfl rfl k) ?_
  show own_Go _ _ _ _ (T288.setTop (mkF m 11 #[.val (.ref a1), .val (.int (Int32.ofNat i)), .val (.int (Int32.ofNat mm))] [(.ref b288), (.ref b288)]))
  refine own_Go.st (fun _ k => XS.aloadN X288.here hx rfl (hb hby d_jdk_43_method_47_11) rfl rfl k) ?_
  show own_Go _ _ _ _ (T288.setTop (mkF m 12 #[.val (.ref a1), .val (.int (Int32.ofNat i)), .val (.int (Int32.ofNat mm))] [(.ref a1), (.ref b288), (.ref b288)]))
  refine own_Go.st (fun _ k => XS.iloadN X288.here hx rfl (hb hby d_jdk_43_method_47_12) rfl k) ?_
  show own_Go _ _ _ _ (T288.setTop (mkF m 13 #[.val (.ref a1), .val (.int (Int32.ofNat i)), .val (.int (Int32.ofNat mm))] [(.int (Int32.ofNat i)), (.ref a1), (.ref b288), (.ref b288)]))
  refine own_Go.st (fun _ k => XS.iloadN X288.here hx rfl (hb hby d_jdk_43_method_47_13) rfl k) ?_
  show own_Go _ _ _ _ (T288.setTop (mkF m 14 #[.val (.ref a1), .val (.int (Int32.ofNat i)), .val (.int (Int32.ofNat mm))] [(.int (Int32.ofNat i)), (.int (Int32.ofNat i)), (.ref a1), (.ref b288), (.ref b288)]))
  refine own_Go.st (fun _ k => XS.iloadN X288.here hx rfl (hb hby d_jdk_43_method_47_14) rfl k) ?_
  show own_Go _ _ _ _ (T288.setTop (mkF m 15 #[.val (.ref a1), .val (.int (Int32.ofNat i)), .val (.int (Int32.ofNat mm))] [(.int (Int32.ofNat mm)), (.int (Int32.ofNat i)), (.int (Int32.ofNat i)), (.ref a1), (.ref b288), (.ref b288)]))
  refine own_Go.st (fun _ k => XS.iadd X288.here hx rfl (hb hby d_jdk_43_method_47_15) rfl k) ?_
  show own_Go _ _ _ _ (T288.setTop (mkF m 16 #[.val (.ref a1), .val (.int (Int32.ofNat i)), .val (.int (Int32.ofNat mm))] [(.int ((Int32.ofNat i) + (Int32.ofNat mm))), (.int (Int32.ofNat i)), (.ref a1), (.ref b288), (.ref b288)]))
  rw [own_ofA (by omega)]
  show own_Go _ _ _ _ (T288.setTop (mkF m 16 #[.val (.ref a1), .val (.int (Int32.ofNat i)), .val (.int (Int32.ofNat mm))] [(.int (Int32.ofNat (i + mm))), (.int (Int32.ofNat i)), (.ref a1), (.ref b288), (.ref b288)]))
  have f292 : Arv Z h288 a1 k .byte (Int32.ofNat cs.length) (own_low cs) (.int (0 : Int32)) := p0_.ext E288
  have f293 : Old Z Z.heap.size h288 := OL.ext E288
  obtain ⟨_, _, ⟨T291, L291, k291, n291⟩, -, X291, ⟨Lc291, hQ291, l291, y291, z291⟩, st291⟩ := Jvm.LawKit.callS X288 hx (y := (⟨"java/util/Arrays", "copyOfRange", "([BII)[B"⟩ : MethodName)) hown (mvT hZ (hw _ (List.mem_of_getElem? (i := 90) rfl))) (mvT hZ (hw _ (List.mem_of_getElem? (i := 91) rfl))) (mvT hZ (hw _ (List.mem_of_getElem? (i := 92) rfl))) (mvT hZ (hw _ (List.mem_of_getElem? (i := 93) rfl))) (by decide) (backOf (W := 2) (rm_cor l Z a0 hw [] a1 (Int32.ofNat i) (Int32.ofNat (i + mm)) i (i + mm) cs cs.length k h288 f293 f292 rfl rfl (by omega) him (Nat.le_refl _) hcs (by omega) hnw) hZ (hw _ (List.mem_of_getElem? (i := 93) rfl)) (hw _ (List.mem_of_getElem? (i := 92) rfl)) (by decide) (by decide)) (g := (mkF m 16 #[.val (.ref a1), .val (.int (Int32.ofNat i)), .val (.int (Int32.ofNat mm))] [(.int (Int32.ofNat (i + mm))), (.int (Int32.ofNat i)), (.ref a1), (.ref b288), (.ref b288)])) rfl (by rw [hml]; rfl) (argsL := [(.ref a1), (.int (Int32.ofNat i)), (.int (Int32.ofNat (i + mm)))]) (rest := [(.ref b288), (.ref b288)]) (lenOf pd_184 rfl) rfl (by show 2 * 0 + _ ≤ _; exact Nat.le_of_eq rfl) (hb hby d_jdk_43_method_47_16) (fun _ _ => ⟨rfl, e288, (by decide : 1 + 1 ≤ _), (by decide : 4 + 16 ≤ _)⟩)
  dsimp only [Pt.U, Pt.locs, Pt.cells, Pt.slots] at X291 l291 y291 z291 st291 hQ291
  subst l291 y291 z291
  obtain ⟨x_291, kx_291, rfl, N291q, K291, f291_0, pr291_0⟩ := hQ291
  have N291 := Fr.app N0 N291q
  have z291 : h288.size ≤ T291.heap.size := K291.1
  have lt291_0 : @LT.lt Nat _ x_291 T291.heap.size := f291_0.lt
  have f294 : Arv Z T291.heap x_291 kx_291 .byte (Int32.ofNat ((cs.drop i).take mm).length) (own_low ((cs.drop i).take mm)) (.int (0 : Int32)) := by
    have q := f291_0
    rw [show i + mm - i = mm by omega] at q
    rw [own_subl him]
    exact q
  refine own_Go.st st291 ?_
  show own_Go _ _ _ _ (T291.setTop (mkF m 19 #[.val (.ref a1), .val (.int (Int32.ofNat i)), .val (.int (Int32.ofNat mm))] [(.ref x_291), (.ref b288), (.ref b288)]))
  refine own_Go.st (fun _ k => XS.iconst X291.here hx rfl (hb hby d_jdk_43_method_47_19) k) ?_
  show own_Go _ _ _ _ (T291.setTop (mkF m 20 #[.val (.ref a1), .val (.int (Int32.ofNat i)), .val (.int (Int32.ofNat mm))] [(.int (0 : Int32)), (.ref x_291), (.ref b288), (.ref b288)]))
  have f296 : Exa Z T291.heap b288 "java/lang/String" := A288.keep K291
  have f297 : Fld Z T291.heap b288 "java/lang/String" "value" "[B" .null := f290.keep K291 nin0
  have f298 : Fld Z T291.heap b288 "java/lang/String" "coder" "B" (.int (0 : Int32)) := f289.keep K291 nin0
  have f299 : Old Z Z.heap.size T291.heap := f293.keep K291 all0
  obtain ⟨_, _, ⟨T295, L295, k295, n295⟩, -, X295, ⟨Lc295, hQ295, l295, y295, z295⟩, st295⟩ := X291.specialBack hx (y := (⟨"java/lang/String", "<init>", "([BB)V"⟩ : MethodName)) rfl hown (mvT hZ (hw _ (List.mem_of_getElem? (i := 108) rfl))) (mvT hZ (hw _ (List.mem_of_getElem? (i := 109) rfl))) (mvT hZ (hw _ (List.mem_of_getElem? (i := 110) rfl))) (by decide) (backOf (W := 1) (rm_sinitBB l Z a0 hw [] b288 x_291 T291.heap f299 f296 f297 f298 (by omega)) hZ (hw _ (List.mem_of_getElem? (i := 110) rfl)) (hw _ (List.mem_of_getElem? (i := 6) rfl)) (by decide) (by decide)) (g := (mkF m 20 #[.val (.ref a1), .val (.int (Int32.ofNat i)), .val (.int (Int32.ofNat mm))] [(.int (0 : Int32)), (.ref x_291), (.ref b288), (.ref b288)])) rfl (by rw [hml]; rfl) (Steps.refl _) (a := b288) (argsL := [(.ref x_291), (.int (0 : Int32))]) (rest := [(.ref b288)]) (lenOf pd_276 rfl) rfl (by show 2 * 0 + _ ≤ _; exact Nat.le_of_eq rfl) (hb hby d_jdk_43_method_47_20) (fun _ _ => ⟨rfl, rfl, (by decide : 2 + 0 ≤ _), (by decide : 20 + 0 ≤ _)⟩)
  dsimp only [Pt.U, Pt.locs, Pt.cells, Pt.slots] at X295 l295 y295 z295 st295 hQ295
  subst l295 y295 z295
  obtain ⟨rfl, N295q, K295, f295_0, f295_1, f295_2⟩ := hQ295
  have N295 := Fr.app N291 N295q
  have z295 : T291.heap.size ≤ T295.heap.size := K295.1
  have lt295_0 : @LT.lt Nat _ b288 T295.heap.size := f295_0.lt
  have lt295_1 : @LT.lt Nat _ b288 T295.heap.size := f295_1.lt
  have lt295_2 : @LT.lt Nat _ b288 T295.heap.size := f295_2.lt
  refine own_Go.tr st295 ?_
  show own_Go _ _ _ _ (T295.setTop (mkF m 23 #[.val (.ref a1), .val (.int (Int32.ofNat i)), .val (.int (Int32.ofNat mm))] [(.ref b288)]))
  obtain ⟨fs300, hr300, hrun300, hend300, hW300, hsm300⟩ := X295.leave (v := some (.ref b288)) (fun h => by rw [Bd.returns] at h; cases h)
  have ne301 : @Ne Nat b288 x_291 := Exa.neArv f296 f294 (hw _ (List.mem_of_getElem? (i := 5) rfl))
  have f302 : Arv Z T295.heap x_291 kx_291 .byte (Int32.ofNat ((cs.drop i).take mm).length) (own_low ((cs.drop i).take mm)) (.int (0 : Int32)) := f294.keep K295 (ninS (Ne.symm ne301) nin0)
  have K303 : Keep h0 h288 [] := (Keep.refl h0 []).ext E288
  have K304 : Keep h0 T291.heap [] := K303.trans K291 all0
  have K305 : Keep h0 T295.heap [] := K304.trans K295 (allS (Or.inr (by omega)) all0)
  subst hPP
  refine ⟨_, _, own_retA X295 hx Bd.returns rfl rfl (hb hby d_jdk_43_method_47_23) hr300, hrun300, hend300, _, _, rfl, ?_, ⟨_, rfl⟩, hW300, hsm300.mono (by decide) (by decide)⟩
  · show Q_newStr Z _ _ _ _ _ _ _ h0 _ T295.heap _
    exact ⟨b288, x_291, rfl, N295, K305, (own_Str.mkL f295_0 f295_1 f295_2 f302 (own_latT hlc) (by rw [own_subl him]; omega)), (by omega), (by omega)⟩
theorem d_jdk_42_method_92_0 : decode jdk_42_method_92_code 0 = .ok (.aload_n 0, 1) := by decide +kernel
theorem d_jdk_42_method_92_1 : decode jdk_42_method_92_code 1 = .ok (.invokevirtual 505, 3) := by decide +kernel
theorem d_jdk_42_method_92_4 : decode jdk_42_method_92_code 4 = .ok (.istore_n 3, 1) := by decide +kernel
theorem d_jdk_42_method_92_5 : decode jdk_42_method_92_code 5 = .ok (.iload_n 1, 1) := by decide +kernel
theorem d_jdk_42_method_92_6 : decode jdk_42_method_92_code 6 = .ok (.iload_n 2, 1) := by decide +kernel
theorem d_jdk_42_method_92_7 : decode jdk_42_method_92_code 7 = .ok (.iload_n 3, 1) := by decide +kernel
theorem pd_285 : parseMethodDescriptor "(III)V" = some ⟨[.int, .int, .int], none⟩ := by decide +kernel
theorem d_jdk_42_method_92_8 : decode jdk_42_method_92_code 8 = .ok (.invokestatic 521, 3) := by decide +kernel
theorem d_jdk_42_method_92_11 : decode jdk_42_method_92_code 11 = .ok (.iload_n 1, 1) := by decide +kernel
theorem d_jdk_42_method_92_12 : decode jdk_42_method_92_code 12 = .ok (.ifCond .ne 10, 3) := by decide +kernel
theorem d_jdk_42_method_92_15 : decode jdk_42_method_92_code 15 = .ok (.iload_n 2, 1) := by decide +kernel
theorem d_jdk_42_method_92_16 : decode jdk_42_method_92_code 16 = .ok (.iload_n 3, 1) := by decide +kernel
theorem d_jdk_42_method_92_17 : decode jdk_42_method_92_code 17 = .ok (.if_icmp .ne 5, 3) := by decide +kernel
theorem d_jdk_42_method_92_22 : decode jdk_42_method_92_code 22 = .ok (.iload_n 2, 1) := by decide +kernel
theorem d_jdk_42_method_92_23 : decode jdk_42_method_92_code 23 = .ok (.iload_n 1, 1) := by decide +kernel
theorem d_jdk_42_method_92_24 : decode jdk_42_method_92_code 24 = .ok (.isub, 1) := by decide +kernel
theorem d_jdk_42_method_92_25 : decode jdk_42_method_92_code 25 = .ok (.istore 4, 2) := by decide +kernel
theorem d_jdk_42_method_92_27 : decode jdk_42_method_92_code 27 = .ok (.aload_n 0, 1) := by decide +kernel
theorem d_jdk_42_method_92_28 : decode jdk_42_method_92_code 28 = .ok (.invokevirtual 492, 3) := by decide +kernel
theorem d_jdk_42_method_92_31 : decode jdk_42_method_92_code 31 = .ok (.ifCond .eq 16, 3) := by decide +kernel
theorem d_jdk_42_method_92_34 : decode jdk_42_method_92_code 34 = .ok (.aload_n 0, 1) := by decide +kernel
theorem d_jdk_42_method_92_35 : decode jdk_42_method_92_code 35 = .ok (.getfield 9, 3) := by decide +kernel
theorem d_jdk_42_method_92_38 : decode jdk_42_method_92_code 38 = .ok (.iload_n 1, 1) := by decide +kernel
theorem d_jdk_42_method_92_39 : decode jdk_42_method_92_code 39 = .ok (.iload 4, 2) := by decide +kernel
theorem pd_303 : parseMethodDescriptor "([BII)Ljava/lang/String;" = some ⟨[(.array .byte), .int, .int], some (.object "java/lang/String")⟩ := by decide +kernel
theorem d_jdk_42_method_92_41 : decode jdk_42_method_92_code 41 = .ok (.invokestatic 685, 3) := by decide +kernel
theorem d_jdk_42_method_92_44 : decode jdk_42_method_92_code 44 = .ok (.goto 13, 3) := by decide +kernel
theorem d_jdk_42_method_92_57 : decode jdk_42_method_92_code 57 = .ok (.areturn, 1) := by decide +kernel
def Q_substr (Z : State) (a1 : Nat) (p2 : Int32) (p3 : Int32) (i : Nat) (j : Nat) (t1 : Nat) (cs : List Int32) (zc : Int32) (fm : Value) (h0 : Heap) (v : Option Value) (h : Heap) (L : List Loc) : Prop := ∃ (x : Nat), ∃ (t : Nat), v = some (.ref x) ∧ Fr Z.heap.size L ∧ Keep h0 h [] ∧ own_Str Z h x t ((cs.drop i).take (j - i)) ∧ (h0.size ≤ x) ∧ (h0.size ≤ t)
set_option maxRecDepth 65536 in
set_option maxHeartbeats 40000000 in
theorem rm_substr (l : Launch) (Z : State) (a0 : Array Value) (hw : ∀ d ∈ tables_1, d.before a0 Z = true) (ws : List Jvm.Cond) (a1 : Nat) (p2 : Int32) (p3 : Int32) (i : Nat) (j : Nat) (t1 : Nat) (cs : List Int32) (zc : Int32) (fm : Value) (h0 : Heap) (OL : Old Z Z.heap.size h0) (p0_ : own_Str Z h0 a1 t1 cs) (st_COMPACT_STRINGS : Sta Z Z.heap "java/lang/String" "COMPACT_STRINGS" "Z" (.int zc)) (st_SIOOBE_FORMATTER : Sta Z Z.heap "jdk/internal/util/Preconditions" "SIOOBE_FORMATTER" "Ljava/util/function/BiFunction;" fm) (hzc : ¬ zc = 0) (hfm : fm.isRef = true) (hp2 : p2 = Int32.ofNat i) (hp3 : p3 = Int32.ofNat j) (hij : i < j) (hj : j ≤ cs.length) (hnw : ¬ (i = 0 ∧ j = cs.length)) (hcs : cs.length ≤ 100) (hmx : j - i ≤ 16) (hlc : ∀ c ∈ cs, ¬ c < 0 ∧ ¬ (255 : Int32) < c) :
    MetFree l (⟨"java/lang/String", "substring", "(II)Ljava/lang/String;"⟩ : MethodName) (head1 (Jvm.Cond.code (⟨"java/lang/String", "substring", "(II)Ljava/lang/String;"⟩ : MethodName) jdk_42_method_92_code 5 (some (.object "java/lang/String")) :: ws) ({ frames := 4, cells := 2, slots := 20, locals := 88 } : Room)) (fun a U => a = #[(.ref a1), (.int p2), (.int p3)] ∧ Z.Warmed39 U.vm ∧ U.heap = h0) (fun _ _ _ _ _ => True) (fun _ U o U' => ∃ v L, o = .returned v ∧ Q_substr Z a1 p2 p3 i j t1 cs zc fm h0 v U'.heap L ∧ FrameEnd U o U' L ({ frames := 4, cells := 2, slots := 20, locals := 88 } : Room).cells ({ frames := 4, cells := 2, slots := 20, locals := 88 } : Room).slots) := by
  refine MetFree.of_bodySF (plainFor_of_name pn_22) hisR ?_
  intro p e s m args below meth c s₁ Bd hml0 hP hK
  obtain ⟨rfl, hZ, hh⟩ := hP
  have hx := Bd.exec
  have hby := Bd.bytes
  have hml : c.maxLocals = 5 := hml0
  have hown : s.vm.findClass "java/lang/String" = some m.cls := findClass_of_methodNamed Bd.named
  have hnm := (name_of_methodNamed Bd.named Bd.method).1
  have X0 : Stand p l e ({ frames := 4, cells := 2, slots := 20, locals := 88 } : Room) s m #[(.ref a1), (.int p2), (.int p3)] below meth c s₁ [] 0 0 := Stand.of_body Bd
  have e0 : s₁.heap = h0 := by rw [← hh, Bd.state]; rfl
  have N0 := Fr.nil Z.heap.size
  have Z0 : Z.heap.size ≤ h0.size := OL.2.1
  have lt_0 : @LT.lt Nat _ a1 h0.size := p0_.lt
  have ltv_0 : @LT.lt Nat _ t1 h0.size := p0_.ltv
  obtain ⟨PP, hPP⟩ : ∃ PP : Outcome → State → Prop, PP = (fun o tE => ∃ v L, o = .returned v ∧ Q_substr Z a1 p2 p3 i j t1 cs zc fm h0 v tE.heap L ∧ FrameEnd s o tE L ({ frames := 4, cells := 2, slots := 20, locals := 88 } : Room).cells ({ frames := 4, cells := 2, slots := 20, locals := 88 } : Room).slots) := ⟨_, rfl⟩
  show own_Go p.tables e below (fun o tE => ∃ v L, o = .returned v ∧ Q_substr Z a1 p2 p3 i j t1 cs zc fm h0 v tE.heap L ∧ FrameEnd s o tE L ({ frames := 4, cells := 2, slots := 20, locals := 88 } : Room).cells ({ frames := 4, cells := 2, slots := 20, locals := 88 } : Room).slots) (s₁.setTop (entryFrame m #[(.ref a1), (.int p2), (.int p3)] 5))
  rw [← hPP]
  refine own_Go.st (fun t k => castTop (ef_148 m a1 p2 p3) k) ?_
  subst hp2 hp3
  obtain ⟨kb306, s1306, s2306, s3306, s4306⟩ := own_Str.latF p0_ (fun c q => (hlc c q).2)
  show own_Go _ _ _ _ (s₁.setTop (mkF m 0 #[.val (.ref a1), .val (.int (Int32.ofNat i)), .val (.int (Int32.ofNat j)), .unset, .unset] []))
  refine own_Go.st (fun _ k => XS.aloadN X0.here hx rfl (hb hby d_jdk_42_method_92_0) rfl rfl k) ?_
  show own_Go _ _ _ _ (s₁.setTop (mkF m 1 #[.val (.ref a1), .val (.int (Int32.ofNat i)), .val (.int (Int32.ofNat j)), .unset, .unset] [(.ref a1)]))
  obtain ⟨kb308, cd308, N308_, vs308, s1308, s2308, s3308, s4308, s5308, s6308, s7308⟩ := id p0_
  obtain ⟨cq307, kq307, q307a, q307b, q307c⟩ := isOf hZ e0 s1306
  obtain ⟨_, _, ⟨T307, L307, k307, n307⟩, -, X307, ⟨Lc307, hQ307, l307, y307, z307⟩, st307⟩ := X0.virtualBack hx (y := (⟨"java/lang/String", "length", "()I"⟩ : MethodName)) (z := (⟨"java/lang/String", "length", "()I"⟩ : MethodName)) hown (mvT hZ (hw _ (List.mem_of_getElem? (i := 71) rfl))) (mvT hZ (hw _ (List.mem_of_getElem? (i := 57) rfl))) (notFace_of_selects (args := #[]) (mvT hZ (hw _ (List.mem_of_getElem? (i := 59) rfl)))) (mvT hZ (hw _ (List.mem_of_getElem? (i := 59) rfl))) (mvT hZ (hw _ (List.mem_of_getElem? (i := 58) rfl))) (by decide) (StrChars.Road.lenW (W := 0) hZ (own_hln hw) (kI := 4) (hw _ (List.mem_of_getElem? (i := 5) rfl)) s1308 s2308 s3308 s4308 s5308 s6308 (st_COMPACT_STRINGS.ext OL.2) hzc s7308 (by decide) (by decide)) q307a q307c (g := (mkF m 1 #[.val (.ref a1), .val (.int (Int32.ofNat i)), .val (.int (Int32.ofNat j)), .unset, .unset] [(.ref a1)])) rfl (by rw [hml]; rfl) (Steps.refl _) (argsL := []) (rest := []) (lenOf pd_88 rfl) rfl (by show 2 * 0 + _ ≤ _; exact Nat.le_of_eq rfl) (hb hby d_jdk_42_method_92_1) (fun _ _ => ⟨rfl, e0, (by decide : 0 + 0 ≤ _), (by decide : 0 + 0 ≤ _)⟩)
  dsimp only [Pt.U, Pt.locs, Pt.cells, Pt.slots] at X307 l307 y307 z307 st307 hQ307
  subst l307 y307 z307
  obtain ⟨rfl, rfl, K307⟩ := hQ307
  have N307 := Fr.app N0 (Fr.nil Z.heap.size)
  refine own_Go.tr st307 ?_
  show own_Go _ _ _ _ (T307.setTop (mkF m 4 #[.val (.ref a1), .val (.int (Int32.ofNat i)), .val (.int (Int32.ofNat j)), .unset, .unset] [(.int (Int32.ofNat cs.length))]))
  refine own_Go.st (fun _ k => XS.istoreN X307.here hx rfl (hb hby d_jdk_42_method_92_4) rfl (l' := #[.val (.ref a1), .val (.int (Int32.ofNat i)), .val (.int (Int32.ofNat j)), .val (.int (Int32.ofNat cs.length)), .unset]) rfl k) ?_
  show own_Go _ _ _ _ (T307.setTop (mkF m 5 #[.val (.ref a1), .val (.int (Int32.ofNat i)), .val (.int (Int32.ofNat j)), .val (.int (Int32.ofNat cs.length)), .unset] []))
  refine own_Go.st (fun _ k => XS.iloadN X307.here hx rfl (hb hby d_jdk_42_method_92_5) rfl k) ?_
  show own_Go _ _ _ _ (T307.setTop (mkF m 6 #[.val (.ref a1), .val (.int (Int32.ofNat i)), .val (.int (Int32.ofNat j)), .val (.int (Int32.ofNat cs.length)), .unset] [(.int (Int32.ofNat i))]))
  refine own_Go.st (fun _ k => XS.iloadN X307.here hx rfl (hb hby d_jdk_42_method_92_6) rfl k) ?_
  show own_Go _ _ _ _ (T307.setTop (mkF m 7 #[.val (.ref a1), .val (.int (Int32.ofNat i)), .val (.int (Int32.ofNat j)), .val (.int (Int32.ofNat cs.length)), .unset] [(.int (Int32.ofNat j)), (.int (Int32.ofNat i))]))
  refine own_Go.st (fun _ k => XS.iloadN X307.here hx rfl (hb hby d_jdk_42_method_92_7) rfl k) ?_
  show own_Go _ _ _ _ (T307.setTop (mkF m 8 #[.val (.ref a1), .val (.int (Int32.ofNat i)), .val (.int (Int32.ofNat j)), .val (.int (Int32.ofNat cs.length)), .unset] [(.int (Int32.ofNat cs.length)), (.int (Int32.ofNat j)), (.int (Int32.ofNat i))]))
  obtain ⟨_, _, ⟨T309, L309, k309, n309⟩, -, X309, ⟨Lc309, hQ309, l309, y309, z309⟩, st309⟩ := Jvm.LawKit.callS X307 hx (y := (⟨"java/lang/String", "checkBoundsBeginEnd", "(III)V"⟩ : MethodName)) hown (mvT hZ (hw _ (List.mem_of_getElem? (i := 72) rfl))) (mvT hZ (hw _ (List.mem_of_getElem? (i := 73) rfl))) (mvT hZ (hw _ (List.mem_of_getElem? (i := 6) rfl))) (mvT hZ (hw _ (List.mem_of_getElem? (i := 74) rfl))) (by decide) (backOf (W := 0) (rm_cbbe l Z a0 hw [] (Int32.ofNat i) (Int32.ofNat j) (Int32.ofNat cs.length) fm h0 OL st_SIOOBE_FORMATTER (own_of0 (by omega)) (by rw [own_oflt (by omega) (by omega)]; omega) (by rw [own_oflt (by omega) (by omega)]; omega) (by first | assumption | decide)) hZ (hw _ (List.mem_of_getElem? (i := 74) rfl)) (hw _ (List.mem_of_getElem? (i := 6) rfl)) (by decide) (by decide)) (g := (mkF m 8 #[.val (.ref a1), .val (.int (Int32.ofNat i)), .val (.int (Int32.ofNat j)), .val (.int (Int32.ofNat cs.length)), .unset] [(.int (Int32.ofNat cs.length)), (.int (Int32.ofNat j)), (.int (Int32.ofNat i))])) rfl (by rw [hml]; rfl) (argsL := [(.int (Int32.ofNat i)), (.int (Int32.ofNat j)), (.int (Int32.ofNat cs.length))]) (rest := []) (lenOf pd_285 rfl) rfl (by show 2 * 0 + _ ≤ _; exact Nat.le_of_eq rfl) (hb hby d_jdk_42_method_92_8) (fun _ _ => ⟨rfl, K307, (by decide : 0 + 0 ≤ _), (by decide : 0 + 0 ≤ _)⟩)
  dsimp only [Pt.U, Pt.locs, Pt.cells, Pt.slots] at X309 l309 y309 z309 st309 hQ309
  subst l309 y309 z309
  obtain ⟨rfl, N309q, K309⟩ := hQ309
  have N309 := Fr.app N307 N309q
  refine own_Go.st st309 ?_
  show own_Go _ _ _ _ (T309.setTop (mkF m 11 #[.val (.ref a1), .val (.int (Int32.ofNat i)), .val (.int (Int32.ofNat j)), .val (.int (Int32.ofNat cs.length)), .unset] []))
  refine own_Go.st (fun _ k => XS.iloadN X309.here hx rfl (hb hby d_jdk_42_method_92_11) rfl k) ?_
  show own_Go _ _ _ _ (T309.setTop (mkF m 12 #[.val (.ref a1), .val (.int (Int32.ofNat i)), .val (.int (Int32.ofNat j)), .val (.int (Int32.ofNat cs.length)), .unset] [(.int (Int32.ofNat i))]))
  by_cases h12 : (Int32.ofNat i) = (0 : Int32)
  ·
    refine own_Go.st (fun _ k => XS.ifNo X309.here hx rfl (hb hby d_jdk_42_method_92_12) rfl ((if0 _ _).trans (teq h12).2) k) ?_
    show own_Go _ _ _ _ (T309.setTop (mkF m 15 #[.val (.ref a1), .val (.int (Int32.ofNat i)), .val (.int (Int32.ofNat j)), .val (.int (Int32.ofNat cs.length)), .unset] []))
    refine own_Go.st (fun _ k => XS.iloadN X309.here hx rfl (hb hby d_jdk_42_method_92_15) rfl k) ?_
    show own_Go _ _ _ _ (T309.setTop (mkF m 16 #[.val (.ref a1), .val (.int (Int32.ofNat i)), .val (.int (Int32.ofNat j)), .val (.int (Int32.ofNat cs.length)), .unset] [(.int (Int32.ofNat j))]))
    refine own_Go.st (fun _ k => XS.iloadN X309.here hx rfl (hb hby d_jdk_42_method_92_16) rfl k) ?_
    show own_Go _ _ _ _ (T309.setTop (mkF m 17 #[.val (.ref a1), .val (.int (Int32.ofNat i)), .val (.int (Int32.ofNat j)), .val (.int (Int32.ofNat cs.length)), .unset] [(.int (Int32.ofNat cs.length)), (.int (Int32.ofNat j))]))
    have hc310 : ¬ ((Int32.ofNat j) = (Int32.ofNat cs.length)) := fun q => hnw ⟨(own_ofE (by omega) (by omega)).mp h12, (own_ofE (by omega) (by omega)).mp q⟩
    refine own_Go.st (fun _ k => XS.icmpYes X309.here hx rfl (pc0 := 17) (pc' := 22) rfl (hb hby d_jdk_42_method_92_17) rfl (feq hc310).2 (by decide) (by decide) k) ?_
    show own_Go _ _ _ _ (T309.setTop (mkF m 22 #[.val (.ref a1), .val (.int (Int32.ofNat i)), .val (.int (Int32.ofNat j)), .val (.int (Int32.ofNat cs.length)), .unset] []))
    refine own_Go.st (fun _ k => XS.iloadN X309.here hx rfl (hb hby d_jdk_42_method_92_22) rfl k) ?_
    show own_Go _ _ _ _ (T309.setTop (mkF m 23 #[.val (.ref a1), .val (.int (Int32.ofNat i)), .val (.int (Int32.ofNat j)), .val (.int (Int32.ofNat cs.length)), .unset] [(.int (Int32.ofNat j))]))
    refine own_Go.st (fun _ k => XS.iloadN X309.here hx rfl (hb hby d_jdk_42_method_92_23) rfl k) ?_
    show own_Go _ _ _ _ (T309.setTop (mkF m 24 #[.val (.ref a1), .val (.int (Int32.ofNat i)), .val (.int (Int32.ofNat j)), .val (.int (Int32.ofNat cs.length)), .unset] [(.int (Int32.ofNat i)), (.int (Int32.ofNat j))]))
    refine own_Go.st (fun _ k => XS.isub X309.here hx rfl (hb hby d_jdk_42_method_92_24) rfl k) ?_
    show own_Go _ _ _ _ (T309.setTop (mkF m 25 #[.val (.ref a1), .val (.int (Int32.ofNat i)), .val (.int (Int32.ofNat j)), .val (.int (Int32.ofNat cs.length)), .unset] [(.int ((Int32.ofNat j) - (Int32.ofNat i)))]))
    rw [own_ofB (by omega) (by omega)]
    show own_Go _ _ _ _ (T309.setTop (mkF m 25 #[.val (.ref a1), .val (.int (Int32.ofNat i)), .val (.int (Int32.ofNat j)), .val (.int (Int32.ofNat cs.length)), .unset] [(.int (Int32.ofNat (j - i)))]))
    refine own_Go.st (fun _ k => XS.istore X309.here hx rfl (hb hby d_jdk_42_method_92_25) rfl (l' := #[.val (.ref a1), .val (.int (Int32.ofNat i)), .val (.int (Int32.ofNat j)), .val (.int (Int32.ofNat cs.length)), .val (.int (Int32.ofNat (j - i)))]) rfl k) ?_
    show own_Go _ _ _ _ (T309.setTop (mkF m 27 #[.val (.ref a1), .val (.int (Int32.ofNat i)), .val (.int (Int32.ofNat j)), .val (.int (Int32.ofNat cs.length)), .val (.int (Int32.ofNat (j - i)))] []))
    refine own_Go.st (fun _ k => XS.aloadN X309.here hx rfl (hb hby d_jdk_42_method_92_27) rfl rfl k) ?_
    show own_Go _ _ _ _ (T309.setTop (mkF m 28 #[.val (.ref a1), .val (.int (Int32.ofNat i)), .val (.int (Int32.ofNat j)), .val (.int (Int32.ofNat cs.length)), .val (.int (Int32.ofNat (j - i)))] [(.ref a1)]))
    obtain ⟨cq311, kq311, q311a, q311b, q311c⟩ := isOf hZ K309 s1306
    obtain ⟨_, _, ⟨T311, L311, k311, n311⟩, -, X311, ⟨Lc311, hQ311, l311, y311, z311⟩, st311⟩ := X309.virtualBack hx (y := (⟨"java/lang/String", "isLatin1", "()Z"⟩ : MethodName)) (z := (⟨"java/lang/String", "isLatin1", "()Z"⟩ : MethodName)) hown (mvT hZ (hw _ (List.mem_of_getElem? (i := 80) rfl))) (mvT hZ (hw _ (List.mem_of_getElem? (i := 81) rfl))) (notFace_of_selects (args := #[]) (mvT hZ (hw _ (List.mem_of_getElem? (i := 83) rfl)))) (mvT hZ (hw _ (List.mem_of_getElem? (i := 83) rfl))) (mvT hZ (hw _ (List.mem_of_getElem? (i := 82) rfl))) (by decide) (backOf (W := 0) (rm_isl1 l Z a0 hw [] a1 (0 : Int32) zc h0 OL s3306 st_COMPACT_STRINGS (by first | assumption | decide)) hZ (hw _ (List.mem_of_getElem? (i := 84) rfl)) (hw _ (List.mem_of_getElem? (i := 6) rfl)) (by decide) (by decide)) q311a q311c (g := (mkF m 28 #[.val (.ref a1), .val (.int (Int32.ofNat i)), .val (.int (Int32.ofNat j)), .val (.int (Int32.ofNat cs.length)), .val (.int (Int32.ofNat (j - i)))] [(.ref a1)])) rfl (by rw [hml]; rfl) (Steps.refl _) (argsL := []) (rest := []) (lenOf pd_198 rfl) rfl (by show 2 * 0 + _ ≤ _; exact Nat.le_of_eq rfl) (hb hby d_jdk_42_method_92_28) (fun _ _ => ⟨rfl, K309, (by decide : 0 + 0 ≤ _), (by decide : 0 + 0 ≤ _)⟩)
    dsimp only [Pt.U, Pt.locs, Pt.cells, Pt.slots] at X311 l311 y311 z311 st311 hQ311
    subst l311 y311 z311
    obtain ⟨rfl, N311q, K311⟩ := hQ311
    have N311 := Fr.app N309 N311q
    refine own_Go.tr st311 ?_
    show own_Go _ _ _ _ (T311.setTop (mkF m 31 #[.val (.ref a1), .val (.int (Int32.ofNat i)), .val (.int (Int32.ofNat j)), .val (.int (Int32.ofNat cs.length)), .val (.int (Int32.ofNat (j - i)))] [(.int (if (0 : Int32) = 0 then (1 : Int32) else 0))]))
    have hc312 : ¬ ((if (0 : Int32) = 0 then (1 : Int32) else 0) = (0 : Int32)) := by decide
    refine own_Go.st (fun _ k => XS.ifNo X311.here hx rfl (hb hby d_jdk_42_method_92_31) rfl ((if0 _ _).trans (feq hc312).1) k) ?_
    show own_Go _ _ _ _ (T311.setTop (mkF m 34 #[.val (.ref a1), .val (.int (Int32.ofNat i)), .val (.int (Int32.ofNat j)), .val (.int (Int32.ofNat cs.length)), .val (.int (Int32.ofNat (j - i)))] []))
    refine own_Go.st (fun _ k => XS.aloadN X311.here hx rfl (hb hby d_jdk_42_method_92_34) rfl rfl k) ?_
    show own_Go _ _ _ _ (T311.setTop (mkF m 35 #[.val (.ref a1), .val (.int (Int32.ofNat i)), .val (.int (Int32.ofNat j)), .val (.int (Int32.ofNat cs.length)), .val (.int (Int32.ofNat (j - i)))] [(.ref a1)]))
    obtain ⟨T313, X313, e313, st313⟩ := getF X311 hx hZ hown (host := "") (Or.inl (hw _ (List.mem_of_getElem? (i := 32) rfl))) Via.refl K311 s2306 (g := (mkF m 35 #[.val (.ref a1), .val (.int (Int32.ofNat i)), .val (.int (Int32.ofNat j)), .val (.int (Int32.ofNat cs.length)), .val (.int (Int32.ofNat (j - i)))] [(.ref a1)])) rfl rfl (hb hby d_jdk_42_method_92_35)
    refine own_Go.st st313 ?_
    show own_Go _ _ _ _ (T313.setTop (mkF m 38 #[.val (.ref a1), .val (.int (Int32.ofNat i)), .val (.int (Int32.ofNat j)), .val (.int (Int32.ofNat cs.length)), .val (.int (Int32.ofNat (j - i)))] [(.ref t1)]))
    refine own_Go.st (fun _ k => XS.iloadN X313.here hx rfl (hb hby d_jdk_42_method_92_38) rfl k) ?_
    show own_Go _ _ _ _ (T313.setTop (mkF m 39 #[.val (.ref a1), .val (.int (Int32.ofNat i)), .val (.int (Int32.ofNat j)), .val (.int (Int32.ofNat cs.length)), .val (.int (Int32.ofNat (j - i)))] [(.int (Int32.ofNat i)), (.ref t1)]))
    refine own_Go.st (fun _ k => XS.iload X313.here hx rfl (hb hby d_jdk_42_method_92_39) rfl k) ?_
    show own_Go _ _ _ _ (T313.setTop (mkF m 41 #[.val (.ref a1), .val (.int (Int32.ofNat i)), .val (.int (Int32.ofNat j)), .val (.int (Int32.ofNat cs.length)), .val (.int (Int32.ofNat (j - i)))] [(.int (Int32.ofNat (j - i))), (.int (Int32.ofNat i)), (.ref t1)]))
    obtain ⟨_, _, ⟨T314, L314, k314, n314⟩, -, X314, ⟨Lc314, hQ314, l314, y314, z314⟩, st314⟩ := Jvm.LawKit.callS X313 hx (y := (⟨"java/lang/StringLatin1", "newString", "([BII)Ljava/lang/String;"⟩ : MethodName)) hown (mvT hZ (hw _ (List.mem_of_getElem? (i := 85) rfl))) (mvT hZ (hw _ (List.mem_of_getElem? (i := 86) rfl))) (mvT hZ (hw _ (List.mem_of_getElem? (i := 87) rfl))) (mvT hZ (hw _ (List.mem_of_getElem? (i := 88) rfl))) (by decide) (backOf (W := 0) (rm_newStr l Z a0 hw [] t1 (Int32.ofNat i) (Int32.ofNat (j - i)) i (j - i) cs kb306 h0 OL s4306 rfl rfl (by omega) (by omega) (fun q => hnw ⟨q.1, by omega⟩) (by first | assumption | decide) (by first | assumption | decide) (by first | assumption | decide)) hZ (hw _ (List.mem_of_getElem? (i := 88) rfl)) (hw _ (List.mem_of_getElem? (i := 87) rfl)) (by decide) (by decide)) (g := (mkF m 41 #[.val (.ref a1), .val (.int (Int32.ofNat i)), .val (.int (Int32.ofNat j)), .val (.int (Int32.ofNat cs.length)), .val (.int (Int32.ofNat (j - i)))] [(.int (Int32.ofNat (j - i))), (.int (Int32.ofNat i)), (.ref t1)])) rfl (by rw [hml]; rfl) (argsL := [(.ref t1), (.int (Int32.ofNat i)), (.int (Int32.ofNat (j - i)))]) (rest := []) (lenOf pd_303 rfl) rfl (by show 2 * 0 + _ ≤ _; exact Nat.le_of_eq rfl) (hb hby d_jdk_42_method_92_41) (fun _ _ => ⟨rfl, e313, (by decide : 0 + 2 ≤ _), (by decide : 0 + 20 ≤ _)⟩)
    dsimp only [Pt.U, Pt.locs, Pt.cells, Pt.slots] at X314 l314 y314 z314 st314 hQ314
    subst l314 y314 z314
    obtain ⟨x_314, t_314, rfl, N314q, K314, f314_0, pr314_0, pr314_1⟩ := hQ314
    have N314 := Fr.app N311 N314q
    have z314 : h0.size ≤ T314.heap.size := K314.1
    have lt314_0 : @LT.lt Nat _ x_314 T314.heap.size := f314_0.lt
    have ltv314_0 : @LT.lt Nat _ t_314 T314.heap.size := f314_0.ltv
    refine own_Go.st st314 ?_
    show own_Go _ _ _ _ (T314.setTop (mkF m 44 #[.val (.ref a1), .val (.int (Int32.ofNat i)), .val (.int (Int32.ofNat j)), .val (.int (Int32.ofNat cs.length)), .val (.int (Int32.ofNat (j - i)))] [(.ref x_314)]))
    refine own_Go.st (fun _ k => XS.goto X314.here hx rfl (pc0 := 44) (pc' := 57) rfl (hb hby d_jdk_42_method_92_44) (by decide) (by decide) k) ?_
    show own_Go _ _ _ _ (T314.setTop (mkF m 57 #[.val (.ref a1), .val (.int (Int32.ofNat i)), .val (.int (Int32.ofNat j)), .val (.int (Int32.ofNat cs.length)), .val (.int (Int32.ofNat (j - i)))] [(.ref x_314)]))
    obtain ⟨fs315, hr315, hrun315, hend315, hW315, hsm315⟩ := X314.leave (v := some (.ref x_314)) (fun h => by rw [Bd.returns] at h; cases h)
    have K316 : Keep h0 T314.heap [] := (Keep.refl h0 []).trans K314 all0
    subst hPP
    refine ⟨_, _, own_retA X314 hx Bd.returns rfl rfl (hb hby d_jdk_42_method_92_57) hr315, hrun315, hend315, _, _, rfl, ?_, ⟨_, rfl⟩, hW315, hsm315.mono (by decide) (by decide)⟩
    · show Q_substr Z _ _ _ _ _ _ _ _ _ h0 _ T314.heap _
      exact ⟨x_314, t_314, rfl, N314, K316, f314_0, (by omega), (by omega)⟩
  ·
    refine own_Go.st (fun _ k => XS.ifYes X309.here hx rfl (pc0 := 12) (pc' := 22) rfl (hb hby d_jdk_42_method_92_12) rfl ((if0 _ _).trans (feq h12).2) (by decide) (by decide) k) ?_
    show own_Go _ _ _ _ (T309.setTop (mkF m 22 #[.val (.ref a1), .val (.int (Int32.ofNat i)), .val (.int (Int32.ofNat j)), .val (.int (Int32.ofNat cs.length)), .unset] []))
    refine own_Go.st (fun _ k => XS.iloadN X309.here hx rfl (hb hby d_jdk_42_method_92_22) rfl k) ?_
    show own_Go _ _ _ _ (T309.setTop (mkF m 23 #[.val (.ref a1), .val (.int (Int32.ofNat i)), .val (.int (Int32.ofNat j)), .val (.int (Int32.ofNat cs.length)), .unset] [(.int (Int32.ofNat j))]))
    refine own_Go.st (fun _ k => XS.iloadN X309.here hx rfl (hb hby d_jdk_42_method_92_23) rfl k) ?_
    show own_Go _ _ _ _ (T309.setTop (mkF m 24 #[.val (.ref a1), .val (.int (Int32.ofNat i)), .val (.int (Int32.ofNat j)), .val (.int (Int32.ofNat cs.length)), .unset] [(.int (Int32.ofNat i)), (.int (Int32.ofNat j))]))
    refine own_Go.st (fun _ k => XS.isub X309.here hx rfl (hb hby d_jdk_42_method_92_24) rfl k) ?_
    show own_Go _ _ _ _ (T309.setTop (mkF m 25 #[.val (.ref a1), .val (.int (Int32.ofNat i)), .val (.int (Int32.ofNat j)), .val (.int (Int32.ofNat cs.length)), .unset] [(.int ((Int32.ofNat j) - (Int32.ofNat i)))]))
    rw [own_ofB (by omega) (by omega)]
    show own_Go _ _ _ _ (T309.setTop (mkF m 25 #[.val (.ref a1), .val (.int (Int32.ofNat i)), .val (.int (Int32.ofNat j)), .val (.int (Int32.ofNat cs.length)), .unset] [(.int (Int32.ofNat (j - i)))]))
    refine own_Go.st (fun _ k => XS.istore X309.here hx rfl (hb hby d_jdk_42_method_92_25) rfl (l' := #[.val (.ref a1), .val (.int (Int32.ofNat i)), .val (.int (Int32.ofNat j)), .val (.int (Int32.ofNat cs.length)), .val (.int (Int32.ofNat (j - i)))]) rfl k) ?_
    show own_Go _ _ _ _ (T309.setTop (mkF m 27 #[.val (.ref a1), .val (.int (Int32.ofNat i)), .val (.int (Int32.ofNat j)), .val (.int (Int32.ofNat cs.length)), .val (.int (Int32.ofNat (j - i)))] []))
    refine own_Go.st (fun _ k => XS.aloadN X309.here hx rfl (hb hby d_jdk_42_method_92_27) rfl rfl k) ?_
    show own_Go _ _ _ _ (T309.setTop (mkF m 28 #[.val (.ref a1), .val (.int (Int32.ofNat i)), .val (.int (Int32.ofNat j)), .val (.int (Int32.ofNat cs.length)), .val (.int (Int32.ofNat (j - i)))] [(.ref a1)]))
    obtain ⟨cq317, kq317, q317a, q317b, q317c⟩ := isOf hZ K309 s1306
    obtain ⟨_, _, ⟨T317, L317, k317, n317⟩, -, X317, ⟨Lc317, hQ317, l317, y317, z317⟩, st317⟩ := X309.virtualBack hx (y := (⟨"java/lang/String", "isLatin1", "()Z"⟩ : MethodName)) (z := (⟨"java/lang/String", "isLatin1", "()Z"⟩ : MethodName)) hown (mvT hZ (hw _ (List.mem_of_getElem? (i := 80) rfl))) (mvT hZ (hw _ (List.mem_of_getElem? (i := 81) rfl))) (notFace_of_selects (args := #[]) (mvT hZ (hw _ (List.mem_of_getElem? (i := 83) rfl)))) (mvT hZ (hw _ (List.mem_of_getElem? (i := 83) rfl))) (mvT hZ (hw _ (List.mem_of_getElem? (i := 82) rfl))) (by decide) (backOf (W := 0) (rm_isl1 l Z a0 hw [] a1 (0 : Int32) zc h0 OL s3306 st_COMPACT_STRINGS (by first | assumption | decide)) hZ (hw _ (List.mem_of_getElem? (i := 84) rfl)) (hw _ (List.mem_of_getElem? (i := 6) rfl)) (by decide) (by decide)) q317a q317c (g := (mkF m 28 #[.val (.ref a1), .val (.int (Int32.ofNat i)), .val (.int (Int32.ofNat j)), .val (.int (Int32.ofNat cs.length)), .val (.int (Int32.ofNat (j - i)))] [(.ref a1)])) rfl (by rw [hml]; rfl) (Steps.refl _) (argsL := []) (rest := []) (lenOf pd_198 rfl) rfl (by show 2 * 0 + _ ≤ _; exact Nat.le_of_eq rfl) (hb hby d_jdk_42_method_92_28) (fun _ _ => ⟨rfl, K309, (by decide : 0 + 0 ≤ _), (by decide : 0 + 0 ≤ _)⟩)
    dsimp only [Pt.U, Pt.locs, Pt.cells, Pt.slots] at X317 l317 y317 z317 st317 hQ317
    subst l317 y317 z317
    obtain ⟨rfl, N317q, K317⟩ := hQ317
    have N317 := Fr.app N309 N317q
    refine own_Go.tr st317 ?_
    show own_Go _ _ _ _ (T317.setTop (mkF m 31 #[.val (.ref a1), .val (.int (Int32.ofNat i)), .val (.int (Int32.ofNat j)), .val (.int (Int32.ofNat cs.length)), .val (.int (Int32.ofNat (j - i)))] [(.int (if (0 : Int32) = 0 then (1 : Int32) else 0))]))
    have hc318 : ¬ ((if (0 : Int32) = 0 then (1 : Int32) else 0) = (0 : Int32)) := by decide
    refine own_Go.st (fun _ k => XS.ifNo X317.here hx rfl (hb hby d_jdk_42_method_92_31) rfl ((if0 _ _).trans (feq hc318).1) k) ?_
    show own_Go _ _ _ _ (T317.setTop (mkF m 34 #[.val (.ref a1), .val (.int (Int32.ofNat i)), .val (.int (Int32.ofNat j)), .val (.int (Int32.ofNat cs.length)), .val (.int (Int32.ofNat (j - i)))] []))
    refine own_Go.st (fun _ k => XS.aloadN X317.here hx rfl (hb hby d_jdk_42_method_92_34) rfl rfl k) ?_
    show own_Go _ _ _ _ (T317.setTop (mkF m 35 #[.val (.ref a1), .val (.int (Int32.ofNat i)), .val (.int (Int32.ofNat j)), .val (.int (Int32.ofNat cs.length)), .val (.int (Int32.ofNat (j - i)))] [(.ref a1)]))
    obtain ⟨T319, X319, e319, st319⟩ := getF X317 hx hZ hown (host := "") (Or.inl (hw _ (List.mem_of_getElem? (i := 32) rfl))) Via.refl K317 s2306 (g := (mkF m 35 #[.val (.ref a1), .val (.int (Int32.ofNat i)), .val (.int (Int32.ofNat j)), .val (.int (Int32.ofNat cs.length)), .val (.int (Int32.ofNat (j - i)))] [(.ref a1)])) rfl rfl (hb hby d_jdk_42_method_92_35)
    refine own_Go.st st319 ?_
    show own_Go _ _ _ _ (T319.setTop (mkF m 38 #[.val (.ref a1), .val (.int (Int32.ofNat i)), .val (.int (Int32.ofNat j)), .val (.int (Int32.ofNat cs.length)), .val (.int (Int32.ofNat (j - i)))] [(.ref t1)]))
    refine own_Go.st (fun _ k => XS.iloadN X319.here hx rfl (hb hby d_jdk_42_method_92_38) rfl k) ?_
    show own_Go _ _ _ _ (T319.setTop (mkF m 39 #[.val (.ref a1), .val (.int (Int32.ofNat i)), .val (.int (Int32.ofNat j)), .val (.int (Int32.ofNat cs.length)), .val (.int (Int32.ofNat (j - i)))] [(.int (Int32.ofNat i)), (.ref t1)]))
    refine own_Go.st (fun _ k => XS.iload X319.here hx rfl (hb hby d_jdk_42_method_92_39) rfl k) ?_
    show own_Go _ _ _ _ (T319.setTop (mkF m 41 #[.val (.ref a1), .val (.int (Int32.ofNat i)), .val (.int (Int32.ofNat j)), .val (.int (Int32.ofNat cs.length)), .val (.int (Int32.ofNat (j - i)))] [(.int (Int32.ofNat (j - i))), (.int (Int32.ofNat i)), (.ref t1)]))
    obtain ⟨_, _, ⟨T320, L320, k320, n320⟩, -, X320, ⟨Lc320, hQ320, l320, y320, z320⟩, st320⟩ := Jvm.LawKit.callS X319 hx (y := (⟨"java/lang/StringLatin1", "newString", "([BII)Ljava/lang/String;"⟩ : MethodName)) hown (mvT hZ (hw _ (List.mem_of_getElem? (i := 85) rfl))) (mvT hZ (hw _ (List.mem_of_getElem? (i := 86) rfl))) (mvT hZ (hw _ (List.mem_of_getElem? (i := 87) rfl))) (mvT hZ (hw _ (List.mem_of_getElem? (i := 88) rfl))) (by decide) (backOf (W := 0) (rm_newStr l Z a0 hw [] t1 (Int32.ofNat i) (Int32.ofNat (j - i)) i (j - i) cs kb306 h0 OL s4306 rfl rfl (by omega) (by omega) (fun q => hnw ⟨q.1, by omega⟩) (by first | assumption | decide) (by first | assumption | decide) (by first | assumption | decide)) hZ (hw _ (List.mem_of_getElem? (i := 88) rfl)) (hw _ (List.mem_of_getElem? (i := 87) rfl)) (by decide) (by decide)) (g := (mkF m 41 #[.val (.ref a1), .val (.int (Int32.ofNat i)), .val (.int (Int32.ofNat j)), .val (.int (Int32.ofNat cs.length)), .val (.int (Int32.ofNat (j - i)))] [(.int (Int32.ofNat (j - i))), (.int (Int32.ofNat i)), (.ref t1)])) rfl (by rw [hml]; rfl) (argsL := [(.ref t1), (.int (Int32.ofNat i)), (.int (Int32.ofNat (j - i)))]) (rest := []) (lenOf pd_303 rfl) rfl (by show 2 * 0 + _ ≤ _; exact Nat.le_of_eq rfl) (hb hby d_jdk_42_method_92_41) (fun _ _ => ⟨rfl, e319, (by decide : 0 + 2 ≤ _), (by decide : 0 + 20 ≤ _)⟩)
    dsimp only [Pt.U, Pt.locs, Pt.cells, Pt.slots] at X320 l320 y320 z320 st320 hQ320
    subst l320 y320 z320
    obtain ⟨x_320, t_320, rfl, N320q, K320, f320_0, pr320_0, pr320_1⟩ := hQ320
    have N320 := Fr.app N317 N320q
    have z320 : h0.size ≤ T320.heap.size := K320.1
    have lt320_0 : @LT.lt Nat _ x_320 T320.heap.size := f320_0.lt
    have ltv320_0 : @LT.lt Nat _ t_320 T320.heap.size := f320_0.ltv
    refine own_Go.st st320 ?_
    show own_Go _ _ _ _ (T320.setTop (mkF m 44 #[.val (.ref a1), .val (.int (Int32.ofNat i)), .val (.int (Int32.ofNat j)), .val (.int (Int32.ofNat cs.length)), .val (.int (Int32.ofNat (j - i)))] [(.ref x_320)]))
    refine own_Go.st (fun _ k => XS.goto X320.here hx rfl (pc0 := 44) (pc' := 57) rfl (hb hby d_jdk_42_method_92_44) (by decide) (by decide) k) ?_
    show own_Go _ _ _ _ (T320.setTop (mkF m 57 #[.val (.ref a1), .val (.int (Int32.ofNat i)), .val (.int (Int32.ofNat j)), .val (.int (Int32.ofNat cs.length)), .val (.int (Int32.ofNat (j - i)))] [(.ref x_320)]))
    obtain ⟨fs321, hr321, hrun321, hend321, hW321, hsm321⟩ := X320.leave (v := some (.ref x_320)) (fun h => by rw [Bd.returns] at h; cases h)
    have K322 : Keep h0 T320.heap [] := (Keep.refl h0 []).trans K320 all0
    subst hPP
    refine ⟨_, _, own_retA X320 hx Bd.returns rfl rfl (hb hby d_jdk_42_method_92_57) hr321, hrun321, hend321, _, _, rfl, ?_, ⟨_, rfl⟩, hW321, hsm321.mono (by decide) (by decide)⟩
    · show Q_substr Z _ _ _ _ _ _ _ _ _ h0 _ T320.heap _
      exact ⟨x_320, t_320, rfl, N320, K322, f320_0, (by omega), (by omega)⟩

theorem own_ofM {r : Nat} (h1 : 0 < r) (h : r ≤ 4000) : Int32.ofNat r - (1 : Int32) = Int32.ofNat (r - 1) := own_ofB (j := 1) (by omega) (by omega)
theorem own_lat0 : ∀ c ∈ ([] : List Int32), ¬ c < 0 ∧ ¬ (255 : Int32) < c := own_a0
theorem own_at {X Y : List Int32} {n m : Nat} (h : X.length = n) : (X ++ Y).getD (n + m) 0 = Y.getD m 0 := by
  rw [own_appG, if_neg (by omega), h, Nat.add_sub_cancel_left]
theorem own_atL {X Y : List Int32} {i : Nat} (h : i < X.length) : (X ++ Y).getD i 0 = X.getD i 0 := by rw [own_appG, if_pos h]
theorem own_takeG {cs : List Int32} {i n : Nat} (h : i < n) : (cs.take n).getD i 0 = cs.getD i 0 := by
  simp [List.getD_eq_getElem?_getD, List.getElem?_take, h]
theorem own_ch255 (x : Int32) : ¬ ((x &&& (255 : Int32)).toUInt32.toUInt16.toUInt32.toInt32) < 0 ∧ ¬ (255 : Int32) < ((x &&& (255 : Int32)).toUInt32.toUInt16.toUInt32.toInt32) := by
  have h1 := c_mask x 255 8 (by decide) (by decide)
  have h4 := c_i2c (x &&& 255)
  have e2 : (255 : Int32).toInt = 255 := by decide
  have e3 : (0 : Int32).toInt = 0 := by decide
  simp only [Int32.lt_iff_toInt_lt, e2, e3]
  omega

theorem pn_307 : plainName "com/example/net30/net30/http/Gzip" = true := by first | (simp [plainName, overriddenIn]; done) | decide +kernel
theorem d_prog_2_method_5_0 : decode prog_2_method_5_code 0 = .ok (.new 67, 3) := by decide +kernel
theorem d_prog_2_method_5_3 : decode prog_2_method_5_code 3 = .ok (.dup, 1) := by decide +kernel
theorem pd_310 : parseMethodDescriptor "()V" = some ⟨[], none⟩ := by decide +kernel
theorem d_prog_2_method_5_4 : decode prog_2_method_5_code 4 = .ok (.invokespecial 69, 3) := by decide +kernel
theorem d_prog_2_method_5_7 : decode prog_2_method_5_code 7 = .ok (.aload_n 0, 1) := by decide +kernel
theorem d_prog_2_method_5_8 : decode prog_2_method_5_code 8 = .ok (.iconst 0, 1) := by decide +kernel
theorem d_prog_2_method_5_9 : decode prog_2_method_5_code 9 = .ok (.aload_n 0, 1) := by decide +kernel
theorem d_prog_2_method_5_10 : decode prog_2_method_5_code 10 = .ok (.invokevirtual 70, 3) := by decide +kernel
theorem d_prog_2_method_5_13 : decode prog_2_method_5_code 13 = .ok (.iconst 1, 1) := by decide +kernel
theorem d_prog_2_method_5_14 : decode prog_2_method_5_code 14 = .ok (.isub, 1) := by decide +kernel
theorem pd_318 : parseMethodDescriptor "(II)Ljava/lang/String;" = some ⟨[.int, .int], some (.object "java/lang/String")⟩ := by decide +kernel
theorem d_prog_2_method_5_15 : decode prog_2_method_5_code 15 = .ok (.invokevirtual 74, 3) := by decide +kernel
theorem pd_320 : parseMethodDescriptor "(Ljava/lang/String;)Ljava/lang/StringBuilder;" = some ⟨[(.object "java/lang/String")], some (.object "java/lang/StringBuilder")⟩ := by decide +kernel
theorem d_prog_2_method_5_18 : decode prog_2_method_5_code 18 = .ok (.invokevirtual 78, 3) := by decide +kernel
theorem d_prog_2_method_5_21 : decode prog_2_method_5_code 21 = .ok (.ldc 82, 2) := by decide +kernel
theorem d_prog_2_method_5_23 : decode prog_2_method_5_code 23 = .ok (.invokevirtual 78, 3) := by decide +kernel
theorem d_prog_2_method_5_26 : decode prog_2_method_5_code 26 = .ok (.ldc 9, 2) := by decide +kernel
theorem d_prog_2_method_5_28 : decode prog_2_method_5_code 28 = .ok (.invokevirtual 78, 3) := by decide +kernel
theorem d_prog_2_method_5_31 : decode prog_2_method_5_code 31 = .ok (.ldc 84, 2) := by decide +kernel
theorem d_prog_2_method_5_33 : decode prog_2_method_5_code 33 = .ok (.invokevirtual 78, 3) := by decide +kernel
theorem pd_328 : parseMethodDescriptor "()Ljava/lang/String;" = some ⟨[], some (.object "java/lang/String")⟩ := by decide +kernel
theorem d_prog_2_method_5_36 : decode prog_2_method_5_code 36 = .ok (.invokevirtual 86, 3) := by decide +kernel
theorem d_prog_2_method_5_39 : decode prog_2_method_5_code 39 = .ok (.areturn, 1) := by decide +kernel
def Q_etag (Z : State) (a1 : Nat) (t : Nat) (cs : List Int32) (zc : Int32) (fm : Value) (h0 : Heap) (v : Option Value) (h : Heap) (L : List Loc) : Prop := ∃ (x : Nat), ∃ (t2 : Nat), ∃ (rs : List Int32), v = some (.ref x) ∧ Fr Z.heap.size L ∧ Keep h0 h [] ∧ own_Str Z h x t2 rs ∧ (rs = cs.take (cs.length - 1) ++ [(45 : Int32), 103, 122, 105, 112, 34])
set_option maxRecDepth 65536 in
set_option maxHeartbeats 40000000 in
theorem rm_etag (l : Launch) (Z : State) (a0 : Array Value) (hw : ∀ d ∈ tables_1, d.before a0 Z = true) (ws : List Jvm.Cond) (a1 : Nat) (t : Nat) (cs : List Int32) (zc : Int32) (fm : Value) (h0 : Heap) (hEL : EW Z a0 consts_1) (OL : Old Z Z.heap.size h0) (p0_ : own_Str Z h0 a1 t cs) (st_COMPACT_STRINGS : Sta Z Z.heap "java/lang/String" "COMPACT_STRINGS" "Z" (.int zc)) (st_SIOOBE_FORMATTER : Sta Z Z.heap "jdk/internal/util/Preconditions" "SIOOBE_FORMATTER" "Ljava/util/function/BiFunction;" fm) (hzc : ¬ zc = 0) (hfm : fm.isRef = true) (hl1 : 2 ≤ cs.length) (hl2 : cs.length ≤ 7) (hlc : ∀ c ∈ cs, ¬ c < 0 ∧ ¬ (255 : Int32) < c) :
    MetFree l (⟨"com/example/net30/net30/http/Gzip", "etag", "(Ljava/lang/String;)Ljava/lang/String;"⟩ : MethodName) (head1 (Jvm.Cond.code (⟨"com/example/net30/net30/http/Gzip", "etag", "(Ljava/lang/String;)Ljava/lang/String;"⟩ : MethodName) prog_2_method_5_code 1 (some (.object "java/lang/String")) :: ws) ({ frames := 6, cells := 12, slots := 100, locals := 120 } : Room)) (fun a U => a = #[(.ref a1)] ∧ Z.Warmed39 U.vm ∧ U.heap = h0 ∧ CHv Z consts_1 U.vm h0) (fun _ _ _ _ _ => True) (fun _ U o U' => ∃ v L, o = .returned v ∧ Q_etag Z a1 t cs zc fm h0 v U'.heap L ∧ CHr Z consts_1 U.vm U.heap U'.vm U'.heap ∧ ReturnedEndW U o U' L ({ frames := 6, cells := 12, slots := 100, locals := 120 } : Room).cells ({ frames := 6, cells := 12, slots := 100, locals := 120 } : Room).slots) := by
  refine MetFree.of_bodySF (plainFor_of_name pn_307) hisR ?_
  intro p e s m args below meth c s₁ Bd hml0 hP hK
  obtain ⟨rfl, hZ, hh, hC0⟩ := hP
  have hx := Bd.exec
  have hby := Bd.bytes
  have hml : c.maxLocals = 1 := hml0
  have hown : s.vm.findClass "com/example/net30/net30/http/Gzip" = some m.cls := findClass_of_methodNamed Bd.named
  have hnm := (name_of_methodNamed Bd.named Bd.method).1
  have X0 : Stand p l e ({ frames := 6, cells := 12, slots := 100, locals := 120 } : Room) (s.setVm s.vm) m #[(.ref a1)] below meth c s₁ [] 0 0 := Stand.of_body Bd
  have e0 : s₁.heap = h0 := by rw [← hh, Bd.state]; rfl
  have N0 := Fr.nil Z.heap.size
  have Z0 : Z.heap.size ≤ h0.size := OL.2.1
  have hS0 : s.Since s.vm h0.size := (State.WarmedH.refl s).since _
  have wS := own_wS hw
  have R0 : CHr Z consts_1 s.vm h0 s.vm h0 := CHr.refl hC0
  have lt_0 : @LT.lt Nat _ a1 h0.size := p0_.lt
  have ltv_0 : @LT.lt Nat _ t h0.size := p0_.ltv
  obtain ⟨PP, hPP⟩ : ∃ PP : Outcome → State → Prop, PP = (fun o tE => ∃ v L, o = .returned v ∧ Q_etag Z a1 t cs zc fm h0 v tE.heap L ∧ CHr Z consts_1 s.vm s.heap tE.vm tE.heap ∧ ReturnedEndW s o tE L ({ frames := 6, cells := 12, slots := 100, locals := 120 } : Room).cells ({ frames := 6, cells := 12, slots := 100, locals := 120 } : Room).slots) := ⟨_, rfl⟩
  show own_Go p.tables e below (fun o tE => ∃ v L, o = .returned v ∧ Q_etag Z a1 t cs zc fm h0 v tE.heap L ∧ CHr Z consts_1 s.vm s.heap tE.vm tE.heap ∧ ReturnedEndW s o tE L ({ frames := 6, cells := 12, slots := 100, locals := 120 } : Room).cells ({ frames := 6, cells := 12, slots := 100, locals := 120 } : Room).slots) (s₁.setTop (entryFrame m #[(.ref a1)] 1))
  rw [← hPP]
  refine own_Go.st (fun t k => castTop (ef_16 m a1) k) ?_
  show own_Go _ _ _ _ (s₁.setTop (mkF m 0 #[.val (.ref a1)] []))
  obtain ⟨T323, h323, X323, e323, E323, A323, D323, U323, st323⟩ := newO X0 hx hZ hown (hw _ (List.mem_of_getElem? (i := 38) rfl)) (hw _ (List.mem_of_getElem? (i := 39) rfl)) (hw _ (List.mem_of_getElem? (i := 40) rfl)) e0 (g := (mkF m 0 #[.val (.ref a1)] [])) rfl (hb hby d_prog_2_method_5_0) (by decide) (by decide)
  obtain ⟨b323, g323⟩ : ∃ z, z = h0.size := ⟨_, rfl⟩
  rw [← g323] at A323 D323 U323 st323
  refine own_Go.st st323 ?_
  have z323 : h0.size ≤ h323.size := E323.1
  have lt_b323 : @LT.lt Nat _ b323 h323.size := A323.lt
  have f324 : Fld Z h323 b323 "java/lang/AbstractStringBuilder" "value" "[B" .null := D323 (Or.inl (hw _ (List.mem_of_getElem? (i := 53) rfl))) (ty := (.array .byte)) (by decide)
  have f325 : Fld Z h323 b323 "java/lang/AbstractStringBuilder" "coder" "B" (.int (0 : Int32)) := D323 (Or.inl (hw _ (List.mem_of_getElem? (i := 55) rfl))) (ty := .byte) (by decide)
  have f326 : Fld Z h323 b323 "java/lang/AbstractStringBuilder" "count" "I" (.int (0 : Int32)) := D323 (Or.inl (hw _ (List.mem_of_getElem? (i := 123) rfl))) (ty := .int) (by decide)
  have R323 : CHr Z consts_1 s.vm h0 s.vm h323 := R0.trans (CHr.ext E323 R0.1)
  show own_Go _ _ _ _ (T323.setTop (mkF m 3 #[.val (.ref a1)] [(.ref b323)]))
  refine own_Go.st (fun _ k => XS.dup X323.here hx rfl (hb hby d_prog_2_method_5_3) rfl rfl k) ?_
  show own_Go _ _ _ _ (T323.setTop (mkF m 4 #[.val (.ref a1)] [(.ref b323), (.ref b323)]))
  have f328 : Old Z Z.heap.size h323 := OL.ext E323
  obtain ⟨_, _, ⟨T327, L327, k327, n327⟩, -, X327, ⟨Lc327, hQ327, l327, y327, z327⟩, st327⟩ := X323.specialBack hx (y := (⟨"java/lang/StringBuilder", "<init>", "()V"⟩ : MethodName)) rfl hown (mvT hZ (hw _ (List.mem_of_getElem? (i := 41) rfl))) (mvT hZ (hw _ (List.mem_of_getElem? (i := 42) rfl))) (mvT hZ (hw _ (List.mem_of_getElem? (i := 43) rfl))) (by decide) (backOf (W := 1) (rm_sbinit l Z a0 hw [] b323 zc h323 f328 A323 f324 f325 f326 st_COMPACT_STRINGS (by first | assumption | decide) (by omega)) hZ (hw _ (List.mem_of_getElem? (i := 43) rfl)) (hw _ (List.mem_of_getElem? (i := 40) rfl)) (by decide) (by decide)) (g := (mkF m 4 #[.val (.ref a1)] [(.ref b323), (.ref b323)])) rfl (by rw [hml]; rfl) (Steps.refl _) (a := b323) (argsL := []) (rest := [(.ref b323)]) (lenOf pd_310 rfl) rfl (by show 2 * 0 + _ ≤ _; exact Nat.le_of_eq rfl) (hb hby d_prog_2_method_5_4) (fun _ _ => ⟨rfl, e323, (by decide : 1 + 1 ≤ _), (by decide : 4 + 16 ≤ _)⟩)
  dsimp only [Pt.U, Pt.locs, Pt.cells, Pt.slots] at X327 l327 y327 z327 st327 hQ327
  subst l327 y327 z327
  obtain ⟨a3_327, k_327, rfl, N327q, K327, f327_0, f327_1, f327_2, f327_3, f327_4, pr327_0⟩ := hQ327
  have N327 := Fr.app N0 N327q
  have Sf329 : Safe Z consts_1 s.vm h323 b323 := Safe.exa hZ.alike A323 (by decide) (by decide)
  have z327 : h323.size ≤ T327.heap.size := K327.1
  have R327 : CHr Z consts_1 s.vm h0 s.vm T327.heap := R323.trans (CHr.keep K327 (sfS Sf329 sf0) R323.1)
  have lt327_0 : @LT.lt Nat _ b323 T327.heap.size := f327_0.lt
  have lt327_1 : @LT.lt Nat _ b323 T327.heap.size := f327_1.lt
  have lt327_2 : @LT.lt Nat _ b323 T327.heap.size := f327_2.lt
  have lt327_3 : @LT.lt Nat _ b323 T327.heap.size := f327_3.lt
  have lt327_4 : @LT.lt Nat _ a3_327 T327.heap.size := f327_4.lt
  have Sf330 : Safe Z consts_1 s.vm T327.heap a3_327 := Safe.keep K327 (sfS Sf329 sf0) R323.1 (Safe.new pr327_0)
  refine own_Go.tr st327 ?_
  show own_Go _ _ _ _ (T327.setTop (mkF m 7 #[.val (.ref a1)] [(.ref b323)]))
  refine own_Go.st (fun _ k => XS.aloadN X327.here hx rfl (hb hby d_prog_2_method_5_7) rfl rfl k) ?_
  show own_Go _ _ _ _ (T327.setTop (mkF m 8 #[.val (.ref a1)] [(.ref a1), (.ref b323)]))
  refine own_Go.st (fun _ k => XS.iconst X327.here hx rfl (hb hby d_prog_2_method_5_8) k) ?_
  show own_Go _ _ _ _ (T327.setTop (mkF m 9 #[.val (.ref a1)] [(.int (0 : Int32)), (.ref a1), (.ref b323)]))
  refine own_Go.st (fun _ k => XS.aloadN X327.here hx rfl (hb hby d_prog_2_method_5_9) rfl rfl k) ?_
  show own_Go _ _ _ _ (T327.setTop (mkF m 10 #[.val (.ref a1)] [(.ref a1), (.int (0 : Int32)), (.ref a1), (.ref b323)]))
  have f332 : own_Str Z h323 a1 t cs := p0_.ext E323
  have ne333 : @Ne Nat a1 b323 := Exa.ne f332.exa A323 (by decide)
  have ne334 : @Ne Nat b323 t := own_Str.neV f332 A323 (hw _ (List.mem_of_getElem? (i := 39) rfl))
  have f335 : own_Str Z T327.heap a1 t cs := f332.keep K327 (ninS ne333 nin0) (ninS (Ne.symm ne334) nin0)
  obtain ⟨kb336, cd336, N336_, vs336, s1336, s2336, s3336, s4336, s5336, s6336, s7336⟩ := id f335
  have f337 : Old Z Z.heap.size T327.heap := f328.keep K327 (allS (by omega) all0)
  obtain ⟨cq331, kq331, q331a, q331b, q331c⟩ := isOf hZ rfl f335.exa
  obtain ⟨_, _, ⟨T331, L331, k331, n331⟩, -, X331, ⟨Lc331, hQ331, l331, y331, z331⟩, st331⟩ := X327.virtualBack hx (y := (⟨"java/lang/String", "length", "()I"⟩ : MethodName)) (z := (⟨"java/lang/String", "length", "()I"⟩ : MethodName)) hown (mvT hZ (hw _ (List.mem_of_getElem? (i := 56) rfl))) (mvT hZ (hw _ (List.mem_of_getElem? (i := 57) rfl))) (notFace_of_selects (args := #[]) (mvT hZ (hw _ (List.mem_of_getElem? (i := 59) rfl)))) (mvT hZ (hw _ (List.mem_of_getElem? (i := 59) rfl))) (mvT hZ (hw _ (List.mem_of_getElem? (i := 58) rfl))) (by decide) (StrChars.Road.lenW (W := 3) hZ (own_hln hw) (kI := 4) (hw _ (List.mem_of_getElem? (i := 5) rfl)) s1336 s2336 s3336 s4336 s5336 s6336 (st_COMPACT_STRINGS.ext f337.2) hzc s7336 (by decide) (by decide)) q331a q331c (g := (mkF m 10 #[.val (.ref a1)] [(.ref a1), (.int (0 : Int32)), (.ref a1), (.ref b323)])) rfl (by rw [hml]; rfl) (Steps.refl _) (argsL := []) (rest := [(.int (0 : Int32)), (.ref a1), (.ref b323)]) (lenOf pd_88 rfl) rfl (by show 2 * 0 + _ ≤ _; exact Nat.le_of_eq rfl) (hb hby d_prog_2_method_5_10) (fun _ _ => ⟨rfl, rfl, (by decide : 2 + 0 ≤ _), (by decide : 20 + 0 ≤ _)⟩)
  dsimp only [Pt.U, Pt.locs, Pt.cells, Pt.slots] at X331 l331 y331 z331 st331 hQ331
  subst l331 y331 z331
  obtain ⟨rfl, rfl, K331⟩ := hQ331
  have N331 := Fr.app N327 (Fr.nil Z.heap.size)
  refine own_Go.tr st331 ?_
  show own_Go _ _ _ _ (T331.setTop (mkF m 13 #[.val (.ref a1)] [(.int (Int32.ofNat cs.length)), (.int (0 : Int32)), (.ref a1), (.ref b323)]))
  refine own_Go.st (fun _ k => XS.iconst X331.here hx rfl (hb hby d_prog_2_method_5_13) k) ?_
  show own_Go _ _ _ _ (T331.setTop (mkF m 14 #[.val (.ref a1)] [(.int (1 : Int32)), (.int (Int32.ofNat cs.length)), (.int (0 : Int32)), (.ref a1), (.ref b323)]))
  refine own_Go.st (fun _ k => XS.isub X331.here hx rfl (hb hby d_prog_2_method_5_14) rfl k) ?_
  show own_Go _ _ _ _ (T331.setTop (mkF m 15 #[.val (.ref a1)] [(.int ((Int32.ofNat cs.length) - (1 : Int32))), (.int (0 : Int32)), (.ref a1), (.ref b323)]))
  rw [own_ofM (by omega) (by omega)]
  show own_Go _ _ _ _ (T331.setTop (mkF m 15 #[.val (.ref a1)] [(.int (Int32.ofNat (cs.length - 1))), (.int (0 : Int32)), (.ref a1), (.ref b323)]))
  obtain ⟨cq338, kq338, q338a, q338b, q338c⟩ := isOf hZ K331 f335.exa
  obtain ⟨_, _, ⟨T338, L338, k338, n338⟩, -, X338, ⟨Lc338, hQ338, l338, y338, z338⟩, st338⟩ := X331.virtualBack hx (y := (⟨"java/lang/String", "substring", "(II)Ljava/lang/String;"⟩ : MethodName)) (z := (⟨"java/lang/String", "substring", "(II)Ljava/lang/String;"⟩ : MethodName)) hown (mvT hZ (hw _ (List.mem_of_getElem? (i := 66) rfl))) (mvT hZ (hw _ (List.mem_of_getElem? (i := 67) rfl))) (notFace_of_selects (args := #[]) (mvT hZ (hw _ (List.mem_of_getElem? (i := 69) rfl)))) (mvT hZ (hw _ (List.mem_of_getElem? (i := 69) rfl))) (mvT hZ (hw _ (List.mem_of_getElem? (i := 68) rfl))) (by decide) (backOf (W := 1) (rm_substr l Z a0 hw [] a1 (0 : Int32) (Int32.ofNat (cs.length - 1)) 0 (cs.length - 1) t cs zc fm T327.heap f337 f335 st_COMPACT_STRINGS st_SIOOBE_FORMATTER (by first | assumption | decide) (by first | assumption | decide) rfl rfl (by omega) (by omega) (fun q => by omega) (by omega) (by omega) (by first | assumption | decide)) hZ (hw _ (List.mem_of_getElem? (i := 70) rfl)) (hw _ (List.mem_of_getElem? (i := 6) rfl)) (by decide) (by decide)) q338a q338c (g := (mkF m 15 #[.val (.ref a1)] [(.int (Int32.ofNat (cs.length - 1))), (.int (0 : Int32)), (.ref a1), (.ref b323)])) rfl (by rw [hml]; rfl) (Steps.refl _) (argsL := [(.int (0 : Int32)), (.int (Int32.ofNat (cs.length - 1)))]) (rest := [(.ref b323)]) (lenOf pd_318 rfl) rfl (by show 2 * 0 + _ ≤ _; exact Nat.le_of_eq rfl) (hb hby d_prog_2_method_5_15) (fun _ _ => ⟨rfl, K331, (by decide : 2 + 2 ≤ _), (by decide : 20 + 20 ≤ _)⟩)
  dsimp only [Pt.U, Pt.locs, Pt.cells, Pt.slots] at X338 l338 y338 z338 st338 hQ338
  subst l338 y338 z338
  obtain ⟨x_338, t_338, rfl, N338q, K338, f338_0, pr338_0, pr338_1⟩ := hQ338
  have N338 := Fr.app N331 N338q
  have z338 : T327.heap.size ≤ T338.heap.size := K338.1
  have R338 : CHr Z consts_1 s.vm h0 s.vm T338.heap := R327.trans (CHr.keep K338 sf0 R327.1)
  have Sf339 : Safe Z consts_1 s.vm T338.heap a3_327 := Safe.keep K338 sf0 R327.1 Sf330
  have lt338_0 : @LT.lt Nat _ x_338 T338.heap.size := f338_0.lt
  have ltv338_0 : @LT.lt Nat _ t_338 T338.heap.size := f338_0.ltv
  refine own_Go.tr st338 ?_
  show own_Go _ _ _ _ (T338.setTop (mkF m 18 #[.val (.ref a1)] [(.ref x_338), (.ref b323)]))
  have f341 : Exa Z T338.heap b323 "java/lang/StringBuilder" := f327_0.keep K338
  have f342 : Fld Z T338.heap b323 "java/lang/AbstractStringBuilder" "value" "[B" (.ref a3_327) := f327_1.keep K338 nin0
  have f343 : Fld Z T338.heap b323 "java/lang/AbstractStringBuilder" "coder" "B" (.int (0 : Int32)) := f327_2.keep K338 nin0
  have f344 : Fld Z T338.heap b323 "java/lang/AbstractStringBuilder" "count" "I" (.int (0 : Int32)) := f327_3.keep K338 nin0
  have f345 : Arv Z T338.heap a3_327 k_327 .byte (Int32.ofNat 16) (own_low ([] : List Int32)) (.int (0 : Int32)) := f327_4.keep K338 nin0
  have f346 : Old Z Z.heap.size T338.heap := f337.keep K338 all0
  obtain ⟨cq340, kq340, q340a, q340b, q340c⟩ := isOf hZ rfl f341
  obtain ⟨_, _, ⟨T340, L340, k340, n340⟩, -, X340, ⟨Lc340, hQ340, l340, y340, z340⟩, st340⟩ := X338.virtualBack hx (y := (⟨"java/lang/StringBuilder", "append", "(Ljava/lang/String;)Ljava/lang/StringBuilder;"⟩ : MethodName)) (z := (⟨"java/lang/StringBuilder", "append", "(Ljava/lang/String;)Ljava/lang/StringBuilder;"⟩ : MethodName)) hown (mvT hZ (hw _ (List.mem_of_getElem? (i := 111) rfl))) (mvT hZ (hw _ (List.mem_of_getElem? (i := 112) rfl))) (notFace_of_selects (args := #[]) (mvT hZ (hw _ (List.mem_of_getElem? (i := 114) rfl)))) (mvT hZ (hw _ (List.mem_of_getElem? (i := 114) rfl))) (mvT hZ (hw _ (List.mem_of_getElem? (i := 113) rfl))) (by decide) (backOf (W := 0) (rm_sbappend l Z a0 hw [] b323 x_338 t_338 ([] : List Int32) ((cs.drop 0).take ((cs.length - 1) - 0)) 16 k_327 zc a3_327 T338.heap f346 f341 f342 f343 f344 f338_0 f345 st_COMPACT_STRINGS (by first | assumption | decide) (by simp only [List.length_append, List.length_cons, List.length_nil, List.length_take, List.length_drop]; omega) (by decide) (by show @Ne Nat t_338 a3_327; omega) (by omega) (by omega) (own_latT hlc)) hZ (hw _ (List.mem_of_getElem? (i := 115) rfl)) (hw _ (List.mem_of_getElem? (i := 40) rfl)) (by decide) (by decide)) q340a q340c (g := (mkF m 18 #[.val (.ref a1)] [(.ref x_338), (.ref b323)])) rfl (by rw [hml]; rfl) (Steps.refl _) (argsL := [(.ref x_338)]) (rest := []) (lenOf pd_320 rfl) rfl (by show 2 * 0 + _ ≤ _; exact Nat.le_of_eq rfl) (hb hby d_prog_2_method_5_18) (fun _ _ => ⟨rfl, rfl, (by decide : 4 + 0 ≤ _), (by decide : 40 + 0 ≤ _)⟩)
  dsimp only [Pt.U, Pt.locs, Pt.cells, Pt.slots] at X340 l340 y340 z340 st340 hQ340
  subst l340 y340 z340
  obtain ⟨rfl, N340q, K340, f340_0, f340_1, f340_2, f340_3, f340_4⟩ := hQ340
  have N340 := Fr.app N338 N340q
  have Sf347 : Safe Z consts_1 s.vm T338.heap b323 := Safe.exa hZ.alike f341 (by decide) (by decide)
  have z340 : T338.heap.size ≤ T340.heap.size := K340.1
  have R340 : CHr Z consts_1 s.vm h0 s.vm T340.heap := R338.trans (CHr.keep K340 (sfS Sf347 (sfS Sf339 sf0)) R338.1)
  have Sf348 : Safe Z consts_1 s.vm T340.heap a3_327 := Safe.keep K340 (sfS Sf347 (sfS Sf339 sf0)) R338.1 Sf339
  have lt340_0 : @LT.lt Nat _ b323 T340.heap.size := f340_0.lt
  have lt340_1 : @LT.lt Nat _ b323 T340.heap.size := f340_1.lt
  have lt340_2 : @LT.lt Nat _ b323 T340.heap.size := f340_2.lt
  have lt340_3 : @LT.lt Nat _ b323 T340.heap.size := f340_3.lt
  have lt340_4 : @LT.lt Nat _ a3_327 T340.heap.size := f340_4.lt
  refine own_Go.tr st340 ?_
  show own_Go _ _ _ _ (T340.setTop (mkF m 21 #[.val (.ref a1)] [(.ref b323)]))
  obtain ⟨a349, T349, h349, kk349, t349, kb349, X349, e349, E349, hS349, hk349, hZ349, hown349, A349, C349, V349, B349, la349, lb349, ch349, Li349, sf349, st349⟩ := ldcCH X340 hx hZ hown (hw _ (List.mem_of_getElem? (i := 146) rfl)) wS rfl hS0 (by omega) hEL (by decide) R340.1 (vs := [(.int (45 : Int32))]) (z := (1 : Int32)) (by decide) (by decide) (by decide) (g := (mkF m 21 #[.val (.ref a1)] [(.ref b323)])) rfl (hb hby d_prog_2_method_5_21) (n := 4) (by decide) (by decide) (by decide) (by decide)
  refine own_Go.st st349 ?_
  have z349 : T340.heap.size ≤ h349.size := E349.1
  have la349' : @LT.lt Nat _ a349 h349.size := la349
  have lb349' : @LT.lt Nat _ t349 h349.size := lb349
  have R349 : CHr Z consts_1 s.vm h0 T349.vm h349 := R340.trans ch349
  have Sf350 : Safe Z consts_1 T349.vm h349 a3_327 := ch349.safe (by show @LT.lt Nat _ a3_327 _; omega) Sf348
  have fT349 : own_Str Z h349 a349 t349 ([(45 : Int32)] : List Int32) := ⟨kb349, 0, (1 : Int32), [(.int (45 : Int32))], A349, V349, C349, B349, Or.inl ⟨rfl, rfl, rfl, (by decide)⟩, (by decide), (by decide)⟩
  have nl351 := sf349 a3_327 Sf350
  have nl351a : @Ne Nat a3_327 a349 := nl351.1
  have nl351b : @Ne Nat a3_327 t349 := nl351.2
  show own_Go _ _ _ _ (T349.setTop (mkF m 23 #[.val (.ref a1)] [(.ref a349), (.ref b323)]))
  have f353 : Exa Z h349 b323 "java/lang/StringBuilder" := f340_0.ext E349
  have f354 : Fld Z h349 b323 "java/lang/AbstractStringBuilder" "value" "[B" (.ref a3_327) := f340_1.ext E349
  have f355 : Fld Z h349 b323 "java/lang/AbstractStringBuilder" "coder" "B" (.int (0 : Int32)) := f340_2.ext E349
  have f356 : Fld Z h349 b323 "java/lang/AbstractStringBuilder" "count" "I" (.int (Int32.ofNat (([] : List Int32) ++ ((cs.drop 0).take ((cs.length - 1) - 0))).length)) := f340_3.ext E349
  have f357 : Arv Z h349 a3_327 k_327 .byte (Int32.ofNat 16) (own_low (([] : List Int32) ++ ((cs.drop 0).take ((cs.length - 1) - 0)))) (.int (0 : Int32)) := f340_4.ext E349
  have f358 : Old Z Z.heap.size T340.heap := f346.keep K340 (allS (by omega) (allS (by omega) all0))
  have f359 : Old Z Z.heap.size h349 := f358.ext E349
  obtain ⟨cq352, kq352, q352a, q352b, q352c⟩ := isOf hZ349 e349 f353
  obtain ⟨_, _, ⟨T352, L352, k352, n352⟩, -, X352, ⟨Lc352, hQ352, l352, y352, z352⟩, st352⟩ := X349.virtualBack hx (y := (⟨"java/lang/StringBuilder", "append", "(Ljava/lang/String;)Ljava/lang/StringBuilder;"⟩ : MethodName)) (z := (⟨"java/lang/StringBuilder", "append", "(Ljava/lang/String;)Ljava/lang/StringBuilder;"⟩ : MethodName)) hown349 (mvT hZ349 (hw _ (List.mem_of_getElem? (i := 111) rfl))) (mvT hZ349 (hw _ (List.mem_of_getElem? (i := 112) rfl))) (notFace_of_selects (args := #[]) (mvT hZ349 (hw _ (List.mem_of_getElem? (i := 114) rfl)))) (mvT hZ349 (hw _ (List.mem_of_getElem? (i := 114) rfl))) (mvT hZ349 (hw _ (List.mem_of_getElem? (i := 113) rfl))) (by decide) (backOf (W := 0) (rm_sbappend l Z a0 hw [] b323 a349 t349 (([] : List Int32) ++ ((cs.drop 0).take ((cs.length - 1) - 0))) ([(45 : Int32)] : List Int32) 16 k_327 zc a3_327 h349 f359 f353 f354 f355 f356 fT349 f357 st_COMPACT_STRINGS (by first | assumption | decide) (by simp only [List.length_append, List.length_cons, List.length_nil, List.length_take, List.length_drop]; omega) (by decide) (Ne.symm nl351b) (by omega) (by omega) (by decide)) hZ349 (hw _ (List.mem_of_getElem? (i := 115) rfl)) (hw _ (List.mem_of_getElem? (i := 40) rfl)) (by decide) (by decide)) q352a q352c (g := (mkF m 23 #[.val (.ref a1)] [(.ref a349), (.ref b323)])) rfl (by rw [hml]; rfl) (Steps.refl _) (argsL := [(.ref a349)]) (rest := []) (lenOf pd_320 rfl) rfl (by show 2 * 0 + _ ≤ _; exact Nat.le_of_eq rfl) (hb hby d_prog_2_method_5_23) (fun _ _ => ⟨rfl, e349, (by decide : 6 + 0 ≤ _), (by decide : 48 + 0 ≤ _)⟩)
  dsimp only [Pt.U, Pt.locs, Pt.cells, Pt.slots] at X352 l352 y352 z352 st352 hQ352
  subst l352 y352 z352
  obtain ⟨rfl, N352q, K352, f352_0, f352_1, f352_2, f352_3, f352_4⟩ := hQ352
  have N352 := Fr.app N340 N352q
  have Sf360 : Safe Z consts_1 T349.vm h349 b323 := Safe.exa hZ349.alike f353 (by decide) (by decide)
  have z352 : h349.size ≤ T352.heap.size := K352.1
  have R352 : CHr Z consts_1 s.vm h0 T349.vm T352.heap := R349.trans (CHr.keep K352 (sfS Sf360 (sfS Sf350 sf0)) R349.1)
  have Sf361 : Safe Z consts_1 T349.vm T352.heap a3_327 := Safe.keep K352 (sfS Sf360 (sfS Sf350 sf0)) R349.1 Sf350
  have lt352_0 : @LT.lt Nat _ b323 T352.heap.size := f352_0.lt
  have lt352_1 : @LT.lt Nat _ b323 T352.heap.size := f352_1.lt
  have lt352_2 : @LT.lt Nat _ b323 T352.heap.size := f352_2.lt
  have lt352_3 : @LT.lt Nat _ b323 T352.heap.size := f352_3.lt
  have lt352_4 : @LT.lt Nat _ a3_327 T352.heap.size := f352_4.lt
  refine own_Go.tr st352 ?_
  show own_Go _ _ _ _ (T352.setTop (mkF m 26 #[.val (.ref a1)] [(.ref b323)]))
  obtain ⟨a362, T362, h362, kk362, t362, kb362, X362, e362, E362, hS362, hk362, hZ362, hown362, A362, C362, V362, B362, la362, lb362, ch362, Li362, sf362, st362⟩ := ldcCH X352 hx hZ349 hown349 (hw _ (List.mem_of_getElem? (i := 149) rfl)) wS rfl hS349 (by omega) hEL (by decide) R352.1 (vs := [(.int (103 : Int32)), (.int (122 : Int32)), (.int (105 : Int32)), (.int (112 : Int32))]) (z := (4 : Int32)) (by decide) (by decide) (by decide) (g := (mkF m 26 #[.val (.ref a1)] [(.ref b323)])) rfl (hb hby d_prog_2_method_5_26) (n := 16) (by decide) (by decide) (by decide) (by decide)
  refine own_Go.st st362 ?_
  have z362 : T352.heap.size ≤ h362.size := E362.1
  have la362' : @LT.lt Nat _ a362 h362.size := la362
  have lb362' : @LT.lt Nat _ t362 h362.size := lb362
  have R362 : CHr Z consts_1 s.vm h0 T362.vm h362 := R352.trans ch362
  have Sf363 : Safe Z consts_1 T362.vm h362 a3_327 := ch362.safe (by show @LT.lt Nat _ a3_327 _; omega) Sf361
  have fT362 : own_Str Z h362 a362 t362 ([(103 : Int32), (122 : Int32), (105 : Int32), (112 : Int32)] : List Int32) := ⟨kb362, 0, (4 : Int32), [(.int (103 : Int32)), (.int (122 : Int32)), (.int (105 : Int32)), (.int (112 : Int32))], A362, V362, C362, B362, Or.inl ⟨rfl, rfl, rfl, (by decide)⟩, (by decide), (by decide)⟩
  have nl364 := sf362 a3_327 Sf363
  have nl364a : @Ne Nat a3_327 a362 := nl364.1
  have nl364b : @Ne Nat a3_327 t362 := nl364.2
  show own_Go _ _ _ _ (T362.setTop (mkF m 28 #[.val (.ref a1)] [(.ref a362), (.ref b323)]))
  have f366 : Exa Z h362 b323 "java/lang/StringBuilder" := f352_0.ext E362
  have f367 : Fld Z h362 b323 "java/lang/AbstractStringBuilder" "value" "[B" (.ref a3_327) := f352_1.ext E362
  have f368 : Fld Z h362 b323 "java/lang/AbstractStringBuilder" "coder" "B" (.int (0 : Int32)) := f352_2.ext E362
  have f369 : Fld Z h362 b323 "java/lang/AbstractStringBuilder" "count" "I" (.int (Int32.ofNat ((([] : List Int32) ++ ((cs.drop 0).take ((cs.length - 1) - 0))) ++ ([(45 : Int32)] : List Int32)).length)) := f352_3.ext E362
  have f370 : Arv Z h362 a3_327 k_327 .byte (Int32.ofNat 16) (own_low ((([] : List Int32) ++ ((cs.drop 0).take ((cs.length - 1) - 0))) ++ ([(45 : Int32)] : List Int32))) (.int (0 : Int32)) := f352_4.ext E362
  have f371 : Old Z Z.heap.size T352.heap := f359.keep K352 (allS (by omega) (allS (by omega) all0))
  have f372 : Old Z Z.heap.size h362 := f371.ext E362
  obtain ⟨cq365, kq365, q365a, q365b, q365c⟩ := isOf hZ362 e362 f366
  obtain ⟨_, _, ⟨T365, L365, k365, n365⟩, -, X365, ⟨Lc365, hQ365, l365, y365, z365⟩, st365⟩ := X362.virtualBack hx (y := (⟨"java/lang/StringBuilder", "append", "(Ljava/lang/String;)Ljava/lang/StringBuilder;"⟩ : MethodName)) (z := (⟨"java/lang/StringBuilder", "append", "(Ljava/lang/String;)Ljava/lang/StringBuilder;"⟩ : MethodName)) hown362 (mvT hZ362 (hw _ (List.mem_of_getElem? (i := 111) rfl))) (mvT hZ362 (hw _ (List.mem_of_getElem? (i := 112) rfl))) (notFace_of_selects (args := #[]) (mvT hZ362 (hw _ (List.mem_of_getElem? (i := 114) rfl)))) (mvT hZ362 (hw _ (List.mem_of_getElem? (i := 114) rfl))) (mvT hZ362 (hw _ (List.mem_of_getElem? (i := 113) rfl))) (by decide) (backOf (W := 0) (rm_sbappend l Z a0 hw [] b323 a362 t362 ((([] : List Int32) ++ ((cs.drop 0).take ((cs.length - 1) - 0))) ++ ([(45 : Int32)] : List Int32)) ([(103 : Int32), (122 : Int32), (105 : Int32), (112 : Int32)] : List Int32) 16 k_327 zc a3_327 h362 f372 f366 f367 f368 f369 fT362 f370 st_COMPACT_STRINGS (by first | assumption | decide) (by simp only [List.length_append, List.length_cons, List.length_nil, List.length_take, List.length_drop]; omega) (by decide) (Ne.symm nl364b) (by omega) (by omega) (by decide)) hZ362 (hw _ (List.mem_of_getElem? (i := 115) rfl)) (hw _ (List.mem_of_getElem? (i := 40) rfl)) (by decide) (by decide)) q365a q365c (g := (mkF m 28 #[.val (.ref a1)] [(.ref a362), (.ref b323)])) rfl (by rw [hml]; rfl) (Steps.refl _) (argsL := [(.ref a362)]) (rest := []) (lenOf pd_320 rfl) rfl (by show 2 * 0 + _ ≤ _; exact Nat.le_of_eq rfl) (hb hby d_prog_2_method_5_28) (fun _ _ => ⟨rfl, e362, (by decide : 8 + 0 ≤ _), (by decide : 68 + 0 ≤ _)⟩)
  dsimp only [Pt.U, Pt.locs, Pt.cells, Pt.slots] at X365 l365 y365 z365 st365 hQ365
  subst l365 y365 z365
  obtain ⟨rfl, N365q, K365, f365_0, f365_1, f365_2, f365_3, f365_4⟩ := hQ365
  have N365 := Fr.app N352 N365q
  have Sf373 : Safe Z consts_1 T362.vm h362 b323 := Safe.exa hZ362.alike f366 (by decide) (by decide)
  have z365 : h362.size ≤ T365.heap.size := K365.1
  have R365 : CHr Z consts_1 s.vm h0 T362.vm T365.heap := R362.trans (CHr.keep K365 (sfS Sf373 (sfS Sf363 sf0)) R362.1)
  have Sf374 : Safe Z consts_1 T362.vm T365.heap a3_327 := Safe.keep K365 (sfS Sf373 (sfS Sf363 sf0)) R362.1 Sf363
  have lt365_0 : @LT.lt Nat _ b323 T365.heap.size := f365_0.lt
  have lt365_1 : @LT.lt Nat _ b323 T365.heap.size := f365_1.lt
  have lt365_2 : @LT.lt Nat _ b323 T365.heap.size := f365_2.lt
  have lt365_3 : @LT.lt Nat _ b323 T365.heap.size := f365_3.lt
  have lt365_4 : @LT.lt Nat _ a3_327 T365.heap.size := f365_4.lt
  refine own_Go.tr st365 ?_
  show own_Go _ _ _ _ (T365.setTop (mkF m 31 #[.val (.ref a1)] [(.ref b323)]))
  obtain ⟨a375, T375, h375, kk375, t375, kb375, X375, e375, E375, hS375, hk375, hZ375, hown375, A375, C375, V375, B375, la375, lb375, ch375, Li375, sf375, st375⟩ := ldcCH X365 hx hZ362 hown362 (hw _ (List.mem_of_getElem? (i := 150) rfl)) wS rfl hS362 (by omega) hEL (by decide) R365.1 (vs := [(.int (34 : Int32))]) (z := (1 : Int32)) (by decide) (by decide) (by decide) (g := (mkF m 31 #[.val (.ref a1)] [(.ref b323)])) rfl (hb hby d_prog_2_method_5_31) (n := 4) (by decide) (by decide) (by decide) (by decide)
  refine own_Go.st st375 ?_
  have z375 : T365.heap.size ≤ h375.size := E375.1
  have la375' : @LT.lt Nat _ a375 h375.size := la375
  have lb375' : @LT.lt Nat _ t375 h375.size := lb375
  have R375 : CHr Z consts_1 s.vm h0 T375.vm h375 := R365.trans ch375
  have Sf376 : Safe Z consts_1 T375.vm h375 a3_327 := ch375.safe (by show @LT.lt Nat _ a3_327 _; omega) Sf374
  have fT375 : own_Str Z h375 a375 t375 ([(34 : Int32)] : List Int32) := ⟨kb375, 0, (1 : Int32), [(.int (34 : Int32))], A375, V375, C375, B375, Or.inl ⟨rfl, rfl, rfl, (by decide)⟩, (by decide), (by decide)⟩
  have nl377 := sf375 a3_327 Sf376
  have nl377a : @Ne Nat a3_327 a375 := nl377.1
  have nl377b : @Ne Nat a3_327 t375 := nl377.2
  show own_Go _ _ _ _ (T375.setTop (mkF m 33 #[.val (.ref a1)] [(.ref a375), (.ref b323)]))
  have f379 : Exa Z h375 b323 "java/lang/StringBuilder" := f365_0.ext E375
  have f380 : Fld Z h375 b323 "java/lang/AbstractStringBuilder" "value" "[B" (.ref a3_327) := f365_1.ext E375
  have f381 : Fld Z h375 b323 "java/lang/AbstractStringBuilder" "coder" "B" (.int (0 : Int32)) := f365_2.ext E375
  have f382 : Fld Z h375 b323 "java/lang/AbstractStringBuilder" "count" "I" (.int (Int32.ofNat (((([] : List Int32) ++ ((cs.drop 0).take ((cs.length - 1) - 0))) ++ ([(45 : Int32)] : List Int32)) ++ ([(103 : Int32), (122 : Int32), (105 : Int32), (112 : Int32)] : List Int32)).length)) := f365_3.ext E375
  have f383 : Arv Z h375 a3_327 k_327 .byte (Int32.ofNat 16) (own_low (((([] : List Int32) ++ ((cs.drop 0).take ((cs.length - 1) - 0))) ++ ([(45 : Int32)] : List Int32)) ++ ([(103 : Int32), (122 : Int32), (105 : Int32), (112 : Int32)] : List Int32))) (.int (0 : Int32)) := f365_4.ext E375
  have f384 : Old Z Z.heap.size T365.heap := f372.keep K365 (allS (by omega) (allS (by omega) all0))
  have f385 : Old Z Z.heap.size h375 := f384.ext E375
  obtain ⟨cq378, kq378, q378a, q378b, q378c⟩ := isOf hZ375 e375 f379
  obtain ⟨_, _, ⟨T378, L378, k378, n378⟩, -, X378, ⟨Lc378, hQ378, l378, y378, z378⟩, st378⟩ := X375.virtualBack hx (y := (⟨"java/lang/StringBuilder", "append", "(Ljava/lang/String;)Ljava/lang/StringBuilder;"⟩ : MethodName)) (z := (⟨"java/lang/StringBuilder", "append", "(Ljava/lang/String;)Ljava/lang/StringBuilder;"⟩ : MethodName)) hown375 (mvT hZ375 (hw _ (List.mem_of_getElem? (i := 111) rfl))) (mvT hZ375 (hw _ (List.mem_of_getElem? (i := 112) rfl))) (notFace_of_selects (args := #[]) (mvT hZ375 (hw _ (List.mem_of_getElem? (i := 114) rfl)))) (mvT hZ375 (hw _ (List.mem_of_getElem? (i := 114) rfl))) (mvT hZ375 (hw _ (List.mem_of_getElem? (i := 113) rfl))) (by decide) (backOf (W := 0) (rm_sbappend l Z a0 hw [] b323 a375 t375 (((([] : List Int32) ++ ((cs.drop 0).take ((cs.length - 1) - 0))) ++ ([(45 : Int32)] : List Int32)) ++ ([(103 : Int32), (122 : Int32), (105 : Int32), (112 : Int32)] : List Int32)) ([(34 : Int32)] : List Int32) 16 k_327 zc a3_327 h375 f385 f379 f380 f381 f382 fT375 f383 st_COMPACT_STRINGS (by first | assumption | decide) (by simp only [List.length_append, List.length_cons, List.length_nil, List.length_take, List.length_drop]; omega) (by decide) (Ne.symm nl377b) (by omega) (by omega) (by decide)) hZ375 (hw _ (List.mem_of_getElem? (i := 115) rfl)) (hw _ (List.mem_of_getElem? (i := 40) rfl)) (by decide) (by decide)) q378a q378c (g := (mkF m 33 #[.val (.ref a1)] [(.ref a375), (.ref b323)])) rfl (by rw [hml]; rfl) (Steps.refl _) (argsL := [(.ref a375)]) (rest := []) (lenOf pd_320 rfl) rfl (by show 2 * 0 + _ ≤ _; exact Nat.le_of_eq rfl) (hb hby d_prog_2_method_5_33) (fun _ _ => ⟨rfl, e375, (by decide : 10 + 0 ≤ _), (by decide : 76 + 0 ≤ _)⟩)
  dsimp only [Pt.U, Pt.locs, Pt.cells, Pt.slots] at X378 l378 y378 z378 st378 hQ378
  subst l378 y378 z378
  obtain ⟨rfl, N378q, K378, f378_0, f378_1, f378_2, f378_3, f378_4⟩ := hQ378
  have N378 := Fr.app N365 N378q
  have Sf386 : Safe Z consts_1 T375.vm h375 b323 := Safe.exa hZ375.alike f379 (by decide) (by decide)
  have z378 : h375.size ≤ T378.heap.size := K378.1
  have R378 : CHr Z consts_1 s.vm h0 T375.vm T378.heap := R375.trans (CHr.keep K378 (sfS Sf386 (sfS Sf376 sf0)) R375.1)
  have Sf387 : Safe Z consts_1 T375.vm T378.heap a3_327 := Safe.keep K378 (sfS Sf386 (sfS Sf376 sf0)) R375.1 Sf376
  have lt378_0 : @LT.lt Nat _ b323 T378.heap.size := f378_0.lt
  have lt378_1 : @LT.lt Nat _ b323 T378.heap.size := f378_1.lt
  have lt378_2 : @LT.lt Nat _ b323 T378.heap.size := f378_2.lt
  have lt378_3 : @LT.lt Nat _ b323 T378.heap.size := f378_3.lt
  have lt378_4 : @LT.lt Nat _ a3_327 T378.heap.size := f378_4.lt
  refine own_Go.tr st378 ?_
  show own_Go _ _ _ _ (T378.setTop (mkF m 36 #[.val (.ref a1)] [(.ref b323)]))
  have f389 : Old Z Z.heap.size T378.heap := f385.keep K378 (allS (by omega) (allS (by omega) all0))
  obtain ⟨cq388, kq388, q388a, q388b, q388c⟩ := isOf hZ375 rfl f378_0
  obtain ⟨_, _, ⟨T388, L388, k388, n388⟩, -, X388, ⟨Lc388, hQ388, l388, y388, z388⟩, st388⟩ := X378.virtualBack hx (y := (⟨"java/lang/StringBuilder", "toString", "()Ljava/lang/String;"⟩ : MethodName)) (z := (⟨"java/lang/StringBuilder", "toString", "()Ljava/lang/String;"⟩ : MethodName)) hown375 (mvT hZ375 (hw _ (List.mem_of_getElem? (i := 151) rfl))) (mvT hZ375 (hw _ (List.mem_of_getElem? (i := 152) rfl))) (notFace_of_selects (args := #[]) (mvT hZ375 (hw _ (List.mem_of_getElem? (i := 154) rfl)))) (mvT hZ375 (hw _ (List.mem_of_getElem? (i := 154) rfl))) (mvT hZ375 (hw _ (List.mem_of_getElem? (i := 153) rfl))) (by decide) (backOf (W := 0) (rm_tostr l Z a0 hw [] b323 ((((([] : List Int32) ++ ((cs.drop 0).take ((cs.length - 1) - 0))) ++ ([(45 : Int32)] : List Int32)) ++ ([(103 : Int32), (122 : Int32), (105 : Int32), (112 : Int32)] : List Int32)) ++ ([(34 : Int32)] : List Int32)) 16 a3_327 k_327 zc T378.heap f389 f378_0 f378_1 f378_2 f378_3 f378_4 st_COMPACT_STRINGS (by first | assumption | decide) (by simp only [List.length_append, List.length_cons, List.length_nil, List.length_take, List.length_drop]; omega) (by decide) (by simp only [List.length_append, List.length_cons, List.length_nil, List.length_take, List.length_drop]; omega) (own_latA (own_latA (own_latA (own_latA own_lat0 (own_latT hlc)) (by decide)) (by decide)) (by decide))) hZ375 (hw _ (List.mem_of_getElem? (i := 155) rfl)) (hw _ (List.mem_of_getElem? (i := 40) rfl)) (by decide) (by decide)) q388a q388c (g := (mkF m 36 #[.val (.ref a1)] [(.ref b323)])) rfl (by rw [hml]; rfl) (Steps.refl _) (argsL := []) (rest := []) (lenOf pd_328 rfl) rfl (by show 2 * 0 + _ ≤ _; exact Nat.le_of_eq rfl) (hb hby d_prog_2_method_5_36) (fun _ _ => ⟨rfl, rfl, (by decide : 10 + 2 ≤ _), (by decide : 76 + 20 ≤ _)⟩)
  dsimp only [Pt.U, Pt.locs, Pt.cells, Pt.slots] at X388 l388 y388 z388 st388 hQ388
  subst l388 y388 z388
  obtain ⟨x_388, t_388, rfl, N388q, K388, f388_0, pr388_0, pr388_1⟩ := hQ388
  have N388 := Fr.app N378 N388q
  have z388 : T378.heap.size ≤ T388.heap.size := K388.1
  have R388 : CHr Z consts_1 s.vm h0 T375.vm T388.heap := R378.trans (CHr.keep K388 sf0 R378.1)
  have Sf390 : Safe Z consts_1 T375.vm T388.heap a3_327 := Safe.keep K388 sf0 R378.1 Sf387
  have lt388_0 : @LT.lt Nat _ x_388 T388.heap.size := f388_0.lt
  have ltv388_0 : @LT.lt Nat _ t_388 T388.heap.size := f388_0.ltv
  refine own_Go.tr st388 ?_
  show own_Go _ _ _ _ (T388.setTop (mkF m 39 #[.val (.ref a1)] [(.ref x_388)]))
  obtain ⟨fs391, hr391, hrun391, hend391, hret391⟩ := X388.leaveW hS375 (by omega) (v := some (.ref x_388)) (fun h => by rw [Bd.returns] at h; cases h)
  have K392 : Keep h0 h323 [] := (Keep.refl h0 []).ext E323
  have K393 : Keep h0 T327.heap [] := K392.trans K327 (allS (Or.inr (by omega)) all0)
  have K394 : Keep h0 T338.heap [] := K393.trans K338 all0
  have K395 : Keep h0 T340.heap [] := K394.trans K340 (allS (Or.inr (by omega)) (allS (Or.inr (by omega)) all0))
  have K396 : Keep h0 h349 [] := K395.ext E349
  have K397 : Keep h0 T352.heap [] := K396.trans K352 (allS (Or.inr (by omega)) (allS (Or.inr (by omega)) all0))
  have K398 : Keep h0 h362 [] := K397.ext E362
  have K399 : Keep h0 T365.heap [] := K398.trans K365 (allS (Or.inr (by omega)) (allS (Or.inr (by omega)) all0))
  have K400 : Keep h0 h375 [] := K399.ext E375
  have K401 : Keep h0 T378.heap [] := K400.trans K378 (allS (Or.inr (by omega)) (allS (Or.inr (by omega)) all0))
  have K402 : Keep h0 T388.heap [] := K401.trans K388 all0
  subst hPP
  refine ⟨_, _, own_retA X388 hx Bd.returns rfl rfl (hb hby d_prog_2_method_5_39) hr391, hrun391, hend391, _, _, rfl, ?_, ?_, hret391.1, hret391.2.1, hret391.2.2.1, hret391.2.2.2.mono (by decide) (by decide)⟩
  · show Q_etag Z _ _ _ _ _ h0 _ T388.heap _
    exact ⟨x_388, t_388, ((((([] : List Int32) ++ ((cs.drop 0).take ((cs.length - 1) - 0))) ++ ([(45 : Int32)] : List Int32)) ++ ([(103 : Int32), (122 : Int32), (105 : Int32), (112 : Int32)] : List Int32)) ++ ([(34 : Int32)] : List Int32)), rfl, N388, K402, f388_0, (by simp)⟩
  · have hfin := R388.trans (CHv.at X388 hZ375 hEL R388.1)
    rw [← hh] at hfin
    show CHr Z consts_1 s.vm s.heap T388.vm T388.heap
    exact hfin
theorem pn_331 : plainName "com/example/net30/net30/http/GzipEtagPinLaw" = true := by first | (simp [plainName, overriddenIn]; done) | decide +kernel
theorem ef_332 (m : MethodId) (x0 : Int32) (x1 : Int32) (x2 : Int32) (x3 : Int32) (x4 : Int32) : entryFrame m #[(.int x0), (.int x1), (.int x2), (.int x3), (.int x4)] 5 = mkF m 0 #[.val (.int x0), .val (.int x1), .val (.int x2), .val (.int x3), .val (.int x4)] [] := by first | (simp [entryFrame, mkF, argsToLocals, Value.category]; done) | rfl
theorem d_method_4_0 : decode method_4_code 0 = .ok (.iload_n 0, 1) := by decide +kernel
theorem d_method_4_1 : decode method_4_code 1 = .ok (.ifCond .eq 169, 3) := by decide +kernel
theorem d_method_4_170 : decode method_4_code 170 = .ok (.iload_n 1, 1) := by decide +kernel
theorem d_method_4_171 : decode method_4_code 171 = .ok (.ifCond .ne 24, 3) := by decide +kernel
theorem d_method_4_174 : decode method_4_code 174 = .ok (.new 20, 3) := by decide +kernel
theorem d_method_4_177 : decode method_4_code 177 = .ok (.dup, 1) := by decide +kernel
theorem d_method_4_178 : decode method_4_code 178 = .ok (.iconst 2, 1) := by decide +kernel
theorem d_method_4_179 : decode method_4_code 179 = .ok (.newarray .char, 2) := by decide +kernel
theorem d_method_4_181 : decode method_4_code 181 = .ok (.dup, 1) := by decide +kernel
theorem d_method_4_182 : decode method_4_code 182 = .ok (.iconst 0, 1) := by decide +kernel
theorem d_method_4_183 : decode method_4_code 183 = .ok (.bipush 34, 2) := by decide +kernel
theorem d_method_4_185 : decode method_4_code 185 = .ok (.castore, 1) := by decide +kernel
theorem d_method_4_186 : decode method_4_code 186 = .ok (.dup, 1) := by decide +kernel
theorem d_method_4_187 : decode method_4_code 187 = .ok (.iconst 1, 1) := by decide +kernel
theorem d_method_4_188 : decode method_4_code 188 = .ok (.bipush 34, 2) := by decide +kernel
theorem d_method_4_190 : decode method_4_code 190 = .ok (.castore, 1) := by decide +kernel
theorem pd_349 : parseMethodDescriptor "([C)V" = some ⟨[(.array .char)], none⟩ := by decide +kernel
theorem d_method_4_191 : decode method_4_code 191 = .ok (.invokespecial 33, 3) := by decide +kernel
theorem d_method_4_194 : decode method_4_code 194 = .ok (.areturn, 1) := by decide +kernel
theorem d_method_4_195 : decode method_4_code 195 = .ok (.iload_n 1, 1) := by decide +kernel
theorem d_method_4_196 : decode method_4_code 196 = .ok (.iconst 1, 1) := by decide +kernel
theorem d_method_4_197 : decode method_4_code 197 = .ok (.if_icmp .ne 28, 3) := by decide +kernel
theorem d_method_4_200 : decode method_4_code 200 = .ok (.new 20, 3) := by decide +kernel
theorem d_method_4_203 : decode method_4_code 203 = .ok (.dup, 1) := by decide +kernel
theorem d_method_4_204 : decode method_4_code 204 = .ok (.iconst 3, 1) := by decide +kernel
theorem d_method_4_205 : decode method_4_code 205 = .ok (.newarray .char, 2) := by decide +kernel
theorem d_method_4_207 : decode method_4_code 207 = .ok (.dup, 1) := by decide +kernel
theorem d_method_4_208 : decode method_4_code 208 = .ok (.iconst 0, 1) := by decide +kernel
theorem d_method_4_209 : decode method_4_code 209 = .ok (.bipush 34, 2) := by decide +kernel
theorem d_method_4_211 : decode method_4_code 211 = .ok (.castore, 1) := by decide +kernel
theorem d_method_4_212 : decode method_4_code 212 = .ok (.dup, 1) := by decide +kernel
theorem d_method_4_213 : decode method_4_code 213 = .ok (.iconst 1, 1) := by decide +kernel
theorem d_method_4_214 : decode method_4_code 214 = .ok (.iload_n 2, 1) := by decide +kernel
theorem d_method_4_215 : decode method_4_code 215 = .ok (.castore, 1) := by decide +kernel
theorem d_method_4_216 : decode method_4_code 216 = .ok (.dup, 1) := by decide +kernel
theorem d_method_4_217 : decode method_4_code 217 = .ok (.iconst 2, 1) := by decide +kernel
theorem d_method_4_218 : decode method_4_code 218 = .ok (.bipush 34, 2) := by decide +kernel
theorem d_method_4_220 : decode method_4_code 220 = .ok (.castore, 1) := by decide +kernel
theorem d_method_4_221 : decode method_4_code 221 = .ok (.invokespecial 33, 3) := by decide +kernel
theorem d_method_4_224 : decode method_4_code 224 = .ok (.areturn, 1) := by decide +kernel
theorem d_method_4_225 : decode method_4_code 225 = .ok (.iload_n 1, 1) := by decide +kernel
theorem d_method_4_226 : decode method_4_code 226 = .ok (.iconst 2, 1) := by decide +kernel
theorem d_method_4_227 : decode method_4_code 227 = .ok (.if_icmp .ne 32, 3) := by decide +kernel
theorem d_method_4_230 : decode method_4_code 230 = .ok (.new 20, 3) := by decide +kernel
theorem d_method_4_233 : decode method_4_code 233 = .ok (.dup, 1) := by decide +kernel
theorem d_method_4_234 : decode method_4_code 234 = .ok (.iconst 4, 1) := by decide +kernel
theorem d_method_4_235 : decode method_4_code 235 = .ok (.newarray .char, 2) := by decide +kernel
theorem d_method_4_237 : decode method_4_code 237 = .ok (.dup, 1) := by decide +kernel
theorem d_method_4_238 : decode method_4_code 238 = .ok (.iconst 0, 1) := by decide +kernel
theorem d_method_4_239 : decode method_4_code 239 = .ok (.bipush 34, 2) := by decide +kernel
theorem d_method_4_241 : decode method_4_code 241 = .ok (.castore, 1) := by decide +kernel
theorem d_method_4_242 : decode method_4_code 242 = .ok (.dup, 1) := by decide +kernel
theorem d_method_4_243 : decode method_4_code 243 = .ok (.iconst 1, 1) := by decide +kernel
theorem d_method_4_244 : decode method_4_code 244 = .ok (.iload_n 2, 1) := by decide +kernel
theorem d_method_4_245 : decode method_4_code 245 = .ok (.castore, 1) := by decide +kernel
theorem d_method_4_246 : decode method_4_code 246 = .ok (.dup, 1) := by decide +kernel
theorem d_method_4_247 : decode method_4_code 247 = .ok (.iconst 2, 1) := by decide +kernel
theorem d_method_4_248 : decode method_4_code 248 = .ok (.iload_n 3, 1) := by decide +kernel
theorem d_method_4_249 : decode method_4_code 249 = .ok (.castore, 1) := by decide +kernel
theorem d_method_4_250 : decode method_4_code 250 = .ok (.dup, 1) := by decide +kernel
theorem d_method_4_251 : decode method_4_code 251 = .ok (.iconst 3, 1) := by decide +kernel
theorem d_method_4_252 : decode method_4_code 252 = .ok (.bipush 34, 2) := by decide +kernel
theorem d_method_4_254 : decode method_4_code 254 = .ok (.castore, 1) := by decide +kernel
theorem d_method_4_255 : decode method_4_code 255 = .ok (.invokespecial 33, 3) := by decide +kernel
theorem d_method_4_258 : decode method_4_code 258 = .ok (.areturn, 1) := by decide +kernel
theorem d_method_4_259 : decode method_4_code 259 = .ok (.new 20, 3) := by decide +kernel
theorem d_method_4_262 : decode method_4_code 262 = .ok (.dup, 1) := by decide +kernel
theorem d_method_4_263 : decode method_4_code 263 = .ok (.iconst 5, 1) := by decide +kernel
theorem d_method_4_264 : decode method_4_code 264 = .ok (.newarray .char, 2) := by decide +kernel
theorem d_method_4_266 : decode method_4_code 266 = .ok (.dup, 1) := by decide +kernel
theorem d_method_4_267 : decode method_4_code 267 = .ok (.iconst 0, 1) := by decide +kernel
theorem d_method_4_268 : decode method_4_code 268 = .ok (.bipush 34, 2) := by decide +kernel
theorem d_method_4_270 : decode method_4_code 270 = .ok (.castore, 1) := by decide +kernel
theorem d_method_4_271 : decode method_4_code 271 = .ok (.dup, 1) := by decide +kernel
theorem d_method_4_272 : decode method_4_code 272 = .ok (.iconst 1, 1) := by decide +kernel
theorem d_method_4_273 : decode method_4_code 273 = .ok (.iload_n 2, 1) := by decide +kernel
theorem d_method_4_274 : decode method_4_code 274 = .ok (.castore, 1) := by decide +kernel
theorem d_method_4_275 : decode method_4_code 275 = .ok (.dup, 1) := by decide +kernel
theorem d_method_4_276 : decode method_4_code 276 = .ok (.iconst 2, 1) := by decide +kernel
theorem d_method_4_277 : decode method_4_code 277 = .ok (.iload_n 3, 1) := by decide +kernel
theorem d_method_4_278 : decode method_4_code 278 = .ok (.castore, 1) := by decide +kernel
theorem d_method_4_279 : decode method_4_code 279 = .ok (.dup, 1) := by decide +kernel
theorem d_method_4_280 : decode method_4_code 280 = .ok (.iconst 3, 1) := by decide +kernel
theorem d_method_4_281 : decode method_4_code 281 = .ok (.iload 4, 2) := by decide +kernel
theorem d_method_4_283 : decode method_4_code 283 = .ok (.castore, 1) := by decide +kernel
theorem d_method_4_284 : decode method_4_code 284 = .ok (.dup, 1) := by decide +kernel
theorem d_method_4_285 : decode method_4_code 285 = .ok (.iconst 4, 1) := by decide +kernel
theorem d_method_4_286 : decode method_4_code 286 = .ok (.bipush 34, 2) := by decide +kernel
theorem d_method_4_288 : decode method_4_code 288 = .ok (.castore, 1) := by decide +kernel
theorem d_method_4_289 : decode method_4_code 289 = .ok (.invokespecial 33, 3) := by decide +kernel
theorem d_method_4_292 : decode method_4_code 292 = .ok (.areturn, 1) := by decide +kernel
theorem d_method_4_4 : decode method_4_code 4 = .ok (.iload_n 1, 1) := by decide +kernel
theorem d_method_4_5 : decode method_4_code 5 = .ok (.ifCond .ne 34, 3) := by decide +kernel
theorem d_method_4_8 : decode method_4_code 8 = .ok (.new 20, 3) := by decide +kernel
theorem d_method_4_11 : decode method_4_code 11 = .ok (.dup, 1) := by decide +kernel
theorem d_method_4_12 : decode method_4_code 12 = .ok (.iconst 4, 1) := by decide +kernel
theorem d_method_4_13 : decode method_4_code 13 = .ok (.newarray .char, 2) := by decide +kernel
theorem d_method_4_15 : decode method_4_code 15 = .ok (.dup, 1) := by decide +kernel
theorem d_method_4_16 : decode method_4_code 16 = .ok (.iconst 0, 1) := by decide +kernel
theorem d_method_4_17 : decode method_4_code 17 = .ok (.bipush 87, 2) := by decide +kernel
theorem d_method_4_19 : decode method_4_code 19 = .ok (.castore, 1) := by decide +kernel
theorem d_method_4_20 : decode method_4_code 20 = .ok (.dup, 1) := by decide +kernel
theorem d_method_4_21 : decode method_4_code 21 = .ok (.iconst 1, 1) := by decide +kernel
theorem d_method_4_22 : decode method_4_code 22 = .ok (.bipush 47, 2) := by decide +kernel
theorem d_method_4_24 : decode method_4_code 24 = .ok (.castore, 1) := by decide +kernel
theorem d_method_4_25 : decode method_4_code 25 = .ok (.dup, 1) := by decide +kernel
theorem d_method_4_26 : decode method_4_code 26 = .ok (.iconst 2, 1) := by decide +kernel
theorem d_method_4_27 : decode method_4_code 27 = .ok (.bipush 34, 2) := by decide +kernel
theorem d_method_4_29 : decode method_4_code 29 = .ok (.castore, 1) := by decide +kernel
theorem d_method_4_30 : decode method_4_code 30 = .ok (.dup, 1) := by decide +kernel
theorem d_method_4_31 : decode method_4_code 31 = .ok (.iconst 3, 1) := by decide +kernel
theorem d_method_4_32 : decode method_4_code 32 = .ok (.bipush 34, 2) := by decide +kernel
theorem d_method_4_34 : decode method_4_code 34 = .ok (.castore, 1) := by decide +kernel
theorem d_method_4_35 : decode method_4_code 35 = .ok (.invokespecial 33, 3) := by decide +kernel
theorem d_method_4_38 : decode method_4_code 38 = .ok (.areturn, 1) := by decide +kernel
theorem d_method_4_39 : decode method_4_code 39 = .ok (.iload_n 1, 1) := by decide +kernel
theorem d_method_4_40 : decode method_4_code 40 = .ok (.iconst 1, 1) := by decide +kernel
theorem d_method_4_41 : decode method_4_code 41 = .ok (.if_icmp .ne 38, 3) := by decide +kernel
theorem d_method_4_44 : decode method_4_code 44 = .ok (.new 20, 3) := by decide +kernel
theorem d_method_4_47 : decode method_4_code 47 = .ok (.dup, 1) := by decide +kernel
theorem d_method_4_48 : decode method_4_code 48 = .ok (.iconst 5, 1) := by decide +kernel
theorem d_method_4_49 : decode method_4_code 49 = .ok (.newarray .char, 2) := by decide +kernel
theorem d_method_4_51 : decode method_4_code 51 = .ok (.dup, 1) := by decide +kernel
theorem d_method_4_52 : decode method_4_code 52 = .ok (.iconst 0, 1) := by decide +kernel
theorem d_method_4_53 : decode method_4_code 53 = .ok (.bipush 87, 2) := by decide +kernel
theorem d_method_4_55 : decode method_4_code 55 = .ok (.castore, 1) := by decide +kernel
theorem d_method_4_56 : decode method_4_code 56 = .ok (.dup, 1) := by decide +kernel
theorem d_method_4_57 : decode method_4_code 57 = .ok (.iconst 1, 1) := by decide +kernel
theorem d_method_4_58 : decode method_4_code 58 = .ok (.bipush 47, 2) := by decide +kernel
theorem d_method_4_60 : decode method_4_code 60 = .ok (.castore, 1) := by decide +kernel
theorem d_method_4_61 : decode method_4_code 61 = .ok (.dup, 1) := by decide +kernel
theorem d_method_4_62 : decode method_4_code 62 = .ok (.iconst 2, 1) := by decide +kernel
theorem d_method_4_63 : decode method_4_code 63 = .ok (.bipush 34, 2) := by decide +kernel
theorem d_method_4_65 : decode method_4_code 65 = .ok (.castore, 1) := by decide +kernel
theorem d_method_4_66 : decode method_4_code 66 = .ok (.dup, 1) := by decide +kernel
theorem d_method_4_67 : decode method_4_code 67 = .ok (.iconst 3, 1) := by decide +kernel
theorem d_method_4_68 : decode method_4_code 68 = .ok (.iload_n 2, 1) := by decide +kernel
theorem d_method_4_69 : decode method_4_code 69 = .ok (.castore, 1) := by decide +kernel
theorem d_method_4_70 : decode method_4_code 70 = .ok (.dup, 1) := by decide +kernel
theorem d_method_4_71 : decode method_4_code 71 = .ok (.iconst 4, 1) := by decide +kernel
theorem d_method_4_72 : decode method_4_code 72 = .ok (.bipush 34, 2) := by decide +kernel
theorem d_method_4_74 : decode method_4_code 74 = .ok (.castore, 1) := by decide +kernel
theorem d_method_4_75 : decode method_4_code 75 = .ok (.invokespecial 33, 3) := by decide +kernel
theorem d_method_4_78 : decode method_4_code 78 = .ok (.areturn, 1) := by decide +kernel
theorem d_method_4_79 : decode method_4_code 79 = .ok (.iload_n 1, 1) := by decide +kernel
theorem d_method_4_80 : decode method_4_code 80 = .ok (.iconst 2, 1) := by decide +kernel
theorem d_method_4_81 : decode method_4_code 81 = .ok (.if_icmp .ne 43, 3) := by decide +kernel
theorem d_method_4_84 : decode method_4_code 84 = .ok (.new 20, 3) := by decide +kernel
theorem d_method_4_87 : decode method_4_code 87 = .ok (.dup, 1) := by decide +kernel
theorem d_method_4_88 : decode method_4_code 88 = .ok (.bipush 6, 2) := by decide +kernel
theorem d_method_4_90 : decode method_4_code 90 = .ok (.newarray .char, 2) := by decide +kernel
theorem d_method_4_92 : decode method_4_code 92 = .ok (.dup, 1) := by decide +kernel
theorem d_method_4_93 : decode method_4_code 93 = .ok (.iconst 0, 1) := by decide +kernel
theorem d_method_4_94 : decode method_4_code 94 = .ok (.bipush 87, 2) := by decide +kernel
theorem d_method_4_96 : decode method_4_code 96 = .ok (.castore, 1) := by decide +kernel
theorem d_method_4_97 : decode method_4_code 97 = .ok (.dup, 1) := by decide +kernel
theorem d_method_4_98 : decode method_4_code 98 = .ok (.iconst 1, 1) := by decide +kernel
theorem d_method_4_99 : decode method_4_code 99 = .ok (.bipush 47, 2) := by decide +kernel
theorem d_method_4_101 : decode method_4_code 101 = .ok (.castore, 1) := by decide +kernel
theorem d_method_4_102 : decode method_4_code 102 = .ok (.dup, 1) := by decide +kernel
theorem d_method_4_103 : decode method_4_code 103 = .ok (.iconst 2, 1) := by decide +kernel
theorem d_method_4_104 : decode method_4_code 104 = .ok (.bipush 34, 2) := by decide +kernel
theorem d_method_4_106 : decode method_4_code 106 = .ok (.castore, 1) := by decide +kernel
theorem d_method_4_107 : decode method_4_code 107 = .ok (.dup, 1) := by decide +kernel
theorem d_method_4_108 : decode method_4_code 108 = .ok (.iconst 3, 1) := by decide +kernel
theorem d_method_4_109 : decode method_4_code 109 = .ok (.iload_n 2, 1) := by decide +kernel
theorem d_method_4_110 : decode method_4_code 110 = .ok (.castore, 1) := by decide +kernel
theorem d_method_4_111 : decode method_4_code 111 = .ok (.dup, 1) := by decide +kernel
theorem d_method_4_112 : decode method_4_code 112 = .ok (.iconst 4, 1) := by decide +kernel
theorem d_method_4_113 : decode method_4_code 113 = .ok (.iload_n 3, 1) := by decide +kernel
theorem d_method_4_114 : decode method_4_code 114 = .ok (.castore, 1) := by decide +kernel
theorem d_method_4_115 : decode method_4_code 115 = .ok (.dup, 1) := by decide +kernel
theorem d_method_4_116 : decode method_4_code 116 = .ok (.iconst 5, 1) := by decide +kernel
theorem d_method_4_117 : decode method_4_code 117 = .ok (.bipush 34, 2) := by decide +kernel
theorem d_method_4_119 : decode method_4_code 119 = .ok (.castore, 1) := by decide +kernel
theorem d_method_4_120 : decode method_4_code 120 = .ok (.invokespecial 33, 3) := by decide +kernel
theorem d_method_4_123 : decode method_4_code 123 = .ok (.areturn, 1) := by decide +kernel
theorem d_method_4_124 : decode method_4_code 124 = .ok (.new 20, 3) := by decide +kernel
theorem d_method_4_127 : decode method_4_code 127 = .ok (.dup, 1) := by decide +kernel
theorem d_method_4_128 : decode method_4_code 128 = .ok (.bipush 7, 2) := by decide +kernel
theorem d_method_4_130 : decode method_4_code 130 = .ok (.newarray .char, 2) := by decide +kernel
theorem d_method_4_132 : decode method_4_code 132 = .ok (.dup, 1) := by decide +kernel
theorem d_method_4_133 : decode method_4_code 133 = .ok (.iconst 0, 1) := by decide +kernel
theorem d_method_4_134 : decode method_4_code 134 = .ok (.bipush 87, 2) := by decide +kernel
theorem d_method_4_136 : decode method_4_code 136 = .ok (.castore, 1) := by decide +kernel
theorem d_method_4_137 : decode method_4_code 137 = .ok (.dup, 1) := by decide +kernel
theorem d_method_4_138 : decode method_4_code 138 = .ok (.iconst 1, 1) := by decide +kernel
theorem d_method_4_139 : decode method_4_code 139 = .ok (.bipush 47, 2) := by decide +kernel
theorem d_method_4_141 : decode method_4_code 141 = .ok (.castore, 1) := by decide +kernel
theorem d_method_4_142 : decode method_4_code 142 = .ok (.dup, 1) := by decide +kernel
theorem d_method_4_143 : decode method_4_code 143 = .ok (.iconst 2, 1) := by decide +kernel
theorem d_method_4_144 : decode method_4_code 144 = .ok (.bipush 34, 2) := by decide +kernel
theorem d_method_4_146 : decode method_4_code 146 = .ok (.castore, 1) := by decide +kernel
theorem d_method_4_147 : decode method_4_code 147 = .ok (.dup, 1) := by decide +kernel
theorem d_method_4_148 : decode method_4_code 148 = .ok (.iconst 3, 1) := by decide +kernel
theorem d_method_4_149 : decode method_4_code 149 = .ok (.iload_n 2, 1) := by decide +kernel
theorem d_method_4_150 : decode method_4_code 150 = .ok (.castore, 1) := by decide +kernel
theorem d_method_4_151 : decode method_4_code 151 = .ok (.dup, 1) := by decide +kernel
theorem d_method_4_152 : decode method_4_code 152 = .ok (.iconst 4, 1) := by decide +kernel
theorem d_method_4_153 : decode method_4_code 153 = .ok (.iload_n 3, 1) := by decide +kernel
theorem d_method_4_154 : decode method_4_code 154 = .ok (.castore, 1) := by decide +kernel
theorem d_method_4_155 : decode method_4_code 155 = .ok (.dup, 1) := by decide +kernel
theorem d_method_4_156 : decode method_4_code 156 = .ok (.iconst 5, 1) := by decide +kernel
theorem d_method_4_157 : decode method_4_code 157 = .ok (.iload 4, 2) := by decide +kernel
theorem d_method_4_159 : decode method_4_code 159 = .ok (.castore, 1) := by decide +kernel
theorem d_method_4_160 : decode method_4_code 160 = .ok (.dup, 1) := by decide +kernel
theorem d_method_4_161 : decode method_4_code 161 = .ok (.bipush 6, 2) := by decide +kernel
theorem d_method_4_163 : decode method_4_code 163 = .ok (.bipush 34, 2) := by decide +kernel
theorem d_method_4_165 : decode method_4_code 165 = .ok (.castore, 1) := by decide +kernel
theorem d_method_4_166 : decode method_4_code 166 = .ok (.invokespecial 33, 3) := by decide +kernel
theorem d_method_4_169 : decode method_4_code 169 = .ok (.areturn, 1) := by decide +kernel
def Q_tag (Z : State) (p1 : Int32) (p2 : Int32) (p3 : Int32) (p4 : Int32) (p5 : Int32) (zc : Int32) (h0 : Heap) (v : Option Value) (h : Heap) (L : List Loc) : Prop := ∃ (x : Nat), ∃ (t : Nat), ∃ (cs : List Int32), v = some (.ref x) ∧ Fr Z.heap.size L ∧ Keep h0 h [] ∧ own_Str Z h x t cs ∧ (2 ≤ cs.length) ∧ (cs.length ≤ 7) ∧ (∀ c ∈ cs, ¬ c < 0 ∧ ¬ (255 : Int32) < c)
set_option maxRecDepth 65536 in
set_option maxHeartbeats 40000000 in
theorem rm_tag (l : Launch) (Z : State) (a0 : Array Value) (hw : ∀ d ∈ tables_1, d.before a0 Z = true) (ws : List Jvm.Cond) (p1 : Int32) (p2 : Int32) (p3 : Int32) (p4 : Int32) (p5 : Int32) (zc : Int32) (h0 : Heap) (OL : Old Z Z.heap.size h0) (st_COMPACT_STRINGS : Sta Z Z.heap "java/lang/String" "COMPACT_STRINGS" "Z" (.int zc)) (hzc : ¬ zc = 0) (hp3 : ¬ p3 < 0 ∧ ¬ (255 : Int32) < p3) (hp4 : ¬ p4 < 0 ∧ ¬ (255 : Int32) < p4) (hp5 : ¬ p5 < 0 ∧ ¬ (255 : Int32) < p5) :
    MetFree l (⟨"com/example/net30/net30/http/GzipEtagPinLaw", "tag", "(ZICCC)Ljava/lang/String;"⟩ : MethodName) (head1 (Jvm.Cond.code (⟨"com/example/net30/net30/http/GzipEtagPinLaw", "tag", "(ZICCC)Ljava/lang/String;"⟩ : MethodName) method_4_code 5 (some (.object "java/lang/String")) :: ws) ({ frames := 4, cells := 3, slots := 18, locals := 66 } : Room)) (fun a U => a = #[(.int p1), (.int p2), (.int p3), (.int p4), (.int p5)] ∧ Z.Warmed39 U.vm ∧ U.heap = h0) (fun _ _ _ _ _ => True) (fun _ U o U' => ∃ v L, o = .returned v ∧ Q_tag Z p1 p2 p3 p4 p5 zc h0 v U'.heap L ∧ FrameEnd U o U' L ({ frames := 4, cells := 3, slots := 18, locals := 66 } : Room).cells ({ frames := 4, cells := 3, slots := 18, locals := 66 } : Room).slots) := by
  refine MetFree.of_bodySF (plainFor_of_name pn_331) hisR ?_
  intro p e s m args below meth c s₁ Bd hml0 hP hK
  obtain ⟨rfl, hZ, hh⟩ := hP
  have hx := Bd.exec
  have hby := Bd.bytes
  have hml : c.maxLocals = 5 := hml0
  have hown : s.vm.findClass "com/example/net30/net30/http/GzipEtagPinLaw" = some m.cls := findClass_of_methodNamed Bd.named
  have hnm := (name_of_methodNamed Bd.named Bd.method).1
  have X0 : Stand p l e ({ frames := 4, cells := 3, slots := 18, locals := 66 } : Room) s m #[(.int p1), (.int p2), (.int p3), (.int p4), (.int p5)] below meth c s₁ [] 0 0 := Stand.of_body Bd
  have e0 : s₁.heap = h0 := by rw [← hh, Bd.state]; rfl
  have N0 := Fr.nil Z.heap.size
  have Z0 : Z.heap.size ≤ h0.size := OL.2.1
  obtain ⟨PP, hPP⟩ : ∃ PP : Outcome → State → Prop, PP = (fun o tE => ∃ v L, o = .returned v ∧ Q_tag Z p1 p2 p3 p4 p5 zc h0 v tE.heap L ∧ FrameEnd s o tE L ({ frames := 4, cells := 3, slots := 18, locals := 66 } : Room).cells ({ frames := 4, cells := 3, slots := 18, locals := 66 } : Room).slots) := ⟨_, rfl⟩
  show own_Go p.tables e below (fun o tE => ∃ v L, o = .returned v ∧ Q_tag Z p1 p2 p3 p4 p5 zc h0 v tE.heap L ∧ FrameEnd s o tE L ({ frames := 4, cells := 3, slots := 18, locals := 66 } : Room).cells ({ frames := 4, cells := 3, slots := 18, locals := 66 } : Room).slots) (s₁.setTop (entryFrame m #[(.int p1), (.int p2), (.int p3), (.int p4), (.int p5)] 5))
  rw [← hPP]
  refine own_Go.st (fun t k => castTop (ef_332 m p1 p2 p3 p4 p5) k) ?_
  show own_Go _ _ _ _ (s₁.setTop (mkF m 0 #[.val (.int p1), .val (.int p2), .val (.int p3), .val (.int p4), .val (.int p5)] []))
  refine own_Go.st (fun _ k => XS.iloadN X0.here hx rfl (hb hby d_method_4_0) rfl k) ?_
  show own_Go _ _ _ _ (s₁.setTop (mkF m 1 #[.val (.int p1), .val (.int p2), .val (.int p3), .val (.int p4), .val (.int p5)] [(.int p1)]))
  by_cases hc403 : p1 = (0 : Int32)
  ·
    refine own_Go.st (fun _ k => XS.ifYes X0.here hx rfl (pc0 := 1) (pc' := 170) rfl (hb hby d_method_4_1) rfl ((if0 _ _).trans (teq hc403).1) (by decide) (by decide) k) ?_
    show own_Go _ _ _ _ (s₁.setTop (mkF m 170 #[.val (.int p1), .val (.int p2), .val (.int p3), .val (.int p4), .val (.int p5)] []))
    refine own_Go.st (fun _ k => XS.iloadN X0.here hx rfl (hb hby d_method_4_170) rfl k) ?_
    show own_Go _ _ _ _ (s₁.setTop (mkF m 171 #[.val (.int p1), .val (.int p2), .val (.int p3), .val (.int p4), .val (.int p5)] [(.int p2)]))
    by_cases hc404 : p2 = (0 : Int32)
    ·
      refine own_Go.st (fun _ k => XS.ifNo X0.here hx rfl (hb hby d_method_4_171) rfl ((if0 _ _).trans (teq hc404).2) k) ?_
      show own_Go _ _ _ _ (s₁.setTop (mkF m 174 #[.val (.int p1), .val (.int p2), .val (.int p3), .val (.int p4), .val (.int p5)] []))
      obtain ⟨T405, h405, X405, e405, E405, A405, D405, U405, st405⟩ := newO X0 hx hZ hown (hw _ (List.mem_of_getElem? (i := 4) rfl)) (hw _ (List.mem_of_getElem? (i := 5) rfl)) (hw _ (List.mem_of_getElem? (i := 6) rfl)) e0 (g := (mkF m 174 #[.val (.int p1), .val (.int p2), .val (.int p3), .val (.int p4), .val (.int p5)] [])) rfl (hb hby d_method_4_174) (by decide) (by decide)
      obtain ⟨b405, g405⟩ : ∃ z, z = h0.size := ⟨_, rfl⟩
      rw [← g405] at A405 D405 U405 st405
      refine own_Go.st st405 ?_
      have z405 : h0.size ≤ h405.size := E405.1
      have lt_b405 : @LT.lt Nat _ b405 h405.size := A405.lt
      have f406 : Fld Z h405 b405 "java/lang/String" "coder" "B" (.int (0 : Int32)) := D405 (Or.inr (hw _ (List.mem_of_getElem? (i := 31) rfl))) (ty := .byte) (by decide)
      have f407 : Fld Z h405 b405 "java/lang/String" "value" "[B" .null := D405 (Or.inr (hw _ (List.mem_of_getElem? (i := 33) rfl))) (ty := (.array .byte)) (by decide)
      show own_Go _ _ _ _ (T405.setTop (mkF m 177 #[.val (.int p1), .val (.int p2), .val (.int p3), .val (.int p4), .val (.int p5)] [(.ref b405)]))
      refine own_Go.st (fun _ k => XS.dup X405.here hx rfl (hb hby d_method_4_177) rfl rfl k) ?_
      show own_Go _ _ _ _ (T405.setTop (mkF m 178 #[.val (.int p1), .val (.int p2), .val (.int p3), .val (.int p4), .val (.int p5)] [(.ref b405), (.ref b405)]))
      refine own_Go.st (fun _ k => XS.iconst X405.here hx rfl (hb hby d_method_4_178) k) ?_
      show own_Go _ _ _ _ (T405.setTop (mkF m 179 #[.val (.int p1), .val (.int p2), .val (.int p3), .val (.int p4), .val (.int p5)] [(.int (2 : Int32)), (.ref b405), (.ref b405)]))
      obtain ⟨T408, h408, k408, X408, e408, E408, A408, st408⟩ := newP X405 hx hZ (hw _ (List.mem_of_getElem? (i := 7) rfl)) e405 (g := (mkF m 179 #[.val (.int p1), .val (.int p2), .val (.int p3), .val (.int p4), .val (.int p5)] [(.int (2 : Int32)), (.ref b405), (.ref b405)])) rfl (hb hby d_method_4_179) rfl (by decide) (cap := 2) (by decide) (by decide) (by decide) (by decide)
      obtain ⟨b408, g408⟩ : ∃ z, z = h405.size := ⟨_, rfl⟩
      rw [← g408] at A408 st408
      refine own_Go.st st408 ?_
      have z408 : h405.size ≤ h408.size := E408.1
      have f409 : Arv Z h408 b408 k408 .char (2 : Int32) [(.int (0 : Int32)), (.int (0 : Int32))] (.int (0 : Int32)) := (Arv.new A408 (by decide)).pad (pad_rep [] (.int (0 : Int32)) 2)
      have lt_b408 : @LT.lt Nat _ b408 h408.size := f409.lt
      show own_Go _ _ _ _ (T408.setTop (mkF m 181 #[.val (.int p1), .val (.int p2), .val (.int p3), .val (.int p4), .val (.int p5)] [(.ref b408), (.ref b405), (.ref b405)]))
      refine own_Go.st (fun _ k => XS.dup X408.here hx rfl (hb hby d_method_4_181) rfl rfl k) ?_
      show own_Go _ _ _ _ (T408.setTop (mkF m 182 #[.val (.int p1), .val (.int p2), .val (.int p3), .val (.int p4), .val (.int p5)] [(.ref b408), (.ref b408), (.ref b405), (.ref b405)]))
      refine own_Go.st (fun _ k => XS.iconst X408.here hx rfl (hb hby d_method_4_182) k) ?_
      show own_Go _ _ _ _ (T408.setTop (mkF m 183 #[.val (.int p1), .val (.int p2), .val (.int p3), .val (.int p4), .val (.int p5)] [(.int (0 : Int32)), (.ref b408), (.ref b408), (.ref b405), (.ref b405)]))
      refine own_Go.st (fun _ k => XS.bipush X408.here hx rfl (hb hby d_method_4_183) k) ?_
      show own_Go _ _ _ _ (T408.setTop (mkF m 185 #[.val (.int p1), .val (.int p2), .val (.int p3), .val (.int p4), .val (.int p5)] [(.int (34 : Int32)), (.int (0 : Int32)), (.ref b408), (.ref b408), (.ref b405), (.ref b405)]))
      obtain ⟨c410, Ar410, q410, S410, Nn410, H410, G410⟩ := id f409
      have hin410 : ¬ ((0 : Int32) < 0 ∨ c410.slots.size ≤ ((0 : Int32)).toNatClampNeg) := inb_of S410 ⟨by decide, by decide⟩
      obtain ⟨T410, h410, X410, e410, W410, st410⟩ := stC X408 hx hZ e408 Ar410 (j := (0 : Int32)) hin410 (g := (mkF m 185 #[.val (.int p1), .val (.int p2), .val (.int p3), .val (.int p4), .val (.int p5)] [(.int (34 : Int32)), (.int (0 : Int32)), (.ref b408), (.ref b408), (.ref b405), (.ref b405)])) rfl rfl (hb hby d_method_4_185)
      refine own_Go.st st410 ?_
      have N410 := Fr.snoc X410 N0 (by omega)
      have z410 : h408.size ≤ h410.size := Nat.le_of_eq W410.size.symm
      have f411 := Arv.set Ar410 q410 S410 Nn410 H410 G410 (fits_nar_char _) W410 0 rfl (Nat.le_of_ble_eq_true rfl)
      have f412 : Arv Z h410 b408 k408 .char (2 : Int32) [(.int (34 : Int32)), (.int (0 : Int32))] (.int (0 : Int32)) := f411
      show own_Go _ _ _ _ (T410.setTop (mkF m 186 #[.val (.int p1), .val (.int p2), .val (.int p3), .val (.int p4), .val (.int p5)] [(.ref b408), (.ref b405), (.ref b405)]))
      refine own_Go.st (fun _ k => XS.dup X410.here hx rfl (hb hby d_method_4_186) rfl rfl k) ?_
      show own_Go _ _ _ _ (T410.setTop (mkF m 187 #[.val (.int p1), .val (.int p2), .val (.int p3), .val (.int p4), .val (.int p5)] [(.ref b408), (.ref b408), (.ref b405), (.ref b405)]))
      refine own_Go.st (fun _ k => XS.iconst X410.here hx rfl (hb hby d_method_4_187) k) ?_
      show own_Go _ _ _ _ (T410.setTop (mkF m 188 #[.val (.int p1), .val (.int p2), .val (.int p3), .val (.int p4), .val (.int p5)] [(.int (1 : Int32)), (.ref b408), (.ref b408), (.ref b405), (.ref b405)]))
      refine own_Go.st (fun _ k => XS.bipush X410.here hx rfl (hb hby d_method_4_188) k) ?_
      show own_Go _ _ _ _ (T410.setTop (mkF m 190 #[.val (.int p1), .val (.int p2), .val (.int p3), .val (.int p4), .val (.int p5)] [(.int (34 : Int32)), (.int (1 : Int32)), (.ref b408), (.ref b408), (.ref b405), (.ref b405)]))
      obtain ⟨c413, Ar413, q413, S413, Nn413, H413, G413⟩ := id f412
      have hin413 : ¬ ((1 : Int32) < 0 ∨ c413.slots.size ≤ ((1 : Int32)).toNatClampNeg) := inb_of S413 ⟨by decide, by decide⟩
      obtain ⟨T413, h413, X413, e413, W413, st413⟩ := stC X410 hx hZ e410 Ar413 (j := (1 : Int32)) hin413 (g := (mkF m 190 #[.val (.int p1), .val (.int p2), .val (.int p3), .val (.int p4), .val (.int p5)] [(.int (34 : Int32)), (.int (1 : Int32)), (.ref b408), (.ref b408), (.ref b405), (.ref b405)])) rfl rfl (hb hby d_method_4_190)
      refine own_Go.st st413 ?_
      have N413 := Fr.snoc X413 N410 (by omega)
      have z413 : h410.size ≤ h413.size := Nat.le_of_eq W413.size.symm
      have f414 := Arv.set Ar413 q413 S413 Nn413 H413 G413 (fits_nar_char _) W413 1 rfl (Nat.le_of_ble_eq_true rfl)
      have f415 : Arv Z h413 b408 k408 .char (2 : Int32) [(.int (34 : Int32)), (.int (34 : Int32))] (.int (0 : Int32)) := f414
      show own_Go _ _ _ _ (T413.setTop (mkF m 191 #[.val (.int p1), .val (.int p2), .val (.int p3), .val (.int p4), .val (.int p5)] [(.ref b408), (.ref b405), (.ref b405)]))
      have f417 : Exa Z h408 b405 "java/lang/String" := A405.ext E408
      have f418 : Exa Z h410 b405 "java/lang/String" := f417.wr W410
      have f419 : Exa Z h413 b405 "java/lang/String" := f418.wr W413
      have f420 : Fld Z h408 b405 "java/lang/String" "value" "[B" .null := f407.ext E408
      have f421 : Fld Z h410 b405 "java/lang/String" "value" "[B" .null := f420.other W410 (Or.inl (by show @Ne Nat b405 b408; omega))
      have f422 : Fld Z h413 b405 "java/lang/String" "value" "[B" .null := f421.other W413 (Or.inl (by show @Ne Nat b405 b408; omega))
      have f423 : Fld Z h408 b405 "java/lang/String" "coder" "B" (.int (0 : Int32)) := f406.ext E408
      have f424 : Fld Z h410 b405 "java/lang/String" "coder" "B" (.int (0 : Int32)) := f423.other W410 (Or.inl (by show @Ne Nat b405 b408; omega))
      have f425 : Fld Z h413 b405 "java/lang/String" "coder" "B" (.int (0 : Int32)) := f424.other W413 (Or.inl (by show @Ne Nat b405 b408; omega))
      have f426 : Old Z Z.heap.size h405 := OL.ext E405
      have f427 : Old Z Z.heap.size h408 := f426.ext E408
      have f428 : Old Z Z.heap.size h410 := f427.wr W410 (by omega)
      have f429 : Old Z Z.heap.size h413 := f428.wr W413 (by omega)
      have hp416 : ∀ c ∈ ([(34 : Int32), (34 : Int32)] : List Int32), ¬ c < 0 ∧ ¬ (255 : Int32) < c := (own_aS (by decide) (own_aS (by decide) own_a0))
      obtain ⟨_, _, ⟨T416, L416, k416, n416⟩, -, X416, ⟨Lc416, hQ416, l416, y416, z416⟩, st416⟩ := X413.specialBack hx (y := (⟨"java/lang/String", "<init>", "([C)V"⟩ : MethodName)) rfl hown (mvT hZ (hw _ (List.mem_of_getElem? (i := 8) rfl))) (mvT hZ (hw _ (List.mem_of_getElem? (i := 9) rfl))) (mvT hZ (hw _ (List.mem_of_getElem? (i := 10) rfl))) (by decide) (StrChars.Road.backV (W := 1) hZ (own_hws hw) (kI := 4) (hw _ (List.mem_of_getElem? (i := 5) rfl)) (cs := ([(34 : Int32), (34 : Int32)] : List Int32)) (bs := (([(34 : Int32), (34 : Int32)] : List Int32)).map (fun c => c.toInt8.toInt32)) (n := 2) (n0 := Z.heap.size) (by omega) (by omega) f419 f422 f425 f415 (st_COMPACT_STRINGS.ext f429.2) hzc rfl rfl (by decide) (by decide) hp416 rfl (by decide) (by decide)) (g := (mkF m 191 #[.val (.int p1), .val (.int p2), .val (.int p3), .val (.int p4), .val (.int p5)] [(.ref b408), (.ref b405), (.ref b405)])) rfl (by rw [hml]; rfl) (Steps.refl _) (a := b405) (argsL := [(.ref b408)]) (rest := [(.ref b405)]) (lenOf pd_349 rfl) rfl (by show 2 * 0 + _ ≤ _; exact Nat.le_of_eq rfl) (hb hby d_method_4_191) (fun _ _ => ⟨rfl, e413, (by decide : 2 + 1 ≤ _), (by decide : 6 + 2 ≤ _)⟩)
      dsimp only [Pt.U, Pt.locs, Pt.cells, Pt.slots] at X416 l416 y416 z416 st416 hQ416
      subst l416 y416 z416
      obtain ⟨rfl, N416q, K416, Ex416, Cd416, t416, kb416, u416, v416, w416, Vl416, Ar416⟩ := hQ416
      have N416 := Fr.app N413 N416q
      have z416 : h413.size ≤ T416.heap.size := K416.1
      have fT416 : own_Str Z T416.heap b405 t416 ([(34 : Int32), (34 : Int32)] : List Int32) := ⟨kb416, 0, (2 : Int32), _, Ex416, Vl416, Cd416, Ar416, StrChars.Road.codOf rfl (fun c q => (hp416 c q).2), own_upL hp416, (Nat.le_of_ble_eq_true rfl)⟩
      have lt416 : @LT.lt Nat _ t416 T416.heap.size := fT416.ltv
      refine own_Go.tr st416 ?_
      show own_Go _ _ _ _ (T416.setTop (mkF m 194 #[.val (.int p1), .val (.int p2), .val (.int p3), .val (.int p4), .val (.int p5)] [(.ref b405)]))
      obtain ⟨fs430, hr430, hrun430, hend430, hW430, hsm430⟩ := X416.leave (v := some (.ref b405)) (fun h => by rw [Bd.returns] at h; cases h)
      have K431 : Keep h0 h405 [] := (Keep.refl h0 []).ext E405
      have K432 : Keep h0 h408 [] := K431.ext E408
      have K433 : Keep h0 h410 [] := K432.wr W410 (Or.inr (by omega))
      have K434 : Keep h0 h413 [] := K433.wr W413 (Or.inr (by omega))
      have K435 : Keep h0 T416.heap [] := K434.trans K416 (allS (Or.inr (by omega)) all0)
      subst hPP
      refine ⟨_, _, own_retA X416 hx Bd.returns rfl rfl (hb hby d_method_4_194) hr430, hrun430, hend430, _, _, rfl, ?_, ⟨_, rfl⟩, hW430, hsm430.mono (by decide) (by decide)⟩
      · show Q_tag Z _ _ _ _ _ _ h0 _ T416.heap _
        exact ⟨b405, t416, ([(34 : Int32), (34 : Int32)] : List Int32), rfl, N416, K435, fT416, (Nat.le_of_ble_eq_true rfl), (Nat.le_of_ble_eq_true rfl), hp416⟩
    ·
      refine own_Go.st (fun _ k => XS.ifYes X0.here hx rfl (pc0 := 171) (pc' := 195) rfl (hb hby d_method_4_171) rfl ((if0 _ _).trans (feq hc404).2) (by decide) (by decide) k) ?_
      show own_Go _ _ _ _ (s₁.setTop (mkF m 195 #[.val (.int p1), .val (.int p2), .val (.int p3), .val (.int p4), .val (.int p5)] []))
      refine own_Go.st (fun _ k => XS.iloadN X0.here hx rfl (hb hby d_method_4_195) rfl k) ?_
      show own_Go _ _ _ _ (s₁.setTop (mkF m 196 #[.val (.int p1), .val (.int p2), .val (.int p3), .val (.int p4), .val (.int p5)] [(.int p2)]))
      refine own_Go.st (fun _ k => XS.iconst X0.here hx rfl (hb hby d_method_4_196) k) ?_
      show own_Go _ _ _ _ (s₁.setTop (mkF m 197 #[.val (.int p1), .val (.int p2), .val (.int p3), .val (.int p4), .val (.int p5)] [(.int (1 : Int32)), (.int p2)]))
      by_cases hc436 : p2 = (1 : Int32)
      ·
        refine own_Go.st (fun _ k => XS.icmpNo X0.here hx rfl (hb hby d_method_4_197) rfl (teq hc436).2 k) ?_
        show own_Go _ _ _ _ (s₁.setTop (mkF m 200 #[.val (.int p1), .val (.int p2), .val (.int p3), .val (.int p4), .val (.int p5)] []))
        obtain ⟨T437, h437, X437, e437, E437, A437, D437, U437, st437⟩ := newO X0 hx hZ hown (hw _ (List.mem_of_getElem? (i := 4) rfl)) (hw _ (List.mem_of_getElem? (i := 5) rfl)) (hw _ (List.mem_of_getElem? (i := 6) rfl)) e0 (g := (mkF m 200 #[.val (.int p1), .val (.int p2), .val (.int p3), .val (.int p4), .val (.int p5)] [])) rfl (hb hby d_method_4_200) (by decide) (by decide)
        obtain ⟨b437, g437⟩ : ∃ z, z = h0.size := ⟨_, rfl⟩
        rw [← g437] at A437 D437 U437 st437
        refine own_Go.st st437 ?_
        have z437 : h0.size ≤ h437.size := E437.1
        have lt_b437 : @LT.lt Nat _ b437 h437.size := A437.lt
        have f438 : Fld Z h437 b437 "java/lang/String" "coder" "B" (.int (0 : Int32)) := D437 (Or.inr (hw _ (List.mem_of_getElem? (i := 31) rfl))) (ty := .byte) (by decide)
        have f439 : Fld Z h437 b437 "java/lang/String" "value" "[B" .null := D437 (Or.inr (hw _ (List.mem_of_getElem? (i := 33) rfl))) (ty := (.array .byte)) (by decide)
        show own_Go _ _ _ _ (T437.setTop (mkF m 203 #[.val (.int p1), .val (.int p2), .val (.int p3), .val (.int p4), .val (.int p5)] [(.ref b437)]))
        refine own_Go.st (fun _ k => XS.dup X437.here hx rfl (hb hby d_method_4_203) rfl rfl k) ?_
        show own_Go _ _ _ _ (T437.setTop (mkF m 204 #[.val (.int p1), .val (.int p2), .val (.int p3), .val (.int p4), .val (.int p5)] [(.ref b437), (.ref b437)]))
        refine own_Go.st (fun _ k => XS.iconst X437.here hx rfl (hb hby d_method_4_204) k) ?_
        show own_Go _ _ _ _ (T437.setTop (mkF m 205 #[.val (.int p1), .val (.int p2), .val (.int p3), .val (.int p4), .val (.int p5)] [(.int (3 : Int32)), (.ref b437), (.ref b437)]))
        obtain ⟨T440, h440, k440, X440, e440, E440, A440, st440⟩ := newP X437 hx hZ (hw _ (List.mem_of_getElem? (i := 7) rfl)) e437 (g := (mkF m 205 #[.val (.int p1), .val (.int p2), .val (.int p3), .val (.int p4), .val (.int p5)] [(.int (3 : Int32)), (.ref b437), (.ref b437)])) rfl (hb hby d_method_4_205) rfl (by decide) (cap := 3) (by decide) (by decide) (by decide) (by decide)
        obtain ⟨b440, g440⟩ : ∃ z, z = h437.size := ⟨_, rfl⟩
        rw [← g440] at A440 st440
        refine own_Go.st st440 ?_
        have z440 : h437.size ≤ h440.size := E440.1
        have f441 : Arv Z h440 b440 k440 .char (3 : Int32) [(.int (0 : Int32)), (.int (0 : Int32)), (.int (0 : Int32))] (.int (0 : Int32)) := (Arv.new A440 (by decide)).pad (pad_rep [] (.int (0 : Int32)) 3)
        have lt_b440 : @LT.lt Nat _ b440 h440.size := f441.lt
        show own_Go _ _ _ _ (T440.setTop (mkF m 207 #[.val (.int p1), .val (.int p2), .val (.int p3), .val (.int p4), .val (.int p5)] [(.ref b440), (.ref b437), (.ref b437)]))
        refine own_Go.st (fun _ k => XS.dup X440.here hx rfl (hb hby d_method_4_207) rfl rfl k) ?_
        show own_Go _ _ _ _ (T440.setTop (mkF m 208 #[.val (.int p1), .val (.int p2), .val (.int p3), .val (.int p4), .val (.int p5)] [(.ref b440), (.ref b440), (.ref b437), (.ref b437)]))
        refine own_Go.st (fun _ k => XS.iconst X440.here hx rfl (hb hby d_method_4_208) k) ?_
        show own_Go _ _ _ _ (T440.setTop (mkF m 209 #[.val (.int p1), .val (.int p2), .val (.int p3), .val (.int p4), .val (.int p5)] [(.int (0 : Int32)), (.ref b440), (.ref b440), (.ref b437), (.ref b437)]))
        refine own_Go.st (fun _ k => XS.bipush X440.here hx rfl (hb hby d_method_4_209) k) ?_
        show own_Go _ _ _ _ (T440.setTop (mkF m 211 #[.val (.int p1), .val (.int p2), .val (.int p3), .val (.int p4), .val (.int p5)] [(.int (34 : Int32)), (.int (0 : Int32)), (.ref b440), (.ref b440), (.ref b437), (.ref b437)]))
        obtain ⟨c442, Ar442, q442, S442, Nn442, H442, G442⟩ := id f441
        have hin442 : ¬ ((0 : Int32) < 0 ∨ c442.slots.size ≤ ((0 : Int32)).toNatClampNeg) := inb_of S442 ⟨by decide, by decide⟩
        obtain ⟨T442, h442, X442, e442, W442, st442⟩ := stC X440 hx hZ e440 Ar442 (j := (0 : Int32)) hin442 (g := (mkF m 211 #[.val (.int p1), .val (.int p2), .val (.int p3), .val (.int p4), .val (.int p5)] [(.int (34 : Int32)), (.int (0 : Int32)), (.ref b440), (.ref b440), (.ref b437), (.ref b437)])) rfl rfl (hb hby d_method_4_211)
        refine own_Go.st st442 ?_
        have N442 := Fr.snoc X442 N0 (by omega)
        have z442 : h440.size ≤ h442.size := Nat.le_of_eq W442.size.symm
        have f443 := Arv.set Ar442 q442 S442 Nn442 H442 G442 (fits_nar_char _) W442 0 rfl (Nat.le_of_ble_eq_true rfl)
        have f444 : Arv Z h442 b440 k440 .char (3 : Int32) [(.int (34 : Int32)), (.int (0 : Int32)), (.int (0 : Int32))] (.int (0 : Int32)) := f443
        show own_Go _ _ _ _ (T442.setTop (mkF m 212 #[.val (.int p1), .val (.int p2), .val (.int p3), .val (.int p4), .val (.int p5)] [(.ref b440), (.ref b437), (.ref b437)]))
        refine own_Go.st (fun _ k => XS.dup X442.here hx rfl (hb hby d_method_4_212) rfl rfl k) ?_
        show own_Go _ _ _ _ (T442.setTop (mkF m 213 #[.val (.int p1), .val (.int p2), .val (.int p3), .val (.int p4), .val (.int p5)] [(.ref b440), (.ref b440), (.ref b437), (.ref b437)]))
        refine own_Go.st (fun _ k => XS.iconst X442.here hx rfl (hb hby d_method_4_213) k) ?_
        show own_Go _ _ _ _ (T442.setTop (mkF m 214 #[.val (.int p1), .val (.int p2), .val (.int p3), .val (.int p4), .val (.int p5)] [(.int (1 : Int32)), (.ref b440), (.ref b440), (.ref b437), (.ref b437)]))
        refine own_Go.st (fun _ k => XS.iloadN X442.here hx rfl (hb hby d_method_4_214) rfl k) ?_
        show own_Go _ _ _ _ (T442.setTop (mkF m 215 #[.val (.int p1), .val (.int p2), .val (.int p3), .val (.int p4), .val (.int p5)] [(.int p3), (.int (1 : Int32)), (.ref b440), (.ref b440), (.ref b437), (.ref b437)]))
        obtain ⟨c445, Ar445, q445, S445, Nn445, H445, G445⟩ := id f444
        have hin445 : ¬ ((1 : Int32) < 0 ∨ c445.slots.size ≤ ((1 : Int32)).toNatClampNeg) := inb_of S445 ⟨by decide, by decide⟩
        obtain ⟨T445, h445, X445, e445, W445, st445⟩ := stC X442 hx hZ e442 Ar445 (j := (1 : Int32)) hin445 (g := (mkF m 215 #[.val (.int p1), .val (.int p2), .val (.int p3), .val (.int p4), .val (.int p5)] [(.int p3), (.int (1 : Int32)), (.ref b440), (.ref b440), (.ref b437), (.ref b437)])) rfl rfl (hb hby d_method_4_215)
        refine own_Go.st st445 ?_
        have N445 := Fr.snoc X445 N442 (by omega)
        have z445 : h442.size ≤ h445.size := Nat.le_of_eq W445.size.symm
        have f446 := Arv.set Ar445 q445 S445 Nn445 H445 G445 (fits_nar_char _) W445 1 rfl (Nat.le_of_ble_eq_true rfl)
        rw [own_nar (own_up hp3)] at f446
        have f447 : Arv Z h445 b440 k440 .char (3 : Int32) [(.int (34 : Int32)), (.int p3), (.int (0 : Int32))] (.int (0 : Int32)) := f446
        show own_Go _ _ _ _ (T445.setTop (mkF m 216 #[.val (.int p1), .val (.int p2), .val (.int p3), .val (.int p4), .val (.int p5)] [(.ref b440), (.ref b437), (.ref b437)]))
        refine own_Go.st (fun _ k => XS.dup X445.here hx rfl (hb hby d_method_4_216) rfl rfl k) ?_
        show own_Go _ _ _ _ (T445.setTop (mkF m 217 #[.val (.int p1), .val (.int p2), .val (.int p3), .val (.int p4), .val (.int p5)] [(.ref b440), (.ref b440), (.ref b437), (.ref b437)]))
        refine own_Go.st (fun _ k => XS.iconst X445.here hx rfl (hb hby d_method_4_217) k) ?_
        show own_Go _ _ _ _ (T445.setTop (mkF m 218 #[.val (.int p1), .val (.int p2), .val (.int p3), .val (.int p4), .val (.int p5)] [(.int (2 : Int32)), (.ref b440), (.ref b440), (.ref b437), (.ref b437)]))
        refine own_Go.st (fun _ k => XS.bipush X445.here hx rfl (hb hby d_method_4_218) k) ?_
        show own_Go _ _ _ _ (T445.setTop (mkF m 220 #[.val (.int p1), .val (.int p2), .val (.int p3), .val (.int p4), .val (.int p5)] [(.int (34 : Int32)), (.int (2 : Int32)), (.ref b440), (.ref b440), (.ref b437), (.ref b437)]))
        obtain ⟨c448, Ar448, q448, S448, Nn448, H448, G448⟩ := id f447
        have hin448 : ¬ ((2 : Int32) < 0 ∨ c448.slots.size ≤ ((2 : Int32)).toNatClampNeg) := inb_of S448 ⟨by decide, by decide⟩
        obtain ⟨T448, h448, X448, e448, W448, st448⟩ := stC X445 hx hZ e445 Ar448 (j := (2 : Int32)) hin448 (g := (mkF m 220 #[.val (.int p1), .val (.int p2), .val (.int p3), .val (.int p4), .val (.int p5)] [(.int (34 : Int32)), (.int (2 : Int32)), (.ref b440), (.ref b440), (.ref b437), (.ref b437)])) rfl rfl (hb hby d_method_4_220)
        refine own_Go.st st448 ?_
        have N448 := Fr.snoc X448 N445 (by omega)
        have z448 : h445.size ≤ h448.size := Nat.le_of_eq W448.size.symm
        have f449 := Arv.set Ar448 q448 S448 Nn448 H448 G448 (fits_nar_char _) W448 2 rfl (Nat.le_of_ble_eq_true rfl)
        have f450 : Arv Z h448 b440 k440 .char (3 : Int32) [(.int (34 : Int32)), (.int p3), (.int (34 : Int32))] (.int (0 : Int32)) := f449
        show own_Go _ _ _ _ (T448.setTop (mkF m 221 #[.val (.int p1), .val (.int p2), .val (.int p3), .val (.int p4), .val (.int p5)] [(.ref b440), (.ref b437), (.ref b437)]))
        have f452 : Exa Z h440 b437 "java/lang/String" := A437.ext E440
        have f453 : Exa Z h442 b437 "java/lang/String" := f452.wr W442
        have f454 : Exa Z h445 b437 "java/lang/String" := f453.wr W445
        have f455 : Exa Z h448 b437 "java/lang/String" := f454.wr W448
        have f456 : Fld Z h440 b437 "java/lang/String" "value" "[B" .null := f439.ext E440
        have f457 : Fld Z h442 b437 "java/lang/String" "value" "[B" .null := f456.other W442 (Or.inl (by show @Ne Nat b437 b440; omega))
        have f458 : Fld Z h445 b437 "java/lang/String" "value" "[B" .null := f457.other W445 (Or.inl (by show @Ne Nat b437 b440; omega))
        have f459 : Fld Z h448 b437 "java/lang/String" "value" "[B" .null := f458.other W448 (Or.inl (by show @Ne Nat b437 b440; omega))
        have f460 : Fld Z h440 b437 "java/lang/String" "coder" "B" (.int (0 : Int32)) := f438.ext E440
        have f461 : Fld Z h442 b437 "java/lang/String" "coder" "B" (.int (0 : Int32)) := f460.other W442 (Or.inl (by show @Ne Nat b437 b440; omega))
        have f462 : Fld Z h445 b437 "java/lang/String" "coder" "B" (.int (0 : Int32)) := f461.other W445 (Or.inl (by show @Ne Nat b437 b440; omega))
        have f463 : Fld Z h448 b437 "java/lang/String" "coder" "B" (.int (0 : Int32)) := f462.other W448 (Or.inl (by show @Ne Nat b437 b440; omega))
        have f464 : Old Z Z.heap.size h437 := OL.ext E437
        have f465 : Old Z Z.heap.size h440 := f464.ext E440
        have f466 : Old Z Z.heap.size h442 := f465.wr W442 (by omega)
        have f467 : Old Z Z.heap.size h445 := f466.wr W445 (by omega)
        have f468 : Old Z Z.heap.size h448 := f467.wr W448 (by omega)
        have hp451 : ∀ c ∈ ([(34 : Int32), p3, (34 : Int32)] : List Int32), ¬ c < 0 ∧ ¬ (255 : Int32) < c := (own_aS (by decide) (own_aS hp3 (own_aS (by decide) own_a0)))
        obtain ⟨_, _, ⟨T451, L451, k451, n451⟩, -, X451, ⟨Lc451, hQ451, l451, y451, z451⟩, st451⟩ := X448.specialBack hx (y := (⟨"java/lang/String", "<init>", "([C)V"⟩ : MethodName)) rfl hown (mvT hZ (hw _ (List.mem_of_getElem? (i := 8) rfl))) (mvT hZ (hw _ (List.mem_of_getElem? (i := 9) rfl))) (mvT hZ (hw _ (List.mem_of_getElem? (i := 10) rfl))) (by decide) (StrChars.Road.backV (W := 1) hZ (own_hws hw) (kI := 4) (hw _ (List.mem_of_getElem? (i := 5) rfl)) (cs := ([(34 : Int32), p3, (34 : Int32)] : List Int32)) (bs := (([(34 : Int32), p3, (34 : Int32)] : List Int32)).map (fun c => c.toInt8.toInt32)) (n := 3) (n0 := Z.heap.size) (by omega) (by omega) f455 f459 f463 f450 (st_COMPACT_STRINGS.ext f468.2) hzc rfl rfl (by decide) (by decide) hp451 rfl (by decide) (by decide)) (g := (mkF m 221 #[.val (.int p1), .val (.int p2), .val (.int p3), .val (.int p4), .val (.int p5)] [(.ref b440), (.ref b437), (.ref b437)])) rfl (by rw [hml]; rfl) (Steps.refl _) (a := b437) (argsL := [(.ref b440)]) (rest := [(.ref b437)]) (lenOf pd_349 rfl) rfl (by show 2 * 0 + _ ≤ _; exact Nat.le_of_eq rfl) (hb hby d_method_4_221) (fun _ _ => ⟨rfl, e448, (by decide : 2 + 1 ≤ _), (by decide : 7 + 3 ≤ _)⟩)
        dsimp only [Pt.U, Pt.locs, Pt.cells, Pt.slots] at X451 l451 y451 z451 st451 hQ451
        subst l451 y451 z451
        obtain ⟨rfl, N451q, K451, Ex451, Cd451, t451, kb451, u451, v451, w451, Vl451, Ar451⟩ := hQ451
        have N451 := Fr.app N448 N451q
        have z451 : h448.size ≤ T451.heap.size := K451.1
        have fT451 : own_Str Z T451.heap b437 t451 ([(34 : Int32), p3, (34 : Int32)] : List Int32) := ⟨kb451, 0, (3 : Int32), _, Ex451, Vl451, Cd451, Ar451, StrChars.Road.codOf rfl (fun c q => (hp451 c q).2), own_upL hp451, (Nat.le_of_ble_eq_true rfl)⟩
        have lt451 : @LT.lt Nat _ t451 T451.heap.size := fT451.ltv
        refine own_Go.tr st451 ?_
        show own_Go _ _ _ _ (T451.setTop (mkF m 224 #[.val (.int p1), .val (.int p2), .val (.int p3), .val (.int p4), .val (.int p5)] [(.ref b437)]))
        obtain ⟨fs469, hr469, hrun469, hend469, hW469, hsm469⟩ := X451.leave (v := some (.ref b437)) (fun h => by rw [Bd.returns] at h; cases h)
        have K470 : Keep h0 h437 [] := (Keep.refl h0 []).ext E437
        have K471 : Keep h0 h440 [] := K470.ext E440
        have K472 : Keep h0 h442 [] := K471.wr W442 (Or.inr (by omega))
        have K473 : Keep h0 h445 [] := K472.wr W445 (Or.inr (by omega))
        have K474 : Keep h0 h448 [] := K473.wr W448 (Or.inr (by omega))
        have K475 : Keep h0 T451.heap [] := K474.trans K451 (allS (Or.inr (by omega)) all0)
        subst hPP
        refine ⟨_, _, own_retA X451 hx Bd.returns rfl rfl (hb hby d_method_4_224) hr469, hrun469, hend469, _, _, rfl, ?_, ⟨_, rfl⟩, hW469, hsm469.mono (by decide) (by decide)⟩
        · show Q_tag Z _ _ _ _ _ _ h0 _ T451.heap _
          exact ⟨b437, t451, ([(34 : Int32), p3, (34 : Int32)] : List Int32), rfl, N451, K475, fT451, (Nat.le_of_ble_eq_true rfl), (Nat.le_of_ble_eq_true rfl), hp451⟩
      ·
        refine own_Go.st (fun _ k => XS.icmpYes X0.here hx rfl (pc0 := 197) (pc' := 225) rfl (hb hby d_method_4_197) rfl (feq hc436).2 (by decide) (by decide) k) ?_
        show own_Go _ _ _ _ (s₁.setTop (mkF m 225 #[.val (.int p1), .val (.int p2), .val (.int p3), .val (.int p4), .val (.int p5)] []))
        refine own_Go.st (fun _ k => XS.iloadN X0.here hx rfl (hb hby d_method_4_225) rfl k) ?_
        show own_Go _ _ _ _ (s₁.setTop (mkF m 226 #[.val (.int p1), .val (.int p2), .val (.int p3), .val (.int p4), .val (.int p5)] [(.int p2)]))
        refine own_Go.st (fun _ k => XS.iconst X0.here hx rfl (hb hby d_method_4_226) k) ?_
        show own_Go _ _ _ _ (s₁.setTop (mkF m 227 #[.val (.int p1), .val (.int p2), .val (.int p3), .val (.int p4), .val (.int p5)] [(.int (2 : Int32)), (.int p2)]))
        by_cases hc476 : p2 = (2 : Int32)
        ·
          refine own_Go.st (fun _ k => XS.icmpNo X0.here hx rfl (hb hby d_method_4_227) rfl (teq hc476).2 k) ?_
          show own_Go _ _ _ _ (s₁.setTop (mkF m 230 #[.val (.int p1), .val (.int p2), .val (.int p3), .val (.int p4), .val (.int p5)] []))
          obtain ⟨T477, h477, X477, e477, E477, A477, D477, U477, st477⟩ := newO X0 hx hZ hown (hw _ (List.mem_of_getElem? (i := 4) rfl)) (hw _ (List.mem_of_getElem? (i := 5) rfl)) (hw _ (List.mem_of_getElem? (i := 6) rfl)) e0 (g := (mkF m 230 #[.val (.int p1), .val (.int p2), .val (.int p3), .val (.int p4), .val (.int p5)] [])) rfl (hb hby d_method_4_230) (by decide) (by decide)
          obtain ⟨b477, g477⟩ : ∃ z, z = h0.size := ⟨_, rfl⟩
          rw [← g477] at A477 D477 U477 st477
          refine own_Go.st st477 ?_
          have z477 : h0.size ≤ h477.size := E477.1
          have lt_b477 : @LT.lt Nat _ b477 h477.size := A477.lt
          have f478 : Fld Z h477 b477 "java/lang/String" "coder" "B" (.int (0 : Int32)) := D477 (Or.inr (hw _ (List.mem_of_getElem? (i := 31) rfl))) (ty := .byte) (by decide)
          have f479 : Fld Z h477 b477 "java/lang/String" "value" "[B" .null := D477 (Or.inr (hw _ (List.mem_of_getElem? (i := 33) rfl))) (ty := (.array .byte)) (by decide)
          show own_Go _ _ _ _ (T477.setTop (mkF m 233 #[.val (.int p1), .val (.int p2), .val (.int p3), .val (.int p4), .val (.int p5)] [(.ref b477)]))
          refine own_Go.st (fun _ k => XS.dup X477.here hx rfl (hb hby d_method_4_233) rfl rfl k) ?_
          show own_Go _ _ _ _ (T477.setTop (mkF m 234 #[.val (.int p1), .val (.int p2), .val (.int p3), .val (.int p4), .val (.int p5)] [(.ref b477), (.ref b477)]))
          refine own_Go.st (fun _ k => XS.iconst X477.here hx rfl (hb hby d_method_4_234) k) ?_
          show own_Go _ _ _ _ (T477.setTop (mkF m 235 #[.val (.int p1), .val (.int p2), .val (.int p3), .val (.int p4), .val (.int p5)] [(.int (4 : Int32)), (.ref b477), (.ref b477)]))
          obtain ⟨T480, h480, k480, X480, e480, E480, A480, st480⟩ := newP X477 hx hZ (hw _ (List.mem_of_getElem? (i := 7) rfl)) e477 (g := (mkF m 235 #[.val (.int p1), .val (.int p2), .val (.int p3), .val (.int p4), .val (.int p5)] [(.int (4 : Int32)), (.ref b477), (.ref b477)])) rfl (hb hby d_method_4_235) rfl (by decide) (cap := 4) (by decide) (by decide) (by decide) (by decide)
          obtain ⟨b480, g480⟩ : ∃ z, z = h477.size := ⟨_, rfl⟩
          rw [← g480] at A480 st480
          refine own_Go.st st480 ?_
          have z480 : h477.size ≤ h480.size := E480.1
          have f481 : Arv Z h480 b480 k480 .char (4 : Int32) [(.int (0 : Int32)), (.int (0 : Int32)), (.int (0 : Int32)), (.int (0 : Int32))] (.int (0 : Int32)) := (Arv.new A480 (by decide)).pad (pad_rep [] (.int (0 : Int32)) 4)
          have lt_b480 : @LT.lt Nat _ b480 h480.size := f481.lt
          show own_Go _ _ _ _ (T480.setTop (mkF m 237 #[.val (.int p1), .val (.int p2), .val (.int p3), .val (.int p4), .val (.int p5)] [(.ref b480), (.ref b477), (.ref b477)]))
          refine own_Go.st (fun _ k => XS.dup X480.here hx rfl (hb hby d_method_4_237) rfl rfl k) ?_
          show own_Go _ _ _ _ (T480.setTop (mkF m 238 #[.val (.int p1), .val (.int p2), .val (.int p3), .val (.int p4), .val (.int p5)] [(.ref b480), (.ref b480), (.ref b477), (.ref b477)]))
          refine own_Go.st (fun _ k => XS.iconst X480.here hx rfl (hb hby d_method_4_238) k) ?_
          show own_Go _ _ _ _ (T480.setTop (mkF m 239 #[.val (.int p1), .val (.int p2), .val (.int p3), .val (.int p4), .val (.int p5)] [(.int (0 : Int32)), (.ref b480), (.ref b480), (.ref b477), (.ref b477)]))
          refine own_Go.st (fun _ k => XS.bipush X480.here hx rfl (hb hby d_method_4_239) k) ?_
          show own_Go _ _ _ _ (T480.setTop (mkF m 241 #[.val (.int p1), .val (.int p2), .val (.int p3), .val (.int p4), .val (.int p5)] [(.int (34 : Int32)), (.int (0 : Int32)), (.ref b480), (.ref b480), (.ref b477), (.ref b477)]))
          obtain ⟨c482, Ar482, q482, S482, Nn482, H482, G482⟩ := id f481
          have hin482 : ¬ ((0 : Int32) < 0 ∨ c482.slots.size ≤ ((0 : Int32)).toNatClampNeg) := inb_of S482 ⟨by decide, by decide⟩
          obtain ⟨T482, h482, X482, e482, W482, st482⟩ := stC X480 hx hZ e480 Ar482 (j := (0 : Int32)) hin482 (g := (mkF m 241 #[.val (.int p1), .val (.int p2), .val (.int p3), .val (.int p4), .val (.int p5)] [(.int (34 : Int32)), (.int (0 : Int32)), (.ref b480), (.ref b480), (.ref b477), (.ref b477)])) rfl rfl (hb hby d_method_4_241)
          refine own_Go.st st482 ?_
          have N482 := Fr.snoc X482 N0 (by omega)
          have z482 : h480.size ≤ h482.size := Nat.le_of_eq W482.size.symm
          have f483 := Arv.set Ar482 q482 S482 Nn482 H482 G482 (fits_nar_char _) W482 0 rfl (Nat.le_of_ble_eq_true rfl)
          have f484 : Arv Z h482 b480 k480 .char (4 : Int32) [(.int (34 : Int32)), (.int (0 : Int32)), (.int (0 : Int32)), (.int (0 : Int32))] (.int (0 : Int32)) := f483
          show own_Go _ _ _ _ (T482.setTop (mkF m 242 #[.val (.int p1), .val (.int p2), .val (.int p3), .val (.int p4), .val (.int p5)] [(.ref b480), (.ref b477), (.ref b477)]))
          refine own_Go.st (fun _ k => XS.dup X482.here hx rfl (hb hby d_method_4_242) rfl rfl k) ?_
          show own_Go _ _ _ _ (T482.setTop (mkF m 243 #[.val (.int p1), .val (.int p2), .val (.int p3), .val (.int p4), .val (.int p5)] [(.ref b480), (.ref b480), (.ref b477), (.ref b477)]))
          refine own_Go.st (fun _ k => XS.iconst X482.here hx rfl (hb hby d_method_4_243) k) ?_
          show own_Go _ _ _ _ (T482.setTop (mkF m 244 #[.val (.int p1), .val (.int p2), .val (.int p3), .val (.int p4), .val (.int p5)] [(.int (1 : Int32)), (.ref b480), (.ref b480), (.ref b477), (.ref b477)]))
          refine own_Go.st (fun _ k => XS.iloadN X482.here hx rfl (hb hby d_method_4_244) rfl k) ?_
          show own_Go _ _ _ _ (T482.setTop (mkF m 245 #[.val (.int p1), .val (.int p2), .val (.int p3), .val (.int p4), .val (.int p5)] [(.int p3), (.int (1 : Int32)), (.ref b480), (.ref b480), (.ref b477), (.ref b477)]))
          obtain ⟨c485, Ar485, q485, S485, Nn485, H485, G485⟩ := id f484
          have hin485 : ¬ ((1 : Int32) < 0 ∨ c485.slots.size ≤ ((1 : Int32)).toNatClampNeg) := inb_of S485 ⟨by decide, by decide⟩
          obtain ⟨T485, h485, X485, e485, W485, st485⟩ := stC X482 hx hZ e482 Ar485 (j := (1 : Int32)) hin485 (g := (mkF m 245 #[.val (.int p1), .val (.int p2), .val (.int p3), .val (.int p4), .val (.int p5)] [(.int p3), (.int (1 : Int32)), (.ref b480), (.ref b480), (.ref b477), (.ref b477)])) rfl rfl (hb hby d_method_4_245)
          refine own_Go.st st485 ?_
          have N485 := Fr.snoc X485 N482 (by omega)
          have z485 : h482.size ≤ h485.size := Nat.le_of_eq W485.size.symm
          have f486 := Arv.set Ar485 q485 S485 Nn485 H485 G485 (fits_nar_char _) W485 1 rfl (Nat.le_of_ble_eq_true rfl)
          rw [own_nar (own_up hp3)] at f486
          have f487 : Arv Z h485 b480 k480 .char (4 : Int32) [(.int (34 : Int32)), (.int p3), (.int (0 : Int32)), (.int (0 : Int32))] (.int (0 : Int32)) := f486
          show own_Go _ _ _ _ (T485.setTop (mkF m 246 #[.val (.int p1), .val (.int p2), .val (.int p3), .val (.int p4), .val (.int p5)] [(.ref b480), (.ref b477), (.ref b477)]))
          refine own_Go.st (fun _ k => XS.dup X485.here hx rfl (hb hby d_method_4_246) rfl rfl k) ?_
          show own_Go _ _ _ _ (T485.setTop (mkF m 247 #[.val (.int p1), .val (.int p2), .val (.int p3), .val (.int p4), .val (.int p5)] [(.ref b480), (.ref b480), (.ref b477), (.ref b477)]))
          refine own_Go.st (fun _ k => XS.iconst X485.here hx rfl (hb hby d_method_4_247) k) ?_
          show own_Go _ _ _ _ (T485.setTop (mkF m 248 #[.val (.int p1), .val (.int p2), .val (.int p3), .val (.int p4), .val (.int p5)] [(.int (2 : Int32)), (.ref b480), (.ref b480), (.ref b477), (.ref b477)]))
          refine own_Go.st (fun _ k => XS.iloadN X485.here hx rfl (hb hby d_method_4_248) rfl k) ?_
          show own_Go _ _ _ _ (T485.setTop (mkF m 249 #[.val (.int p1), .val (.int p2), .val (.int p3), .val (.int p4), .val (.int p5)] [(.int p4), (.int (2 : Int32)), (.ref b480), (.ref b480), (.ref b477), (.ref b477)]))
          obtain ⟨c488, Ar488, q488, S488, Nn488, H488, G488⟩ := id f487
          have hin488 : ¬ ((2 : Int32) < 0 ∨ c488.slots.size ≤ ((2 : Int32)).toNatClampNeg) := inb_of S488 ⟨by decide, by decide⟩
          obtain ⟨T488, h488, X488, e488, W488, st488⟩ := stC X485 hx hZ e485 Ar488 (j := (2 : Int32)) hin488 (g := (mkF m 249 #[.val (.int p1), .val (.int p2), .val (.int p3), .val (.int p4), .val (.int p5)] [(.int p4), (.int (2 : Int32)), (.ref b480), (.ref b480), (.ref b477), (.ref b477)])) rfl rfl (hb hby d_method_4_249)
          refine own_Go.st st488 ?_
          have N488 := Fr.snoc X488 N485 (by omega)
          have z488 : h485.size ≤ h488.size := Nat.le_of_eq W488.size.symm
          have f489 := Arv.set Ar488 q488 S488 Nn488 H488 G488 (fits_nar_char _) W488 2 rfl (Nat.le_of_ble_eq_true rfl)
          rw [own_nar (own_up hp4)] at f489
          have f490 : Arv Z h488 b480 k480 .char (4 : Int32) [(.int (34 : Int32)), (.int p3), (.int p4), (.int (0 : Int32))] (.int (0 : Int32)) := f489
          show own_Go _ _ _ _ (T488.setTop (mkF m 250 #[.val (.int p1), .val (.int p2), .val (.int p3), .val (.int p4), .val (.int p5)] [(.ref b480), (.ref b477), (.ref b477)]))
          refine own_Go.st (fun _ k => XS.dup X488.here hx rfl (hb hby d_method_4_250) rfl rfl k) ?_
          show own_Go _ _ _ _ (T488.setTop (mkF m 251 #[.val (.int p1), .val (.int p2), .val (.int p3), .val (.int p4), .val (.int p5)] [(.ref b480), (.ref b480), (.ref b477), (.ref b477)]))
          refine own_Go.st (fun _ k => XS.iconst X488.here hx rfl (hb hby d_method_4_251) k) ?_
          show own_Go _ _ _ _ (T488.setTop (mkF m 252 #[.val (.int p1), .val (.int p2), .val (.int p3), .val (.int p4), .val (.int p5)] [(.int (3 : Int32)), (.ref b480), (.ref b480), (.ref b477), (.ref b477)]))
          refine own_Go.st (fun _ k => XS.bipush X488.here hx rfl (hb hby d_method_4_252) k) ?_
          show own_Go _ _ _ _ (T488.setTop (mkF m 254 #[.val (.int p1), .val (.int p2), .val (.int p3), .val (.int p4), .val (.int p5)] [(.int (34 : Int32)), (.int (3 : Int32)), (.ref b480), (.ref b480), (.ref b477), (.ref b477)]))
          obtain ⟨c491, Ar491, q491, S491, Nn491, H491, G491⟩ := id f490
          have hin491 : ¬ ((3 : Int32) < 0 ∨ c491.slots.size ≤ ((3 : Int32)).toNatClampNeg) := inb_of S491 ⟨by decide, by decide⟩
          obtain ⟨T491, h491, X491, e491, W491, st491⟩ := stC X488 hx hZ e488 Ar491 (j := (3 : Int32)) hin491 (g := (mkF m 254 #[.val (.int p1), .val (.int p2), .val (.int p3), .val (.int p4), .val (.int p5)] [(.int (34 : Int32)), (.int (3 : Int32)), (.ref b480), (.ref b480), (.ref b477), (.ref b477)])) rfl rfl (hb hby d_method_4_254)
          refine own_Go.st st491 ?_
          have N491 := Fr.snoc X491 N488 (by omega)
          have z491 : h488.size ≤ h491.size := Nat.le_of_eq W491.size.symm
          have f492 := Arv.set Ar491 q491 S491 Nn491 H491 G491 (fits_nar_char _) W491 3 rfl (Nat.le_of_ble_eq_true rfl)
          have f493 : Arv Z h491 b480 k480 .char (4 : Int32) [(.int (34 : Int32)), (.int p3), (.int p4), (.int (34 : Int32))] (.int (0 : Int32)) := f492
          show own_Go _ _ _ _ (T491.setTop (mkF m 255 #[.val (.int p1), .val (.int p2), .val (.int p3), .val (.int p4), .val (.int p5)] [(.ref b480), (.ref b477), (.ref b477)]))
          have f495 : Exa Z h480 b477 "java/lang/String" := A477.ext E480
          have f496 : Exa Z h482 b477 "java/lang/String" := f495.wr W482
          have f497 : Exa Z h485 b477 "java/lang/String" := f496.wr W485
          have f498 : Exa Z h488 b477 "java/lang/String" := f497.wr W488
          have f499 : Exa Z h491 b477 "java/lang/String" := f498.wr W491
          have f500 : Fld Z h480 b477 "java/lang/String" "value" "[B" .null := f479.ext E480
          have f501 : Fld Z h482 b477 "java/lang/String" "value" "[B" .null := f500.other W482 (Or.inl (by show @Ne Nat b477 b480; omega))
          have f502 : Fld Z h485 b477 "java/lang/String" "value" "[B" .null := f501.other W485 (Or.inl (by show @Ne Nat b477 b480; omega))
          have f503 : Fld Z h488 b477 "java/lang/String" "value" "[B" .null := f502.other W488 (Or.inl (by show @Ne Nat b477 b480; omega))
          have f504 : Fld Z h491 b477 "java/lang/String" "value" "[B" .null := f503.other W491 (Or.inl (by show @Ne Nat b477 b480; omega))
          have f505 : Fld Z h480 b477 "java/lang/String" "coder" "B" (.int (0 : Int32)) := f478.ext E480
          have f506 : Fld Z h482 b477 "java/lang/String" "coder" "B" (.int (0 : Int32)) := f505.other W482 (Or.inl (by show @Ne Nat b477 b480; omega))
          have f507 : Fld Z h485 b477 "java/lang/String" "coder" "B" (.int (0 : Int32)) := f506.other W485 (Or.inl (by show @Ne Nat b477 b480; omega))
          have f508 : Fld Z h488 b477 "java/lang/String" "coder" "B" (.int (0 : Int32)) := f507.other W488 (Or.inl (by show @Ne Nat b477 b480; omega))
          have f509 : Fld Z h491 b477 "java/lang/String" "coder" "B" (.int (0 : Int32)) := f508.other W491 (Or.inl (by show @Ne Nat b477 b480; omega))
          have f510 : Old Z Z.heap.size h477 := OL.ext E477
          have f511 : Old Z Z.heap.size h480 := f510.ext E480
          have f512 : Old Z Z.heap.size h482 := f511.wr W482 (by omega)
          have f513 : Old Z Z.heap.size h485 := f512.wr W485 (by omega)
          have f514 : Old Z Z.heap.size h488 := f513.wr W488 (by omega)
          have f515 : Old Z Z.heap.size h491 := f514.wr W491 (by omega)
          have hp494 : ∀ c ∈ ([(34 : Int32), p3, p4, (34 : Int32)] : List Int32), ¬ c < 0 ∧ ¬ (255 : Int32) < c := (own_aS (by decide) (own_aS hp3 (own_aS hp4 (own_aS (by decide) own_a0))))
          obtain ⟨_, _, ⟨T494, L494, k494, n494⟩, -, X494, ⟨Lc494, hQ494, l494, y494, z494⟩, st494⟩ := X491.specialBack hx (y := (⟨"java/lang/String", "<init>", "([C)V"⟩ : MethodName)) rfl hown (mvT hZ (hw _ (List.mem_of_getElem? (i := 8) rfl))) (mvT hZ (hw _ (List.mem_of_getElem? (i := 9) rfl))) (mvT hZ (hw _ (List.mem_of_getElem? (i := 10) rfl))) (by decide) (StrChars.Road.backV (W := 1) hZ (own_hws hw) (kI := 4) (hw _ (List.mem_of_getElem? (i := 5) rfl)) (cs := ([(34 : Int32), p3, p4, (34 : Int32)] : List Int32)) (bs := (([(34 : Int32), p3, p4, (34 : Int32)] : List Int32)).map (fun c => c.toInt8.toInt32)) (n := 4) (n0 := Z.heap.size) (by omega) (by omega) f499 f504 f509 f493 (st_COMPACT_STRINGS.ext f515.2) hzc rfl rfl (by decide) (by decide) hp494 rfl (by decide) (by decide)) (g := (mkF m 255 #[.val (.int p1), .val (.int p2), .val (.int p3), .val (.int p4), .val (.int p5)] [(.ref b480), (.ref b477), (.ref b477)])) rfl (by rw [hml]; rfl) (Steps.refl _) (a := b477) (argsL := [(.ref b480)]) (rest := [(.ref b477)]) (lenOf pd_349 rfl) rfl (by show 2 * 0 + _ ≤ _; exact Nat.le_of_eq rfl) (hb hby d_method_4_255) (fun _ _ => ⟨rfl, e491, (by decide : 2 + 1 ≤ _), (by decide : 8 + 4 ≤ _)⟩)
          dsimp only [Pt.U, Pt.locs, Pt.cells, Pt.slots] at X494 l494 y494 z494 st494 hQ494
          subst l494 y494 z494
          obtain ⟨rfl, N494q, K494, Ex494, Cd494, t494, kb494, u494, v494, w494, Vl494, Ar494⟩ := hQ494
          have N494 := Fr.app N491 N494q
          have z494 : h491.size ≤ T494.heap.size := K494.1
          have fT494 : own_Str Z T494.heap b477 t494 ([(34 : Int32), p3, p4, (34 : Int32)] : List Int32) := ⟨kb494, 0, (4 : Int32), _, Ex494, Vl494, Cd494, Ar494, StrChars.Road.codOf rfl (fun c q => (hp494 c q).2), own_upL hp494, (Nat.le_of_ble_eq_true rfl)⟩
          have lt494 : @LT.lt Nat _ t494 T494.heap.size := fT494.ltv
          refine own_Go.tr st494 ?_
          show own_Go _ _ _ _ (T494.setTop (mkF m 258 #[.val (.int p1), .val (.int p2), .val (.int p3), .val (.int p4), .val (.int p5)] [(.ref b477)]))
          obtain ⟨fs516, hr516, hrun516, hend516, hW516, hsm516⟩ := X494.leave (v := some (.ref b477)) (fun h => by rw [Bd.returns] at h; cases h)
          have K517 : Keep h0 h477 [] := (Keep.refl h0 []).ext E477
          have K518 : Keep h0 h480 [] := K517.ext E480
          have K519 : Keep h0 h482 [] := K518.wr W482 (Or.inr (by omega))
          have K520 : Keep h0 h485 [] := K519.wr W485 (Or.inr (by omega))
          have K521 : Keep h0 h488 [] := K520.wr W488 (Or.inr (by omega))
          have K522 : Keep h0 h491 [] := K521.wr W491 (Or.inr (by omega))
          have K523 : Keep h0 T494.heap [] := K522.trans K494 (allS (Or.inr (by omega)) all0)
          subst hPP
          refine ⟨_, _, own_retA X494 hx Bd.returns rfl rfl (hb hby d_method_4_258) hr516, hrun516, hend516, _, _, rfl, ?_, ⟨_, rfl⟩, hW516, hsm516.mono (by decide) (by decide)⟩
          · show Q_tag Z _ _ _ _ _ _ h0 _ T494.heap _
            exact ⟨b477, t494, ([(34 : Int32), p3, p4, (34 : Int32)] : List Int32), rfl, N494, K523, fT494, (Nat.le_of_ble_eq_true rfl), (Nat.le_of_ble_eq_true rfl), hp494⟩
        ·
          refine own_Go.st (fun _ k => XS.icmpYes X0.here hx rfl (pc0 := 227) (pc' := 259) rfl (hb hby d_method_4_227) rfl (feq hc476).2 (by decide) (by decide) k) ?_
          show own_Go _ _ _ _ (s₁.setTop (mkF m 259 #[.val (.int p1), .val (.int p2), .val (.int p3), .val (.int p4), .val (.int p5)] []))
          obtain ⟨T524, h524, X524, e524, E524, A524, D524, U524, st524⟩ := newO X0 hx hZ hown (hw _ (List.mem_of_getElem? (i := 4) rfl)) (hw _ (List.mem_of_getElem? (i := 5) rfl)) (hw _ (List.mem_of_getElem? (i := 6) rfl)) e0 (g := (mkF m 259 #[.val (.int p1), .val (.int p2), .val (.int p3), .val (.int p4), .val (.int p5)] [])) rfl (hb hby d_method_4_259) (by decide) (by decide)
          obtain ⟨b524, g524⟩ : ∃ z, z = h0.size := ⟨_, rfl⟩
          rw [← g524] at A524 D524 U524 st524
          refine own_Go.st st524 ?_
          have z524 : h0.size ≤ h524.size := E524.1
          have lt_b524 : @LT.lt Nat _ b524 h524.size := A524.lt
          have f525 : Fld Z h524 b524 "java/lang/String" "coder" "B" (.int (0 : Int32)) := D524 (Or.inr (hw _ (List.mem_of_getElem? (i := 31) rfl))) (ty := .byte) (by decide)
          have f526 : Fld Z h524 b524 "java/lang/String" "value" "[B" .null := D524 (Or.inr (hw _ (List.mem_of_getElem? (i := 33) rfl))) (ty := (.array .byte)) (by decide)
          show own_Go _ _ _ _ (T524.setTop (mkF m 262 #[.val (.int p1), .val (.int p2), .val (.int p3), .val (.int p4), .val (.int p5)] [(.ref b524)]))
          refine own_Go.st (fun _ k => XS.dup X524.here hx rfl (hb hby d_method_4_262) rfl rfl k) ?_
          show own_Go _ _ _ _ (T524.setTop (mkF m 263 #[.val (.int p1), .val (.int p2), .val (.int p3), .val (.int p4), .val (.int p5)] [(.ref b524), (.ref b524)]))
          refine own_Go.st (fun _ k => XS.iconst X524.here hx rfl (hb hby d_method_4_263) k) ?_
          show own_Go _ _ _ _ (T524.setTop (mkF m 264 #[.val (.int p1), .val (.int p2), .val (.int p3), .val (.int p4), .val (.int p5)] [(.int (5 : Int32)), (.ref b524), (.ref b524)]))
          obtain ⟨T527, h527, k527, X527, e527, E527, A527, st527⟩ := newP X524 hx hZ (hw _ (List.mem_of_getElem? (i := 7) rfl)) e524 (g := (mkF m 264 #[.val (.int p1), .val (.int p2), .val (.int p3), .val (.int p4), .val (.int p5)] [(.int (5 : Int32)), (.ref b524), (.ref b524)])) rfl (hb hby d_method_4_264) rfl (by decide) (cap := 5) (by decide) (by decide) (by decide) (by decide)
          obtain ⟨b527, g527⟩ : ∃ z, z = h524.size := ⟨_, rfl⟩
          rw [← g527] at A527 st527
          refine own_Go.st st527 ?_
          have z527 : h524.size ≤ h527.size := E527.1
          have f528 : Arv Z h527 b527 k527 .char (5 : Int32) [(.int (0 : Int32)), (.int (0 : Int32)), (.int (0 : Int32)), (.int (0 : Int32)), (.int (0 : Int32))] (.int (0 : Int32)) := (Arv.new A527 (by decide)).pad (pad_rep [] (.int (0 : Int32)) 5)
          have lt_b527 : @LT.lt Nat _ b527 h527.size := f528.lt
          show own_Go _ _ _ _ (T527.setTop (mkF m 266 #[.val (.int p1), .val (.int p2), .val (.int p3), .val (.int p4), .val (.int p5)] [(.ref b527), (.ref b524), (.ref b524)]))
          refine own_Go.st (fun _ k => XS.dup X527.here hx rfl (hb hby d_method_4_266) rfl rfl k) ?_
          show own_Go _ _ _ _ (T527.setTop (mkF m 267 #[.val (.int p1), .val (.int p2), .val (.int p3), .val (.int p4), .val (.int p5)] [(.ref b527), (.ref b527), (.ref b524), (.ref b524)]))
          refine own_Go.st (fun _ k => XS.iconst X527.here hx rfl (hb hby d_method_4_267) k) ?_
          show own_Go _ _ _ _ (T527.setTop (mkF m 268 #[.val (.int p1), .val (.int p2), .val (.int p3), .val (.int p4), .val (.int p5)] [(.int (0 : Int32)), (.ref b527), (.ref b527), (.ref b524), (.ref b524)]))
          refine own_Go.st (fun _ k => XS.bipush X527.here hx rfl (hb hby d_method_4_268) k) ?_
          show own_Go _ _ _ _ (T527.setTop (mkF m 270 #[.val (.int p1), .val (.int p2), .val (.int p3), .val (.int p4), .val (.int p5)] [(.int (34 : Int32)), (.int (0 : Int32)), (.ref b527), (.ref b527), (.ref b524), (.ref b524)]))
          obtain ⟨c529, Ar529, q529, S529, Nn529, H529, G529⟩ := id f528
          have hin529 : ¬ ((0 : Int32) < 0 ∨ c529.slots.size ≤ ((0 : Int32)).toNatClampNeg) := inb_of S529 ⟨by decide, by decide⟩
          obtain ⟨T529, h529, X529, e529, W529, st529⟩ := stC X527 hx hZ e527 Ar529 (j := (0 : Int32)) hin529 (g := (mkF m 270 #[.val (.int p1), .val (.int p2), .val (.int p3), .val (.int p4), .val (.int p5)] [(.int (34 : Int32)), (.int (0 : Int32)), (.ref b527), (.ref b527), (.ref b524), (.ref b524)])) rfl rfl (hb hby d_method_4_270)
          refine own_Go.st st529 ?_
          have N529 := Fr.snoc X529 N0 (by omega)
          have z529 : h527.size ≤ h529.size := Nat.le_of_eq W529.size.symm
          have f530 := Arv.set Ar529 q529 S529 Nn529 H529 G529 (fits_nar_char _) W529 0 rfl (Nat.le_of_ble_eq_true rfl)
          have f531 : Arv Z h529 b527 k527 .char (5 : Int32) [(.int (34 : Int32)), (.int (0 : Int32)), (.int (0 : Int32)), (.int (0 : Int32)), (.int (0 : Int32))] (.int (0 : Int32)) := f530
          show own_Go _ _ _ _ (T529.setTop (mkF m 271 #[.val (.int p1), .val (.int p2), .val (.int p3), .val (.int p4), .val (.int p5)] [(.ref b527), (.ref b524), (.ref b524)]))
          refine own_Go.st (fun _ k => XS.dup X529.here hx rfl (hb hby d_method_4_271) rfl rfl k) ?_
          show own_Go _ _ _ _ (T529.setTop (mkF m 272 #[.val (.int p1), .val (.int p2), .val (.int p3), .val (.int p4), .val (.int p5)] [(.ref b527), (.ref b527), (.ref b524), (.ref b524)]))
          refine own_Go.st (fun _ k => XS.iconst X529.here hx rfl (hb hby d_method_4_272) k) ?_
          show own_Go _ _ _ _ (T529.setTop (mkF m 273 #[.val (.int p1), .val (.int p2), .val (.int p3), .val (.int p4), .val (.int p5)] [(.int (1 : Int32)), (.ref b527), (.ref b527), (.ref b524), (.ref b524)]))
          refine own_Go.st (fun _ k => XS.iloadN X529.here hx rfl (hb hby d_method_4_273) rfl k) ?_
          show own_Go _ _ _ _ (T529.setTop (mkF m 274 #[.val (.int p1), .val (.int p2), .val (.int p3), .val (.int p4), .val (.int p5)] [(.int p3), (.int (1 : Int32)), (.ref b527), (.ref b527), (.ref b524), (.ref b524)]))
          obtain ⟨c532, Ar532, q532, S532, Nn532, H532, G532⟩ := id f531
          have hin532 : ¬ ((1 : Int32) < 0 ∨ c532.slots.size ≤ ((1 : Int32)).toNatClampNeg) := inb_of S532 ⟨by decide, by decide⟩
          obtain ⟨T532, h532, X532, e532, W532, st532⟩ := stC X529 hx hZ e529 Ar532 (j := (1 : Int32)) hin532 (g := (mkF m 274 #[.val (.int p1), .val (.int p2), .val (.int p3), .val (.int p4), .val (.int p5)] [(.int p3), (.int (1 : Int32)), (.ref b527), (.ref b527), (.ref b524), (.ref b524)])) rfl rfl (hb hby d_method_4_274)
          refine own_Go.st st532 ?_
          have N532 := Fr.snoc X532 N529 (by omega)
          have z532 : h529.size ≤ h532.size := Nat.le_of_eq W532.size.symm
          have f533 := Arv.set Ar532 q532 S532 Nn532 H532 G532 (fits_nar_char _) W532 1 rfl (Nat.le_of_ble_eq_true rfl)
          rw [own_nar (own_up hp3)] at f533
          have f534 : Arv Z h532 b527 k527 .char (5 : Int32) [(.int (34 : Int32)), (.int p3), (.int (0 : Int32)), (.int (0 : Int32)), (.int (0 : Int32))] (.int (0 : Int32)) := f533
          show own_Go _ _ _ _ (T532.setTop (mkF m 275 #[.val (.int p1), .val (.int p2), .val (.int p3), .val (.int p4), .val (.int p5)] [(.ref b527), (.ref b524), (.ref b524)]))
          refine own_Go.st (fun _ k => XS.dup X532.here hx rfl (hb hby d_method_4_275) rfl rfl k) ?_
          show own_Go _ _ _ _ (T532.setTop (mkF m 276 #[.val (.int p1), .val (.int p2), .val (.int p3), .val (.int p4), .val (.int p5)] [(.ref b527), (.ref b527), (.ref b524), (.ref b524)]))
          refine own_Go.st (fun _ k => XS.iconst X532.here hx rfl (hb hby d_method_4_276) k) ?_
          show own_Go _ _ _ _ (T532.setTop (mkF m 277 #[.val (.int p1), .val (.int p2), .val (.int p3), .val (.int p4), .val (.int p5)] [(.int (2 : Int32)), (.ref b527), (.ref b527), (.ref b524), (.ref b524)]))
          refine own_Go.st (fun _ k => XS.iloadN X532.here hx rfl (hb hby d_method_4_277) rfl k) ?_
          show own_Go _ _ _ _ (T532.setTop (mkF m 278 #[.val (.int p1), .val (.int p2), .val (.int p3), .val (.int p4), .val (.int p5)] [(.int p4), (.int (2 : Int32)), (.ref b527), (.ref b527), (.ref b524), (.ref b524)]))
          obtain ⟨c535, Ar535, q535, S535, Nn535, H535, G535⟩ := id f534
          have hin535 : ¬ ((2 : Int32) < 0 ∨ c535.slots.size ≤ ((2 : Int32)).toNatClampNeg) := inb_of S535 ⟨by decide, by decide⟩
          obtain ⟨T535, h535, X535, e535, W535, st535⟩ := stC X532 hx hZ e532 Ar535 (j := (2 : Int32)) hin535 (g := (mkF m 278 #[.val (.int p1), .val (.int p2), .val (.int p3), .val (.int p4), .val (.int p5)] [(.int p4), (.int (2 : Int32)), (.ref b527), (.ref b527), (.ref b524), (.ref b524)])) rfl rfl (hb hby d_method_4_278)
          refine own_Go.st st535 ?_
          have N535 := Fr.snoc X535 N532 (by omega)
          have z535 : h532.size ≤ h535.size := Nat.le_of_eq W535.size.symm
          have f536 := Arv.set Ar535 q535 S535 Nn535 H535 G535 (fits_nar_char _) W535 2 rfl (Nat.le_of_ble_eq_true rfl)
          rw [own_nar (own_up hp4)] at f536
          have f537 : Arv Z h535 b527 k527 .char (5 : Int32) [(.int (34 : Int32)), (.int p3), (.int p4), (.int (0 : Int32)), (.int (0 : Int32))] (.int (0 : Int32)) := f536
          show own_Go _ _ _ _ (T535.setTop (mkF m 279 #[.val (.int p1), .val (.int p2), .val (.int p3), .val (.int p4), .val (.int p5)] [(.ref b527), (.ref b524), (.ref b524)]))
          refine own_Go.st (fun _ k => XS.dup X535.here hx rfl (hb hby d_method_4_279) rfl rfl k) ?_
          show own_Go _ _ _ _ (T535.setTop (mkF m 280 #[.val (.int p1), .val (.int p2), .val (.int p3), .val (.int p4), .val (.int p5)] [(.ref b527), (.ref b527), (.ref b524), (.ref b524)]))
          refine own_Go.st (fun _ k => XS.iconst X535.here hx rfl (hb hby d_method_4_280) k) ?_
          show own_Go _ _ _ _ (T535.setTop (mkF m 281 #[.val (.int p1), .val (.int p2), .val (.int p3), .val (.int p4), .val (.int p5)] [(.int (3 : Int32)), (.ref b527), (.ref b527), (.ref b524), (.ref b524)]))
          refine own_Go.st (fun _ k => XS.iload X535.here hx rfl (hb hby d_method_4_281) rfl k) ?_
          show own_Go _ _ _ _ (T535.setTop (mkF m 283 #[.val (.int p1), .val (.int p2), .val (.int p3), .val (.int p4), .val (.int p5)] [(.int p5), (.int (3 : Int32)), (.ref b527), (.ref b527), (.ref b524), (.ref b524)]))
          obtain ⟨c538, Ar538, q538, S538, Nn538, H538, G538⟩ := id f537
          have hin538 : ¬ ((3 : Int32) < 0 ∨ c538.slots.size ≤ ((3 : Int32)).toNatClampNeg) := inb_of S538 ⟨by decide, by decide⟩
          obtain ⟨T538, h538, X538, e538, W538, st538⟩ := stC X535 hx hZ e535 Ar538 (j := (3 : Int32)) hin538 (g := (mkF m 283 #[.val (.int p1), .val (.int p2), .val (.int p3), .val (.int p4), .val (.int p5)] [(.int p5), (.int (3 : Int32)), (.ref b527), (.ref b527), (.ref b524), (.ref b524)])) rfl rfl (hb hby d_method_4_283)
          refine own_Go.st st538 ?_
          have N538 := Fr.snoc X538 N535 (by omega)
          have z538 : h535.size ≤ h538.size := Nat.le_of_eq W538.size.symm
          have f539 := Arv.set Ar538 q538 S538 Nn538 H538 G538 (fits_nar_char _) W538 3 rfl (Nat.le_of_ble_eq_true rfl)
          rw [own_nar (own_up hp5)] at f539
          have f540 : Arv Z h538 b527 k527 .char (5 : Int32) [(.int (34 : Int32)), (.int p3), (.int p4), (.int p5), (.int (0 : Int32))] (.int (0 : Int32)) := f539
          show own_Go _ _ _ _ (T538.setTop (mkF m 284 #[.val (.int p1), .val (.int p2), .val (.int p3), .val (.int p4), .val (.int p5)] [(.ref b527), (.ref b524), (.ref b524)]))
          refine own_Go.st (fun _ k => XS.dup X538.here hx rfl (hb hby d_method_4_284) rfl rfl k) ?_
          show own_Go _ _ _ _ (T538.setTop (mkF m 285 #[.val (.int p1), .val (.int p2), .val (.int p3), .val (.int p4), .val (.int p5)] [(.ref b527), (.ref b527), (.ref b524), (.ref b524)]))
          refine own_Go.st (fun _ k => XS.iconst X538.here hx rfl (hb hby d_method_4_285) k) ?_
          show own_Go _ _ _ _ (T538.setTop (mkF m 286 #[.val (.int p1), .val (.int p2), .val (.int p3), .val (.int p4), .val (.int p5)] [(.int (4 : Int32)), (.ref b527), (.ref b527), (.ref b524), (.ref b524)]))
          refine own_Go.st (fun _ k => XS.bipush X538.here hx rfl (hb hby d_method_4_286) k) ?_
          show own_Go _ _ _ _ (T538.setTop (mkF m 288 #[.val (.int p1), .val (.int p2), .val (.int p3), .val (.int p4), .val (.int p5)] [(.int (34 : Int32)), (.int (4 : Int32)), (.ref b527), (.ref b527), (.ref b524), (.ref b524)]))
          obtain ⟨c541, Ar541, q541, S541, Nn541, H541, G541⟩ := id f540
          have hin541 : ¬ ((4 : Int32) < 0 ∨ c541.slots.size ≤ ((4 : Int32)).toNatClampNeg) := inb_of S541 ⟨by decide, by decide⟩
          obtain ⟨T541, h541, X541, e541, W541, st541⟩ := stC X538 hx hZ e538 Ar541 (j := (4 : Int32)) hin541 (g := (mkF m 288 #[.val (.int p1), .val (.int p2), .val (.int p3), .val (.int p4), .val (.int p5)] [(.int (34 : Int32)), (.int (4 : Int32)), (.ref b527), (.ref b527), (.ref b524), (.ref b524)])) rfl rfl (hb hby d_method_4_288)
          refine own_Go.st st541 ?_
          have N541 := Fr.snoc X541 N538 (by omega)
          have z541 : h538.size ≤ h541.size := Nat.le_of_eq W541.size.symm
          have f542 := Arv.set Ar541 q541 S541 Nn541 H541 G541 (fits_nar_char _) W541 4 rfl (Nat.le_of_ble_eq_true rfl)
          have f543 : Arv Z h541 b527 k527 .char (5 : Int32) [(.int (34 : Int32)), (.int p3), (.int p4), (.int p5), (.int (34 : Int32))] (.int (0 : Int32)) := f542
          show own_Go _ _ _ _ (T541.setTop (mkF m 289 #[.val (.int p1), .val (.int p2), .val (.int p3), .val (.int p4), .val (.int p5)] [(.ref b527), (.ref b524), (.ref b524)]))
          have f545 : Exa Z h527 b524 "java/lang/String" := A524.ext E527
          have f546 : Exa Z h529 b524 "java/lang/String" := f545.wr W529
          have f547 : Exa Z h532 b524 "java/lang/String" := f546.wr W532
          have f548 : Exa Z h535 b524 "java/lang/String" := f547.wr W535
          have f549 : Exa Z h538 b524 "java/lang/String" := f548.wr W538
          have f550 : Exa Z h541 b524 "java/lang/String" := f549.wr W541
          have f551 : Fld Z h527 b524 "java/lang/String" "value" "[B" .null := f526.ext E527
          have f552 : Fld Z h529 b524 "java/lang/String" "value" "[B" .null := f551.other W529 (Or.inl (by show @Ne Nat b524 b527; omega))
          have f553 : Fld Z h532 b524 "java/lang/String" "value" "[B" .null := f552.other W532 (Or.inl (by show @Ne Nat b524 b527; omega))
          have f554 : Fld Z h535 b524 "java/lang/String" "value" "[B" .null := f553.other W535 (Or.inl (by show @Ne Nat b524 b527; omega))
          have f555 : Fld Z h538 b524 "java/lang/String" "value" "[B" .null := f554.other W538 (Or.inl (by show @Ne Nat b524 b527; omega))
          have f556 : Fld Z h541 b524 "java/lang/String" "value" "[B" .null := f555.other W541 (Or.inl (by show @Ne Nat b524 b527; omega))
          have f557 : Fld Z h527 b524 "java/lang/String" "coder" "B" (.int (0 : Int32)) := f525.ext E527
          have f558 : Fld Z h529 b524 "java/lang/String" "coder" "B" (.int (0 : Int32)) := f557.other W529 (Or.inl (by show @Ne Nat b524 b527; omega))
          have f559 : Fld Z h532 b524 "java/lang/String" "coder" "B" (.int (0 : Int32)) := f558.other W532 (Or.inl (by show @Ne Nat b524 b527; omega))
          have f560 : Fld Z h535 b524 "java/lang/String" "coder" "B" (.int (0 : Int32)) := f559.other W535 (Or.inl (by show @Ne Nat b524 b527; omega))
          have f561 : Fld Z h538 b524 "java/lang/String" "coder" "B" (.int (0 : Int32)) := f560.other W538 (Or.inl (by show @Ne Nat b524 b527; omega))
          have f562 : Fld Z h541 b524 "java/lang/String" "coder" "B" (.int (0 : Int32)) := f561.other W541 (Or.inl (by show @Ne Nat b524 b527; omega))
          have f563 : Old Z Z.heap.size h524 := OL.ext E524
          have f564 : Old Z Z.heap.size h527 := f563.ext E527
          have f565 : Old Z Z.heap.size h529 := f564.wr W529 (by omega)
          have f566 : Old Z Z.heap.size h532 := f565.wr W532 (by omega)
          have f567 : Old Z Z.heap.size h535 := f566.wr W535 (by omega)
          have f568 : Old Z Z.heap.size h538 := f567.wr W538 (by omega)
          have f569 : Old Z Z.heap.size h541 := f568.wr W541 (by omega)
          have hp544 : ∀ c ∈ ([(34 : Int32), p3, p4, p5, (34 : Int32)] : List Int32), ¬ c < 0 ∧ ¬ (255 : Int32) < c := (own_aS (by decide) (own_aS hp3 (own_aS hp4 (own_aS hp5 (own_aS (by decide) own_a0)))))
          obtain ⟨_, _, ⟨T544, L544, k544, n544⟩, -, X544, ⟨Lc544, hQ544, l544, y544, z544⟩, st544⟩ := X541.specialBack hx (y := (⟨"java/lang/String", "<init>", "([C)V"⟩ : MethodName)) rfl hown (mvT hZ (hw _ (List.mem_of_getElem? (i := 8) rfl))) (mvT hZ (hw _ (List.mem_of_getElem? (i := 9) rfl))) (mvT hZ (hw _ (List.mem_of_getElem? (i := 10) rfl))) (by decide) (StrChars.Road.backV (W := 1) hZ (own_hws hw) (kI := 4) (hw _ (List.mem_of_getElem? (i := 5) rfl)) (cs := ([(34 : Int32), p3, p4, p5, (34 : Int32)] : List Int32)) (bs := (([(34 : Int32), p3, p4, p5, (34 : Int32)] : List Int32)).map (fun c => c.toInt8.toInt32)) (n := 5) (n0 := Z.heap.size) (by omega) (by omega) f550 f556 f562 f543 (st_COMPACT_STRINGS.ext f569.2) hzc rfl rfl (by decide) (by decide) hp544 rfl (by decide) (by decide)) (g := (mkF m 289 #[.val (.int p1), .val (.int p2), .val (.int p3), .val (.int p4), .val (.int p5)] [(.ref b527), (.ref b524), (.ref b524)])) rfl (by rw [hml]; rfl) (Steps.refl _) (a := b524) (argsL := [(.ref b527)]) (rest := [(.ref b524)]) (lenOf pd_349 rfl) rfl (by show 2 * 0 + _ ≤ _; exact Nat.le_of_eq rfl) (hb hby d_method_4_289) (fun _ _ => ⟨rfl, e541, (by decide : 2 + 1 ≤ _), (by decide : 9 + 5 ≤ _)⟩)
          dsimp only [Pt.U, Pt.locs, Pt.cells, Pt.slots] at X544 l544 y544 z544 st544 hQ544
          subst l544 y544 z544
          obtain ⟨rfl, N544q, K544, Ex544, Cd544, t544, kb544, u544, v544, w544, Vl544, Ar544⟩ := hQ544
          have N544 := Fr.app N541 N544q
          have z544 : h541.size ≤ T544.heap.size := K544.1
          have fT544 : own_Str Z T544.heap b524 t544 ([(34 : Int32), p3, p4, p5, (34 : Int32)] : List Int32) := ⟨kb544, 0, (5 : Int32), _, Ex544, Vl544, Cd544, Ar544, StrChars.Road.codOf rfl (fun c q => (hp544 c q).2), own_upL hp544, (Nat.le_of_ble_eq_true rfl)⟩
          have lt544 : @LT.lt Nat _ t544 T544.heap.size := fT544.ltv
          refine own_Go.tr st544 ?_
          show own_Go _ _ _ _ (T544.setTop (mkF m 292 #[.val (.int p1), .val (.int p2), .val (.int p3), .val (.int p4), .val (.int p5)] [(.ref b524)]))
          obtain ⟨fs570, hr570, hrun570, hend570, hW570, hsm570⟩ := X544.leave (v := some (.ref b524)) (fun h => by rw [Bd.returns] at h; cases h)
          have K571 : Keep h0 h524 [] := (Keep.refl h0 []).ext E524
          have K572 : Keep h0 h527 [] := K571.ext E527
          have K573 : Keep h0 h529 [] := K572.wr W529 (Or.inr (by omega))
          have K574 : Keep h0 h532 [] := K573.wr W532 (Or.inr (by omega))
          have K575 : Keep h0 h535 [] := K574.wr W535 (Or.inr (by omega))
          have K576 : Keep h0 h538 [] := K575.wr W538 (Or.inr (by omega))
          have K577 : Keep h0 h541 [] := K576.wr W541 (Or.inr (by omega))
          have K578 : Keep h0 T544.heap [] := K577.trans K544 (allS (Or.inr (by omega)) all0)
          subst hPP
          refine ⟨_, _, own_retA X544 hx Bd.returns rfl rfl (hb hby d_method_4_292) hr570, hrun570, hend570, _, _, rfl, ?_, ⟨_, rfl⟩, hW570, hsm570.mono (by decide) (by decide)⟩
          · show Q_tag Z _ _ _ _ _ _ h0 _ T544.heap _
            exact ⟨b524, t544, ([(34 : Int32), p3, p4, p5, (34 : Int32)] : List Int32), rfl, N544, K578, fT544, (Nat.le_of_ble_eq_true rfl), (Nat.le_of_ble_eq_true rfl), hp544⟩
  ·
    refine own_Go.st (fun _ k => XS.ifNo X0.here hx rfl (hb hby d_method_4_1) rfl ((if0 _ _).trans (feq hc403).1) k) ?_
    show own_Go _ _ _ _ (s₁.setTop (mkF m 4 #[.val (.int p1), .val (.int p2), .val (.int p3), .val (.int p4), .val (.int p5)] []))
    refine own_Go.st (fun _ k => XS.iloadN X0.here hx rfl (hb hby d_method_4_4) rfl k) ?_
    show own_Go _ _ _ _ (s₁.setTop (mkF m 5 #[.val (.int p1), .val (.int p2), .val (.int p3), .val (.int p4), .val (.int p5)] [(.int p2)]))
    by_cases hc579 : p2 = (0 : Int32)
    ·
      refine own_Go.st (fun _ k => XS.ifNo X0.here hx rfl (hb hby d_method_4_5) rfl ((if0 _ _).trans (teq hc579).2) k) ?_
      show own_Go _ _ _ _ (s₁.setTop (mkF m 8 #[.val (.int p1), .val (.int p2), .val (.int p3), .val (.int p4), .val (.int p5)] []))
      obtain ⟨T580, h580, X580, e580, E580, A580, D580, U580, st580⟩ := newO X0 hx hZ hown (hw _ (List.mem_of_getElem? (i := 4) rfl)) (hw _ (List.mem_of_getElem? (i := 5) rfl)) (hw _ (List.mem_of_getElem? (i := 6) rfl)) e0 (g := (mkF m 8 #[.val (.int p1), .val (.int p2), .val (.int p3), .val (.int p4), .val (.int p5)] [])) rfl (hb hby d_method_4_8) (by decide) (by decide)
      obtain ⟨b580, g580⟩ : ∃ z, z = h0.size := ⟨_, rfl⟩
      rw [← g580] at A580 D580 U580 st580
      refine own_Go.st st580 ?_
      have z580 : h0.size ≤ h580.size := E580.1
      have lt_b580 : @LT.lt Nat _ b580 h580.size := A580.lt
      have f581 : Fld Z h580 b580 "java/lang/String" "coder" "B" (.int (0 : Int32)) := D580 (Or.inr (hw _ (List.mem_of_getElem? (i := 31) rfl))) (ty := .byte) (by decide)
      have f582 : Fld Z h580 b580 "java/lang/String" "value" "[B" .null := D580 (Or.inr (hw _ (List.mem_of_getElem? (i := 33) rfl))) (ty := (.array .byte)) (by decide)
      show own_Go _ _ _ _ (T580.setTop (mkF m 11 #[.val (.int p1), .val (.int p2), .val (.int p3), .val (.int p4), .val (.int p5)] [(.ref b580)]))
      refine own_Go.st (fun _ k => XS.dup X580.here hx rfl (hb hby d_method_4_11) rfl rfl k) ?_
      show own_Go _ _ _ _ (T580.setTop (mkF m 12 #[.val (.int p1), .val (.int p2), .val (.int p3), .val (.int p4), .val (.int p5)] [(.ref b580), (.ref b580)]))
      refine own_Go.st (fun _ k => XS.iconst X580.here hx rfl (hb hby d_method_4_12) k) ?_
      show own_Go _ _ _ _ (T580.setTop (mkF m 13 #[.val (.int p1), .val (.int p2), .val (.int p3), .val (.int p4), .val (.int p5)] [(.int (4 : Int32)), (.ref b580), (.ref b580)]))
      obtain ⟨T583, h583, k583, X583, e583, E583, A583, st583⟩ := newP X580 hx hZ (hw _ (List.mem_of_getElem? (i := 7) rfl)) e580 (g := (mkF m 13 #[.val (.int p1), .val (.int p2), .val (.int p3), .val (.int p4), .val (.int p5)] [(.int (4 : Int32)), (.ref b580), (.ref b580)])) rfl (hb hby d_method_4_13) rfl (by decide) (cap := 4) (by decide) (by decide) (by decide) (by decide)
      obtain ⟨b583, g583⟩ : ∃ z, z = h580.size := ⟨_, rfl⟩
      rw [← g583] at A583 st583
      refine own_Go.st st583 ?_
      have z583 : h580.size ≤ h583.size := E583.1
      have f584 : Arv Z h583 b583 k583 .char (4 : Int32) [(.int (0 : Int32)), (.int (0 : Int32)), (.int (0 : Int32)), (.int (0 : Int32))] (.int (0 : Int32)) := (Arv.new A583 (by decide)).pad (pad_rep [] (.int (0 : Int32)) 4)
      have lt_b583 : @LT.lt Nat _ b583 h583.size := f584.lt
      show own_Go _ _ _ _ (T583.setTop (mkF m 15 #[.val (.int p1), .val (.int p2), .val (.int p3), .val (.int p4), .val (.int p5)] [(.ref b583), (.ref b580), (.ref b580)]))
      refine own_Go.st (fun _ k => XS.dup X583.here hx rfl (hb hby d_method_4_15) rfl rfl k) ?_
      show own_Go _ _ _ _ (T583.setTop (mkF m 16 #[.val (.int p1), .val (.int p2), .val (.int p3), .val (.int p4), .val (.int p5)] [(.ref b583), (.ref b583), (.ref b580), (.ref b580)]))
      refine own_Go.st (fun _ k => XS.iconst X583.here hx rfl (hb hby d_method_4_16) k) ?_
      show own_Go _ _ _ _ (T583.setTop (mkF m 17 #[.val (.int p1), .val (.int p2), .val (.int p3), .val (.int p4), .val (.int p5)] [(.int (0 : Int32)), (.ref b583), (.ref b583), (.ref b580), (.ref b580)]))
      refine own_Go.st (fun _ k => XS.bipush X583.here hx rfl (hb hby d_method_4_17) k) ?_
      show own_Go _ _ _ _ (T583.setTop (mkF m 19 #[.val (.int p1), .val (.int p2), .val (.int p3), .val (.int p4), .val (.int p5)] [(.int (87 : Int32)), (.int (0 : Int32)), (.ref b583), (.ref b583), (.ref b580), (.ref b580)]))
      obtain ⟨c585, Ar585, q585, S585, Nn585, H585, G585⟩ := id f584
      have hin585 : ¬ ((0 : Int32) < 0 ∨ c585.slots.size ≤ ((0 : Int32)).toNatClampNeg) := inb_of S585 ⟨by decide, by decide⟩
      obtain ⟨T585, h585, X585, e585, W585, st585⟩ := stC X583 hx hZ e583 Ar585 (j := (0 : Int32)) hin585 (g := (mkF m 19 #[.val (.int p1), .val (.int p2), .val (.int p3), .val (.int p4), .val (.int p5)] [(.int (87 : Int32)), (.int (0 : Int32)), (.ref b583), (.ref b583), (.ref b580), (.ref b580)])) rfl rfl (hb hby d_method_4_19)
      refine own_Go.st st585 ?_
      have N585 := Fr.snoc X585 N0 (by omega)
      have z585 : h583.size ≤ h585.size := Nat.le_of_eq W585.size.symm
      have f586 := Arv.set Ar585 q585 S585 Nn585 H585 G585 (fits_nar_char _) W585 0 rfl (Nat.le_of_ble_eq_true rfl)
      have f587 : Arv Z h585 b583 k583 .char (4 : Int32) [(.int (87 : Int32)), (.int (0 : Int32)), (.int (0 : Int32)), (.int (0 : Int32))] (.int (0 : Int32)) := f586
      show own_Go _ _ _ _ (T585.setTop (mkF m 20 #[.val (.int p1), .val (.int p2), .val (.int p3), .val (.int p4), .val (.int p5)] [(.ref b583), (.ref b580), (.ref b580)]))
      refine own_Go.st (fun _ k => XS.dup X585.here hx rfl (hb hby d_method_4_20) rfl rfl k) ?_
      show own_Go _ _ _ _ (T585.setTop (mkF m 21 #[.val (.int p1), .val (.int p2), .val (.int p3), .val (.int p4), .val (.int p5)] [(.ref b583), (.ref b583), (.ref b580), (.ref b580)]))
      refine own_Go.st (fun _ k => XS.iconst X585.here hx rfl (hb hby d_method_4_21) k) ?_
      show own_Go _ _ _ _ (T585.setTop (mkF m 22 #[.val (.int p1), .val (.int p2), .val (.int p3), .val (.int p4), .val (.int p5)] [(.int (1 : Int32)), (.ref b583), (.ref b583), (.ref b580), (.ref b580)]))
      refine own_Go.st (fun _ k => XS.bipush X585.here hx rfl (hb hby d_method_4_22) k) ?_
      show own_Go _ _ _ _ (T585.setTop (mkF m 24 #[.val (.int p1), .val (.int p2), .val (.int p3), .val (.int p4), .val (.int p5)] [(.int (47 : Int32)), (.int (1 : Int32)), (.ref b583), (.ref b583), (.ref b580), (.ref b580)]))
      obtain ⟨c588, Ar588, q588, S588, Nn588, H588, G588⟩ := id f587
      have hin588 : ¬ ((1 : Int32) < 0 ∨ c588.slots.size ≤ ((1 : Int32)).toNatClampNeg) := inb_of S588 ⟨by decide, by decide⟩
      obtain ⟨T588, h588, X588, e588, W588, st588⟩ := stC X585 hx hZ e585 Ar588 (j := (1 : Int32)) hin588 (g := (mkF m 24 #[.val (.int p1), .val (.int p2), .val (.int p3), .val (.int p4), .val (.int p5)] [(.int (47 : Int32)), (.int (1 : Int32)), (.ref b583), (.ref b583), (.ref b580), (.ref b580)])) rfl rfl (hb hby d_method_4_24)
      refine own_Go.st st588 ?_
      have N588 := Fr.snoc X588 N585 (by omega)
      have z588 : h585.size ≤ h588.size := Nat.le_of_eq W588.size.symm
      have f589 := Arv.set Ar588 q588 S588 Nn588 H588 G588 (fits_nar_char _) W588 1 rfl (Nat.le_of_ble_eq_true rfl)
      have f590 : Arv Z h588 b583 k583 .char (4 : Int32) [(.int (87 : Int32)), (.int (47 : Int32)), (.int (0 : Int32)), (.int (0 : Int32))] (.int (0 : Int32)) := f589
      show own_Go _ _ _ _ (T588.setTop (mkF m 25 #[.val (.int p1), .val (.int p2), .val (.int p3), .val (.int p4), .val (.int p5)] [(.ref b583), (.ref b580), (.ref b580)]))
      refine own_Go.st (fun _ k => XS.dup X588.here hx rfl (hb hby d_method_4_25) rfl rfl k) ?_
      show own_Go _ _ _ _ (T588.setTop (mkF m 26 #[.val (.int p1), .val (.int p2), .val (.int p3), .val (.int p4), .val (.int p5)] [(.ref b583), (.ref b583), (.ref b580), (.ref b580)]))
      refine own_Go.st (fun _ k => XS.iconst X588.here hx rfl (hb hby d_method_4_26) k) ?_
      show own_Go _ _ _ _ (T588.setTop (mkF m 27 #[.val (.int p1), .val (.int p2), .val (.int p3), .val (.int p4), .val (.int p5)] [(.int (2 : Int32)), (.ref b583), (.ref b583), (.ref b580), (.ref b580)]))
      refine own_Go.st (fun _ k => XS.bipush X588.here hx rfl (hb hby d_method_4_27) k) ?_
      show own_Go _ _ _ _ (T588.setTop (mkF m 29 #[.val (.int p1), .val (.int p2), .val (.int p3), .val (.int p4), .val (.int p5)] [(.int (34 : Int32)), (.int (2 : Int32)), (.ref b583), (.ref b583), (.ref b580), (.ref b580)]))
      obtain ⟨c591, Ar591, q591, S591, Nn591, H591, G591⟩ := id f590
      have hin591 : ¬ ((2 : Int32) < 0 ∨ c591.slots.size ≤ ((2 : Int32)).toNatClampNeg) := inb_of S591 ⟨by decide, by decide⟩
      obtain ⟨T591, h591, X591, e591, W591, st591⟩ := stC X588 hx hZ e588 Ar591 (j := (2 : Int32)) hin591 (g := (mkF m 29 #[.val (.int p1), .val (.int p2), .val (.int p3), .val (.int p4), .val (.int p5)] [(.int (34 : Int32)), (.int (2 : Int32)), (.ref b583), (.ref b583), (.ref b580), (.ref b580)])) rfl rfl (hb hby d_method_4_29)
      refine own_Go.st st591 ?_
      have N591 := Fr.snoc X591 N588 (by omega)
      have z591 : h588.size ≤ h591.size := Nat.le_of_eq W591.size.symm
      have f592 := Arv.set Ar591 q591 S591 Nn591 H591 G591 (fits_nar_char _) W591 2 rfl (Nat.le_of_ble_eq_true rfl)
      have f593 : Arv Z h591 b583 k583 .char (4 : Int32) [(.int (87 : Int32)), (.int (47 : Int32)), (.int (34 : Int32)), (.int (0 : Int32))] (.int (0 : Int32)) := f592
      show own_Go _ _ _ _ (T591.setTop (mkF m 30 #[.val (.int p1), .val (.int p2), .val (.int p3), .val (.int p4), .val (.int p5)] [(.ref b583), (.ref b580), (.ref b580)]))
      refine own_Go.st (fun _ k => XS.dup X591.here hx rfl (hb hby d_method_4_30) rfl rfl k) ?_
      show own_Go _ _ _ _ (T591.setTop (mkF m 31 #[.val (.int p1), .val (.int p2), .val (.int p3), .val (.int p4), .val (.int p5)] [(.ref b583), (.ref b583), (.ref b580), (.ref b580)]))
      refine own_Go.st (fun _ k => XS.iconst X591.here hx rfl (hb hby d_method_4_31) k) ?_
      show own_Go _ _ _ _ (T591.setTop (mkF m 32 #[.val (.int p1), .val (.int p2), .val (.int p3), .val (.int p4), .val (.int p5)] [(.int (3 : Int32)), (.ref b583), (.ref b583), (.ref b580), (.ref b580)]))
      refine own_Go.st (fun _ k => XS.bipush X591.here hx rfl (hb hby d_method_4_32) k) ?_
      show own_Go _ _ _ _ (T591.setTop (mkF m 34 #[.val (.int p1), .val (.int p2), .val (.int p3), .val (.int p4), .val (.int p5)] [(.int (34 : Int32)), (.int (3 : Int32)), (.ref b583), (.ref b583), (.ref b580), (.ref b580)]))
      obtain ⟨c594, Ar594, q594, S594, Nn594, H594, G594⟩ := id f593
      have hin594 : ¬ ((3 : Int32) < 0 ∨ c594.slots.size ≤ ((3 : Int32)).toNatClampNeg) := inb_of S594 ⟨by decide, by decide⟩
      obtain ⟨T594, h594, X594, e594, W594, st594⟩ := stC X591 hx hZ e591 Ar594 (j := (3 : Int32)) hin594 (g := (mkF m 34 #[.val (.int p1), .val (.int p2), .val (.int p3), .val (.int p4), .val (.int p5)] [(.int (34 : Int32)), (.int (3 : Int32)), (.ref b583), (.ref b583), (.ref b580), (.ref b580)])) rfl rfl (hb hby d_method_4_34)
      refine own_Go.st st594 ?_
      have N594 := Fr.snoc X594 N591 (by omega)
      have z594 : h591.size ≤ h594.size := Nat.le_of_eq W594.size.symm
      have f595 := Arv.set Ar594 q594 S594 Nn594 H594 G594 (fits_nar_char _) W594 3 rfl (Nat.le_of_ble_eq_true rfl)
      have f596 : Arv Z h594 b583 k583 .char (4 : Int32) [(.int (87 : Int32)), (.int (47 : Int32)), (.int (34 : Int32)), (.int (34 : Int32))] (.int (0 : Int32)) := f595
      show own_Go _ _ _ _ (T594.setTop (mkF m 35 #[.val (.int p1), .val (.int p2), .val (.int p3), .val (.int p4), .val (.int p5)] [(.ref b583), (.ref b580), (.ref b580)]))
      have f598 : Exa Z h583 b580 "java/lang/String" := A580.ext E583
      have f599 : Exa Z h585 b580 "java/lang/String" := f598.wr W585
      have f600 : Exa Z h588 b580 "java/lang/String" := f599.wr W588
      have f601 : Exa Z h591 b580 "java/lang/String" := f600.wr W591
      have f602 : Exa Z h594 b580 "java/lang/String" := f601.wr W594
      have f603 : Fld Z h583 b580 "java/lang/String" "value" "[B" .null := f582.ext E583
      have f604 : Fld Z h585 b580 "java/lang/String" "value" "[B" .null := f603.other W585 (Or.inl (by show @Ne Nat b580 b583; omega))
      have f605 : Fld Z h588 b580 "java/lang/String" "value" "[B" .null := f604.other W588 (Or.inl (by show @Ne Nat b580 b583; omega))
      have f606 : Fld Z h591 b580 "java/lang/String" "value" "[B" .null := f605.other W591 (Or.inl (by show @Ne Nat b580 b583; omega))
      have f607 : Fld Z h594 b580 "java/lang/String" "value" "[B" .null := f606.other W594 (Or.inl (by show @Ne Nat b580 b583; omega))
      have f608 : Fld Z h583 b580 "java/lang/String" "coder" "B" (.int (0 : Int32)) := f581.ext E583
      have f609 : Fld Z h585 b580 "java/lang/String" "coder" "B" (.int (0 : Int32)) := f608.other W585 (Or.inl (by show @Ne Nat b580 b583; omega))
      have f610 : Fld Z h588 b580 "java/lang/String" "coder" "B" (.int (0 : Int32)) := f609.other W588 (Or.inl (by show @Ne Nat b580 b583; omega))
      have f611 : Fld Z h591 b580 "java/lang/String" "coder" "B" (.int (0 : Int32)) := f610.other W591 (Or.inl (by show @Ne Nat b580 b583; omega))
      have f612 : Fld Z h594 b580 "java/lang/String" "coder" "B" (.int (0 : Int32)) := f611.other W594 (Or.inl (by show @Ne Nat b580 b583; omega))
      have f613 : Old Z Z.heap.size h580 := OL.ext E580
      have f614 : Old Z Z.heap.size h583 := f613.ext E583
      have f615 : Old Z Z.heap.size h585 := f614.wr W585 (by omega)
      have f616 : Old Z Z.heap.size h588 := f615.wr W588 (by omega)
      have f617 : Old Z Z.heap.size h591 := f616.wr W591 (by omega)
      have f618 : Old Z Z.heap.size h594 := f617.wr W594 (by omega)
      have hp597 : ∀ c ∈ ([(87 : Int32), (47 : Int32), (34 : Int32), (34 : Int32)] : List Int32), ¬ c < 0 ∧ ¬ (255 : Int32) < c := (own_aS (by decide) (own_aS (by decide) (own_aS (by decide) (own_aS (by decide) own_a0))))
      obtain ⟨_, _, ⟨T597, L597, k597, n597⟩, -, X597, ⟨Lc597, hQ597, l597, y597, z597⟩, st597⟩ := X594.specialBack hx (y := (⟨"java/lang/String", "<init>", "([C)V"⟩ : MethodName)) rfl hown (mvT hZ (hw _ (List.mem_of_getElem? (i := 8) rfl))) (mvT hZ (hw _ (List.mem_of_getElem? (i := 9) rfl))) (mvT hZ (hw _ (List.mem_of_getElem? (i := 10) rfl))) (by decide) (StrChars.Road.backV (W := 1) hZ (own_hws hw) (kI := 4) (hw _ (List.mem_of_getElem? (i := 5) rfl)) (cs := ([(87 : Int32), (47 : Int32), (34 : Int32), (34 : Int32)] : List Int32)) (bs := (([(87 : Int32), (47 : Int32), (34 : Int32), (34 : Int32)] : List Int32)).map (fun c => c.toInt8.toInt32)) (n := 4) (n0 := Z.heap.size) (by omega) (by omega) f602 f607 f612 f596 (st_COMPACT_STRINGS.ext f618.2) hzc rfl rfl (by decide) (by decide) hp597 rfl (by decide) (by decide)) (g := (mkF m 35 #[.val (.int p1), .val (.int p2), .val (.int p3), .val (.int p4), .val (.int p5)] [(.ref b583), (.ref b580), (.ref b580)])) rfl (by rw [hml]; rfl) (Steps.refl _) (a := b580) (argsL := [(.ref b583)]) (rest := [(.ref b580)]) (lenOf pd_349 rfl) rfl (by show 2 * 0 + _ ≤ _; exact Nat.le_of_eq rfl) (hb hby d_method_4_35) (fun _ _ => ⟨rfl, e594, (by decide : 2 + 1 ≤ _), (by decide : 8 + 4 ≤ _)⟩)
      dsimp only [Pt.U, Pt.locs, Pt.cells, Pt.slots] at X597 l597 y597 z597 st597 hQ597
      subst l597 y597 z597
      obtain ⟨rfl, N597q, K597, Ex597, Cd597, t597, kb597, u597, v597, w597, Vl597, Ar597⟩ := hQ597
      have N597 := Fr.app N594 N597q
      have z597 : h594.size ≤ T597.heap.size := K597.1
      have fT597 : own_Str Z T597.heap b580 t597 ([(87 : Int32), (47 : Int32), (34 : Int32), (34 : Int32)] : List Int32) := ⟨kb597, 0, (4 : Int32), _, Ex597, Vl597, Cd597, Ar597, StrChars.Road.codOf rfl (fun c q => (hp597 c q).2), own_upL hp597, (Nat.le_of_ble_eq_true rfl)⟩
      have lt597 : @LT.lt Nat _ t597 T597.heap.size := fT597.ltv
      refine own_Go.tr st597 ?_
      show own_Go _ _ _ _ (T597.setTop (mkF m 38 #[.val (.int p1), .val (.int p2), .val (.int p3), .val (.int p4), .val (.int p5)] [(.ref b580)]))
      obtain ⟨fs619, hr619, hrun619, hend619, hW619, hsm619⟩ := X597.leave (v := some (.ref b580)) (fun h => by rw [Bd.returns] at h; cases h)
      have K620 : Keep h0 h580 [] := (Keep.refl h0 []).ext E580
      have K621 : Keep h0 h583 [] := K620.ext E583
      have K622 : Keep h0 h585 [] := K621.wr W585 (Or.inr (by omega))
      have K623 : Keep h0 h588 [] := K622.wr W588 (Or.inr (by omega))
      have K624 : Keep h0 h591 [] := K623.wr W591 (Or.inr (by omega))
      have K625 : Keep h0 h594 [] := K624.wr W594 (Or.inr (by omega))
      have K626 : Keep h0 T597.heap [] := K625.trans K597 (allS (Or.inr (by omega)) all0)
      subst hPP
      refine ⟨_, _, own_retA X597 hx Bd.returns rfl rfl (hb hby d_method_4_38) hr619, hrun619, hend619, _, _, rfl, ?_, ⟨_, rfl⟩, hW619, hsm619.mono (by decide) (by decide)⟩
      · show Q_tag Z _ _ _ _ _ _ h0 _ T597.heap _
        exact ⟨b580, t597, ([(87 : Int32), (47 : Int32), (34 : Int32), (34 : Int32)] : List Int32), rfl, N597, K626, fT597, (Nat.le_of_ble_eq_true rfl), (Nat.le_of_ble_eq_true rfl), hp597⟩
    ·
      refine own_Go.st (fun _ k => XS.ifYes X0.here hx rfl (pc0 := 5) (pc' := 39) rfl (hb hby d_method_4_5) rfl ((if0 _ _).trans (feq hc579).2) (by decide) (by decide) k) ?_
      show own_Go _ _ _ _ (s₁.setTop (mkF m 39 #[.val (.int p1), .val (.int p2), .val (.int p3), .val (.int p4), .val (.int p5)] []))
      refine own_Go.st (fun _ k => XS.iloadN X0.here hx rfl (hb hby d_method_4_39) rfl k) ?_
      show own_Go _ _ _ _ (s₁.setTop (mkF m 40 #[.val (.int p1), .val (.int p2), .val (.int p3), .val (.int p4), .val (.int p5)] [(.int p2)]))
      refine own_Go.st (fun _ k => XS.iconst X0.here hx rfl (hb hby d_method_4_40) k) ?_
      show own_Go _ _ _ _ (s₁.setTop (mkF m 41 #[.val (.int p1), .val (.int p2), .val (.int p3), .val (.int p4), .val (.int p5)] [(.int (1 : Int32)), (.int p2)]))
      by_cases hc627 : p2 = (1 : Int32)
      ·
        refine own_Go.st (fun _ k => XS.icmpNo X0.here hx rfl (hb hby d_method_4_41) rfl (teq hc627).2 k) ?_
        show own_Go _ _ _ _ (s₁.setTop (mkF m 44 #[.val (.int p1), .val (.int p2), .val (.int p3), .val (.int p4), .val (.int p5)] []))
        obtain ⟨T628, h628, X628, e628, E628, A628, D628, U628, st628⟩ := newO X0 hx hZ hown (hw _ (List.mem_of_getElem? (i := 4) rfl)) (hw _ (List.mem_of_getElem? (i := 5) rfl)) (hw _ (List.mem_of_getElem? (i := 6) rfl)) e0 (g := (mkF m 44 #[.val (.int p1), .val (.int p2), .val (.int p3), .val (.int p4), .val (.int p5)] [])) rfl (hb hby d_method_4_44) (by decide) (by decide)
        obtain ⟨b628, g628⟩ : ∃ z, z = h0.size := ⟨_, rfl⟩
        rw [← g628] at A628 D628 U628 st628
        refine own_Go.st st628 ?_
        have z628 : h0.size ≤ h628.size := E628.1
        have lt_b628 : @LT.lt Nat _ b628 h628.size := A628.lt
        have f629 : Fld Z h628 b628 "java/lang/String" "coder" "B" (.int (0 : Int32)) := D628 (Or.inr (hw _ (List.mem_of_getElem? (i := 31) rfl))) (ty := .byte) (by decide)
        have f630 : Fld Z h628 b628 "java/lang/String" "value" "[B" .null := D628 (Or.inr (hw _ (List.mem_of_getElem? (i := 33) rfl))) (ty := (.array .byte)) (by decide)
        show own_Go _ _ _ _ (T628.setTop (mkF m 47 #[.val (.int p1), .val (.int p2), .val (.int p3), .val (.int p4), .val (.int p5)] [(.ref b628)]))
        refine own_Go.st (fun _ k => XS.dup X628.here hx rfl (hb hby d_method_4_47) rfl rfl k) ?_
        show own_Go _ _ _ _ (T628.setTop (mkF m 48 #[.val (.int p1), .val (.int p2), .val (.int p3), .val (.int p4), .val (.int p5)] [(.ref b628), (.ref b628)]))
        refine own_Go.st (fun _ k => XS.iconst X628.here hx rfl (hb hby d_method_4_48) k) ?_
        show own_Go _ _ _ _ (T628.setTop (mkF m 49 #[.val (.int p1), .val (.int p2), .val (.int p3), .val (.int p4), .val (.int p5)] [(.int (5 : Int32)), (.ref b628), (.ref b628)]))
        obtain ⟨T631, h631, k631, X631, e631, E631, A631, st631⟩ := newP X628 hx hZ (hw _ (List.mem_of_getElem? (i := 7) rfl)) e628 (g := (mkF m 49 #[.val (.int p1), .val (.int p2), .val (.int p3), .val (.int p4), .val (.int p5)] [(.int (5 : Int32)), (.ref b628), (.ref b628)])) rfl (hb hby d_method_4_49) rfl (by decide) (cap := 5) (by decide) (by decide) (by decide) (by decide)
        obtain ⟨b631, g631⟩ : ∃ z, z = h628.size := ⟨_, rfl⟩
        rw [← g631] at A631 st631
        refine own_Go.st st631 ?_
        have z631 : h628.size ≤ h631.size := E631.1
        have f632 : Arv Z h631 b631 k631 .char (5 : Int32) [(.int (0 : Int32)), (.int (0 : Int32)), (.int (0 : Int32)), (.int (0 : Int32)), (.int (0 : Int32))] (.int (0 : Int32)) := (Arv.new A631 (by decide)).pad (pad_rep [] (.int (0 : Int32)) 5)
        have lt_b631 : @LT.lt Nat _ b631 h631.size := f632.lt
        show own_Go _ _ _ _ (T631.setTop (mkF m 51 #[.val (.int p1), .val (.int p2), .val (.int p3), .val (.int p4), .val (.int p5)] [(.ref b631), (.ref b628), (.ref b628)]))
        refine own_Go.st (fun _ k => XS.dup X631.here hx rfl (hb hby d_method_4_51) rfl rfl k) ?_
        show own_Go _ _ _ _ (T631.setTop (mkF m 52 #[.val (.int p1), .val (.int p2), .val (.int p3), .val (.int p4), .val (.int p5)] [(.ref b631), (.ref b631), (.ref b628), (.ref b628)]))
        refine own_Go.st (fun _ k => XS.iconst X631.here hx rfl (hb hby d_method_4_52) k) ?_
        show own_Go _ _ _ _ (T631.setTop (mkF m 53 #[.val (.int p1), .val (.int p2), .val (.int p3), .val (.int p4), .val (.int p5)] [(.int (0 : Int32)), (.ref b631), (.ref b631), (.ref b628), (.ref b628)]))
        refine own_Go.st (fun _ k => XS.bipush X631.here hx rfl (hb hby d_method_4_53) k) ?_
        show own_Go _ _ _ _ (T631.setTop (mkF m 55 #[.val (.int p1), .val (.int p2), .val (.int p3), .val (.int p4), .val (.int p5)] [(.int (87 : Int32)), (.int (0 : Int32)), (.ref b631), (.ref b631), (.ref b628), (.ref b628)]))
        obtain ⟨c633, Ar633, q633, S633, Nn633, H633, G633⟩ := id f632
        have hin633 : ¬ ((0 : Int32) < 0 ∨ c633.slots.size ≤ ((0 : Int32)).toNatClampNeg) := inb_of S633 ⟨by decide, by decide⟩
        obtain ⟨T633, h633, X633, e633, W633, st633⟩ := stC X631 hx hZ e631 Ar633 (j := (0 : Int32)) hin633 (g := (mkF m 55 #[.val (.int p1), .val (.int p2), .val (.int p3), .val (.int p4), .val (.int p5)] [(.int (87 : Int32)), (.int (0 : Int32)), (.ref b631), (.ref b631), (.ref b628), (.ref b628)])) rfl rfl (hb hby d_method_4_55)
        refine own_Go.st st633 ?_
        have N633 := Fr.snoc X633 N0 (by omega)
        have z633 : h631.size ≤ h633.size := Nat.le_of_eq W633.size.symm
        have f634 := Arv.set Ar633 q633 S633 Nn633 H633 G633 (fits_nar_char _) W633 0 rfl (Nat.le_of_ble_eq_true rfl)
        have f635 : Arv Z h633 b631 k631 .char (5 : Int32) [(.int (87 : Int32)), (.int (0 : Int32)), (.int (0 : Int32)), (.int (0 : Int32)), (.int (0 : Int32))] (.int (0 : Int32)) := f634
        show own_Go _ _ _ _ (T633.setTop (mkF m 56 #[.val (.int p1), .val (.int p2), .val (.int p3), .val (.int p4), .val (.int p5)] [(.ref b631), (.ref b628), (.ref b628)]))
        refine own_Go.st (fun _ k => XS.dup X633.here hx rfl (hb hby d_method_4_56) rfl rfl k) ?_
        show own_Go _ _ _ _ (T633.setTop (mkF m 57 #[.val (.int p1), .val (.int p2), .val (.int p3), .val (.int p4), .val (.int p5)] [(.ref b631), (.ref b631), (.ref b628), (.ref b628)]))
        refine own_Go.st (fun _ k => XS.iconst X633.here hx rfl (hb hby d_method_4_57) k) ?_
        show own_Go _ _ _ _ (T633.setTop (mkF m 58 #[.val (.int p1), .val (.int p2), .val (.int p3), .val (.int p4), .val (.int p5)] [(.int (1 : Int32)), (.ref b631), (.ref b631), (.ref b628), (.ref b628)]))
        refine own_Go.st (fun _ k => XS.bipush X633.here hx rfl (hb hby d_method_4_58) k) ?_
        show own_Go _ _ _ _ (T633.setTop (mkF m 60 #[.val (.int p1), .val (.int p2), .val (.int p3), .val (.int p4), .val (.int p5)] [(.int (47 : Int32)), (.int (1 : Int32)), (.ref b631), (.ref b631), (.ref b628), (.ref b628)]))
        obtain ⟨c636, Ar636, q636, S636, Nn636, H636, G636⟩ := id f635
        have hin636 : ¬ ((1 : Int32) < 0 ∨ c636.slots.size ≤ ((1 : Int32)).toNatClampNeg) := inb_of S636 ⟨by decide, by decide⟩
        obtain ⟨T636, h636, X636, e636, W636, st636⟩ := stC X633 hx hZ e633 Ar636 (j := (1 : Int32)) hin636 (g := (mkF m 60 #[.val (.int p1), .val (.int p2), .val (.int p3), .val (.int p4), .val (.int p5)] [(.int (47 : Int32)), (.int (1 : Int32)), (.ref b631), (.ref b631), (.ref b628), (.ref b628)])) rfl rfl (hb hby d_method_4_60)
        refine own_Go.st st636 ?_
        have N636 := Fr.snoc X636 N633 (by omega)
        have z636 : h633.size ≤ h636.size := Nat.le_of_eq W636.size.symm
        have f637 := Arv.set Ar636 q636 S636 Nn636 H636 G636 (fits_nar_char _) W636 1 rfl (Nat.le_of_ble_eq_true rfl)
        have f638 : Arv Z h636 b631 k631 .char (5 : Int32) [(.int (87 : Int32)), (.int (47 : Int32)), (.int (0 : Int32)), (.int (0 : Int32)), (.int (0 : Int32))] (.int (0 : Int32)) := f637
        show own_Go _ _ _ _ (T636.setTop (mkF m 61 #[.val (.int p1), .val (.int p2), .val (.int p3), .val (.int p4), .val (.int p5)] [(.ref b631), (.ref b628), (.ref b628)]))
        refine own_Go.st (fun _ k => XS.dup X636.here hx rfl (hb hby d_method_4_61) rfl rfl k) ?_
        show own_Go _ _ _ _ (T636.setTop (mkF m 62 #[.val (.int p1), .val (.int p2), .val (.int p3), .val (.int p4), .val (.int p5)] [(.ref b631), (.ref b631), (.ref b628), (.ref b628)]))
        refine own_Go.st (fun _ k => XS.iconst X636.here hx rfl (hb hby d_method_4_62) k) ?_
        show own_Go _ _ _ _ (T636.setTop (mkF m 63 #[.val (.int p1), .val (.int p2), .val (.int p3), .val (.int p4), .val (.int p5)] [(.int (2 : Int32)), (.ref b631), (.ref b631), (.ref b628), (.ref b628)]))
        refine own_Go.st (fun _ k => XS.bipush X636.here hx rfl (hb hby d_method_4_63) k) ?_
        show own_Go _ _ _ _ (T636.setTop (mkF m 65 #[.val (.int p1), .val (.int p2), .val (.int p3), .val (.int p4), .val (.int p5)] [(.int (34 : Int32)), (.int (2 : Int32)), (.ref b631), (.ref b631), (.ref b628), (.ref b628)]))
        obtain ⟨c639, Ar639, q639, S639, Nn639, H639, G639⟩ := id f638
        have hin639 : ¬ ((2 : Int32) < 0 ∨ c639.slots.size ≤ ((2 : Int32)).toNatClampNeg) := inb_of S639 ⟨by decide, by decide⟩
        obtain ⟨T639, h639, X639, e639, W639, st639⟩ := stC X636 hx hZ e636 Ar639 (j := (2 : Int32)) hin639 (g := (mkF m 65 #[.val (.int p1), .val (.int p2), .val (.int p3), .val (.int p4), .val (.int p5)] [(.int (34 : Int32)), (.int (2 : Int32)), (.ref b631), (.ref b631), (.ref b628), (.ref b628)])) rfl rfl (hb hby d_method_4_65)
        refine own_Go.st st639 ?_
        have N639 := Fr.snoc X639 N636 (by omega)
        have z639 : h636.size ≤ h639.size := Nat.le_of_eq W639.size.symm
        have f640 := Arv.set Ar639 q639 S639 Nn639 H639 G639 (fits_nar_char _) W639 2 rfl (Nat.le_of_ble_eq_true rfl)
        have f641 : Arv Z h639 b631 k631 .char (5 : Int32) [(.int (87 : Int32)), (.int (47 : Int32)), (.int (34 : Int32)), (.int (0 : Int32)), (.int (0 : Int32))] (.int (0 : Int32)) := f640
        show own_Go _ _ _ _ (T639.setTop (mkF m 66 #[.val (.int p1), .val (.int p2), .val (.int p3), .val (.int p4), .val (.int p5)] [(.ref b631), (.ref b628), (.ref b628)]))
        refine own_Go.st (fun _ k => XS.dup X639.here hx rfl (hb hby d_method_4_66) rfl rfl k) ?_
        show own_Go _ _ _ _ (T639.setTop (mkF m 67 #[.val (.int p1), .val (.int p2), .val (.int p3), .val (.int p4), .val (.int p5)] [(.ref b631), (.ref b631), (.ref b628), (.ref b628)]))
        refine own_Go.st (fun _ k => XS.iconst X639.here hx rfl (hb hby d_method_4_67) k) ?_
        show own_Go _ _ _ _ (T639.setTop (mkF m 68 #[.val (.int p1), .val (.int p2), .val (.int p3), .val (.int p4), .val (.int p5)] [(.int (3 : Int32)), (.ref b631), (.ref b631), (.ref b628), (.ref b628)]))
        refine own_Go.st (fun _ k => XS.iloadN X639.here hx rfl (hb hby d_method_4_68) rfl k) ?_
        show own_Go _ _ _ _ (T639.setTop (mkF m 69 #[.val (.int p1), .val (.int p2), .val (.int p3), .val (.int p4), .val (.int p5)] [(.int p3), (.int (3 : Int32)), (.ref b631), (.ref b631), (.ref b628), (.ref b628)]))
        obtain ⟨c642, Ar642, q642, S642, Nn642, H642, G642⟩ := id f641
        have hin642 : ¬ ((3 : Int32) < 0 ∨ c642.slots.size ≤ ((3 : Int32)).toNatClampNeg) := inb_of S642 ⟨by decide, by decide⟩
        obtain ⟨T642, h642, X642, e642, W642, st642⟩ := stC X639 hx hZ e639 Ar642 (j := (3 : Int32)) hin642 (g := (mkF m 69 #[.val (.int p1), .val (.int p2), .val (.int p3), .val (.int p4), .val (.int p5)] [(.int p3), (.int (3 : Int32)), (.ref b631), (.ref b631), (.ref b628), (.ref b628)])) rfl rfl (hb hby d_method_4_69)
        refine own_Go.st st642 ?_
        have N642 := Fr.snoc X642 N639 (by omega)
        have z642 : h639.size ≤ h642.size := Nat.le_of_eq W642.size.symm
        have f643 := Arv.set Ar642 q642 S642 Nn642 H642 G642 (fits_nar_char _) W642 3 rfl (Nat.le_of_ble_eq_true rfl)
        rw [own_nar (own_up hp3)] at f643
        have f644 : Arv Z h642 b631 k631 .char (5 : Int32) [(.int (87 : Int32)), (.int (47 : Int32)), (.int (34 : Int32)), (.int p3), (.int (0 : Int32))] (.int (0 : Int32)) := f643
        show own_Go _ _ _ _ (T642.setTop (mkF m 70 #[.val (.int p1), .val (.int p2), .val (.int p3), .val (.int p4), .val (.int p5)] [(.ref b631), (.ref b628), (.ref b628)]))
        refine own_Go.st (fun _ k => XS.dup X642.here hx rfl (hb hby d_method_4_70) rfl rfl k) ?_
        show own_Go _ _ _ _ (T642.setTop (mkF m 71 #[.val (.int p1), .val (.int p2), .val (.int p3), .val (.int p4), .val (.int p5)] [(.ref b631), (.ref b631), (.ref b628), (.ref b628)]))
        refine own_Go.st (fun _ k => XS.iconst X642.here hx rfl (hb hby d_method_4_71) k) ?_
        show own_Go _ _ _ _ (T642.setTop (mkF m 72 #[.val (.int p1), .val (.int p2), .val (.int p3), .val (.int p4), .val (.int p5)] [(.int (4 : Int32)), (.ref b631), (.ref b631), (.ref b628), (.ref b628)]))
        refine own_Go.st (fun _ k => XS.bipush X642.here hx rfl (hb hby d_method_4_72) k) ?_
        show own_Go _ _ _ _ (T642.setTop (mkF m 74 #[.val (.int p1), .val (.int p2), .val (.int p3), .val (.int p4), .val (.int p5)] [(.int (34 : Int32)), (.int (4 : Int32)), (.ref b631), (.ref b631), (.ref b628), (.ref b628)]))
        obtain ⟨c645, Ar645, q645, S645, Nn645, H645, G645⟩ := id f644
        have hin645 : ¬ ((4 : Int32) < 0 ∨ c645.slots.size ≤ ((4 : Int32)).toNatClampNeg) := inb_of S645 ⟨by decide, by decide⟩
        obtain ⟨T645, h645, X645, e645, W645, st645⟩ := stC X642 hx hZ e642 Ar645 (j := (4 : Int32)) hin645 (g := (mkF m 74 #[.val (.int p1), .val (.int p2), .val (.int p3), .val (.int p4), .val (.int p5)] [(.int (34 : Int32)), (.int (4 : Int32)), (.ref b631), (.ref b631), (.ref b628), (.ref b628)])) rfl rfl (hb hby d_method_4_74)
        refine own_Go.st st645 ?_
        have N645 := Fr.snoc X645 N642 (by omega)
        have z645 : h642.size ≤ h645.size := Nat.le_of_eq W645.size.symm
        have f646 := Arv.set Ar645 q645 S645 Nn645 H645 G645 (fits_nar_char _) W645 4 rfl (Nat.le_of_ble_eq_true rfl)
        have f647 : Arv Z h645 b631 k631 .char (5 : Int32) [(.int (87 : Int32)), (.int (47 : Int32)), (.int (34 : Int32)), (.int p3), (.int (34 : Int32))] (.int (0 : Int32)) := f646
        show own_Go _ _ _ _ (T645.setTop (mkF m 75 #[.val (.int p1), .val (.int p2), .val (.int p3), .val (.int p4), .val (.int p5)] [(.ref b631), (.ref b628), (.ref b628)]))
        have f649 : Exa Z h631 b628 "java/lang/String" := A628.ext E631
        have f650 : Exa Z h633 b628 "java/lang/String" := f649.wr W633
        have f651 : Exa Z h636 b628 "java/lang/String" := f650.wr W636
        have f652 : Exa Z h639 b628 "java/lang/String" := f651.wr W639
        have f653 : Exa Z h642 b628 "java/lang/String" := f652.wr W642
        have f654 : Exa Z h645 b628 "java/lang/String" := f653.wr W645
        have f655 : Fld Z h631 b628 "java/lang/String" "value" "[B" .null := f630.ext E631
        have f656 : Fld Z h633 b628 "java/lang/String" "value" "[B" .null := f655.other W633 (Or.inl (by show @Ne Nat b628 b631; omega))
        have f657 : Fld Z h636 b628 "java/lang/String" "value" "[B" .null := f656.other W636 (Or.inl (by show @Ne Nat b628 b631; omega))
        have f658 : Fld Z h639 b628 "java/lang/String" "value" "[B" .null := f657.other W639 (Or.inl (by show @Ne Nat b628 b631; omega))
        have f659 : Fld Z h642 b628 "java/lang/String" "value" "[B" .null := f658.other W642 (Or.inl (by show @Ne Nat b628 b631; omega))
        have f660 : Fld Z h645 b628 "java/lang/String" "value" "[B" .null := f659.other W645 (Or.inl (by show @Ne Nat b628 b631; omega))
        have f661 : Fld Z h631 b628 "java/lang/String" "coder" "B" (.int (0 : Int32)) := f629.ext E631
        have f662 : Fld Z h633 b628 "java/lang/String" "coder" "B" (.int (0 : Int32)) := f661.other W633 (Or.inl (by show @Ne Nat b628 b631; omega))
        have f663 : Fld Z h636 b628 "java/lang/String" "coder" "B" (.int (0 : Int32)) := f662.other W636 (Or.inl (by show @Ne Nat b628 b631; omega))
        have f664 : Fld Z h639 b628 "java/lang/String" "coder" "B" (.int (0 : Int32)) := f663.other W639 (Or.inl (by show @Ne Nat b628 b631; omega))
        have f665 : Fld Z h642 b628 "java/lang/String" "coder" "B" (.int (0 : Int32)) := f664.other W642 (Or.inl (by show @Ne Nat b628 b631; omega))
        have f666 : Fld Z h645 b628 "java/lang/String" "coder" "B" (.int (0 : Int32)) := f665.other W645 (Or.inl (by show @Ne Nat b628 b631; omega))
        have f667 : Old Z Z.heap.size h628 := OL.ext E628
        have f668 : Old Z Z.heap.size h631 := f667.ext E631
        have f669 : Old Z Z.heap.size h633 := f668.wr W633 (by omega)
        have f670 : Old Z Z.heap.size h636 := f669.wr W636 (by omega)
        have f671 : Old Z Z.heap.size h639 := f670.wr W639 (by omega)
        have f672 : Old Z Z.heap.size h642 := f671.wr W642 (by omega)
        have f673 : Old Z Z.heap.size h645 := f672.wr W645 (by omega)
        have hp648 : ∀ c ∈ ([(87 : Int32), (47 : Int32), (34 : Int32), p3, (34 : Int32)] : List Int32), ¬ c < 0 ∧ ¬ (255 : Int32) < c := (own_aS (by decide) (own_aS (by decide) (own_aS (by decide) (own_aS hp3 (own_aS (by decide) own_a0)))))
        obtain ⟨_, _, ⟨T648, L648, k648, n648⟩, -, X648, ⟨Lc648, hQ648, l648, y648, z648⟩, st648⟩ := X645.specialBack hx (y := (⟨"java/lang/String", "<init>", "([C)V"⟩ : MethodName)) rfl hown (mvT hZ (hw _ (List.mem_of_getElem? (i := 8) rfl))) (mvT hZ (hw _ (List.mem_of_getElem? (i := 9) rfl))) (mvT hZ (hw _ (List.mem_of_getElem? (i := 10) rfl))) (by decide) (StrChars.Road.backV (W := 1) hZ (own_hws hw) (kI := 4) (hw _ (List.mem_of_getElem? (i := 5) rfl)) (cs := ([(87 : Int32), (47 : Int32), (34 : Int32), p3, (34 : Int32)] : List Int32)) (bs := (([(87 : Int32), (47 : Int32), (34 : Int32), p3, (34 : Int32)] : List Int32)).map (fun c => c.toInt8.toInt32)) (n := 5) (n0 := Z.heap.size) (by omega) (by omega) f654 f660 f666 f647 (st_COMPACT_STRINGS.ext f673.2) hzc rfl rfl (by decide) (by decide) hp648 rfl (by decide) (by decide)) (g := (mkF m 75 #[.val (.int p1), .val (.int p2), .val (.int p3), .val (.int p4), .val (.int p5)] [(.ref b631), (.ref b628), (.ref b628)])) rfl (by rw [hml]; rfl) (Steps.refl _) (a := b628) (argsL := [(.ref b631)]) (rest := [(.ref b628)]) (lenOf pd_349 rfl) rfl (by show 2 * 0 + _ ≤ _; exact Nat.le_of_eq rfl) (hb hby d_method_4_75) (fun _ _ => ⟨rfl, e645, (by decide : 2 + 1 ≤ _), (by decide : 9 + 5 ≤ _)⟩)
        dsimp only [Pt.U, Pt.locs, Pt.cells, Pt.slots] at X648 l648 y648 z648 st648 hQ648
        subst l648 y648 z648
        obtain ⟨rfl, N648q, K648, Ex648, Cd648, t648, kb648, u648, v648, w648, Vl648, Ar648⟩ := hQ648
        have N648 := Fr.app N645 N648q
        have z648 : h645.size ≤ T648.heap.size := K648.1
        have fT648 : own_Str Z T648.heap b628 t648 ([(87 : Int32), (47 : Int32), (34 : Int32), p3, (34 : Int32)] : List Int32) := ⟨kb648, 0, (5 : Int32), _, Ex648, Vl648, Cd648, Ar648, StrChars.Road.codOf rfl (fun c q => (hp648 c q).2), own_upL hp648, (Nat.le_of_ble_eq_true rfl)⟩
        have lt648 : @LT.lt Nat _ t648 T648.heap.size := fT648.ltv
        refine own_Go.tr st648 ?_
        show own_Go _ _ _ _ (T648.setTop (mkF m 78 #[.val (.int p1), .val (.int p2), .val (.int p3), .val (.int p4), .val (.int p5)] [(.ref b628)]))
        obtain ⟨fs674, hr674, hrun674, hend674, hW674, hsm674⟩ := X648.leave (v := some (.ref b628)) (fun h => by rw [Bd.returns] at h; cases h)
        have K675 : Keep h0 h628 [] := (Keep.refl h0 []).ext E628
        have K676 : Keep h0 h631 [] := K675.ext E631
        have K677 : Keep h0 h633 [] := K676.wr W633 (Or.inr (by omega))
        have K678 : Keep h0 h636 [] := K677.wr W636 (Or.inr (by omega))
        have K679 : Keep h0 h639 [] := K678.wr W639 (Or.inr (by omega))
        have K680 : Keep h0 h642 [] := K679.wr W642 (Or.inr (by omega))
        have K681 : Keep h0 h645 [] := K680.wr W645 (Or.inr (by omega))
        have K682 : Keep h0 T648.heap [] := K681.trans K648 (allS (Or.inr (by omega)) all0)
        subst hPP
        refine ⟨_, _, own_retA X648 hx Bd.returns rfl rfl (hb hby d_method_4_78) hr674, hrun674, hend674, _, _, rfl, ?_, ⟨_, rfl⟩, hW674, hsm674.mono (by decide) (by decide)⟩
        · show Q_tag Z _ _ _ _ _ _ h0 _ T648.heap _
          exact ⟨b628, t648, ([(87 : Int32), (47 : Int32), (34 : Int32), p3, (34 : Int32)] : List Int32), rfl, N648, K682, fT648, (Nat.le_of_ble_eq_true rfl), (Nat.le_of_ble_eq_true rfl), hp648⟩
      ·
        refine own_Go.st (fun _ k => XS.icmpYes X0.here hx rfl (pc0 := 41) (pc' := 79) rfl (hb hby d_method_4_41) rfl (feq hc627).2 (by decide) (by decide) k) ?_
        show own_Go _ _ _ _ (s₁.setTop (mkF m 79 #[.val (.int p1), .val (.int p2), .val (.int p3), .val (.int p4), .val (.int p5)] []))
        refine own_Go.st (fun _ k => XS.iloadN X0.here hx rfl (hb hby d_method_4_79) rfl k) ?_
        show own_Go _ _ _ _ (s₁.setTop (mkF m 80 #[.val (.int p1), .val (.int p2), .val (.int p3), .val (.int p4), .val (.int p5)] [(.int p2)]))
        refine own_Go.st (fun _ k => XS.iconst X0.here hx rfl (hb hby d_method_4_80) k) ?_
        show own_Go _ _ _ _ (s₁.setTop (mkF m 81 #[.val (.int p1), .val (.int p2), .val (.int p3), .val (.int p4), .val (.int p5)] [(.int (2 : Int32)), (.int p2)]))
        by_cases hc683 : p2 = (2 : Int32)
        ·
          refine own_Go.st (fun _ k => XS.icmpNo X0.here hx rfl (hb hby d_method_4_81) rfl (teq hc683).2 k) ?_
          show own_Go _ _ _ _ (s₁.setTop (mkF m 84 #[.val (.int p1), .val (.int p2), .val (.int p3), .val (.int p4), .val (.int p5)] []))
          obtain ⟨T684, h684, X684, e684, E684, A684, D684, U684, st684⟩ := newO X0 hx hZ hown (hw _ (List.mem_of_getElem? (i := 4) rfl)) (hw _ (List.mem_of_getElem? (i := 5) rfl)) (hw _ (List.mem_of_getElem? (i := 6) rfl)) e0 (g := (mkF m 84 #[.val (.int p1), .val (.int p2), .val (.int p3), .val (.int p4), .val (.int p5)] [])) rfl (hb hby d_method_4_84) (by decide) (by decide)
          obtain ⟨b684, g684⟩ : ∃ z, z = h0.size := ⟨_, rfl⟩
          rw [← g684] at A684 D684 U684 st684
          refine own_Go.st st684 ?_
          have z684 : h0.size ≤ h684.size := E684.1
          have lt_b684 : @LT.lt Nat _ b684 h684.size := A684.lt
          have f685 : Fld Z h684 b684 "java/lang/String" "coder" "B" (.int (0 : Int32)) := D684 (Or.inr (hw _ (List.mem_of_getElem? (i := 31) rfl))) (ty := .byte) (by decide)
          have f686 : Fld Z h684 b684 "java/lang/String" "value" "[B" .null := D684 (Or.inr (hw _ (List.mem_of_getElem? (i := 33) rfl))) (ty := (.array .byte)) (by decide)
          show own_Go _ _ _ _ (T684.setTop (mkF m 87 #[.val (.int p1), .val (.int p2), .val (.int p3), .val (.int p4), .val (.int p5)] [(.ref b684)]))
          refine own_Go.st (fun _ k => XS.dup X684.here hx rfl (hb hby d_method_4_87) rfl rfl k) ?_
          show own_Go _ _ _ _ (T684.setTop (mkF m 88 #[.val (.int p1), .val (.int p2), .val (.int p3), .val (.int p4), .val (.int p5)] [(.ref b684), (.ref b684)]))
          refine own_Go.st (fun _ k => XS.bipush X684.here hx rfl (hb hby d_method_4_88) k) ?_
          show own_Go _ _ _ _ (T684.setTop (mkF m 90 #[.val (.int p1), .val (.int p2), .val (.int p3), .val (.int p4), .val (.int p5)] [(.int (6 : Int32)), (.ref b684), (.ref b684)]))
          obtain ⟨T687, h687, k687, X687, e687, E687, A687, st687⟩ := newP X684 hx hZ (hw _ (List.mem_of_getElem? (i := 7) rfl)) e684 (g := (mkF m 90 #[.val (.int p1), .val (.int p2), .val (.int p3), .val (.int p4), .val (.int p5)] [(.int (6 : Int32)), (.ref b684), (.ref b684)])) rfl (hb hby d_method_4_90) rfl (by decide) (cap := 6) (by decide) (by decide) (by decide) (by decide)
          obtain ⟨b687, g687⟩ : ∃ z, z = h684.size := ⟨_, rfl⟩
          rw [← g687] at A687 st687
          refine own_Go.st st687 ?_
          have z687 : h684.size ≤ h687.size := E687.1
          have f688 : Arv Z h687 b687 k687 .char (6 : Int32) [(.int (0 : Int32)), (.int (0 : Int32)), (.int (0 : Int32)), (.int (0 : Int32)), (.int (0 : Int32)), (.int (0 : Int32))] (.int (0 : Int32)) := (Arv.new A687 (by decide)).pad (pad_rep [] (.int (0 : Int32)) 6)
          have lt_b687 : @LT.lt Nat _ b687 h687.size := f688.lt
          show own_Go _ _ _ _ (T687.setTop (mkF m 92 #[.val (.int p1), .val (.int p2), .val (.int p3), .val (.int p4), .val (.int p5)] [(.ref b687), (.ref b684), (.ref b684)]))
          refine own_Go.st (fun _ k => XS.dup X687.here hx rfl (hb hby d_method_4_92) rfl rfl k) ?_
          show own_Go _ _ _ _ (T687.setTop (mkF m 93 #[.val (.int p1), .val (.int p2), .val (.int p3), .val (.int p4), .val (.int p5)] [(.ref b687), (.ref b687), (.ref b684), (.ref b684)]))
          refine own_Go.st (fun _ k => XS.iconst X687.here hx rfl (hb hby d_method_4_93) k) ?_
          show own_Go _ _ _ _ (T687.setTop (mkF m 94 #[.val (.int p1), .val (.int p2), .val (.int p3), .val (.int p4), .val (.int p5)] [(.int (0 : Int32)), (.ref b687), (.ref b687), (.ref b684), (.ref b684)]))
          refine own_Go.st (fun _ k => XS.bipush X687.here hx rfl (hb hby d_method_4_94) k) ?_
          show own_Go _ _ _ _ (T687.setTop (mkF m 96 #[.val (.int p1), .val (.int p2), .val (.int p3), .val (.int p4), .val (.int p5)] [(.int (87 : Int32)), (.int (0 : Int32)), (.ref b687), (.ref b687), (.ref b684), (.ref b684)]))
          obtain ⟨c689, Ar689, q689, S689, Nn689, H689, G689⟩ := id f688
          have hin689 : ¬ ((0 : Int32) < 0 ∨ c689.slots.size ≤ ((0 : Int32)).toNatClampNeg) := inb_of S689 ⟨by decide, by decide⟩
          obtain ⟨T689, h689, X689, e689, W689, st689⟩ := stC X687 hx hZ e687 Ar689 (j := (0 : Int32)) hin689 (g := (mkF m 96 #[.val (.int p1), .val (.int p2), .val (.int p3), .val (.int p4), .val (.int p5)] [(.int (87 : Int32)), (.int (0 : Int32)), (.ref b687), (.ref b687), (.ref b684), (.ref b684)])) rfl rfl (hb hby d_method_4_96)
          refine own_Go.st st689 ?_
          have N689 := Fr.snoc X689 N0 (by omega)
          have z689 : h687.size ≤ h689.size := Nat.le_of_eq W689.size.symm
          have f690 := Arv.set Ar689 q689 S689 Nn689 H689 G689 (fits_nar_char _) W689 0 rfl (Nat.le_of_ble_eq_true rfl)
          have f691 : Arv Z h689 b687 k687 .char (6 : Int32) [(.int (87 : Int32)), (.int (0 : Int32)), (.int (0 : Int32)), (.int (0 : Int32)), (.int (0 : Int32)), (.int (0 : Int32))] (.int (0 : Int32)) := f690
          show own_Go _ _ _ _ (T689.setTop (mkF m 97 #[.val (.int p1), .val (.int p2), .val (.int p3), .val (.int p4), .val (.int p5)] [(.ref b687), (.ref b684), (.ref b684)]))
          refine own_Go.st (fun _ k => XS.dup X689.here hx rfl (hb hby d_method_4_97) rfl rfl k) ?_
          show own_Go _ _ _ _ (T689.setTop (mkF m 98 #[.val (.int p1), .val (.int p2), .val (.int p3), .val (.int p4), .val (.int p5)] [(.ref b687), (.ref b687), (.ref b684), (.ref b684)]))
          refine own_Go.st (fun _ k => XS.iconst X689.here hx rfl (hb hby d_method_4_98) k) ?_
          show own_Go _ _ _ _ (T689.setTop (mkF m 99 #[.val (.int p1), .val (.int p2), .val (.int p3), .val (.int p4), .val (.int p5)] [(.int (1 : Int32)), (.ref b687), (.ref b687), (.ref b684), (.ref b684)]))
          refine own_Go.st (fun _ k => XS.bipush X689.here hx rfl (hb hby d_method_4_99) k) ?_
          show own_Go _ _ _ _ (T689.setTop (mkF m 101 #[.val (.int p1), .val (.int p2), .val (.int p3), .val (.int p4), .val (.int p5)] [(.int (47 : Int32)), (.int (1 : Int32)), (.ref b687), (.ref b687), (.ref b684), (.ref b684)]))
          obtain ⟨c692, Ar692, q692, S692, Nn692, H692, G692⟩ := id f691
          have hin692 : ¬ ((1 : Int32) < 0 ∨ c692.slots.size ≤ ((1 : Int32)).toNatClampNeg) := inb_of S692 ⟨by decide, by decide⟩
          obtain ⟨T692, h692, X692, e692, W692, st692⟩ := stC X689 hx hZ e689 Ar692 (j := (1 : Int32)) hin692 (g := (mkF m 101 #[.val (.int p1), .val (.int p2), .val (.int p3), .val (.int p4), .val (.int p5)] [(.int (47 : Int32)), (.int (1 : Int32)), (.ref b687), (.ref b687), (.ref b684), (.ref b684)])) rfl rfl (hb hby d_method_4_101)
          refine own_Go.st st692 ?_
          have N692 := Fr.snoc X692 N689 (by omega)
          have z692 : h689.size ≤ h692.size := Nat.le_of_eq W692.size.symm
          have f693 := Arv.set Ar692 q692 S692 Nn692 H692 G692 (fits_nar_char _) W692 1 rfl (Nat.le_of_ble_eq_true rfl)
          have f694 : Arv Z h692 b687 k687 .char (6 : Int32) [(.int (87 : Int32)), (.int (47 : Int32)), (.int (0 : Int32)), (.int (0 : Int32)), (.int (0 : Int32)), (.int (0 : Int32))] (.int (0 : Int32)) := f693
          show own_Go _ _ _ _ (T692.setTop (mkF m 102 #[.val (.int p1), .val (.int p2), .val (.int p3), .val (.int p4), .val (.int p5)] [(.ref b687), (.ref b684), (.ref b684)]))
          refine own_Go.st (fun _ k => XS.dup X692.here hx rfl (hb hby d_method_4_102) rfl rfl k) ?_
          show own_Go _ _ _ _ (T692.setTop (mkF m 103 #[.val (.int p1), .val (.int p2), .val (.int p3), .val (.int p4), .val (.int p5)] [(.ref b687), (.ref b687), (.ref b684), (.ref b684)]))
          refine own_Go.st (fun _ k => XS.iconst X692.here hx rfl (hb hby d_method_4_103) k) ?_
          show own_Go _ _ _ _ (T692.setTop (mkF m 104 #[.val (.int p1), .val (.int p2), .val (.int p3), .val (.int p4), .val (.int p5)] [(.int (2 : Int32)), (.ref b687), (.ref b687), (.ref b684), (.ref b684)]))
          refine own_Go.st (fun _ k => XS.bipush X692.here hx rfl (hb hby d_method_4_104) k) ?_
          show own_Go _ _ _ _ (T692.setTop (mkF m 106 #[.val (.int p1), .val (.int p2), .val (.int p3), .val (.int p4), .val (.int p5)] [(.int (34 : Int32)), (.int (2 : Int32)), (.ref b687), (.ref b687), (.ref b684), (.ref b684)]))
          obtain ⟨c695, Ar695, q695, S695, Nn695, H695, G695⟩ := id f694
          have hin695 : ¬ ((2 : Int32) < 0 ∨ c695.slots.size ≤ ((2 : Int32)).toNatClampNeg) := inb_of S695 ⟨by decide, by decide⟩
          obtain ⟨T695, h695, X695, e695, W695, st695⟩ := stC X692 hx hZ e692 Ar695 (j := (2 : Int32)) hin695 (g := (mkF m 106 #[.val (.int p1), .val (.int p2), .val (.int p3), .val (.int p4), .val (.int p5)] [(.int (34 : Int32)), (.int (2 : Int32)), (.ref b687), (.ref b687), (.ref b684), (.ref b684)])) rfl rfl (hb hby d_method_4_106)
          refine own_Go.st st695 ?_
          have N695 := Fr.snoc X695 N692 (by omega)
          have z695 : h692.size ≤ h695.size := Nat.le_of_eq W695.size.symm
          have f696 := Arv.set Ar695 q695 S695 Nn695 H695 G695 (fits_nar_char _) W695 2 rfl (Nat.le_of_ble_eq_true rfl)
          have f697 : Arv Z h695 b687 k687 .char (6 : Int32) [(.int (87 : Int32)), (.int (47 : Int32)), (.int (34 : Int32)), (.int (0 : Int32)), (.int (0 : Int32)), (.int (0 : Int32))] (.int (0 : Int32)) := f696
          show own_Go _ _ _ _ (T695.setTop (mkF m 107 #[.val (.int p1), .val (.int p2), .val (.int p3), .val (.int p4), .val (.int p5)] [(.ref b687), (.ref b684), (.ref b684)]))
          refine own_Go.st (fun _ k => XS.dup X695.here hx rfl (hb hby d_method_4_107) rfl rfl k) ?_
          show own_Go _ _ _ _ (T695.setTop (mkF m 108 #[.val (.int p1), .val (.int p2), .val (.int p3), .val (.int p4), .val (.int p5)] [(.ref b687), (.ref b687), (.ref b684), (.ref b684)]))
          refine own_Go.st (fun _ k => XS.iconst X695.here hx rfl (hb hby d_method_4_108) k) ?_
          show own_Go _ _ _ _ (T695.setTop (mkF m 109 #[.val (.int p1), .val (.int p2), .val (.int p3), .val (.int p4), .val (.int p5)] [(.int (3 : Int32)), (.ref b687), (.ref b687), (.ref b684), (.ref b684)]))
          refine own_Go.st (fun _ k => XS.iloadN X695.here hx rfl (hb hby d_method_4_109) rfl k) ?_
          show own_Go _ _ _ _ (T695.setTop (mkF m 110 #[.val (.int p1), .val (.int p2), .val (.int p3), .val (.int p4), .val (.int p5)] [(.int p3), (.int (3 : Int32)), (.ref b687), (.ref b687), (.ref b684), (.ref b684)]))
          obtain ⟨c698, Ar698, q698, S698, Nn698, H698, G698⟩ := id f697
          have hin698 : ¬ ((3 : Int32) < 0 ∨ c698.slots.size ≤ ((3 : Int32)).toNatClampNeg) := inb_of S698 ⟨by decide, by decide⟩
          obtain ⟨T698, h698, X698, e698, W698, st698⟩ := stC X695 hx hZ e695 Ar698 (j := (3 : Int32)) hin698 (g := (mkF m 110 #[.val (.int p1), .val (.int p2), .val (.int p3), .val (.int p4), .val (.int p5)] [(.int p3), (.int (3 : Int32)), (.ref b687), (.ref b687), (.ref b684), (.ref b684)])) rfl rfl (hb hby d_method_4_110)
          refine own_Go.st st698 ?_
          have N698 := Fr.snoc X698 N695 (by omega)
          have z698 : h695.size ≤ h698.size := Nat.le_of_eq W698.size.symm
          have f699 := Arv.set Ar698 q698 S698 Nn698 H698 G698 (fits_nar_char _) W698 3 rfl (Nat.le_of_ble_eq_true rfl)
          rw [own_nar (own_up hp3)] at f699
          have f700 : Arv Z h698 b687 k687 .char (6 : Int32) [(.int (87 : Int32)), (.int (47 : Int32)), (.int (34 : Int32)), (.int p3), (.int (0 : Int32)), (.int (0 : Int32))] (.int (0 : Int32)) := f699
          show own_Go _ _ _ _ (T698.setTop (mkF m 111 #[.val (.int p1), .val (.int p2), .val (.int p3), .val (.int p4), .val (.int p5)] [(.ref b687), (.ref b684), (.ref b684)]))
          refine own_Go.st (fun _ k => XS.dup X698.here hx rfl (hb hby d_method_4_111) rfl rfl k) ?_
          show own_Go _ _ _ _ (T698.setTop (mkF m 112 #[.val (.int p1), .val (.int p2), .val (.int p3), .val (.int p4), .val (.int p5)] [(.ref b687), (.ref b687), (.ref b684), (.ref b684)]))
          refine own_Go.st (fun _ k => XS.iconst X698.here hx rfl (hb hby d_method_4_112) k) ?_
          show own_Go _ _ _ _ (T698.setTop (mkF m 113 #[.val (.int p1), .val (.int p2), .val (.int p3), .val (.int p4), .val (.int p5)] [(.int (4 : Int32)), (.ref b687), (.ref b687), (.ref b684), (.ref b684)]))
          refine own_Go.st (fun _ k => XS.iloadN X698.here hx rfl (hb hby d_method_4_113) rfl k) ?_
          show own_Go _ _ _ _ (T698.setTop (mkF m 114 #[.val (.int p1), .val (.int p2), .val (.int p3), .val (.int p4), .val (.int p5)] [(.int p4), (.int (4 : Int32)), (.ref b687), (.ref b687), (.ref b684), (.ref b684)]))
          obtain ⟨c701, Ar701, q701, S701, Nn701, H701, G701⟩ := id f700
          have hin701 : ¬ ((4 : Int32) < 0 ∨ c701.slots.size ≤ ((4 : Int32)).toNatClampNeg) := inb_of S701 ⟨by decide, by decide⟩
          obtain ⟨T701, h701, X701, e701, W701, st701⟩ := stC X698 hx hZ e698 Ar701 (j := (4 : Int32)) hin701 (g := (mkF m 114 #[.val (.int p1), .val (.int p2), .val (.int p3), .val (.int p4), .val (.int p5)] [(.int p4), (.int (4 : Int32)), (.ref b687), (.ref b687), (.ref b684), (.ref b684)])) rfl rfl (hb hby d_method_4_114)
          refine own_Go.st st701 ?_
          have N701 := Fr.snoc X701 N698 (by omega)
          have z701 : h698.size ≤ h701.size := Nat.le_of_eq W701.size.symm
          have f702 := Arv.set Ar701 q701 S701 Nn701 H701 G701 (fits_nar_char _) W701 4 rfl (Nat.le_of_ble_eq_true rfl)
          rw [own_nar (own_up hp4)] at f702
          have f703 : Arv Z h701 b687 k687 .char (6 : Int32) [(.int (87 : Int32)), (.int (47 : Int32)), (.int (34 : Int32)), (.int p3), (.int p4), (.int (0 : Int32))] (.int (0 : Int32)) := f702
          show own_Go _ _ _ _ (T701.setTop (mkF m 115 #[.val (.int p1), .val (.int p2), .val (.int p3), .val (.int p4), .val (.int p5)] [(.ref b687), (.ref b684), (.ref b684)]))
          refine own_Go.st (fun _ k => XS.dup X701.here hx rfl (hb hby d_method_4_115) rfl rfl k) ?_
          show own_Go _ _ _ _ (T701.setTop (mkF m 116 #[.val (.int p1), .val (.int p2), .val (.int p3), .val (.int p4), .val (.int p5)] [(.ref b687), (.ref b687), (.ref b684), (.ref b684)]))
          refine own_Go.st (fun _ k => XS.iconst X701.here hx rfl (hb hby d_method_4_116) k) ?_
          show own_Go _ _ _ _ (T701.setTop (mkF m 117 #[.val (.int p1), .val (.int p2), .val (.int p3), .val (.int p4), .val (.int p5)] [(.int (5 : Int32)), (.ref b687), (.ref b687), (.ref b684), (.ref b684)]))
          refine own_Go.st (fun _ k => XS.bipush X701.here hx rfl (hb hby d_method_4_117) k) ?_
          show own_Go _ _ _ _ (T701.setTop (mkF m 119 #[.val (.int p1), .val (.int p2), .val (.int p3), .val (.int p4), .val (.int p5)] [(.int (34 : Int32)), (.int (5 : Int32)), (.ref b687), (.ref b687), (.ref b684), (.ref b684)]))
          obtain ⟨c704, Ar704, q704, S704, Nn704, H704, G704⟩ := id f703
          have hin704 : ¬ ((5 : Int32) < 0 ∨ c704.slots.size ≤ ((5 : Int32)).toNatClampNeg) := inb_of S704 ⟨by decide, by decide⟩
          obtain ⟨T704, h704, X704, e704, W704, st704⟩ := stC X701 hx hZ e701 Ar704 (j := (5 : Int32)) hin704 (g := (mkF m 119 #[.val (.int p1), .val (.int p2), .val (.int p3), .val (.int p4), .val (.int p5)] [(.int (34 : Int32)), (.int (5 : Int32)), (.ref b687), (.ref b687), (.ref b684), (.ref b684)])) rfl rfl (hb hby d_method_4_119)
          refine own_Go.st st704 ?_
          have N704 := Fr.snoc X704 N701 (by omega)
          have z704 : h701.size ≤ h704.size := Nat.le_of_eq W704.size.symm
          have f705 := Arv.set Ar704 q704 S704 Nn704 H704 G704 (fits_nar_char _) W704 5 rfl (Nat.le_of_ble_eq_true rfl)
          have f706 : Arv Z h704 b687 k687 .char (6 : Int32) [(.int (87 : Int32)), (.int (47 : Int32)), (.int (34 : Int32)), (.int p3), (.int p4), (.int (34 : Int32))] (.int (0 : Int32)) := f705
          show own_Go _ _ _ _ (T704.setTop (mkF m 120 #[.val (.int p1), .val (.int p2), .val (.int p3), .val (.int p4), .val (.int p5)] [(.ref b687), (.ref b684), (.ref b684)]))
          have f708 : Exa Z h687 b684 "java/lang/String" := A684.ext E687
          have f709 : Exa Z h689 b684 "java/lang/String" := f708.wr W689
          have f710 : Exa Z h692 b684 "java/lang/String" := f709.wr W692
          have f711 : Exa Z h695 b684 "java/lang/String" := f710.wr W695
          have f712 : Exa Z h698 b684 "java/lang/String" := f711.wr W698
          have f713 : Exa Z h701 b684 "java/lang/String" := f712.wr W701
          have f714 : Exa Z h704 b684 "java/lang/String" := f713.wr W704
          have f715 : Fld Z h687 b684 "java/lang/String" "value" "[B" .null := f686.ext E687
          have f716 : Fld Z h689 b684 "java/lang/String" "value" "[B" .null := f715.other W689 (Or.inl (by show @Ne Nat b684 b687; omega))
          have f717 : Fld Z h692 b684 "java/lang/String" "value" "[B" .null := f716.other W692 (Or.inl (by show @Ne Nat b684 b687; omega))
          have f718 : Fld Z h695 b684 "java/lang/String" "value" "[B" .null := f717.other W695 (Or.inl (by show @Ne Nat b684 b687; omega))
          have f719 : Fld Z h698 b684 "java/lang/String" "value" "[B" .null := f718.other W698 (Or.inl (by show @Ne Nat b684 b687; omega))
          have f720 : Fld Z h701 b684 "java/lang/String" "value" "[B" .null := f719.other W701 (Or.inl (by show @Ne Nat b684 b687; omega))
          have f721 : Fld Z h704 b684 "java/lang/String" "value" "[B" .null := f720.other W704 (Or.inl (by show @Ne Nat b684 b687; omega))
          have f722 : Fld Z h687 b684 "java/lang/String" "coder" "B" (.int (0 : Int32)) := f685.ext E687
          have f723 : Fld Z h689 b684 "java/lang/String" "coder" "B" (.int (0 : Int32)) := f722.other W689 (Or.inl (by show @Ne Nat b684 b687; omega))
          have f724 : Fld Z h692 b684 "java/lang/String" "coder" "B" (.int (0 : Int32)) := f723.other W692 (Or.inl (by show @Ne Nat b684 b687; omega))
          have f725 : Fld Z h695 b684 "java/lang/String" "coder" "B" (.int (0 : Int32)) := f724.other W695 (Or.inl (by show @Ne Nat b684 b687; omega))
          have f726 : Fld Z h698 b684 "java/lang/String" "coder" "B" (.int (0 : Int32)) := f725.other W698 (Or.inl (by show @Ne Nat b684 b687; omega))
          have f727 : Fld Z h701 b684 "java/lang/String" "coder" "B" (.int (0 : Int32)) := f726.other W701 (Or.inl (by show @Ne Nat b684 b687; omega))
          have f728 : Fld Z h704 b684 "java/lang/String" "coder" "B" (.int (0 : Int32)) := f727.other W704 (Or.inl (by show @Ne Nat b684 b687; omega))
          have f729 : Old Z Z.heap.size h684 := OL.ext E684
          have f730 : Old Z Z.heap.size h687 := f729.ext E687
          have f731 : Old Z Z.heap.size h689 := f730.wr W689 (by omega)
          have f732 : Old Z Z.heap.size h692 := f731.wr W692 (by omega)
          have f733 : Old Z Z.heap.size h695 := f732.wr W695 (by omega)
          have f734 : Old Z Z.heap.size h698 := f733.wr W698 (by omega)
          have f735 : Old Z Z.heap.size h701 := f734.wr W701 (by omega)
          have f736 : Old Z Z.heap.size h704 := f735.wr W704 (by omega)
          have hp707 : ∀ c ∈ ([(87 : Int32), (47 : Int32), (34 : Int32), p3, p4, (34 : Int32)] : List Int32), ¬ c < 0 ∧ ¬ (255 : Int32) < c := (own_aS (by decide) (own_aS (by decide) (own_aS (by decide) (own_aS hp3 (own_aS hp4 (own_aS (by decide) own_a0))))))
          obtain ⟨_, _, ⟨T707, L707, k707, n707⟩, -, X707, ⟨Lc707, hQ707, l707, y707, z707⟩, st707⟩ := X704.specialBack hx (y := (⟨"java/lang/String", "<init>", "([C)V"⟩ : MethodName)) rfl hown (mvT hZ (hw _ (List.mem_of_getElem? (i := 8) rfl))) (mvT hZ (hw _ (List.mem_of_getElem? (i := 9) rfl))) (mvT hZ (hw _ (List.mem_of_getElem? (i := 10) rfl))) (by decide) (StrChars.Road.backV (W := 1) hZ (own_hws hw) (kI := 4) (hw _ (List.mem_of_getElem? (i := 5) rfl)) (cs := ([(87 : Int32), (47 : Int32), (34 : Int32), p3, p4, (34 : Int32)] : List Int32)) (bs := (([(87 : Int32), (47 : Int32), (34 : Int32), p3, p4, (34 : Int32)] : List Int32)).map (fun c => c.toInt8.toInt32)) (n := 6) (n0 := Z.heap.size) (by omega) (by omega) f714 f721 f728 f706 (st_COMPACT_STRINGS.ext f736.2) hzc rfl rfl (by decide) (by decide) hp707 rfl (by decide) (by decide)) (g := (mkF m 120 #[.val (.int p1), .val (.int p2), .val (.int p3), .val (.int p4), .val (.int p5)] [(.ref b687), (.ref b684), (.ref b684)])) rfl (by rw [hml]; rfl) (Steps.refl _) (a := b684) (argsL := [(.ref b687)]) (rest := [(.ref b684)]) (lenOf pd_349 rfl) rfl (by show 2 * 0 + _ ≤ _; exact Nat.le_of_eq rfl) (hb hby d_method_4_120) (fun _ _ => ⟨rfl, e704, (by decide : 2 + 1 ≤ _), (by decide : 10 + 6 ≤ _)⟩)
          dsimp only [Pt.U, Pt.locs, Pt.cells, Pt.slots] at X707 l707 y707 z707 st707 hQ707
          subst l707 y707 z707
          obtain ⟨rfl, N707q, K707, Ex707, Cd707, t707, kb707, u707, v707, w707, Vl707, Ar707⟩ := hQ707
          have N707 := Fr.app N704 N707q
          have z707 : h704.size ≤ T707.heap.size := K707.1
          have fT707 : own_Str Z T707.heap b684 t707 ([(87 : Int32), (47 : Int32), (34 : Int32), p3, p4, (34 : Int32)] : List Int32) := ⟨kb707, 0, (6 : Int32), _, Ex707, Vl707, Cd707, Ar707, StrChars.Road.codOf rfl (fun c q => (hp707 c q).2), own_upL hp707, (Nat.le_of_ble_eq_true rfl)⟩
          have lt707 : @LT.lt Nat _ t707 T707.heap.size := fT707.ltv
          refine own_Go.tr st707 ?_
          show own_Go _ _ _ _ (T707.setTop (mkF m 123 #[.val (.int p1), .val (.int p2), .val (.int p3), .val (.int p4), .val (.int p5)] [(.ref b684)]))
          obtain ⟨fs737, hr737, hrun737, hend737, hW737, hsm737⟩ := X707.leave (v := some (.ref b684)) (fun h => by rw [Bd.returns] at h; cases h)
          have K738 : Keep h0 h684 [] := (Keep.refl h0 []).ext E684
          have K739 : Keep h0 h687 [] := K738.ext E687
          have K740 : Keep h0 h689 [] := K739.wr W689 (Or.inr (by omega))
          have K741 : Keep h0 h692 [] := K740.wr W692 (Or.inr (by omega))
          have K742 : Keep h0 h695 [] := K741.wr W695 (Or.inr (by omega))
          have K743 : Keep h0 h698 [] := K742.wr W698 (Or.inr (by omega))
          have K744 : Keep h0 h701 [] := K743.wr W701 (Or.inr (by omega))
          have K745 : Keep h0 h704 [] := K744.wr W704 (Or.inr (by omega))
          have K746 : Keep h0 T707.heap [] := K745.trans K707 (allS (Or.inr (by omega)) all0)
          subst hPP
          refine ⟨_, _, own_retA X707 hx Bd.returns rfl rfl (hb hby d_method_4_123) hr737, hrun737, hend737, _, _, rfl, ?_, ⟨_, rfl⟩, hW737, hsm737.mono (by decide) (by decide)⟩
          · show Q_tag Z _ _ _ _ _ _ h0 _ T707.heap _
            exact ⟨b684, t707, ([(87 : Int32), (47 : Int32), (34 : Int32), p3, p4, (34 : Int32)] : List Int32), rfl, N707, K746, fT707, (Nat.le_of_ble_eq_true rfl), (Nat.le_of_ble_eq_true rfl), hp707⟩
        ·
          refine own_Go.st (fun _ k => XS.icmpYes X0.here hx rfl (pc0 := 81) (pc' := 124) rfl (hb hby d_method_4_81) rfl (feq hc683).2 (by decide) (by decide) k) ?_
          show own_Go _ _ _ _ (s₁.setTop (mkF m 124 #[.val (.int p1), .val (.int p2), .val (.int p3), .val (.int p4), .val (.int p5)] []))
          obtain ⟨T747, h747, X747, e747, E747, A747, D747, U747, st747⟩ := newO X0 hx hZ hown (hw _ (List.mem_of_getElem? (i := 4) rfl)) (hw _ (List.mem_of_getElem? (i := 5) rfl)) (hw _ (List.mem_of_getElem? (i := 6) rfl)) e0 (g := (mkF m 124 #[.val (.int p1), .val (.int p2), .val (.int p3), .val (.int p4), .val (.int p5)] [])) rfl (hb hby d_method_4_124) (by decide) (by decide)
          obtain ⟨b747, g747⟩ : ∃ z, z = h0.size := ⟨_, rfl⟩
          rw [← g747] at A747 D747 U747 st747
          refine own_Go.st st747 ?_
          have z747 : h0.size ≤ h747.size := E747.1
          have lt_b747 : @LT.lt Nat _ b747 h747.size := A747.lt
          have f748 : Fld Z h747 b747 "java/lang/String" "coder" "B" (.int (0 : Int32)) := D747 (Or.inr (hw _ (List.mem_of_getElem? (i := 31) rfl))) (ty := .byte) (by decide)
          have f749 : Fld Z h747 b747 "java/lang/String" "value" "[B" .null := D747 (Or.inr (hw _ (List.mem_of_getElem? (i := 33) rfl))) (ty := (.array .byte)) (by decide)
          show own_Go _ _ _ _ (T747.setTop (mkF m 127 #[.val (.int p1), .val (.int p2), .val (.int p3), .val (.int p4), .val (.int p5)] [(.ref b747)]))
          refine own_Go.st (fun _ k => XS.dup X747.here hx rfl (hb hby d_method_4_127) rfl rfl k) ?_
          show own_Go _ _ _ _ (T747.setTop (mkF m 128 #[.val (.int p1), .val (.int p2), .val (.int p3), .val (.int p4), .val (.int p5)] [(.ref b747), (.ref b747)]))
          refine own_Go.st (fun _ k => XS.bipush X747.here hx rfl (hb hby d_method_4_128) k) ?_
          show own_Go _ _ _ _ (T747.setTop (mkF m 130 #[.val (.int p1), .val (.int p2), .val (.int p3), .val (.int p4), .val (.int p5)] [(.int (7 : Int32)), (.ref b747), (.ref b747)]))
          obtain ⟨T750, h750, k750, X750, e750, E750, A750, st750⟩ := newP X747 hx hZ (hw _ (List.mem_of_getElem? (i := 7) rfl)) e747 (g := (mkF m 130 #[.val (.int p1), .val (.int p2), .val (.int p3), .val (.int p4), .val (.int p5)] [(.int (7 : Int32)), (.ref b747), (.ref b747)])) rfl (hb hby d_method_4_130) rfl (by decide) (cap := 7) (by decide) (by decide) (by decide) (by decide)
          obtain ⟨b750, g750⟩ : ∃ z, z = h747.size := ⟨_, rfl⟩
          rw [← g750] at A750 st750
          refine own_Go.st st750 ?_
          have z750 : h747.size ≤ h750.size := E750.1
          have f751 : Arv Z h750 b750 k750 .char (7 : Int32) [(.int (0 : Int32)), (.int (0 : Int32)), (.int (0 : Int32)), (.int (0 : Int32)), (.int (0 : Int32)), (.int (0 : Int32)), (.int (0 : Int32))] (.int (0 : Int32)) := (Arv.new A750 (by decide)).pad (pad_rep [] (.int (0 : Int32)) 7)
          have lt_b750 : @LT.lt Nat _ b750 h750.size := f751.lt
          show own_Go _ _ _ _ (T750.setTop (mkF m 132 #[.val (.int p1), .val (.int p2), .val (.int p3), .val (.int p4), .val (.int p5)] [(.ref b750), (.ref b747), (.ref b747)]))
          refine own_Go.st (fun _ k => XS.dup X750.here hx rfl (hb hby d_method_4_132) rfl rfl k) ?_
          show own_Go _ _ _ _ (T750.setTop (mkF m 133 #[.val (.int p1), .val (.int p2), .val (.int p3), .val (.int p4), .val (.int p5)] [(.ref b750), (.ref b750), (.ref b747), (.ref b747)]))
          refine own_Go.st (fun _ k => XS.iconst X750.here hx rfl (hb hby d_method_4_133) k) ?_
          show own_Go _ _ _ _ (T750.setTop (mkF m 134 #[.val (.int p1), .val (.int p2), .val (.int p3), .val (.int p4), .val (.int p5)] [(.int (0 : Int32)), (.ref b750), (.ref b750), (.ref b747), (.ref b747)]))
          refine own_Go.st (fun _ k => XS.bipush X750.here hx rfl (hb hby d_method_4_134) k) ?_
          show own_Go _ _ _ _ (T750.setTop (mkF m 136 #[.val (.int p1), .val (.int p2), .val (.int p3), .val (.int p4), .val (.int p5)] [(.int (87 : Int32)), (.int (0 : Int32)), (.ref b750), (.ref b750), (.ref b747), (.ref b747)]))
          obtain ⟨c752, Ar752, q752, S752, Nn752, H752, G752⟩ := id f751
          have hin752 : ¬ ((0 : Int32) < 0 ∨ c752.slots.size ≤ ((0 : Int32)).toNatClampNeg) := inb_of S752 ⟨by decide, by decide⟩
          obtain ⟨T752, h752, X752, e752, W752, st752⟩ := stC X750 hx hZ e750 Ar752 (j := (0 : Int32)) hin752 (g := (mkF m 136 #[.val (.int p1), .val (.int p2), .val (.int p3), .val (.int p4), .val (.int p5)] [(.int (87 : Int32)), (.int (0 : Int32)), (.ref b750), (.ref b750), (.ref b747), (.ref b747)])) rfl rfl (hb hby d_method_4_136)
          refine own_Go.st st752 ?_
          have N752 := Fr.snoc X752 N0 (by omega)
          have z752 : h750.size ≤ h752.size := Nat.le_of_eq W752.size.symm
          have f753 := Arv.set Ar752 q752 S752 Nn752 H752 G752 (fits_nar_char _) W752 0 rfl (Nat.le_of_ble_eq_true rfl)
          have f754 : Arv Z h752 b750 k750 .char (7 : Int32) [(.int (87 : Int32)), (.int (0 : Int32)), (.int (0 : Int32)), (.int (0 : Int32)), (.int (0 : Int32)), (.int (0 : Int32)), (.int (0 : Int32))] (.int (0 : Int32)) := f753
          show own_Go _ _ _ _ (T752.setTop (mkF m 137 #[.val (.int p1), .val (.int p2), .val (.int p3), .val (.int p4), .val (.int p5)] [(.ref b750), (.ref b747), (.ref b747)]))
          refine own_Go.st (fun _ k => XS.dup X752.here hx rfl (hb hby d_method_4_137) rfl rfl k) ?_
          show own_Go _ _ _ _ (T752.setTop (mkF m 138 #[.val (.int p1), .val (.int p2), .val (.int p3), .val (.int p4), .val (.int p5)] [(.ref b750), (.ref b750), (.ref b747), (.ref b747)]))
          refine own_Go.st (fun _ k => XS.iconst X752.here hx rfl (hb hby d_method_4_138) k) ?_
          show own_Go _ _ _ _ (T752.setTop (mkF m 139 #[.val (.int p1), .val (.int p2), .val (.int p3), .val (.int p4), .val (.int p5)] [(.int (1 : Int32)), (.ref b750), (.ref b750), (.ref b747), (.ref b747)]))
          refine own_Go.st (fun _ k => XS.bipush X752.here hx rfl (hb hby d_method_4_139) k) ?_
          show own_Go _ _ _ _ (T752.setTop (mkF m 141 #[.val (.int p1), .val (.int p2), .val (.int p3), .val (.int p4), .val (.int p5)] [(.int (47 : Int32)), (.int (1 : Int32)), (.ref b750), (.ref b750), (.ref b747), (.ref b747)]))
          obtain ⟨c755, Ar755, q755, S755, Nn755, H755, G755⟩ := id f754
          have hin755 : ¬ ((1 : Int32) < 0 ∨ c755.slots.size ≤ ((1 : Int32)).toNatClampNeg) := inb_of S755 ⟨by decide, by decide⟩
          obtain ⟨T755, h755, X755, e755, W755, st755⟩ := stC X752 hx hZ e752 Ar755 (j := (1 : Int32)) hin755 (g := (mkF m 141 #[.val (.int p1), .val (.int p2), .val (.int p3), .val (.int p4), .val (.int p5)] [(.int (47 : Int32)), (.int (1 : Int32)), (.ref b750), (.ref b750), (.ref b747), (.ref b747)])) rfl rfl (hb hby d_method_4_141)
          refine own_Go.st st755 ?_
          have N755 := Fr.snoc X755 N752 (by omega)
          have z755 : h752.size ≤ h755.size := Nat.le_of_eq W755.size.symm
          have f756 := Arv.set Ar755 q755 S755 Nn755 H755 G755 (fits_nar_char _) W755 1 rfl (Nat.le_of_ble_eq_true rfl)
          have f757 : Arv Z h755 b750 k750 .char (7 : Int32) [(.int (87 : Int32)), (.int (47 : Int32)), (.int (0 : Int32)), (.int (0 : Int32)), (.int (0 : Int32)), (.int (0 : Int32)), (.int (0 : Int32))] (.int (0 : Int32)) := f756
          show own_Go _ _ _ _ (T755.setTop (mkF m 142 #[.val (.int p1), .val (.int p2), .val (.int p3), .val (.int p4), .val (.int p5)] [(.ref b750), (.ref b747), (.ref b747)]))
          refine own_Go.st (fun _ k => XS.dup X755.here hx rfl (hb hby d_method_4_142) rfl rfl k) ?_
          show own_Go _ _ _ _ (T755.setTop (mkF m 143 #[.val (.int p1), .val (.int p2), .val (.int p3), .val (.int p4), .val (.int p5)] [(.ref b750), (.ref b750), (.ref b747), (.ref b747)]))
          refine own_Go.st (fun _ k => XS.iconst X755.here hx rfl (hb hby d_method_4_143) k) ?_
          show own_Go _ _ _ _ (T755.setTop (mkF m 144 #[.val (.int p1), .val (.int p2), .val (.int p3), .val (.int p4), .val (.int p5)] [(.int (2 : Int32)), (.ref b750), (.ref b750), (.ref b747), (.ref b747)]))
          refine own_Go.st (fun _ k => XS.bipush X755.here hx rfl (hb hby d_method_4_144) k) ?_
          show own_Go _ _ _ _ (T755.setTop (mkF m 146 #[.val (.int p1), .val (.int p2), .val (.int p3), .val (.int p4), .val (.int p5)] [(.int (34 : Int32)), (.int (2 : Int32)), (.ref b750), (.ref b750), (.ref b747), (.ref b747)]))
          obtain ⟨c758, Ar758, q758, S758, Nn758, H758, G758⟩ := id f757
          have hin758 : ¬ ((2 : Int32) < 0 ∨ c758.slots.size ≤ ((2 : Int32)).toNatClampNeg) := inb_of S758 ⟨by decide, by decide⟩
          obtain ⟨T758, h758, X758, e758, W758, st758⟩ := stC X755 hx hZ e755 Ar758 (j := (2 : Int32)) hin758 (g := (mkF m 146 #[.val (.int p1), .val (.int p2), .val (.int p3), .val (.int p4), .val (.int p5)] [(.int (34 : Int32)), (.int (2 : Int32)), (.ref b750), (.ref b750), (.ref b747), (.ref b747)])) rfl rfl (hb hby d_method_4_146)
          refine own_Go.st st758 ?_
          have N758 := Fr.snoc X758 N755 (by omega)
          have z758 : h755.size ≤ h758.size := Nat.le_of_eq W758.size.symm
          have f759 := Arv.set Ar758 q758 S758 Nn758 H758 G758 (fits_nar_char _) W758 2 rfl (Nat.le_of_ble_eq_true rfl)
          have f760 : Arv Z h758 b750 k750 .char (7 : Int32) [(.int (87 : Int32)), (.int (47 : Int32)), (.int (34 : Int32)), (.int (0 : Int32)), (.int (0 : Int32)), (.int (0 : Int32)), (.int (0 : Int32))] (.int (0 : Int32)) := f759
          show own_Go _ _ _ _ (T758.setTop (mkF m 147 #[.val (.int p1), .val (.int p2), .val (.int p3), .val (.int p4), .val (.int p5)] [(.ref b750), (.ref b747), (.ref b747)]))
          refine own_Go.st (fun _ k => XS.dup X758.here hx rfl (hb hby d_method_4_147) rfl rfl k) ?_
          show own_Go _ _ _ _ (T758.setTop (mkF m 148 #[.val (.int p1), .val (.int p2), .val (.int p3), .val (.int p4), .val (.int p5)] [(.ref b750), (.ref b750), (.ref b747), (.ref b747)]))
          refine own_Go.st (fun _ k => XS.iconst X758.here hx rfl (hb hby d_method_4_148) k) ?_
          show own_Go _ _ _ _ (T758.setTop (mkF m 149 #[.val (.int p1), .val (.int p2), .val (.int p3), .val (.int p4), .val (.int p5)] [(.int (3 : Int32)), (.ref b750), (.ref b750), (.ref b747), (.ref b747)]))
          refine own_Go.st (fun _ k => XS.iloadN X758.here hx rfl (hb hby d_method_4_149) rfl k) ?_
          show own_Go _ _ _ _ (T758.setTop (mkF m 150 #[.val (.int p1), .val (.int p2), .val (.int p3), .val (.int p4), .val (.int p5)] [(.int p3), (.int (3 : Int32)), (.ref b750), (.ref b750), (.ref b747), (.ref b747)]))
          obtain ⟨c761, Ar761, q761, S761, Nn761, H761, G761⟩ := id f760
          have hin761 : ¬ ((3 : Int32) < 0 ∨ c761.slots.size ≤ ((3 : Int32)).toNatClampNeg) := inb_of S761 ⟨by decide, by decide⟩
          obtain ⟨T761, h761, X761, e761, W761, st761⟩ := stC X758 hx hZ e758 Ar761 (j := (3 : Int32)) hin761 (g := (mkF m 150 #[.val (.int p1), .val (.int p2), .val (.int p3), .val (.int p4), .val (.int p5)] [(.int p3), (.int (3 : Int32)), (.ref b750), (.ref b750), (.ref b747), (.ref b747)])) rfl rfl (hb hby d_method_4_150)
          refine own_Go.st st761 ?_
          have N761 := Fr.snoc X761 N758 (by omega)
          have z761 : h758.size ≤ h761.size := Nat.le_of_eq W761.size.symm
          have f762 := Arv.set Ar761 q761 S761 Nn761 H761 G761 (fits_nar_char _) W761 3 rfl (Nat.le_of_ble_eq_true rfl)
          rw [own_nar (own_up hp3)] at f762
          have f763 : Arv Z h761 b750 k750 .char (7 : Int32) [(.int (87 : Int32)), (.int (47 : Int32)), (.int (34 : Int32)), (.int p3), (.int (0 : Int32)), (.int (0 : Int32)), (.int (0 : Int32))] (.int (0 : Int32)) := f762
          show own_Go _ _ _ _ (T761.setTop (mkF m 151 #[.val (.int p1), .val (.int p2), .val (.int p3), .val (.int p4), .val (.int p5)] [(.ref b750), (.ref b747), (.ref b747)]))
          refine own_Go.st (fun _ k => XS.dup X761.here hx rfl (hb hby d_method_4_151) rfl rfl k) ?_
          show own_Go _ _ _ _ (T761.setTop (mkF m 152 #[.val (.int p1), .val (.int p2), .val (.int p3), .val (.int p4), .val (.int p5)] [(.ref b750), (.ref b750), (.ref b747), (.ref b747)]))
          refine own_Go.st (fun _ k => XS.iconst X761.here hx rfl (hb hby d_method_4_152) k) ?_
          show own_Go _ _ _ _ (T761.setTop (mkF m 153 #[.val (.int p1), .val (.int p2), .val (.int p3), .val (.int p4), .val (.int p5)] [(.int (4 : Int32)), (.ref b750), (.ref b750), (.ref b747), (.ref b747)]))
          refine own_Go.st (fun _ k => XS.iloadN X761.here hx rfl (hb hby d_method_4_153) rfl k) ?_
          show own_Go _ _ _ _ (T761.setTop (mkF m 154 #[.val (.int p1), .val (.int p2), .val (.int p3), .val (.int p4), .val (.int p5)] [(.int p4), (.int (4 : Int32)), (.ref b750), (.ref b750), (.ref b747), (.ref b747)]))
          obtain ⟨c764, Ar764, q764, S764, Nn764, H764, G764⟩ := id f763
          have hin764 : ¬ ((4 : Int32) < 0 ∨ c764.slots.size ≤ ((4 : Int32)).toNatClampNeg) := inb_of S764 ⟨by decide, by decide⟩
          obtain ⟨T764, h764, X764, e764, W764, st764⟩ := stC X761 hx hZ e761 Ar764 (j := (4 : Int32)) hin764 (g := (mkF m 154 #[.val (.int p1), .val (.int p2), .val (.int p3), .val (.int p4), .val (.int p5)] [(.int p4), (.int (4 : Int32)), (.ref b750), (.ref b750), (.ref b747), (.ref b747)])) rfl rfl (hb hby d_method_4_154)
          refine own_Go.st st764 ?_
          have N764 := Fr.snoc X764 N761 (by omega)
          have z764 : h761.size ≤ h764.size := Nat.le_of_eq W764.size.symm
          have f765 := Arv.set Ar764 q764 S764 Nn764 H764 G764 (fits_nar_char _) W764 4 rfl (Nat.le_of_ble_eq_true rfl)
          rw [own_nar (own_up hp4)] at f765
          have f766 : Arv Z h764 b750 k750 .char (7 : Int32) [(.int (87 : Int32)), (.int (47 : Int32)), (.int (34 : Int32)), (.int p3), (.int p4), (.int (0 : Int32)), (.int (0 : Int32))] (.int (0 : Int32)) := f765
          show own_Go _ _ _ _ (T764.setTop (mkF m 155 #[.val (.int p1), .val (.int p2), .val (.int p3), .val (.int p4), .val (.int p5)] [(.ref b750), (.ref b747), (.ref b747)]))
          refine own_Go.st (fun _ k => XS.dup X764.here hx rfl (hb hby d_method_4_155) rfl rfl k) ?_
          show own_Go _ _ _ _ (T764.setTop (mkF m 156 #[.val (.int p1), .val (.int p2), .val (.int p3), .val (.int p4), .val (.int p5)] [(.ref b750), (.ref b750), (.ref b747), (.ref b747)]))
          refine own_Go.st (fun _ k => XS.iconst X764.here hx rfl (hb hby d_method_4_156) k) ?_
          show own_Go _ _ _ _ (T764.setTop (mkF m 157 #[.val (.int p1), .val (.int p2), .val (.int p3), .val (.int p4), .val (.int p5)] [(.int (5 : Int32)), (.ref b750), (.ref b750), (.ref b747), (.ref b747)]))
          refine own_Go.st (fun _ k => XS.iload X764.here hx rfl (hb hby d_method_4_157) rfl k) ?_
          show own_Go _ _ _ _ (T764.setTop (mkF m 159 #[.val (.int p1), .val (.int p2), .val (.int p3), .val (.int p4), .val (.int p5)] [(.int p5), (.int (5 : Int32)), (.ref b750), (.ref b750), (.ref b747), (.ref b747)]))
          obtain ⟨c767, Ar767, q767, S767, Nn767, H767, G767⟩ := id f766
          have hin767 : ¬ ((5 : Int32) < 0 ∨ c767.slots.size ≤ ((5 : Int32)).toNatClampNeg) := inb_of S767 ⟨by decide, by decide⟩
          obtain ⟨T767, h767, X767, e767, W767, st767⟩ := stC X764 hx hZ e764 Ar767 (j := (5 : Int32)) hin767 (g := (mkF m 159 #[.val (.int p1), .val (.int p2), .val (.int p3), .val (.int p4), .val (.int p5)] [(.int p5), (.int (5 : Int32)), (.ref b750), (.ref b750), (.ref b747), (.ref b747)])) rfl rfl (hb hby d_method_4_159)
          refine own_Go.st st767 ?_
          have N767 := Fr.snoc X767 N764 (by omega)
          have z767 : h764.size ≤ h767.size := Nat.le_of_eq W767.size.symm
          have f768 := Arv.set Ar767 q767 S767 Nn767 H767 G767 (fits_nar_char _) W767 5 rfl (Nat.le_of_ble_eq_true rfl)
          rw [own_nar (own_up hp5)] at f768
          have f769 : Arv Z h767 b750 k750 .char (7 : Int32) [(.int (87 : Int32)), (.int (47 : Int32)), (.int (34 : Int32)), (.int p3), (.int p4), (.int p5), (.int (0 : Int32))] (.int (0 : Int32)) := f768
          show own_Go _ _ _ _ (T767.setTop (mkF m 160 #[.val (.int p1), .val (.int p2), .val (.int p3), .val (.int p4), .val (.int p5)] [(.ref b750), (.ref b747), (.ref b747)]))
          refine own_Go.st (fun _ k => XS.dup X767.here hx rfl (hb hby d_method_4_160) rfl rfl k) ?_
          show own_Go _ _ _ _ (T767.setTop (mkF m 161 #[.val (.int p1), .val (.int p2), .val (.int p3), .val (.int p4), .val (.int p5)] [(.ref b750), (.ref b750), (.ref b747), (.ref b747)]))
          refine own_Go.st (fun _ k => XS.bipush X767.here hx rfl (hb hby d_method_4_161) k) ?_
          show own_Go _ _ _ _ (T767.setTop (mkF m 163 #[.val (.int p1), .val (.int p2), .val (.int p3), .val (.int p4), .val (.int p5)] [(.int (6 : Int32)), (.ref b750), (.ref b750), (.ref b747), (.ref b747)]))
          refine own_Go.st (fun _ k => XS.bipush X767.here hx rfl (hb hby d_method_4_163) k) ?_
          show own_Go _ _ _ _ (T767.setTop (mkF m 165 #[.val (.int p1), .val (.int p2), .val (.int p3), .val (.int p4), .val (.int p5)] [(.int (34 : Int32)), (.int (6 : Int32)), (.ref b750), (.ref b750), (.ref b747), (.ref b747)]))
          obtain ⟨c770, Ar770, q770, S770, Nn770, H770, G770⟩ := id f769
          have hin770 : ¬ ((6 : Int32) < 0 ∨ c770.slots.size ≤ ((6 : Int32)).toNatClampNeg) := inb_of S770 ⟨by decide, by decide⟩
          obtain ⟨T770, h770, X770, e770, W770, st770⟩ := stC X767 hx hZ e767 Ar770 (j := (6 : Int32)) hin770 (g := (mkF m 165 #[.val (.int p1), .val (.int p2), .val (.int p3), .val (.int p4), .val (.int p5)] [(.int (34 : Int32)), (.int (6 : Int32)), (.ref b750), (.ref b750), (.ref b747), (.ref b747)])) rfl rfl (hb hby d_method_4_165)
          refine own_Go.st st770 ?_
          have N770 := Fr.snoc X770 N767 (by omega)
          have z770 : h767.size ≤ h770.size := Nat.le_of_eq W770.size.symm
          have f771 := Arv.set Ar770 q770 S770 Nn770 H770 G770 (fits_nar_char _) W770 6 rfl (Nat.le_of_ble_eq_true rfl)
          have f772 : Arv Z h770 b750 k750 .char (7 : Int32) [(.int (87 : Int32)), (.int (47 : Int32)), (.int (34 : Int32)), (.int p3), (.int p4), (.int p5), (.int (34 : Int32))] (.int (0 : Int32)) := f771
          show own_Go _ _ _ _ (T770.setTop (mkF m 166 #[.val (.int p1), .val (.int p2), .val (.int p3), .val (.int p4), .val (.int p5)] [(.ref b750), (.ref b747), (.ref b747)]))
          have f774 : Exa Z h750 b747 "java/lang/String" := A747.ext E750
          have f775 : Exa Z h752 b747 "java/lang/String" := f774.wr W752
          have f776 : Exa Z h755 b747 "java/lang/String" := f775.wr W755
          have f777 : Exa Z h758 b747 "java/lang/String" := f776.wr W758
          have f778 : Exa Z h761 b747 "java/lang/String" := f777.wr W761
          have f779 : Exa Z h764 b747 "java/lang/String" := f778.wr W764
          have f780 : Exa Z h767 b747 "java/lang/String" := f779.wr W767
          have f781 : Exa Z h770 b747 "java/lang/String" := f780.wr W770
          have f782 : Fld Z h750 b747 "java/lang/String" "value" "[B" .null := f749.ext E750
          have f783 : Fld Z h752 b747 "java/lang/String" "value" "[B" .null := f782.other W752 (Or.inl (by show @Ne Nat b747 b750; omega))
          have f784 : Fld Z h755 b747 "java/lang/String" "value" "[B" .null := f783.other W755 (Or.inl (by show @Ne Nat b747 b750; omega))
          have f785 : Fld Z h758 b747 "java/lang/String" "value" "[B" .null := f784.other W758 (Or.inl (by show @Ne Nat b747 b750; omega))
          have f786 : Fld Z h761 b747 "java/lang/String" "value" "[B" .null := f785.other W761 (Or.inl (by show @Ne Nat b747 b750; omega))
          have f787 : Fld Z h764 b747 "java/lang/String" "value" "[B" .null := f786.other W764 (Or.inl (by show @Ne Nat b747 b750; omega))
          have f788 : Fld Z h767 b747 "java/lang/String" "value" "[B" .null := f787.other W767 (Or.inl (by show @Ne Nat b747 b750; omega))
          have f789 : Fld Z h770 b747 "java/lang/String" "value" "[B" .null := f788.other W770 (Or.inl (by show @Ne Nat b747 b750; omega))
          have f790 : Fld Z h750 b747 "java/lang/String" "coder" "B" (.int (0 : Int32)) := f748.ext E750
          have f791 : Fld Z h752 b747 "java/lang/String" "coder" "B" (.int (0 : Int32)) := f790.other W752 (Or.inl (by show @Ne Nat b747 b750; omega))
          have f792 : Fld Z h755 b747 "java/lang/String" "coder" "B" (.int (0 : Int32)) := f791.other W755 (Or.inl (by show @Ne Nat b747 b750; omega))
          have f793 : Fld Z h758 b747 "java/lang/String" "coder" "B" (.int (0 : Int32)) := f792.other W758 (Or.inl (by show @Ne Nat b747 b750; omega))
          have f794 : Fld Z h761 b747 "java/lang/String" "coder" "B" (.int (0 : Int32)) := f793.other W761 (Or.inl (by show @Ne Nat b747 b750; omega))
          have f795 : Fld Z h764 b747 "java/lang/String" "coder" "B" (.int (0 : Int32)) := f794.other W764 (Or.inl (by show @Ne Nat b747 b750; omega))
          have f796 : Fld Z h767 b747 "java/lang/String" "coder" "B" (.int (0 : Int32)) := f795.other W767 (Or.inl (by show @Ne Nat b747 b750; omega))
          have f797 : Fld Z h770 b747 "java/lang/String" "coder" "B" (.int (0 : Int32)) := f796.other W770 (Or.inl (by show @Ne Nat b747 b750; omega))
          have f798 : Old Z Z.heap.size h747 := OL.ext E747
          have f799 : Old Z Z.heap.size h750 := f798.ext E750
          have f800 : Old Z Z.heap.size h752 := f799.wr W752 (by omega)
          have f801 : Old Z Z.heap.size h755 := f800.wr W755 (by omega)
          have f802 : Old Z Z.heap.size h758 := f801.wr W758 (by omega)
          have f803 : Old Z Z.heap.size h761 := f802.wr W761 (by omega)
          have f804 : Old Z Z.heap.size h764 := f803.wr W764 (by omega)
          have f805 : Old Z Z.heap.size h767 := f804.wr W767 (by omega)
          have f806 : Old Z Z.heap.size h770 := f805.wr W770 (by omega)
          have hp773 : ∀ c ∈ ([(87 : Int32), (47 : Int32), (34 : Int32), p3, p4, p5, (34 : Int32)] : List Int32), ¬ c < 0 ∧ ¬ (255 : Int32) < c := (own_aS (by decide) (own_aS (by decide) (own_aS (by decide) (own_aS hp3 (own_aS hp4 (own_aS hp5 (own_aS (by decide) own_a0)))))))
          obtain ⟨_, _, ⟨T773, L773, k773, n773⟩, -, X773, ⟨Lc773, hQ773, l773, y773, z773⟩, st773⟩ := X770.specialBack hx (y := (⟨"java/lang/String", "<init>", "([C)V"⟩ : MethodName)) rfl hown (mvT hZ (hw _ (List.mem_of_getElem? (i := 8) rfl))) (mvT hZ (hw _ (List.mem_of_getElem? (i := 9) rfl))) (mvT hZ (hw _ (List.mem_of_getElem? (i := 10) rfl))) (by decide) (StrChars.Road.backV (W := 1) hZ (own_hws hw) (kI := 4) (hw _ (List.mem_of_getElem? (i := 5) rfl)) (cs := ([(87 : Int32), (47 : Int32), (34 : Int32), p3, p4, p5, (34 : Int32)] : List Int32)) (bs := (([(87 : Int32), (47 : Int32), (34 : Int32), p3, p4, p5, (34 : Int32)] : List Int32)).map (fun c => c.toInt8.toInt32)) (n := 7) (n0 := Z.heap.size) (by omega) (by omega) f781 f789 f797 f772 (st_COMPACT_STRINGS.ext f806.2) hzc rfl rfl (by decide) (by decide) hp773 rfl (by decide) (by decide)) (g := (mkF m 166 #[.val (.int p1), .val (.int p2), .val (.int p3), .val (.int p4), .val (.int p5)] [(.ref b750), (.ref b747), (.ref b747)])) rfl (by rw [hml]; rfl) (Steps.refl _) (a := b747) (argsL := [(.ref b750)]) (rest := [(.ref b747)]) (lenOf pd_349 rfl) rfl (by show 2 * 0 + _ ≤ _; exact Nat.le_of_eq rfl) (hb hby d_method_4_166) (fun _ _ => ⟨rfl, e770, (by decide : 2 + 1 ≤ _), (by decide : 11 + 7 ≤ _)⟩)
          dsimp only [Pt.U, Pt.locs, Pt.cells, Pt.slots] at X773 l773 y773 z773 st773 hQ773
          subst l773 y773 z773
          obtain ⟨rfl, N773q, K773, Ex773, Cd773, t773, kb773, u773, v773, w773, Vl773, Ar773⟩ := hQ773
          have N773 := Fr.app N770 N773q
          have z773 : h770.size ≤ T773.heap.size := K773.1
          have fT773 : own_Str Z T773.heap b747 t773 ([(87 : Int32), (47 : Int32), (34 : Int32), p3, p4, p5, (34 : Int32)] : List Int32) := ⟨kb773, 0, (7 : Int32), _, Ex773, Vl773, Cd773, Ar773, StrChars.Road.codOf rfl (fun c q => (hp773 c q).2), own_upL hp773, (Nat.le_of_ble_eq_true rfl)⟩
          have lt773 : @LT.lt Nat _ t773 T773.heap.size := fT773.ltv
          refine own_Go.tr st773 ?_
          show own_Go _ _ _ _ (T773.setTop (mkF m 169 #[.val (.int p1), .val (.int p2), .val (.int p3), .val (.int p4), .val (.int p5)] [(.ref b747)]))
          obtain ⟨fs807, hr807, hrun807, hend807, hW807, hsm807⟩ := X773.leave (v := some (.ref b747)) (fun h => by rw [Bd.returns] at h; cases h)
          have K808 : Keep h0 h747 [] := (Keep.refl h0 []).ext E747
          have K809 : Keep h0 h750 [] := K808.ext E750
          have K810 : Keep h0 h752 [] := K809.wr W752 (Or.inr (by omega))
          have K811 : Keep h0 h755 [] := K810.wr W755 (Or.inr (by omega))
          have K812 : Keep h0 h758 [] := K811.wr W758 (Or.inr (by omega))
          have K813 : Keep h0 h761 [] := K812.wr W761 (Or.inr (by omega))
          have K814 : Keep h0 h764 [] := K813.wr W764 (Or.inr (by omega))
          have K815 : Keep h0 h767 [] := K814.wr W767 (Or.inr (by omega))
          have K816 : Keep h0 h770 [] := K815.wr W770 (Or.inr (by omega))
          have K817 : Keep h0 T773.heap [] := K816.trans K773 (allS (Or.inr (by omega)) all0)
          subst hPP
          refine ⟨_, _, own_retA X773 hx Bd.returns rfl rfl (hb hby d_method_4_169) hr807, hrun807, hend807, _, _, rfl, ?_, ⟨_, rfl⟩, hW807, hsm807.mono (by decide) (by decide)⟩
          · show Q_tag Z _ _ _ _ _ _ h0 _ T773.heap _
            exact ⟨b747, t773, ([(87 : Int32), (47 : Int32), (34 : Int32), p3, p4, p5, (34 : Int32)] : List Int32), rfl, N773, K817, fT773, (Nat.le_of_ble_eq_true rfl), (Nat.le_of_ble_eq_true rfl), hp773⟩
theorem d_method_3_0 : decode method_3_code 0 = .ok (.iload_n 2, 1) := by decide +kernel
theorem d_method_3_1 : decode method_3_code 1 = .ok (.iload_n 3, 1) := by decide +kernel
theorem d_method_3_2 : decode method_3_code 2 = .ok (.if_icmp .ge 16, 3) := by decide +kernel
theorem d_method_3_5 : decode method_3_code 5 = .ok (.aload_n 0, 1) := by decide +kernel
theorem d_method_3_6 : decode method_3_code 6 = .ok (.iload_n 2, 1) := by decide +kernel
theorem pd_549 : parseMethodDescriptor "(I)C" = some ⟨[.int], some .char⟩ := by decide +kernel
theorem d_method_3_7 : decode method_3_code 7 = .ok (.invokevirtual 29, 3) := by decide +kernel
theorem d_method_3_10 : decode method_3_code 10 = .ok (.aload_n 1, 1) := by decide +kernel
theorem d_method_3_11 : decode method_3_code 11 = .ok (.iload_n 2, 1) := by decide +kernel
theorem d_method_3_12 : decode method_3_code 12 = .ok (.invokevirtual 29, 3) := by decide +kernel
theorem d_method_3_15 : decode method_3_code 15 = .ok (.if_icmp .ne 7, 3) := by decide +kernel
theorem d_method_3_18 : decode method_3_code 18 = .ok (.iconst 1, 1) := by decide +kernel
theorem d_method_3_19 : decode method_3_code 19 = .ok (.goto 4, 3) := by decide +kernel
theorem d_method_3_23 : decode method_3_code 23 = .ok (.ireturn, 1) := by decide +kernel
def Q_same (Z : State) (a1 : Nat) (a2 : Nat) (p3 : Int32) (p4 : Int32) (i : Nat) (kk : Nat) (t1 : Nat) (rs : List Int32) (t2 : Nat) (cs : List Int32) (zc : Int32) (fm : Value) (h0 : Heap) (v : Option Value) (h : Heap) (L : List Loc) : Prop := v = some (.int (1 : Int32)) ∧ Fr Z.heap.size L ∧ h = h0
set_option maxRecDepth 65536 in
set_option maxHeartbeats 40000000 in
theorem rm_same (l : Launch) (Z : State) (a0 : Array Value) (hw : ∀ d ∈ tables_1, d.before a0 Z = true) (ws : List Jvm.Cond) (a1 : Nat) (a2 : Nat) (p3 : Int32) (p4 : Int32) (i : Nat) (kk : Nat) (t1 : Nat) (rs : List Int32) (t2 : Nat) (cs : List Int32) (zc : Int32) (fm : Value) (h0 : Heap) (OL : Old Z Z.heap.size h0) (p0_ : own_Str Z h0 a1 t1 rs) (p1_ : own_Str Z h0 a2 t2 cs) (st_COMPACT_STRINGS : Sta Z Z.heap "java/lang/String" "COMPACT_STRINGS" "Z" (.int zc)) (st_SIOOBE_FORMATTER : Sta Z Z.heap "jdk/internal/util/Preconditions" "SIOOBE_FORMATTER" "Ljava/util/function/BiFunction;" fm) (hzc : ¬ zc = 0) (hfm : fm.isRef = true) (hp3 : p3 = Int32.ofNat i) (hp4 : p4 = Int32.ofNat kk) (hik : i < 100 ∧ kk < 100) (hs : i < kk → i < rs.length ∧ i < cs.length ∧ rs.getD i 0 = cs.getD i 0) (hl1 : ∀ c ∈ rs, ¬ c < 0 ∧ ¬ (255 : Int32) < c) (hl2 : ∀ c ∈ cs, ¬ c < 0 ∧ ¬ (255 : Int32) < c) :
    MetFree l (⟨"com/example/net30/net30/http/GzipEtagPinLaw", "same", "(Ljava/lang/String;Ljava/lang/String;II)Z"⟩ : MethodName) (head1 (Jvm.Cond.code (⟨"com/example/net30/net30/http/GzipEtagPinLaw", "same", "(Ljava/lang/String;Ljava/lang/String;II)Z"⟩ : MethodName) method_3_code 4 (some .boolean) :: ws) ({ frames := 4, cells := 0, slots := 0, locals := 55 } : Room)) (fun a U => a = #[(.ref a1), (.ref a2), (.int p3), (.int p4)] ∧ Z.Warmed39 U.vm ∧ U.heap = h0) (fun _ _ _ _ _ => True) (fun _ U o U' => ∃ v L, o = .returned v ∧ Q_same Z a1 a2 p3 p4 i kk t1 rs t2 cs zc fm h0 v U'.heap L ∧ FrameEnd U o U' L ({ frames := 4, cells := 0, slots := 0, locals := 55 } : Room).cells ({ frames := 4, cells := 0, slots := 0, locals := 55 } : Room).slots) := by
  refine MetFree.of_bodySF (plainFor_of_name pn_331) hisR ?_
  intro p e s m args below meth c s₁ Bd hml0 hP hK
  obtain ⟨rfl, hZ, hh⟩ := hP
  have hx := Bd.exec
  have hby := Bd.bytes
  have hml : c.maxLocals = 4 := hml0
  have hown : s.vm.findClass "com/example/net30/net30/http/GzipEtagPinLaw" = some m.cls := findClass_of_methodNamed Bd.named
  have hnm := (name_of_methodNamed Bd.named Bd.method).1
  have X0 : Stand p l e ({ frames := 4, cells := 0, slots := 0, locals := 55 } : Room) s m #[(.ref a1), (.ref a2), (.int p3), (.int p4)] below meth c s₁ [] 0 0 := Stand.of_body Bd
  have e0 : s₁.heap = h0 := by rw [← hh, Bd.state]; rfl
  have N0 := Fr.nil Z.heap.size
  have Z0 : Z.heap.size ≤ h0.size := OL.2.1
  have lt_0 : @LT.lt Nat _ a1 h0.size := p0_.lt
  have ltv_0 : @LT.lt Nat _ t1 h0.size := p0_.ltv
  have lt_1 : @LT.lt Nat _ a2 h0.size := p1_.lt
  have ltv_1 : @LT.lt Nat _ t2 h0.size := p1_.ltv
  obtain ⟨PP, hPP⟩ : ∃ PP : Outcome → State → Prop, PP = (fun o tE => ∃ v L, o = .returned v ∧ Q_same Z a1 a2 p3 p4 i kk t1 rs t2 cs zc fm h0 v tE.heap L ∧ FrameEnd s o tE L ({ frames := 4, cells := 0, slots := 0, locals := 55 } : Room).cells ({ frames := 4, cells := 0, slots := 0, locals := 55 } : Room).slots) := ⟨_, rfl⟩
  show own_Go p.tables e below (fun o tE => ∃ v L, o = .returned v ∧ Q_same Z a1 a2 p3 p4 i kk t1 rs t2 cs zc fm h0 v tE.heap L ∧ FrameEnd s o tE L ({ frames := 4, cells := 0, slots := 0, locals := 55 } : Room).cells ({ frames := 4, cells := 0, slots := 0, locals := 55 } : Room).slots) (s₁.setTop (entryFrame m #[(.ref a1), (.ref a2), (.int p3), (.int p4)] 4))
  rw [← hPP]
  refine own_Go.st (fun t k => castTop (ef_39 m a1 a2 p3 p4) k) ?_
  subst hp3 hp4
  show own_Go _ _ _ _ (s₁.setTop (mkF m 0 #[.val (.ref a1), .val (.ref a2), .val (.int (Int32.ofNat i)), .val (.int (Int32.ofNat kk))] []))
  refine own_Go.st (fun _ k => XS.iloadN X0.here hx rfl (hb hby d_method_3_0) rfl k) ?_
  show own_Go _ _ _ _ (s₁.setTop (mkF m 1 #[.val (.ref a1), .val (.ref a2), .val (.int (Int32.ofNat i)), .val (.int (Int32.ofNat kk))] [(.int (Int32.ofNat i))]))
  refine own_Go.st (fun _ k => XS.iloadN X0.here hx rfl (hb hby d_method_3_1) rfl k) ?_
  show own_Go _ _ _ _ (s₁.setTop (mkF m 2 #[.val (.ref a1), .val (.ref a2), .val (.int (Int32.ofNat i)), .val (.int (Int32.ofNat kk))] [(.int (Int32.ofNat kk)), (.int (Int32.ofNat i))]))
  by_cases h2 : (Int32.ofNat i) < (Int32.ofNat kk)
  ·
    refine own_Go.st (fun _ k => XS.icmpNo X0.here hx rfl (hb hby d_method_3_2) rfl (tlt h2).2.1 k) ?_
    show own_Go _ _ _ _ (s₁.setTop (mkF m 5 #[.val (.ref a1), .val (.ref a2), .val (.int (Int32.ofNat i)), .val (.int (Int32.ofNat kk))] []))
    have hq := hs ((own_oflt (by omega) (by omega)).mp h2)
    refine own_Go.st (fun _ k => XS.aloadN X0.here hx rfl (hb hby d_method_3_5) rfl rfl k) ?_
    show own_Go _ _ _ _ (s₁.setTop (mkF m 6 #[.val (.ref a1), .val (.ref a2), .val (.int (Int32.ofNat i)), .val (.int (Int32.ofNat kk))] [(.ref a1)]))
    refine own_Go.st (fun _ k => XS.iloadN X0.here hx rfl (hb hby d_method_3_6) rfl k) ?_
    show own_Go _ _ _ _ (s₁.setTop (mkF m 7 #[.val (.ref a1), .val (.ref a2), .val (.int (Int32.ofNat i)), .val (.int (Int32.ofNat kk))] [(.int (Int32.ofNat i)), (.ref a1)]))
    obtain ⟨kb819, N819_, vs819, s1819, s2819, s3819, s4819, s5819⟩ := own_Str.lat p0_ (fun c q => (hl1 c q).2)
    obtain ⟨cq818, kq818, q818a, q818b, q818c⟩ := isOf hZ e0 p0_.exa
    obtain ⟨_, _, ⟨T818, L818, k818, n818⟩, -, X818, ⟨Lc818, hQ818, l818, y818, z818⟩, st818⟩ := X0.virtualBack hx (y := (⟨"java/lang/String", "charAt", "(I)C"⟩ : MethodName)) (z := (⟨"java/lang/String", "charAt", "(I)C"⟩ : MethodName)) hown (mvT hZ (hw _ (List.mem_of_getElem? (i := 186) rfl))) (mvT hZ (hw _ (List.mem_of_getElem? (i := 187) rfl))) (notFace_of_selects (args := #[]) (mvT hZ (hw _ (List.mem_of_getElem? (i := 189) rfl)))) (mvT hZ (hw _ (List.mem_of_getElem? (i := 189) rfl))) (mvT hZ (hw _ (List.mem_of_getElem? (i := 188) rfl))) (by decide) (StrChars.Road.chN (W := 0) hZ (own_hch hw) (kI := 4) (hw _ (List.mem_of_getElem? (i := 5) rfl)) s1819 s2819 s3819 s4819 s5819 p0_.rng (st_COMPACT_STRINGS.ext OL.2) hzc (st_SIOOBE_FORMATTER.ext OL.2) hfm p0_.le (i := i) hq.1 (j := (Int32.ofNat i)) rfl (by decide) (by decide)) q818a q818c (g := (mkF m 7 #[.val (.ref a1), .val (.ref a2), .val (.int (Int32.ofNat i)), .val (.int (Int32.ofNat kk))] [(.int (Int32.ofNat i)), (.ref a1)])) rfl (by rw [hml]; rfl) (Steps.refl _) (argsL := [(.int (Int32.ofNat i))]) (rest := []) (lenOf pd_549 rfl) rfl (by show 2 * 0 + _ ≤ _; exact Nat.le_of_eq rfl) (hb hby d_method_3_7) (fun _ _ => ⟨rfl, e0, (by decide : 0 + 0 ≤ _), (by decide : 0 + 0 ≤ _)⟩)
    dsimp only [Pt.U, Pt.locs, Pt.cells, Pt.slots] at X818 l818 y818 z818 st818 hQ818
    subst l818 y818 z818
    obtain ⟨rfl, rfl, K818⟩ := hQ818
    have N818 := Fr.app N0 (Fr.nil Z.heap.size)
    refine own_Go.tr st818 ?_
    show own_Go _ _ _ _ (T818.setTop (mkF m 10 #[.val (.ref a1), .val (.ref a2), .val (.int (Int32.ofNat i)), .val (.int (Int32.ofNat kk))] [(.int (rs.getD i 0))]))
    refine own_Go.st (fun _ k => XS.aloadN X818.here hx rfl (hb hby d_method_3_10) rfl rfl k) ?_
    show own_Go _ _ _ _ (T818.setTop (mkF m 11 #[.val (.ref a1), .val (.ref a2), .val (.int (Int32.ofNat i)), .val (.int (Int32.ofNat kk))] [(.ref a2), (.int (rs.getD i 0))]))
    refine own_Go.st (fun _ k => XS.iloadN X818.here hx rfl (hb hby d_method_3_11) rfl k) ?_
    show own_Go _ _ _ _ (T818.setTop (mkF m 12 #[.val (.ref a1), .val (.ref a2), .val (.int (Int32.ofNat i)), .val (.int (Int32.ofNat kk))] [(.int (Int32.ofNat i)), (.ref a2), (.int (rs.getD i 0))]))
    obtain ⟨kb821, N821_, vs821, s1821, s2821, s3821, s4821, s5821⟩ := own_Str.lat p1_ (fun c q => (hl2 c q).2)
    obtain ⟨cq820, kq820, q820a, q820b, q820c⟩ := isOf hZ K818 p1_.exa
    obtain ⟨_, _, ⟨T820, L820, k820, n820⟩, -, X820, ⟨Lc820, hQ820, l820, y820, z820⟩, st820⟩ := X818.virtualBack hx (y := (⟨"java/lang/String", "charAt", "(I)C"⟩ : MethodName)) (z := (⟨"java/lang/String", "charAt", "(I)C"⟩ : MethodName)) hown (mvT hZ (hw _ (List.mem_of_getElem? (i := 186) rfl))) (mvT hZ (hw _ (List.mem_of_getElem? (i := 187) rfl))) (notFace_of_selects (args := #[]) (mvT hZ (hw _ (List.mem_of_getElem? (i := 189) rfl)))) (mvT hZ (hw _ (List.mem_of_getElem? (i := 189) rfl))) (mvT hZ (hw _ (List.mem_of_getElem? (i := 188) rfl))) (by decide) (StrChars.Road.chN (W := 1) hZ (own_hch hw) (kI := 4) (hw _ (List.mem_of_getElem? (i := 5) rfl)) s1821 s2821 s3821 s4821 s5821 p1_.rng (st_COMPACT_STRINGS.ext OL.2) hzc (st_SIOOBE_FORMATTER.ext OL.2) hfm p1_.le (i := i) hq.2.1 (j := (Int32.ofNat i)) rfl (by decide) (by decide)) q820a q820c (g := (mkF m 12 #[.val (.ref a1), .val (.ref a2), .val (.int (Int32.ofNat i)), .val (.int (Int32.ofNat kk))] [(.int (Int32.ofNat i)), (.ref a2), (.int (rs.getD i 0))])) rfl (by rw [hml]; rfl) (Steps.refl _) (argsL := [(.int (Int32.ofNat i))]) (rest := [(.int (rs.getD i 0))]) (lenOf pd_549 rfl) rfl (by show 2 * 0 + _ ≤ _; exact Nat.le_of_eq rfl) (hb hby d_method_3_12) (fun _ _ => ⟨rfl, K818, (by decide : 0 + 0 ≤ _), (by decide : 0 + 0 ≤ _)⟩)
    dsimp only [Pt.U, Pt.locs, Pt.cells, Pt.slots] at X820 l820 y820 z820 st820 hQ820
    subst l820 y820 z820
    obtain ⟨rfl, rfl, K820⟩ := hQ820
    have N820 := Fr.app N818 (Fr.nil Z.heap.size)
    refine own_Go.tr st820 ?_
    show own_Go _ _ _ _ (T820.setTop (mkF m 15 #[.val (.ref a1), .val (.ref a2), .val (.int (Int32.ofNat i)), .val (.int (Int32.ofNat kk))] [(.int (cs.getD i 0)), (.int (rs.getD i 0))]))
    have hc822 : (rs.getD i 0) = (cs.getD i 0) := hq.2.2
    refine own_Go.st (fun _ k => XS.icmpNo X820.here hx rfl (hb hby d_method_3_15) rfl (teq hc822).2 k) ?_
    show own_Go _ _ _ _ (T820.setTop (mkF m 18 #[.val (.ref a1), .val (.ref a2), .val (.int (Int32.ofNat i)), .val (.int (Int32.ofNat kk))] []))
    refine own_Go.st (fun _ k => XS.iconst X820.here hx rfl (hb hby d_method_3_18) k) ?_
    show own_Go _ _ _ _ (T820.setTop (mkF m 19 #[.val (.ref a1), .val (.ref a2), .val (.int (Int32.ofNat i)), .val (.int (Int32.ofNat kk))] [(.int (1 : Int32))]))
    refine own_Go.st (fun _ k => XS.goto X820.here hx rfl (pc0 := 19) (pc' := 23) rfl (hb hby d_method_3_19) (by decide) (by decide) k) ?_
    show own_Go _ _ _ _ (T820.setTop (mkF m 23 #[.val (.ref a1), .val (.ref a2), .val (.int (Int32.ofNat i)), .val (.int (Int32.ofNat kk))] [(.int (1 : Int32))]))
    obtain ⟨fs823, hr823, hrun823, hend823, hW823, hsm823⟩ := X820.leave (v := some (.int (nar .boolean (1 : Int32)))) (fun h => by rw [Bd.returns] at h; cases h)
    subst hPP
    refine ⟨_, _, retN X820 hx (t := .boolean) Bd.returns (by simp) (hb hby d_method_3_23) hr823, hrun823, hend823, _, _, rfl, ?_, ⟨_, rfl⟩, hW823, hsm823.mono (by decide) (by decide)⟩
    · show Q_same Z _ _ _ _ _ _ _ _ _ _ _ _ h0 _ T820.heap _
      rw [K820]
      exact ⟨rfl, N820, rfl⟩
  ·
    refine own_Go.st (fun _ k => XS.icmpYes X0.here hx rfl (pc0 := 2) (pc' := 18) rfl (hb hby d_method_3_2) rfl (flt h2).2.1 (by decide) (by decide) k) ?_
    show own_Go _ _ _ _ (s₁.setTop (mkF m 18 #[.val (.ref a1), .val (.ref a2), .val (.int (Int32.ofNat i)), .val (.int (Int32.ofNat kk))] []))
    refine own_Go.st (fun _ k => XS.iconst X0.here hx rfl (hb hby d_method_3_18) k) ?_
    show own_Go _ _ _ _ (s₁.setTop (mkF m 19 #[.val (.ref a1), .val (.ref a2), .val (.int (Int32.ofNat i)), .val (.int (Int32.ofNat kk))] [(.int (1 : Int32))]))
    refine own_Go.st (fun _ k => XS.goto X0.here hx rfl (pc0 := 19) (pc' := 23) rfl (hb hby d_method_3_19) (by decide) (by decide) k) ?_
    show own_Go _ _ _ _ (s₁.setTop (mkF m 23 #[.val (.ref a1), .val (.ref a2), .val (.int (Int32.ofNat i)), .val (.int (Int32.ofNat kk))] [(.int (1 : Int32))]))
    obtain ⟨fs824, hr824, hrun824, hend824, hW824, hsm824⟩ := X0.leave (v := some (.int (nar .boolean (1 : Int32)))) (fun h => by rw [Bd.returns] at h; cases h)
    subst hPP
    refine ⟨_, _, retN X0 hx (t := .boolean) Bd.returns (by simp) (hb hby d_method_3_23) hr824, hrun824, hend824, _, _, rfl, ?_, ⟨_, rfl⟩, hW824, hsm824.mono (by decide) (by decide)⟩
    · show Q_same Z _ _ _ _ _ _ _ _ _ _ _ _ h0 _ s₁.heap _
      rw [e0]
      exact ⟨rfl, N0, rfl⟩
theorem ef_558 (m : MethodId) (x0 : Int32) (x1 : Int32) (x2 : Int32) (x3 : Int32) : entryFrame m #[(.int x0), (.int x1), (.int x2), (.int x3)] maxLocals = mkF m 0 #[.val (.int x0), .val (.int x1), .val (.int x2), .val (.int x3), .unset, .unset, .unset, .unset, .unset, .unset, .unset, .unset, .unset] [] := by first | (simp [entryFrame, mkF, argsToLocals, Value.category, maxLocals]; done) | rfl
theorem pd_559 : parseMethodDescriptor "(ZICCC)Ljava/lang/String;" = some ⟨[.boolean, .int, .char, .char, .char], some (.object "java/lang/String")⟩ := by decide +kernel
theorem pd_560 : parseMethodDescriptor "(Ljava/lang/String;)Ljava/lang/String;" = some ⟨[(.object "java/lang/String")], some (.object "java/lang/String")⟩ := by decide +kernel
theorem pd_561 : parseMethodDescriptor "(Ljava/lang/String;Ljava/lang/String;II)Z" = some ⟨[(.object "java/lang/String"), (.object "java/lang/String"), .int, .int], some .boolean⟩ := by decide +kernel
def Q_law (Z : State) (p1 : Int32) (p2 : Int32) (p3 : Int32) (p4 : Int32) (zc : Int32) (fm : Value) (h0 : Heap) (v : Option Value) (h : Heap) (L : List Loc) : Prop := v = some (.int (1 : Int32)) ∧ Fr Z.heap.size L ∧ Keep h0 h []
set_option maxRecDepth 65536 in
set_option maxHeartbeats 40000000 in
theorem rm_law (l : Launch) (Z : State) (a0 : Array Value) (hw : ∀ d ∈ tables_1, d.before a0 Z = true) (ws : List Jvm.Cond) (p1 : Int32) (p2 : Int32) (p3 : Int32) (p4 : Int32) (zc : Int32) (fm : Value) (h0 : Heap) (hEL : EW Z a0 consts_1) (OL : Old Z Z.heap.size h0) (st_COMPACT_STRINGS : Sta Z Z.heap "java/lang/String" "COMPACT_STRINGS" "Z" (.int zc)) (st_SIOOBE_FORMATTER : Sta Z Z.heap "jdk/internal/util/Preconditions" "SIOOBE_FORMATTER" "Ljava/util/function/BiFunction;" fm) (hzc : ¬ zc = 0) (hfm : fm.isRef = true) :
    MetFree l x (head1 (Jvm.Cond.code x code maxLocals ret :: ws) room_1) (fun a U => a = #[(.int p1), (.int p2), (.int p3), (.int p4)] ∧ Z.Warmed39 U.vm ∧ U.heap = h0 ∧ CHv Z consts_1 U.vm h0) (fun _ _ _ _ _ => True) (fun _ U o U' => ∃ v L, o = .returned v ∧ Q_law Z p1 p2 p3 p4 zc fm h0 v U'.heap L ∧ CHr Z consts_1 U.vm U.heap U'.vm U'.heap ∧ ReturnedEndW U o U' L 32 3328) := by
  refine MetFree.of_bodySF (plainFor_of_name pn_331) hisR ?_
  intro p e s m args below meth c s₁ Bd hml0 hP hK
  obtain ⟨rfl, hZ, hh, hC0⟩ := hP
  have hx := Bd.exec
  have hby := Bd.bytes
  have hml : c.maxLocals = 13 := hml0
  have hown : s.vm.findClass "com/example/net30/net30/http/GzipEtagPinLaw" = some m.cls := findClass_of_methodNamed Bd.named
  have hnm := (name_of_methodNamed Bd.named Bd.method).1
  have X0 : Stand p l e room_1 (s.setVm s.vm) m #[(.int p1), (.int p2), (.int p3), (.int p4)] below meth c s₁ [] 0 0 := Stand.of_body Bd
  have e0 : s₁.heap = h0 := by rw [← hh, Bd.state]; rfl
  have N0 := Fr.nil Z.heap.size
  have Z0 : Z.heap.size ≤ h0.size := OL.2.1
  have hS0 : s.Since s.vm h0.size := (State.WarmedH.refl s).since _
  have wS := own_wS hw
  have R0 : CHr Z consts_1 s.vm h0 s.vm h0 := CHr.refl hC0
  obtain ⟨PP, hPP⟩ : ∃ PP : Outcome → State → Prop, PP = (fun o tE => ∃ v L, o = .returned v ∧ Q_law Z p1 p2 p3 p4 zc fm h0 v tE.heap L ∧ CHr Z consts_1 s.vm s.heap tE.vm tE.heap ∧ ReturnedEndW s o tE L 32 3328) := ⟨_, rfl⟩
  show own_Go p.tables e below (fun o tE => ∃ v L, o = .returned v ∧ Q_law Z p1 p2 p3 p4 zc fm h0 v tE.heap L ∧ CHr Z consts_1 s.vm s.heap tE.vm tE.heap ∧ ReturnedEndW s o tE L 32 3328) (s₁.setTop (entryFrame m #[(.int p1), (.int p2), (.int p3), (.int p4)] maxLocals))
  rw [← hPP]
  refine own_Go.st (fun t k => castTop (ef_558 m p1 p2 p3 p4) k) ?_
  show own_Go _ _ _ _ (s₁.setTop (mkF m 0 #[.val (.int p1), .val (.int p2), .val (.int p3), .val (.int p4), .unset, .unset, .unset, .unset, .unset, .unset, .unset, .unset, .unset] []))
  have J825 : ∀ (g4 : Int32), (True) → own_Go p.tables e below PP (s₁.setTop (mkF m 11 #[.val (.int p1), .val (.int p2), .val (.int p3), .val (.int p4), .unset, .unset, .unset, .unset, .unset, .unset, .unset, .unset, .unset] [(.int g4)])) := by
    intro g4 hJ825
    refine own_Go.st (fun _ k => XS.istore X0.here hx rfl (hb hby at_11) rfl (l' := #[.val (.int p1), .val (.int p2), .val (.int p3), .val (.int p4), .val (.int g4), .unset, .unset, .unset, .unset, .unset, .unset, .unset, .unset]) rfl k) ?_
    show own_Go _ _ _ _ (s₁.setTop (mkF m 13 #[.val (.int p1), .val (.int p2), .val (.int p3), .val (.int p4), .val (.int g4), .unset, .unset, .unset, .unset, .unset, .unset, .unset, .unset] []))
    refine own_Go.st (fun _ k => XS.iloadN X0.here hx rfl (hb hby at_13) rfl k) ?_
    show own_Go _ _ _ _ (s₁.setTop (mkF m 14 #[.val (.int p1), .val (.int p2), .val (.int p3), .val (.int p4), .val (.int g4), .unset, .unset, .unset, .unset, .unset, .unset, .unset, .unset] [(.int p4)]))
    refine own_Go.st (fun _ k => XS.iconst X0.here hx rfl (hb hby at_14) k) ?_
    show own_Go _ _ _ _ (s₁.setTop (mkF m 15 #[.val (.int p1), .val (.int p2), .val (.int p3), .val (.int p4), .val (.int g4), .unset, .unset, .unset, .unset, .unset, .unset, .unset, .unset] [(.int (1 : Int32)), (.int p4)]))
    refine own_Go.st (fun _ k => XS.iushr X0.here hx rfl (hb hby at_15) rfl k) ?_
    show own_Go _ _ _ _ (s₁.setTop (mkF m 16 #[.val (.int p1), .val (.int p2), .val (.int p3), .val (.int p4), .val (.int g4), .unset, .unset, .unset, .unset, .unset, .unset, .unset, .unset] [(.int ((p4.toUInt32 >>> ((1 : Int32) &&& 31).toUInt32).toInt32))]))
    refine own_Go.st (fun _ k => XS.iconst X0.here hx rfl (hb hby at_16) k) ?_
    show own_Go _ _ _ _ (s₁.setTop (mkF m 17 #[.val (.int p1), .val (.int p2), .val (.int p3), .val (.int p4), .val (.int g4), .unset, .unset, .unset, .unset, .unset, .unset, .unset, .unset] [(.int (3 : Int32)), (.int ((p4.toUInt32 >>> ((1 : Int32) &&& 31).toUInt32).toInt32))]))
    refine own_Go.st (fun _ k => XS.iand X0.here hx rfl (hb hby at_17) rfl k) ?_
    show own_Go _ _ _ _ (s₁.setTop (mkF m 18 #[.val (.int p1), .val (.int p2), .val (.int p3), .val (.int p4), .val (.int g4), .unset, .unset, .unset, .unset, .unset, .unset, .unset, .unset] [(.int (((p4.toUInt32 >>> ((1 : Int32) &&& 31).toUInt32).toInt32) &&& (3 : Int32)))]))
    refine own_Go.st (fun _ k => XS.istore X0.here hx rfl (hb hby at_18) rfl (l' := #[.val (.int p1), .val (.int p2), .val (.int p3), .val (.int p4), .val (.int g4), .val (.int (((p4.toUInt32 >>> ((1 : Int32) &&& 31).toUInt32).toInt32) &&& (3 : Int32))), .unset, .unset, .unset, .unset, .unset, .unset, .unset]) rfl k) ?_
    show own_Go _ _ _ _ (s₁.setTop (mkF m 20 #[.val (.int p1), .val (.int p2), .val (.int p3), .val (.int p4), .val (.int g4), .val (.int (((p4.toUInt32 >>> ((1 : Int32) &&& 31).toUInt32).toInt32) &&& (3 : Int32))), .unset, .unset, .unset, .unset, .unset, .unset, .unset] []))
    refine own_Go.st (fun _ k => XS.iloadN X0.here hx rfl (hb hby at_20) rfl k) ?_
    show own_Go _ _ _ _ (s₁.setTop (mkF m 21 #[.val (.int p1), .val (.int p2), .val (.int p3), .val (.int p4), .val (.int g4), .val (.int (((p4.toUInt32 >>> ((1 : Int32) &&& 31).toUInt32).toInt32) &&& (3 : Int32))), .unset, .unset, .unset, .unset, .unset, .unset, .unset] [(.int p1)]))
    refine own_Go.st (fun _ k => XS.sipush X0.here hx rfl (hb hby at_21) k) ?_
    show own_Go _ _ _ _ (s₁.setTop (mkF m 24 #[.val (.int p1), .val (.int p2), .val (.int p3), .val (.int p4), .val (.int g4), .val (.int (((p4.toUInt32 >>> ((1 : Int32) &&& 31).toUInt32).toInt32) &&& (3 : Int32))), .unset, .unset, .unset, .unset, .unset, .unset, .unset] [(.int (255 : Int32)), (.int p1)]))
    refine own_Go.st (fun _ k => XS.iand X0.here hx rfl (hb hby at_24) rfl k) ?_
    show own_Go _ _ _ _ (s₁.setTop (mkF m 25 #[.val (.int p1), .val (.int p2), .val (.int p3), .val (.int p4), .val (.int g4), .val (.int (((p4.toUInt32 >>> ((1 : Int32) &&& 31).toUInt32).toInt32) &&& (3 : Int32))), .unset, .unset, .unset, .unset, .unset, .unset, .unset] [(.int (p1 &&& (255 : Int32)))]))
    refine own_Go.st (fun _ k => XS.i2c X0.here hx rfl (hb hby at_25) rfl k) ?_
    show own_Go _ _ _ _ (s₁.setTop (mkF m 26 #[.val (.int p1), .val (.int p2), .val (.int p3), .val (.int p4), .val (.int g4), .val (.int (((p4.toUInt32 >>> ((1 : Int32) &&& 31).toUInt32).toInt32) &&& (3 : Int32))), .unset, .unset, .unset, .unset, .unset, .unset, .unset] [(.int ((p1 &&& (255 : Int32)).toUInt32.toUInt16.toUInt32.toInt32))]))
    refine own_Go.st (fun _ k => XS.istore X0.here hx rfl (hb hby at_26) rfl (l' := #[.val (.int p1), .val (.int p2), .val (.int p3), .val (.int p4), .val (.int g4), .val (.int (((p4.toUInt32 >>> ((1 : Int32) &&& 31).toUInt32).toInt32) &&& (3 : Int32))), .val (.int ((p1 &&& (255 : Int32)).toUInt32.toUInt16.toUInt32.toInt32)), .unset, .unset, .unset, .unset, .unset, .unset]) rfl k) ?_
    show own_Go _ _ _ _ (s₁.setTop (mkF m 28 #[.val (.int p1), .val (.int p2), .val (.int p3), .val (.int p4), .val (.int g4), .val (.int (((p4.toUInt32 >>> ((1 : Int32) &&& 31).toUInt32).toInt32) &&& (3 : Int32))), .val (.int ((p1 &&& (255 : Int32)).toUInt32.toUInt16.toUInt32.toInt32)), .unset, .unset, .unset, .unset, .unset, .unset] []))
    refine own_Go.st (fun _ k => XS.iloadN X0.here hx rfl (hb hby at_28) rfl k) ?_
    show own_Go _ _ _ _ (s₁.setTop (mkF m 29 #[.val (.int p1), .val (.int p2), .val (.int p3), .val (.int p4), .val (.int g4), .val (.int (((p4.toUInt32 >>> ((1 : Int32) &&& 31).toUInt32).toInt32) &&& (3 : Int32))), .val (.int ((p1 &&& (255 : Int32)).toUInt32.toUInt16.toUInt32.toInt32)), .unset, .unset, .unset, .unset, .unset, .unset] [(.int p2)]))
    refine own_Go.st (fun _ k => XS.sipush X0.here hx rfl (hb hby at_29) k) ?_
    show own_Go _ _ _ _ (s₁.setTop (mkF m 32 #[.val (.int p1), .val (.int p2), .val (.int p3), .val (.int p4), .val (.int g4), .val (.int (((p4.toUInt32 >>> ((1 : Int32) &&& 31).toUInt32).toInt32) &&& (3 : Int32))), .val (.int ((p1 &&& (255 : Int32)).toUInt32.toUInt16.toUInt32.toInt32)), .unset, .unset, .unset, .unset, .unset, .unset] [(.int (255 : Int32)), (.int p2)]))
    refine own_Go.st (fun _ k => XS.iand X0.here hx rfl (hb hby at_32) rfl k) ?_
    show own_Go _ _ _ _ (s₁.setTop (mkF m 33 #[.val (.int p1), .val (.int p2), .val (.int p3), .val (.int p4), .val (.int g4), .val (.int (((p4.toUInt32 >>> ((1 : Int32) &&& 31).toUInt32).toInt32) &&& (3 : Int32))), .val (.int ((p1 &&& (255 : Int32)).toUInt32.toUInt16.toUInt32.toInt32)), .unset, .unset, .unset, .unset, .unset, .unset] [(.int (p2 &&& (255 : Int32)))]))
    refine own_Go.st (fun _ k => XS.i2c X0.here hx rfl (hb hby at_33) rfl k) ?_
    show own_Go _ _ _ _ (s₁.setTop (mkF m 34 #[.val (.int p1), .val (.int p2), .val (.int p3), .val (.int p4), .val (.int g4), .val (.int (((p4.toUInt32 >>> ((1 : Int32) &&& 31).toUInt32).toInt32) &&& (3 : Int32))), .val (.int ((p1 &&& (255 : Int32)).toUInt32.toUInt16.toUInt32.toInt32)), .unset, .unset, .unset, .unset, .unset, .unset] [(.int ((p2 &&& (255 : Int32)).toUInt32.toUInt16.toUInt32.toInt32))]))
    refine own_Go.st (fun _ k => XS.istore X0.here hx rfl (hb hby at_34) rfl (l' := #[.val (.int p1), .val (.int p2), .val (.int p3), .val (.int p4), .val (.int g4), .val (.int (((p4.toUInt32 >>> ((1 : Int32) &&& 31).toUInt32).toInt32) &&& (3 : Int32))), .val (.int ((p1 &&& (255 : Int32)).toUInt32.toUInt16.toUInt32.toInt32)), .val (.int ((p2 &&& (255 : Int32)).toUInt32.toUInt16.toUInt32.toInt32)), .unset, .unset, .unset, .unset, .unset]) rfl k) ?_
    show own_Go _ _ _ _ (s₁.setTop (mkF m 36 #[.val (.int p1), .val (.int p2), .val (.int p3), .val (.int p4), .val (.int g4), .val (.int (((p4.toUInt32 >>> ((1 : Int32) &&& 31).toUInt32).toInt32) &&& (3 : Int32))), .val (.int ((p1 &&& (255 : Int32)).toUInt32.toUInt16.toUInt32.toInt32)), .val (.int ((p2 &&& (255 : Int32)).toUInt32.toUInt16.toUInt32.toInt32)), .unset, .unset, .unset, .unset, .unset] []))
    refine own_Go.st (fun _ k => XS.iloadN X0.here hx rfl (hb hby at_36) rfl k) ?_
    show own_Go _ _ _ _ (s₁.setTop (mkF m 37 #[.val (.int p1), .val (.int p2), .val (.int p3), .val (.int p4), .val (.int g4), .val (.int (((p4.toUInt32 >>> ((1 : Int32) &&& 31).toUInt32).toInt32) &&& (3 : Int32))), .val (.int ((p1 &&& (255 : Int32)).toUInt32.toUInt16.toUInt32.toInt32)), .val (.int ((p2 &&& (255 : Int32)).toUInt32.toUInt16.toUInt32.toInt32)), .unset, .unset, .unset, .unset, .unset] [(.int p3)]))
    refine own_Go.st (fun _ k => XS.sipush X0.here hx rfl (hb hby at_37) k) ?_
    show own_Go _ _ _ _ (s₁.setTop (mkF m 40 #[.val (.int p1), .val (.int p2), .val (.int p3), .val (.int p4), .val (.int g4), .val (.int (((p4.toUInt32 >>> ((1 : Int32) &&& 31).toUInt32).toInt32) &&& (3 : Int32))), .val (.int ((p1 &&& (255 : Int32)).toUInt32.toUInt16.toUInt32.toInt32)), .val (.int ((p2 &&& (255 : Int32)).toUInt32.toUInt16.toUInt32.toInt32)), .unset, .unset, .unset, .unset, .unset] [(.int (255 : Int32)), (.int p3)]))
    refine own_Go.st (fun _ k => XS.iand X0.here hx rfl (hb hby at_40) rfl k) ?_
    show own_Go _ _ _ _ (s₁.setTop (mkF m 41 #[.val (.int p1), .val (.int p2), .val (.int p3), .val (.int p4), .val (.int g4), .val (.int (((p4.toUInt32 >>> ((1 : Int32) &&& 31).toUInt32).toInt32) &&& (3 : Int32))), .val (.int ((p1 &&& (255 : Int32)).toUInt32.toUInt16.toUInt32.toInt32)), .val (.int ((p2 &&& (255 : Int32)).toUInt32.toUInt16.toUInt32.toInt32)), .unset, .unset, .unset, .unset, .unset] [(.int (p3 &&& (255 : Int32)))]))
    refine own_Go.st (fun _ k => XS.i2c X0.here hx rfl (hb hby at_41) rfl k) ?_
    show own_Go _ _ _ _ (s₁.setTop (mkF m 42 #[.val (.int p1), .val (.int p2), .val (.int p3), .val (.int p4), .val (.int g4), .val (.int (((p4.toUInt32 >>> ((1 : Int32) &&& 31).toUInt32).toInt32) &&& (3 : Int32))), .val (.int ((p1 &&& (255 : Int32)).toUInt32.toUInt16.toUInt32.toInt32)), .val (.int ((p2 &&& (255 : Int32)).toUInt32.toUInt16.toUInt32.toInt32)), .unset, .unset, .unset, .unset, .unset] [(.int ((p3 &&& (255 : Int32)).toUInt32.toUInt16.toUInt32.toInt32))]))
    refine own_Go.st (fun _ k => XS.istore X0.here hx rfl (hb hby at_42) rfl (l' := #[.val (.int p1), .val (.int p2), .val (.int p3), .val (.int p4), .val (.int g4), .val (.int (((p4.toUInt32 >>> ((1 : Int32) &&& 31).toUInt32).toInt32) &&& (3 : Int32))), .val (.int ((p1 &&& (255 : Int32)).toUInt32.toUInt16.toUInt32.toInt32)), .val (.int ((p2 &&& (255 : Int32)).toUInt32.toUInt16.toUInt32.toInt32)), .val (.int ((p3 &&& (255 : Int32)).toUInt32.toUInt16.toUInt32.toInt32)), .unset, .unset, .unset, .unset]) rfl k) ?_
    show own_Go _ _ _ _ (s₁.setTop (mkF m 44 #[.val (.int p1), .val (.int p2), .val (.int p3), .val (.int p4), .val (.int g4), .val (.int (((p4.toUInt32 >>> ((1 : Int32) &&& 31).toUInt32).toInt32) &&& (3 : Int32))), .val (.int ((p1 &&& (255 : Int32)).toUInt32.toUInt16.toUInt32.toInt32)), .val (.int ((p2 &&& (255 : Int32)).toUInt32.toUInt16.toUInt32.toInt32)), .val (.int ((p3 &&& (255 : Int32)).toUInt32.toUInt16.toUInt32.toInt32)), .unset, .unset, .unset, .unset] []))
    refine own_Go.st (fun _ k => XS.iload X0.here hx rfl (hb hby at_44) rfl k) ?_
    show own_Go _ _ _ _ (s₁.setTop (mkF m 46 #[.val (.int p1), .val (.int p2), .val (.int p3), .val (.int p4), .val (.int g4), .val (.int (((p4.toUInt32 >>> ((1 : Int32) &&& 31).toUInt32).toInt32) &&& (3 : Int32))), .val (.int ((p1 &&& (255 : Int32)).toUInt32.toUInt16.toUInt32.toInt32)), .val (.int ((p2 &&& (255 : Int32)).toUInt32.toUInt16.toUInt32.toInt32)), .val (.int ((p3 &&& (255 : Int32)).toUInt32.toUInt16.toUInt32.toInt32)), .unset, .unset, .unset, .unset] [(.int g4)]))
    refine own_Go.st (fun _ k => XS.iload X0.here hx rfl (hb hby at_46) rfl k) ?_
    show own_Go _ _ _ _ (s₁.setTop (mkF m 48 #[.val (.int p1), .val (.int p2), .val (.int p3), .val (.int p4), .val (.int g4), .val (.int (((p4.toUInt32 >>> ((1 : Int32) &&& 31).toUInt32).toInt32) &&& (3 : Int32))), .val (.int ((p1 &&& (255 : Int32)).toUInt32.toUInt16.toUInt32.toInt32)), .val (.int ((p2 &&& (255 : Int32)).toUInt32.toUInt16.toUInt32.toInt32)), .val (.int ((p3 &&& (255 : Int32)).toUInt32.toUInt16.toUInt32.toInt32)), .unset, .unset, .unset, .unset] [(.int (((p4.toUInt32 >>> ((1 : Int32) &&& 31).toUInt32).toInt32) &&& (3 : Int32))), (.int g4)]))
    refine own_Go.st (fun _ k => XS.iload X0.here hx rfl (hb hby at_48) rfl k) ?_
    show own_Go _ _ _ _ (s₁.setTop (mkF m 50 #[.val (.int p1), .val (.int p2), .val (.int p3), .val (.int p4), .val (.int g4), .val (.int (((p4.toUInt32 >>> ((1 : Int32) &&& 31).toUInt32).toInt32) &&& (3 : Int32))), .val (.int ((p1 &&& (255 : Int32)).toUInt32.toUInt16.toUInt32.toInt32)), .val (.int ((p2 &&& (255 : Int32)).toUInt32.toUInt16.toUInt32.toInt32)), .val (.int ((p3 &&& (255 : Int32)).toUInt32.toUInt16.toUInt32.toInt32)), .unset, .unset, .unset, .unset] [(.int ((p1 &&& (255 : Int32)).toUInt32.toUInt16.toUInt32.toInt32)), (.int (((p4.toUInt32 >>> ((1 : Int32) &&& 31).toUInt32).toInt32) &&& (3 : Int32))), (.int g4)]))
    refine own_Go.st (fun _ k => XS.iload X0.here hx rfl (hb hby at_50) rfl k) ?_
    show own_Go _ _ _ _ (s₁.setTop (mkF m 52 #[.val (.int p1), .val (.int p2), .val (.int p3), .val (.int p4), .val (.int g4), .val (.int (((p4.toUInt32 >>> ((1 : Int32) &&& 31).toUInt32).toInt32) &&& (3 : Int32))), .val (.int ((p1 &&& (255 : Int32)).toUInt32.toUInt16.toUInt32.toInt32)), .val (.int ((p2 &&& (255 : Int32)).toUInt32.toUInt16.toUInt32.toInt32)), .val (.int ((p3 &&& (255 : Int32)).toUInt32.toUInt16.toUInt32.toInt32)), .unset, .unset, .unset, .unset] [(.int ((p2 &&& (255 : Int32)).toUInt32.toUInt16.toUInt32.toInt32)), (.int ((p1 &&& (255 : Int32)).toUInt32.toUInt16.toUInt32.toInt32)), (.int (((p4.toUInt32 >>> ((1 : Int32) &&& 31).toUInt32).toInt32) &&& (3 : Int32))), (.int g4)]))
    refine own_Go.st (fun _ k => XS.iload X0.here hx rfl (hb hby at_52) rfl k) ?_
    show own_Go _ _ _ _ (s₁.setTop (mkF m 54 #[.val (.int p1), .val (.int p2), .val (.int p3), .val (.int p4), .val (.int g4), .val (.int (((p4.toUInt32 >>> ((1 : Int32) &&& 31).toUInt32).toInt32) &&& (3 : Int32))), .val (.int ((p1 &&& (255 : Int32)).toUInt32.toUInt16.toUInt32.toInt32)), .val (.int ((p2 &&& (255 : Int32)).toUInt32.toUInt16.toUInt32.toInt32)), .val (.int ((p3 &&& (255 : Int32)).toUInt32.toUInt16.toUInt32.toInt32)), .unset, .unset, .unset, .unset] [(.int ((p3 &&& (255 : Int32)).toUInt32.toUInt16.toUInt32.toInt32)), (.int ((p2 &&& (255 : Int32)).toUInt32.toUInt16.toUInt32.toInt32)), (.int ((p1 &&& (255 : Int32)).toUInt32.toUInt16.toUInt32.toInt32)), (.int (((p4.toUInt32 >>> ((1 : Int32) &&& 31).toUInt32).toInt32) &&& (3 : Int32))), (.int g4)]))
    obtain ⟨_, _, ⟨T826, L826, k826, n826⟩, -, X826, ⟨Lc826, hQ826, l826, y826, z826⟩, st826⟩ := Jvm.LawKit.callS X0 hx (y := (⟨"com/example/net30/net30/http/GzipEtagPinLaw", "tag", "(ZICCC)Ljava/lang/String;"⟩ : MethodName)) hown (mvT hZ (hw _ (List.mem_of_getElem? (i := 0) rfl))) (mvT hZ (hw _ (List.mem_of_getElem? (i := 1) rfl))) (mvT hZ (hw _ (List.mem_of_getElem? (i := 2) rfl))) (mvT hZ (hw _ (List.mem_of_getElem? (i := 3) rfl))) (by decide) (backOf (W := 0) (rm_tag l Z a0 hw [] g4 (((p4.toUInt32 >>> ((1 : Int32) &&& 31).toUInt32).toInt32) &&& (3 : Int32)) ((p1 &&& (255 : Int32)).toUInt32.toUInt16.toUInt32.toInt32) ((p2 &&& (255 : Int32)).toUInt32.toUInt16.toUInt32.toInt32) ((p3 &&& (255 : Int32)).toUInt32.toUInt16.toUInt32.toInt32) zc h0 OL st_COMPACT_STRINGS (by first | assumption | decide) (own_ch255 p1) (own_ch255 p2) (own_ch255 p3)) hZ (hw _ (List.mem_of_getElem? (i := 3) rfl)) (hw _ (List.mem_of_getElem? (i := 2) rfl)) (by decide) (by decide)) (g := (mkF m 54 #[.val (.int p1), .val (.int p2), .val (.int p3), .val (.int p4), .val (.int g4), .val (.int (((p4.toUInt32 >>> ((1 : Int32) &&& 31).toUInt32).toInt32) &&& (3 : Int32))), .val (.int ((p1 &&& (255 : Int32)).toUInt32.toUInt16.toUInt32.toInt32)), .val (.int ((p2 &&& (255 : Int32)).toUInt32.toUInt16.toUInt32.toInt32)), .val (.int ((p3 &&& (255 : Int32)).toUInt32.toUInt16.toUInt32.toInt32)), .unset, .unset, .unset, .unset] [(.int ((p3 &&& (255 : Int32)).toUInt32.toUInt16.toUInt32.toInt32)), (.int ((p2 &&& (255 : Int32)).toUInt32.toUInt16.toUInt32.toInt32)), (.int ((p1 &&& (255 : Int32)).toUInt32.toUInt16.toUInt32.toInt32)), (.int (((p4.toUInt32 >>> ((1 : Int32) &&& 31).toUInt32).toInt32) &&& (3 : Int32))), (.int g4)])) rfl (by rw [hml]; rfl) (argsL := [(.int g4), (.int (((p4.toUInt32 >>> ((1 : Int32) &&& 31).toUInt32).toInt32) &&& (3 : Int32))), (.int ((p1 &&& (255 : Int32)).toUInt32.toUInt16.toUInt32.toInt32)), (.int ((p2 &&& (255 : Int32)).toUInt32.toUInt16.toUInt32.toInt32)), (.int ((p3 &&& (255 : Int32)).toUInt32.toUInt16.toUInt32.toInt32))]) (rest := []) (lenOf pd_559 rfl) rfl (by show 2 * 0 + _ ≤ _; exact Nat.le_of_eq rfl) (hb hby at_54) (fun _ _ => ⟨rfl, e0, (by decide : 0 + 3 ≤ _), (by decide : 0 + 18 ≤ _)⟩)
    dsimp only [Pt.U, Pt.locs, Pt.cells, Pt.slots] at X826 l826 y826 z826 st826 hQ826
    subst l826 y826 z826
    obtain ⟨x_826, t_826, cs_826, rfl, N826q, K826, f826_0, pr826_0, pr826_1, pr826_2⟩ := hQ826
    have N826 := Fr.app N0 N826q
    have z826 : h0.size ≤ T826.heap.size := K826.1
    have R826 : CHr Z consts_1 s.vm h0 s.vm T826.heap := R0.trans (CHr.keep K826 sf0 R0.1)
    have lt826_0 : @LT.lt Nat _ x_826 T826.heap.size := f826_0.lt
    have ltv826_0 : @LT.lt Nat _ t_826 T826.heap.size := f826_0.ltv
    have hA := pr826_0
    have hB := pr826_1
    have hC := pr826_2
    refine own_Go.st st826 ?_
    show own_Go _ _ _ _ (T826.setTop (mkF m 57 #[.val (.int p1), .val (.int p2), .val (.int p3), .val (.int p4), .val (.int g4), .val (.int (((p4.toUInt32 >>> ((1 : Int32) &&& 31).toUInt32).toInt32) &&& (3 : Int32))), .val (.int ((p1 &&& (255 : Int32)).toUInt32.toUInt16.toUInt32.toInt32)), .val (.int ((p2 &&& (255 : Int32)).toUInt32.toUInt16.toUInt32.toInt32)), .val (.int ((p3 &&& (255 : Int32)).toUInt32.toUInt16.toUInt32.toInt32)), .unset, .unset, .unset, .unset] [(.ref x_826)]))
    refine own_Go.st (fun _ k => XS.astore X826.here hx rfl (hb hby at_57) rfl rfl (l' := #[.val (.int p1), .val (.int p2), .val (.int p3), .val (.int p4), .val (.int g4), .val (.int (((p4.toUInt32 >>> ((1 : Int32) &&& 31).toUInt32).toInt32) &&& (3 : Int32))), .val (.int ((p1 &&& (255 : Int32)).toUInt32.toUInt16.toUInt32.toInt32)), .val (.int ((p2 &&& (255 : Int32)).toUInt32.toUInt16.toUInt32.toInt32)), .val (.int ((p3 &&& (255 : Int32)).toUInt32.toUInt16.toUInt32.toInt32)), .val (.ref x_826), .unset, .unset, .unset]) rfl k) ?_
    show own_Go _ _ _ _ (T826.setTop (mkF m 59 #[.val (.int p1), .val (.int p2), .val (.int p3), .val (.int p4), .val (.int g4), .val (.int (((p4.toUInt32 >>> ((1 : Int32) &&& 31).toUInt32).toInt32) &&& (3 : Int32))), .val (.int ((p1 &&& (255 : Int32)).toUInt32.toUInt16.toUInt32.toInt32)), .val (.int ((p2 &&& (255 : Int32)).toUInt32.toUInt16.toUInt32.toInt32)), .val (.int ((p3 &&& (255 : Int32)).toUInt32.toUInt16.toUInt32.toInt32)), .val (.ref x_826), .unset, .unset, .unset] []))
    refine own_Go.st (fun _ k => XS.aload X826.here hx rfl (hb hby at_59) rfl rfl k) ?_
    show own_Go _ _ _ _ (T826.setTop (mkF m 61 #[.val (.int p1), .val (.int p2), .val (.int p3), .val (.int p4), .val (.int g4), .val (.int (((p4.toUInt32 >>> ((1 : Int32) &&& 31).toUInt32).toInt32) &&& (3 : Int32))), .val (.int ((p1 &&& (255 : Int32)).toUInt32.toUInt16.toUInt32.toInt32)), .val (.int ((p2 &&& (255 : Int32)).toUInt32.toUInt16.toUInt32.toInt32)), .val (.int ((p3 &&& (255 : Int32)).toUInt32.toUInt16.toUInt32.toInt32)), .val (.ref x_826), .unset, .unset, .unset] [(.ref x_826)]))
    have f828 : Old Z Z.heap.size T826.heap := OL.keep K826 all0
    obtain ⟨_, _, ⟨T827, L827, k827, n827⟩, -, X827, hs827, hg827, ⟨Lc827, hQ827, l827, y827, z827, ch827⟩, st827⟩ := callSS X826 hx (y := (⟨"com/example/net30/net30/http/Gzip", "etag", "(Ljava/lang/String;)Ljava/lang/String;"⟩ : MethodName)) hown (mvT hZ (hw _ (List.mem_of_getElem? (i := 34) rfl))) (mvT hZ (hw _ (List.mem_of_getElem? (i := 35) rfl))) (mvT hZ (hw _ (List.mem_of_getElem? (i := 36) rfl))) (mvT hZ (hw _ (List.mem_of_getElem? (i := 37) rfl))) (by decide) (backOfSH (s := s) (vm0 := s.vm) (W := 0) (rm_etag l Z a0 hw [] x_826 t_826 cs_826 zc fm T826.heap hEL f828 f826_0 st_COMPACT_STRINGS st_SIOOBE_FORMATTER (by first | assumption | decide) (by first | assumption | decide) hA hB hC) hZ (hw _ (List.mem_of_getElem? (i := 37) rfl)) (hw _ (List.mem_of_getElem? (i := 36) rfl)) (by decide) (by decide) hEL R826.1) (g := (mkF m 61 #[.val (.int p1), .val (.int p2), .val (.int p3), .val (.int p4), .val (.int g4), .val (.int (((p4.toUInt32 >>> ((1 : Int32) &&& 31).toUInt32).toInt32) &&& (3 : Int32))), .val (.int ((p1 &&& (255 : Int32)).toUInt32.toUInt16.toUInt32.toInt32)), .val (.int ((p2 &&& (255 : Int32)).toUInt32.toUInt16.toUInt32.toInt32)), .val (.int ((p3 &&& (255 : Int32)).toUInt32.toUInt16.toUInt32.toInt32)), .val (.ref x_826), .unset, .unset, .unset] [(.ref x_826)])) rfl (by rw [hml]; rfl) (argsL := [(.ref x_826)]) (rest := []) (lenOf pd_560 rfl) rfl (by show 2 * 0 + _ ≤ _; exact Nat.le_of_eq rfl) (hb hby at_61) (fun _ _ => ⟨rfl, rfl, (by decide : 3 + 12 ≤ _), (by decide : 18 + 100 ≤ _)⟩)
    dsimp only [Pt.U, Pt.locs, Pt.cells, Pt.slots] at X827 l827 y827 z827 st827 hQ827 hs827 hg827 ch827
    subst l827 y827 z827
    obtain ⟨x_827, t2_827, rs_827, rfl, N827q, K827, f827_0, pr827_0⟩ := hQ827
    have N827 := Fr.app N826 N827q
    obtain ⟨Y827, hS827, hZ827, hown827⟩ := rebS hS0 (n1 := T826.heap.size) (by omega) X827 hs827 (by have := hg827; first | exact this | (rw [← rfl]; exact this)) hZ hown
    have z827 : T826.heap.size ≤ T827.heap.size := K827.1
    have R827 : CHr Z consts_1 s.vm h0 T827.vm T827.heap := R826.trans ch827
    have lt827_0 : @LT.lt Nat _ x_827 T827.heap.size := f827_0.lt
    have ltv827_0 : @LT.lt Nat _ t2_827 T827.heap.size := f827_0.ltv
    have f829 : own_Str Z T827.heap x_827 t2_827 (cs_826.take (cs_826.length - 1) ++ [(45 : Int32), 103, 122, 105, 112, 34]) := pr827_0 ▸ f827_0
    have hk : (cs_826.take (cs_826.length - 1)).length = cs_826.length - 1 := by simp
    have hlr : ∀ c ∈ (cs_826.take (cs_826.length - 1) ++ [(45 : Int32), 103, 122, 105, 112, 34]), ¬ c < 0 ∧ ¬ (255 : Int32) < c := own_latA (fun c hc => hC c (List.mem_of_mem_take hc)) (by decide)
    refine own_Go.tr st827 ?_
    show own_Go _ _ _ _ (T827.setTop (mkF m 64 #[.val (.int p1), .val (.int p2), .val (.int p3), .val (.int p4), .val (.int g4), .val (.int (((p4.toUInt32 >>> ((1 : Int32) &&& 31).toUInt32).toInt32) &&& (3 : Int32))), .val (.int ((p1 &&& (255 : Int32)).toUInt32.toUInt16.toUInt32.toInt32)), .val (.int ((p2 &&& (255 : Int32)).toUInt32.toUInt16.toUInt32.toInt32)), .val (.int ((p3 &&& (255 : Int32)).toUInt32.toUInt16.toUInt32.toInt32)), .val (.ref x_826), .unset, .unset, .unset] [(.ref x_827)]))
    refine own_Go.st (fun _ k => XS.astore Y827.here hx rfl (hb hby at_64) rfl rfl (l' := #[.val (.int p1), .val (.int p2), .val (.int p3), .val (.int p4), .val (.int g4), .val (.int (((p4.toUInt32 >>> ((1 : Int32) &&& 31).toUInt32).toInt32) &&& (3 : Int32))), .val (.int ((p1 &&& (255 : Int32)).toUInt32.toUInt16.toUInt32.toInt32)), .val (.int ((p2 &&& (255 : Int32)).toUInt32.toUInt16.toUInt32.toInt32)), .val (.int ((p3 &&& (255 : Int32)).toUInt32.toUInt16.toUInt32.toInt32)), .val (.ref x_826), .val (.ref x_827), .unset, .unset]) rfl k) ?_
    show own_Go _ _ _ _ (T827.setTop (mkF m 66 #[.val (.int p1), .val (.int p2), .val (.int p3), .val (.int p4), .val (.int g4), .val (.int (((p4.toUInt32 >>> ((1 : Int32) &&& 31).toUInt32).toInt32) &&& (3 : Int32))), .val (.int ((p1 &&& (255 : Int32)).toUInt32.toUInt16.toUInt32.toInt32)), .val (.int ((p2 &&& (255 : Int32)).toUInt32.toUInt16.toUInt32.toInt32)), .val (.int ((p3 &&& (255 : Int32)).toUInt32.toUInt16.toUInt32.toInt32)), .val (.ref x_826), .val (.ref x_827), .unset, .unset] []))
    refine own_Go.st (fun _ k => XS.aload Y827.here hx rfl (hb hby at_66) rfl rfl k) ?_
    show own_Go _ _ _ _ (T827.setTop (mkF m 68 #[.val (.int p1), .val (.int p2), .val (.int p3), .val (.int p4), .val (.int g4), .val (.int (((p4.toUInt32 >>> ((1 : Int32) &&& 31).toUInt32).toInt32) &&& (3 : Int32))), .val (.int ((p1 &&& (255 : Int32)).toUInt32.toUInt16.toUInt32.toInt32)), .val (.int ((p2 &&& (255 : Int32)).toUInt32.toUInt16.toUInt32.toInt32)), .val (.int ((p3 &&& (255 : Int32)).toUInt32.toUInt16.toUInt32.toInt32)), .val (.ref x_826), .val (.ref x_827), .unset, .unset] [(.ref x_826)]))
    have f831 : own_Str Z T827.heap x_826 t_826 cs_826 := f826_0.keep K827 nin0 nin0
    obtain ⟨kb832, cd832, N832_, vs832, s1832, s2832, s3832, s4832, s5832, s6832, s7832⟩ := id f831
    have f833 : Old Z Z.heap.size T827.heap := f828.keep K827 all0
    obtain ⟨cq830, kq830, q830a, q830b, q830c⟩ := isOf hZ827 rfl f831.exa
    obtain ⟨_, _, ⟨T830, L830, k830, n830⟩, -, X830, ⟨Lc830, hQ830, l830, y830, z830⟩, st830⟩ := Y827.virtualBack hx (y := (⟨"java/lang/String", "length", "()I"⟩ : MethodName)) (z := (⟨"java/lang/String", "length", "()I"⟩ : MethodName)) hown827 (mvT hZ827 (hw _ (List.mem_of_getElem? (i := 182) rfl))) (mvT hZ827 (hw _ (List.mem_of_getElem? (i := 57) rfl))) (notFace_of_selects (args := #[]) (mvT hZ827 (hw _ (List.mem_of_getElem? (i := 59) rfl)))) (mvT hZ827 (hw _ (List.mem_of_getElem? (i := 59) rfl))) (mvT hZ827 (hw _ (List.mem_of_getElem? (i := 58) rfl))) (by decide) (StrChars.Road.lenW (W := 0) hZ827 (own_hln hw) (kI := 4) (hw _ (List.mem_of_getElem? (i := 5) rfl)) s1832 s2832 s3832 s4832 s5832 s6832 (st_COMPACT_STRINGS.ext f833.2) hzc s7832 (by decide) (by decide)) q830a q830c (g := (mkF m 68 #[.val (.int p1), .val (.int p2), .val (.int p3), .val (.int p4), .val (.int g4), .val (.int (((p4.toUInt32 >>> ((1 : Int32) &&& 31).toUInt32).toInt32) &&& (3 : Int32))), .val (.int ((p1 &&& (255 : Int32)).toUInt32.toUInt16.toUInt32.toInt32)), .val (.int ((p2 &&& (255 : Int32)).toUInt32.toUInt16.toUInt32.toInt32)), .val (.int ((p3 &&& (255 : Int32)).toUInt32.toUInt16.toUInt32.toInt32)), .val (.ref x_826), .val (.ref x_827), .unset, .unset] [(.ref x_826)])) rfl (by rw [hml]; rfl) (Steps.refl _) (argsL := []) (rest := []) (lenOf pd_88 rfl) rfl (by show 2 * 0 + _ ≤ _; exact Nat.le_of_eq rfl) (hb hby at_68) (fun _ _ => ⟨rfl, rfl, (by decide : 15 + 0 ≤ _), (by decide : 118 + 0 ≤ _)⟩)
    dsimp only [Pt.U, Pt.locs, Pt.cells, Pt.slots] at X830 l830 y830 z830 st830 hQ830
    subst l830 y830 z830
    obtain ⟨rfl, rfl, K830⟩ := hQ830
    have N830 := Fr.app N827 (Fr.nil Z.heap.size)
    refine own_Go.tr st830 ?_
    show own_Go _ _ _ _ (T830.setTop (mkF m 71 #[.val (.int p1), .val (.int p2), .val (.int p3), .val (.int p4), .val (.int g4), .val (.int (((p4.toUInt32 >>> ((1 : Int32) &&& 31).toUInt32).toInt32) &&& (3 : Int32))), .val (.int ((p1 &&& (255 : Int32)).toUInt32.toUInt16.toUInt32.toInt32)), .val (.int ((p2 &&& (255 : Int32)).toUInt32.toUInt16.toUInt32.toInt32)), .val (.int ((p3 &&& (255 : Int32)).toUInt32.toUInt16.toUInt32.toInt32)), .val (.ref x_826), .val (.ref x_827), .unset, .unset] [(.int (Int32.ofNat cs_826.length))]))
    refine own_Go.st (fun _ k => XS.istore X830.here hx rfl (hb hby at_71) rfl (l' := #[.val (.int p1), .val (.int p2), .val (.int p3), .val (.int p4), .val (.int g4), .val (.int (((p4.toUInt32 >>> ((1 : Int32) &&& 31).toUInt32).toInt32) &&& (3 : Int32))), .val (.int ((p1 &&& (255 : Int32)).toUInt32.toUInt16.toUInt32.toInt32)), .val (.int ((p2 &&& (255 : Int32)).toUInt32.toUInt16.toUInt32.toInt32)), .val (.int ((p3 &&& (255 : Int32)).toUInt32.toUInt16.toUInt32.toInt32)), .val (.ref x_826), .val (.ref x_827), .val (.int (Int32.ofNat cs_826.length)), .unset]) rfl k) ?_
    show own_Go _ _ _ _ (T830.setTop (mkF m 73 #[.val (.int p1), .val (.int p2), .val (.int p3), .val (.int p4), .val (.int g4), .val (.int (((p4.toUInt32 >>> ((1 : Int32) &&& 31).toUInt32).toInt32) &&& (3 : Int32))), .val (.int ((p1 &&& (255 : Int32)).toUInt32.toUInt16.toUInt32.toInt32)), .val (.int ((p2 &&& (255 : Int32)).toUInt32.toUInt16.toUInt32.toInt32)), .val (.int ((p3 &&& (255 : Int32)).toUInt32.toUInt16.toUInt32.toInt32)), .val (.ref x_826), .val (.ref x_827), .val (.int (Int32.ofNat cs_826.length)), .unset] []))
    refine own_Go.st (fun _ k => XS.iload X830.here hx rfl (hb hby at_73) rfl k) ?_
    show own_Go _ _ _ _ (T830.setTop (mkF m 75 #[.val (.int p1), .val (.int p2), .val (.int p3), .val (.int p4), .val (.int g4), .val (.int (((p4.toUInt32 >>> ((1 : Int32) &&& 31).toUInt32).toInt32) &&& (3 : Int32))), .val (.int ((p1 &&& (255 : Int32)).toUInt32.toUInt16.toUInt32.toInt32)), .val (.int ((p2 &&& (255 : Int32)).toUInt32.toUInt16.toUInt32.toInt32)), .val (.int ((p3 &&& (255 : Int32)).toUInt32.toUInt16.toUInt32.toInt32)), .val (.ref x_826), .val (.ref x_827), .val (.int (Int32.ofNat cs_826.length)), .unset] [(.int (Int32.ofNat cs_826.length))]))
    refine own_Go.st (fun _ k => XS.iconst X830.here hx rfl (hb hby at_75) k) ?_
    show own_Go _ _ _ _ (T830.setTop (mkF m 76 #[.val (.int p1), .val (.int p2), .val (.int p3), .val (.int p4), .val (.int g4), .val (.int (((p4.toUInt32 >>> ((1 : Int32) &&& 31).toUInt32).toInt32) &&& (3 : Int32))), .val (.int ((p1 &&& (255 : Int32)).toUInt32.toUInt16.toUInt32.toInt32)), .val (.int ((p2 &&& (255 : Int32)).toUInt32.toUInt16.toUInt32.toInt32)), .val (.int ((p3 &&& (255 : Int32)).toUInt32.toUInt16.toUInt32.toInt32)), .val (.ref x_826), .val (.ref x_827), .val (.int (Int32.ofNat cs_826.length)), .unset] [(.int (1 : Int32)), (.int (Int32.ofNat cs_826.length))]))
    refine own_Go.st (fun _ k => XS.isub X830.here hx rfl (hb hby at_76) rfl k) ?_
    show own_Go _ _ _ _ (T830.setTop (mkF m 77 #[.val (.int p1), .val (.int p2), .val (.int p3), .val (.int p4), .val (.int g4), .val (.int (((p4.toUInt32 >>> ((1 : Int32) &&& 31).toUInt32).toInt32) &&& (3 : Int32))), .val (.int ((p1 &&& (255 : Int32)).toUInt32.toUInt16.toUInt32.toInt32)), .val (.int ((p2 &&& (255 : Int32)).toUInt32.toUInt16.toUInt32.toInt32)), .val (.int ((p3 &&& (255 : Int32)).toUInt32.toUInt16.toUInt32.toInt32)), .val (.ref x_826), .val (.ref x_827), .val (.int (Int32.ofNat cs_826.length)), .unset] [(.int ((Int32.ofNat cs_826.length) - (1 : Int32)))]))
    rw [own_ofM (by omega) (by omega)]
    show own_Go _ _ _ _ (T830.setTop (mkF m 77 #[.val (.int p1), .val (.int p2), .val (.int p3), .val (.int p4), .val (.int g4), .val (.int (((p4.toUInt32 >>> ((1 : Int32) &&& 31).toUInt32).toInt32) &&& (3 : Int32))), .val (.int ((p1 &&& (255 : Int32)).toUInt32.toUInt16.toUInt32.toInt32)), .val (.int ((p2 &&& (255 : Int32)).toUInt32.toUInt16.toUInt32.toInt32)), .val (.int ((p3 &&& (255 : Int32)).toUInt32.toUInt16.toUInt32.toInt32)), .val (.ref x_826), .val (.ref x_827), .val (.int (Int32.ofNat cs_826.length)), .unset] [(.int (Int32.ofNat (cs_826.length - 1)))]))
    refine own_Go.st (fun _ k => XS.istore X830.here hx rfl (hb hby at_77) rfl (l' := #[.val (.int p1), .val (.int p2), .val (.int p3), .val (.int p4), .val (.int g4), .val (.int (((p4.toUInt32 >>> ((1 : Int32) &&& 31).toUInt32).toInt32) &&& (3 : Int32))), .val (.int ((p1 &&& (255 : Int32)).toUInt32.toUInt16.toUInt32.toInt32)), .val (.int ((p2 &&& (255 : Int32)).toUInt32.toUInt16.toUInt32.toInt32)), .val (.int ((p3 &&& (255 : Int32)).toUInt32.toUInt16.toUInt32.toInt32)), .val (.ref x_826), .val (.ref x_827), .val (.int (Int32.ofNat cs_826.length)), .val (.int (Int32.ofNat (cs_826.length - 1)))]) rfl k) ?_
    show own_Go _ _ _ _ (T830.setTop (mkF m 79 #[.val (.int p1), .val (.int p2), .val (.int p3), .val (.int p4), .val (.int g4), .val (.int (((p4.toUInt32 >>> ((1 : Int32) &&& 31).toUInt32).toInt32) &&& (3 : Int32))), .val (.int ((p1 &&& (255 : Int32)).toUInt32.toUInt16.toUInt32.toInt32)), .val (.int ((p2 &&& (255 : Int32)).toUInt32.toUInt16.toUInt32.toInt32)), .val (.int ((p3 &&& (255 : Int32)).toUInt32.toUInt16.toUInt32.toInt32)), .val (.ref x_826), .val (.ref x_827), .val (.int (Int32.ofNat cs_826.length)), .val (.int (Int32.ofNat (cs_826.length - 1)))] []))
    refine own_Go.st (fun _ k => XS.aload X830.here hx rfl (hb hby at_79) rfl rfl k) ?_
    show own_Go _ _ _ _ (T830.setTop (mkF m 81 #[.val (.int p1), .val (.int p2), .val (.int p3), .val (.int p4), .val (.int g4), .val (.int (((p4.toUInt32 >>> ((1 : Int32) &&& 31).toUInt32).toInt32) &&& (3 : Int32))), .val (.int ((p1 &&& (255 : Int32)).toUInt32.toUInt16.toUInt32.toInt32)), .val (.int ((p2 &&& (255 : Int32)).toUInt32.toUInt16.toUInt32.toInt32)), .val (.int ((p3 &&& (255 : Int32)).toUInt32.toUInt16.toUInt32.toInt32)), .val (.ref x_826), .val (.ref x_827), .val (.int (Int32.ofNat cs_826.length)), .val (.int (Int32.ofNat (cs_826.length - 1)))] [(.ref x_827)]))
    obtain ⟨kb835, cd835, N835_, vs835, s1835, s2835, s3835, s4835, s5835, s6835, s7835⟩ := id f829
    obtain ⟨cq834, kq834, q834a, q834b, q834c⟩ := isOf hZ827 K830 f829.exa
    obtain ⟨_, _, ⟨T834, L834, k834, n834⟩, -, X834, ⟨Lc834, hQ834, l834, y834, z834⟩, st834⟩ := X830.virtualBack hx (y := (⟨"java/lang/String", "length", "()I"⟩ : MethodName)) (z := (⟨"java/lang/String", "length", "()I"⟩ : MethodName)) hown827 (mvT hZ827 (hw _ (List.mem_of_getElem? (i := 182) rfl))) (mvT hZ827 (hw _ (List.mem_of_getElem? (i := 57) rfl))) (notFace_of_selects (args := #[]) (mvT hZ827 (hw _ (List.mem_of_getElem? (i := 59) rfl)))) (mvT hZ827 (hw _ (List.mem_of_getElem? (i := 59) rfl))) (mvT hZ827 (hw _ (List.mem_of_getElem? (i := 58) rfl))) (by decide) (StrChars.Road.lenW (W := 0) hZ827 (own_hln hw) (kI := 4) (hw _ (List.mem_of_getElem? (i := 5) rfl)) s1835 s2835 s3835 s4835 s5835 s6835 (st_COMPACT_STRINGS.ext f833.2) hzc s7835 (by decide) (by decide)) q834a q834c (g := (mkF m 81 #[.val (.int p1), .val (.int p2), .val (.int p3), .val (.int p4), .val (.int g4), .val (.int (((p4.toUInt32 >>> ((1 : Int32) &&& 31).toUInt32).toInt32) &&& (3 : Int32))), .val (.int ((p1 &&& (255 : Int32)).toUInt32.toUInt16.toUInt32.toInt32)), .val (.int ((p2 &&& (255 : Int32)).toUInt32.toUInt16.toUInt32.toInt32)), .val (.int ((p3 &&& (255 : Int32)).toUInt32.toUInt16.toUInt32.toInt32)), .val (.ref x_826), .val (.ref x_827), .val (.int (Int32.ofNat cs_826.length)), .val (.int (Int32.ofNat (cs_826.length - 1)))] [(.ref x_827)])) rfl (by rw [hml]; rfl) (Steps.refl _) (argsL := []) (rest := []) (lenOf pd_88 rfl) rfl (by show 2 * 0 + _ ≤ _; exact Nat.le_of_eq rfl) (hb hby at_81) (fun _ _ => ⟨rfl, K830, (by decide : 15 + 0 ≤ _), (by decide : 118 + 0 ≤ _)⟩)
    dsimp only [Pt.U, Pt.locs, Pt.cells, Pt.slots] at X834 l834 y834 z834 st834 hQ834
    subst l834 y834 z834
    obtain ⟨rfl, rfl, K834⟩ := hQ834
    have N834 := Fr.app N830 (Fr.nil Z.heap.size)
    refine own_Go.tr st834 ?_
    show own_Go _ _ _ _ (T834.setTop (mkF m 84 #[.val (.int p1), .val (.int p2), .val (.int p3), .val (.int p4), .val (.int g4), .val (.int (((p4.toUInt32 >>> ((1 : Int32) &&& 31).toUInt32).toInt32) &&& (3 : Int32))), .val (.int ((p1 &&& (255 : Int32)).toUInt32.toUInt16.toUInt32.toInt32)), .val (.int ((p2 &&& (255 : Int32)).toUInt32.toUInt16.toUInt32.toInt32)), .val (.int ((p3 &&& (255 : Int32)).toUInt32.toUInt16.toUInt32.toInt32)), .val (.ref x_826), .val (.ref x_827), .val (.int (Int32.ofNat cs_826.length)), .val (.int (Int32.ofNat (cs_826.length - 1)))] [(.int (Int32.ofNat (cs_826.take (cs_826.length - 1) ++ [(45 : Int32), 103, 122, 105, 112, 34]).length))]))
    refine own_Go.st (fun _ k => XS.iload X834.here hx rfl (hb hby at_84) rfl k) ?_
    show own_Go _ _ _ _ (T834.setTop (mkF m 86 #[.val (.int p1), .val (.int p2), .val (.int p3), .val (.int p4), .val (.int g4), .val (.int (((p4.toUInt32 >>> ((1 : Int32) &&& 31).toUInt32).toInt32) &&& (3 : Int32))), .val (.int ((p1 &&& (255 : Int32)).toUInt32.toUInt16.toUInt32.toInt32)), .val (.int ((p2 &&& (255 : Int32)).toUInt32.toUInt16.toUInt32.toInt32)), .val (.int ((p3 &&& (255 : Int32)).toUInt32.toUInt16.toUInt32.toInt32)), .val (.ref x_826), .val (.ref x_827), .val (.int (Int32.ofNat cs_826.length)), .val (.int (Int32.ofNat (cs_826.length - 1)))] [(.int (Int32.ofNat cs_826.length)), (.int (Int32.ofNat (cs_826.take (cs_826.length - 1) ++ [(45 : Int32), 103, 122, 105, 112, 34]).length))]))
    refine own_Go.st (fun _ k => XS.iconst X834.here hx rfl (hb hby at_86) k) ?_
    show own_Go _ _ _ _ (T834.setTop (mkF m 87 #[.val (.int p1), .val (.int p2), .val (.int p3), .val (.int p4), .val (.int g4), .val (.int (((p4.toUInt32 >>> ((1 : Int32) &&& 31).toUInt32).toInt32) &&& (3 : Int32))), .val (.int ((p1 &&& (255 : Int32)).toUInt32.toUInt16.toUInt32.toInt32)), .val (.int ((p2 &&& (255 : Int32)).toUInt32.toUInt16.toUInt32.toInt32)), .val (.int ((p3 &&& (255 : Int32)).toUInt32.toUInt16.toUInt32.toInt32)), .val (.ref x_826), .val (.ref x_827), .val (.int (Int32.ofNat cs_826.length)), .val (.int (Int32.ofNat (cs_826.length - 1)))] [(.int (5 : Int32)), (.int (Int32.ofNat cs_826.length)), (.int (Int32.ofNat (cs_826.take (cs_826.length - 1) ++ [(45 : Int32), 103, 122, 105, 112, 34]).length))]))
    refine own_Go.st (fun _ k => XS.iadd X834.here hx rfl (hb hby at_87) rfl k) ?_
    show own_Go _ _ _ _ (T834.setTop (mkF m 88 #[.val (.int p1), .val (.int p2), .val (.int p3), .val (.int p4), .val (.int g4), .val (.int (((p4.toUInt32 >>> ((1 : Int32) &&& 31).toUInt32).toInt32) &&& (3 : Int32))), .val (.int ((p1 &&& (255 : Int32)).toUInt32.toUInt16.toUInt32.toInt32)), .val (.int ((p2 &&& (255 : Int32)).toUInt32.toUInt16.toUInt32.toInt32)), .val (.int ((p3 &&& (255 : Int32)).toUInt32.toUInt16.toUInt32.toInt32)), .val (.ref x_826), .val (.ref x_827), .val (.int (Int32.ofNat cs_826.length)), .val (.int (Int32.ofNat (cs_826.length - 1)))] [(.int ((Int32.ofNat cs_826.length) + (5 : Int32))), (.int (Int32.ofNat (cs_826.take (cs_826.length - 1) ++ [(45 : Int32), 103, 122, 105, 112, 34]).length))]))
    have hc836 : (Int32.ofNat (cs_826.take (cs_826.length - 1) ++ [(45 : Int32), 103, 122, 105, 112, 34]).length) = ((Int32.ofNat cs_826.length) + (5 : Int32)) := by rw [List.length_append, hk]; exact (own_ofA (i := cs_826.length) (j := 5) (by omega)).symm ▸ (congrArg Int32.ofNat (by simp only [List.length_cons, List.length_nil]; omega))
    refine own_Go.st (fun _ k => XS.icmpYes X834.here hx rfl (pc0 := 88) (pc' := 93) rfl (hb hby at_88) rfl (teq hc836).1 (by decide) (by decide) k) ?_
    show own_Go _ _ _ _ (T834.setTop (mkF m 93 #[.val (.int p1), .val (.int p2), .val (.int p3), .val (.int p4), .val (.int g4), .val (.int (((p4.toUInt32 >>> ((1 : Int32) &&& 31).toUInt32).toInt32) &&& (3 : Int32))), .val (.int ((p1 &&& (255 : Int32)).toUInt32.toUInt16.toUInt32.toInt32)), .val (.int ((p2 &&& (255 : Int32)).toUInt32.toUInt16.toUInt32.toInt32)), .val (.int ((p3 &&& (255 : Int32)).toUInt32.toUInt16.toUInt32.toInt32)), .val (.ref x_826), .val (.ref x_827), .val (.int (Int32.ofNat cs_826.length)), .val (.int (Int32.ofNat (cs_826.length - 1)))] []))
    refine own_Go.st (fun _ k => XS.aload X834.here hx rfl (hb hby at_93) rfl rfl k) ?_
    show own_Go _ _ _ _ (T834.setTop (mkF m 95 #[.val (.int p1), .val (.int p2), .val (.int p3), .val (.int p4), .val (.int g4), .val (.int (((p4.toUInt32 >>> ((1 : Int32) &&& 31).toUInt32).toInt32) &&& (3 : Int32))), .val (.int ((p1 &&& (255 : Int32)).toUInt32.toUInt16.toUInt32.toInt32)), .val (.int ((p2 &&& (255 : Int32)).toUInt32.toUInt16.toUInt32.toInt32)), .val (.int ((p3 &&& (255 : Int32)).toUInt32.toUInt16.toUInt32.toInt32)), .val (.ref x_826), .val (.ref x_827), .val (.int (Int32.ofNat cs_826.length)), .val (.int (Int32.ofNat (cs_826.length - 1)))] [(.ref x_827)]))
    refine own_Go.st (fun _ k => XS.aload X834.here hx rfl (hb hby at_95) rfl rfl k) ?_
    show own_Go _ _ _ _ (T834.setTop (mkF m 97 #[.val (.int p1), .val (.int p2), .val (.int p3), .val (.int p4), .val (.int g4), .val (.int (((p4.toUInt32 >>> ((1 : Int32) &&& 31).toUInt32).toInt32) &&& (3 : Int32))), .val (.int ((p1 &&& (255 : Int32)).toUInt32.toUInt16.toUInt32.toInt32)), .val (.int ((p2 &&& (255 : Int32)).toUInt32.toUInt16.toUInt32.toInt32)), .val (.int ((p3 &&& (255 : Int32)).toUInt32.toUInt16.toUInt32.toInt32)), .val (.ref x_826), .val (.ref x_827), .val (.int (Int32.ofNat cs_826.length)), .val (.int (Int32.ofNat (cs_826.length - 1)))] [(.ref x_826), (.ref x_827)]))
    refine own_Go.st (fun _ k => XS.iconst X834.here hx rfl (hb hby at_97) k) ?_
    show own_Go _ _ _ _ (T834.setTop (mkF m 98 #[.val (.int p1), .val (.int p2), .val (.int p3), .val (.int p4), .val (.int g4), .val (.int (((p4.toUInt32 >>> ((1 : Int32) &&& 31).toUInt32).toInt32) &&& (3 : Int32))), .val (.int ((p1 &&& (255 : Int32)).toUInt32.toUInt16.toUInt32.toInt32)), .val (.int ((p2 &&& (255 : Int32)).toUInt32.toUInt16.toUInt32.toInt32)), .val (.int ((p3 &&& (255 : Int32)).toUInt32.toUInt16.toUInt32.toInt32)), .val (.ref x_826), .val (.ref x_827), .val (.int (Int32.ofNat cs_826.length)), .val (.int (Int32.ofNat (cs_826.length - 1)))] [(.int (0 : Int32)), (.ref x_826), (.ref x_827)]))
    refine own_Go.st (fun _ k => XS.iload X834.here hx rfl (hb hby at_98) rfl k) ?_
    show own_Go _ _ _ _ (T834.setTop (mkF m 100 #[.val (.int p1), .val (.int p2), .val (.int p3), .val (.int p4), .val (.int g4), .val (.int (((p4.toUInt32 >>> ((1 : Int32) &&& 31).toUInt32).toInt32) &&& (3 : Int32))), .val (.int ((p1 &&& (255 : Int32)).toUInt32.toUInt16.toUInt32.toInt32)), .val (.int ((p2 &&& (255 : Int32)).toUInt32.toUInt16.toUInt32.toInt32)), .val (.int ((p3 &&& (255 : Int32)).toUInt32.toUInt16.toUInt32.toInt32)), .val (.ref x_826), .val (.ref x_827), .val (.int (Int32.ofNat cs_826.length)), .val (.int (Int32.ofNat (cs_826.length - 1)))] [(.int (Int32.ofNat (cs_826.length - 1))), (.int (0 : Int32)), (.ref x_826), (.ref x_827)]))
    obtain ⟨_, _, ⟨T837, L837, k837, n837⟩, -, X837, ⟨Lc837, hQ837, l837, y837, z837⟩, st837⟩ := Jvm.LawKit.callS X834 hx (y := (⟨"com/example/net30/net30/http/GzipEtagPinLaw", "same", "(Ljava/lang/String;Ljava/lang/String;II)Z"⟩ : MethodName)) hown827 (mvT hZ827 (hw _ (List.mem_of_getElem? (i := 183) rfl))) (mvT hZ827 (hw _ (List.mem_of_getElem? (i := 184) rfl))) (mvT hZ827 (hw _ (List.mem_of_getElem? (i := 2) rfl))) (mvT hZ827 (hw _ (List.mem_of_getElem? (i := 185) rfl))) (by decide) (backOf (W := 0) (rm_same l Z a0 hw [] x_827 x_826 (0 : Int32) (Int32.ofNat (cs_826.length - 1)) 0 (cs_826.length - 1) t2_827 (cs_826.take (cs_826.length - 1) ++ [(45 : Int32), 103, 122, 105, 112, 34]) t_826 cs_826 zc fm T827.heap f833 f829 f831 st_COMPACT_STRINGS st_SIOOBE_FORMATTER (by first | assumption | decide) (by first | assumption | decide) rfl rfl ⟨by decide, by omega⟩ (fun q => ⟨by rw [List.length_append, hk]; omega, by omega, by rw [own_atL (by omega), own_takeG q]⟩) hlr hC) hZ827 (hw _ (List.mem_of_getElem? (i := 185) rfl)) (hw _ (List.mem_of_getElem? (i := 2) rfl)) (by decide) (by decide)) (g := (mkF m 100 #[.val (.int p1), .val (.int p2), .val (.int p3), .val (.int p4), .val (.int g4), .val (.int (((p4.toUInt32 >>> ((1 : Int32) &&& 31).toUInt32).toInt32) &&& (3 : Int32))), .val (.int ((p1 &&& (255 : Int32)).toUInt32.toUInt16.toUInt32.toInt32)), .val (.int ((p2 &&& (255 : Int32)).toUInt32.toUInt16.toUInt32.toInt32)), .val (.int ((p3 &&& (255 : Int32)).toUInt32.toUInt16.toUInt32.toInt32)), .val (.ref x_826), .val (.ref x_827), .val (.int (Int32.ofNat cs_826.length)), .val (.int (Int32.ofNat (cs_826.length - 1)))] [(.int (Int32.ofNat (cs_826.length - 1))), (.int (0 : Int32)), (.ref x_826), (.ref x_827)])) rfl (by rw [hml]; rfl) (argsL := [(.ref x_827), (.ref x_826), (.int (0 : Int32)), (.int (Int32.ofNat (cs_826.length - 1)))]) (rest := []) (lenOf pd_561 rfl) rfl (by show 2 * 0 + _ ≤ _; exact Nat.le_of_eq rfl) (hb hby at_100) (fun _ _ => ⟨rfl, K834, (by decide : 15 + 0 ≤ _), (by decide : 118 + 0 ≤ _)⟩)
    dsimp only [Pt.U, Pt.locs, Pt.cells, Pt.slots] at X837 l837 y837 z837 st837 hQ837
    subst l837 y837 z837
    obtain ⟨rfl, N837q, K837⟩ := hQ837
    have N837 := Fr.app N834 N837q
    refine own_Go.st st837 ?_
    show own_Go _ _ _ _ (T837.setTop (mkF m 103 #[.val (.int p1), .val (.int p2), .val (.int p3), .val (.int p4), .val (.int g4), .val (.int (((p4.toUInt32 >>> ((1 : Int32) &&& 31).toUInt32).toInt32) &&& (3 : Int32))), .val (.int ((p1 &&& (255 : Int32)).toUInt32.toUInt16.toUInt32.toInt32)), .val (.int ((p2 &&& (255 : Int32)).toUInt32.toUInt16.toUInt32.toInt32)), .val (.int ((p3 &&& (255 : Int32)).toUInt32.toUInt16.toUInt32.toInt32)), .val (.ref x_826), .val (.ref x_827), .val (.int (Int32.ofNat cs_826.length)), .val (.int (Int32.ofNat (cs_826.length - 1)))] [(.int (1 : Int32))]))
    refine own_Go.st (fun _ k => XS.ifNo X837.here hx rfl (hb hby at_103) rfl ((if0 _ _).trans (feq (by decide : ¬ ((1 : Int32) = (0 : Int32)))).1) k) ?_
    show own_Go _ _ _ _ (T837.setTop (mkF m 106 #[.val (.int p1), .val (.int p2), .val (.int p3), .val (.int p4), .val (.int g4), .val (.int (((p4.toUInt32 >>> ((1 : Int32) &&& 31).toUInt32).toInt32) &&& (3 : Int32))), .val (.int ((p1 &&& (255 : Int32)).toUInt32.toUInt16.toUInt32.toInt32)), .val (.int ((p2 &&& (255 : Int32)).toUInt32.toUInt16.toUInt32.toInt32)), .val (.int ((p3 &&& (255 : Int32)).toUInt32.toUInt16.toUInt32.toInt32)), .val (.ref x_826), .val (.ref x_827), .val (.int (Int32.ofNat cs_826.length)), .val (.int (Int32.ofNat (cs_826.length - 1)))] []))
    refine own_Go.st (fun _ k => XS.aload X837.here hx rfl (hb hby at_106) rfl rfl k) ?_
    show own_Go _ _ _ _ (T837.setTop (mkF m 108 #[.val (.int p1), .val (.int p2), .val (.int p3), .val (.int p4), .val (.int g4), .val (.int (((p4.toUInt32 >>> ((1 : Int32) &&& 31).toUInt32).toInt32) &&& (3 : Int32))), .val (.int ((p1 &&& (255 : Int32)).toUInt32.toUInt16.toUInt32.toInt32)), .val (.int ((p2 &&& (255 : Int32)).toUInt32.toUInt16.toUInt32.toInt32)), .val (.int ((p3 &&& (255 : Int32)).toUInt32.toUInt16.toUInt32.toInt32)), .val (.ref x_826), .val (.ref x_827), .val (.int (Int32.ofNat cs_826.length)), .val (.int (Int32.ofNat (cs_826.length - 1)))] [(.ref x_827)]))
    refine own_Go.st (fun _ k => XS.aload X837.here hx rfl (hb hby at_108) rfl rfl k) ?_
    show own_Go _ _ _ _ (T837.setTop (mkF m 110 #[.val (.int p1), .val (.int p2), .val (.int p3), .val (.int p4), .val (.int g4), .val (.int (((p4.toUInt32 >>> ((1 : Int32) &&& 31).toUInt32).toInt32) &&& (3 : Int32))), .val (.int ((p1 &&& (255 : Int32)).toUInt32.toUInt16.toUInt32.toInt32)), .val (.int ((p2 &&& (255 : Int32)).toUInt32.toUInt16.toUInt32.toInt32)), .val (.int ((p3 &&& (255 : Int32)).toUInt32.toUInt16.toUInt32.toInt32)), .val (.ref x_826), .val (.ref x_827), .val (.int (Int32.ofNat cs_826.length)), .val (.int (Int32.ofNat (cs_826.length - 1)))] [(.ref x_826), (.ref x_827)]))
    refine own_Go.st (fun _ k => XS.iconst X837.here hx rfl (hb hby at_110) k) ?_
    show own_Go _ _ _ _ (T837.setTop (mkF m 111 #[.val (.int p1), .val (.int p2), .val (.int p3), .val (.int p4), .val (.int g4), .val (.int (((p4.toUInt32 >>> ((1 : Int32) &&& 31).toUInt32).toInt32) &&& (3 : Int32))), .val (.int ((p1 &&& (255 : Int32)).toUInt32.toUInt16.toUInt32.toInt32)), .val (.int ((p2 &&& (255 : Int32)).toUInt32.toUInt16.toUInt32.toInt32)), .val (.int ((p3 &&& (255 : Int32)).toUInt32.toUInt16.toUInt32.toInt32)), .val (.ref x_826), .val (.ref x_827), .val (.int (Int32.ofNat cs_826.length)), .val (.int (Int32.ofNat (cs_826.length - 1)))] [(.int (1 : Int32)), (.ref x_826), (.ref x_827)]))
    refine own_Go.st (fun _ k => XS.iload X837.here hx rfl (hb hby at_111) rfl k) ?_
    show own_Go _ _ _ _ (T837.setTop (mkF m 113 #[.val (.int p1), .val (.int p2), .val (.int p3), .val (.int p4), .val (.int g4), .val (.int (((p4.toUInt32 >>> ((1 : Int32) &&& 31).toUInt32).toInt32) &&& (3 : Int32))), .val (.int ((p1 &&& (255 : Int32)).toUInt32.toUInt16.toUInt32.toInt32)), .val (.int ((p2 &&& (255 : Int32)).toUInt32.toUInt16.toUInt32.toInt32)), .val (.int ((p3 &&& (255 : Int32)).toUInt32.toUInt16.toUInt32.toInt32)), .val (.ref x_826), .val (.ref x_827), .val (.int (Int32.ofNat cs_826.length)), .val (.int (Int32.ofNat (cs_826.length - 1)))] [(.int (Int32.ofNat (cs_826.length - 1))), (.int (1 : Int32)), (.ref x_826), (.ref x_827)]))
    obtain ⟨_, _, ⟨T838, L838, k838, n838⟩, -, X838, ⟨Lc838, hQ838, l838, y838, z838⟩, st838⟩ := Jvm.LawKit.callS X837 hx (y := (⟨"com/example/net30/net30/http/GzipEtagPinLaw", "same", "(Ljava/lang/String;Ljava/lang/String;II)Z"⟩ : MethodName)) hown827 (mvT hZ827 (hw _ (List.mem_of_getElem? (i := 183) rfl))) (mvT hZ827 (hw _ (List.mem_of_getElem? (i := 184) rfl))) (mvT hZ827 (hw _ (List.mem_of_getElem? (i := 2) rfl))) (mvT hZ827 (hw _ (List.mem_of_getElem? (i := 185) rfl))) (by decide) (backOf (W := 0) (rm_same l Z a0 hw [] x_827 x_826 (1 : Int32) (Int32.ofNat (cs_826.length - 1)) 1 (cs_826.length - 1) t2_827 (cs_826.take (cs_826.length - 1) ++ [(45 : Int32), 103, 122, 105, 112, 34]) t_826 cs_826 zc fm T827.heap f833 f829 f831 st_COMPACT_STRINGS st_SIOOBE_FORMATTER (by first | assumption | decide) (by first | assumption | decide) rfl rfl ⟨by decide, by omega⟩ (fun q => ⟨by rw [List.length_append, hk]; omega, by omega, by rw [own_atL (by omega), own_takeG q]⟩) hlr hC) hZ827 (hw _ (List.mem_of_getElem? (i := 185) rfl)) (hw _ (List.mem_of_getElem? (i := 2) rfl)) (by decide) (by decide)) (g := (mkF m 113 #[.val (.int p1), .val (.int p2), .val (.int p3), .val (.int p4), .val (.int g4), .val (.int (((p4.toUInt32 >>> ((1 : Int32) &&& 31).toUInt32).toInt32) &&& (3 : Int32))), .val (.int ((p1 &&& (255 : Int32)).toUInt32.toUInt16.toUInt32.toInt32)), .val (.int ((p2 &&& (255 : Int32)).toUInt32.toUInt16.toUInt32.toInt32)), .val (.int ((p3 &&& (255 : Int32)).toUInt32.toUInt16.toUInt32.toInt32)), .val (.ref x_826), .val (.ref x_827), .val (.int (Int32.ofNat cs_826.length)), .val (.int (Int32.ofNat (cs_826.length - 1)))] [(.int (Int32.ofNat (cs_826.length - 1))), (.int (1 : Int32)), (.ref x_826), (.ref x_827)])) rfl (by rw [hml]; rfl) (argsL := [(.ref x_827), (.ref x_826), (.int (1 : Int32)), (.int (Int32.ofNat (cs_826.length - 1)))]) (rest := []) (lenOf pd_561 rfl) rfl (by show 2 * 0 + _ ≤ _; exact Nat.le_of_eq rfl) (hb hby at_113) (fun _ _ => ⟨rfl, K837, (by decide : 15 + 0 ≤ _), (by decide : 118 + 0 ≤ _)⟩)
    dsimp only [Pt.U, Pt.locs, Pt.cells, Pt.slots] at X838 l838 y838 z838 st838 hQ838
    subst l838 y838 z838
    obtain ⟨rfl, N838q, K838⟩ := hQ838
    have N838 := Fr.app N837 N838q
    refine own_Go.st st838 ?_
    show own_Go _ _ _ _ (T838.setTop (mkF m 116 #[.val (.int p1), .val (.int p2), .val (.int p3), .val (.int p4), .val (.int g4), .val (.int (((p4.toUInt32 >>> ((1 : Int32) &&& 31).toUInt32).toInt32) &&& (3 : Int32))), .val (.int ((p1 &&& (255 : Int32)).toUInt32.toUInt16.toUInt32.toInt32)), .val (.int ((p2 &&& (255 : Int32)).toUInt32.toUInt16.toUInt32.toInt32)), .val (.int ((p3 &&& (255 : Int32)).toUInt32.toUInt16.toUInt32.toInt32)), .val (.ref x_826), .val (.ref x_827), .val (.int (Int32.ofNat cs_826.length)), .val (.int (Int32.ofNat (cs_826.length - 1)))] [(.int (1 : Int32))]))
    refine own_Go.st (fun _ k => XS.ifNo X838.here hx rfl (hb hby at_116) rfl ((if0 _ _).trans (feq (by decide : ¬ ((1 : Int32) = (0 : Int32)))).1) k) ?_
    show own_Go _ _ _ _ (T838.setTop (mkF m 119 #[.val (.int p1), .val (.int p2), .val (.int p3), .val (.int p4), .val (.int g4), .val (.int (((p4.toUInt32 >>> ((1 : Int32) &&& 31).toUInt32).toInt32) &&& (3 : Int32))), .val (.int ((p1 &&& (255 : Int32)).toUInt32.toUInt16.toUInt32.toInt32)), .val (.int ((p2 &&& (255 : Int32)).toUInt32.toUInt16.toUInt32.toInt32)), .val (.int ((p3 &&& (255 : Int32)).toUInt32.toUInt16.toUInt32.toInt32)), .val (.ref x_826), .val (.ref x_827), .val (.int (Int32.ofNat cs_826.length)), .val (.int (Int32.ofNat (cs_826.length - 1)))] []))
    refine own_Go.st (fun _ k => XS.aload X838.here hx rfl (hb hby at_119) rfl rfl k) ?_
    show own_Go _ _ _ _ (T838.setTop (mkF m 121 #[.val (.int p1), .val (.int p2), .val (.int p3), .val (.int p4), .val (.int g4), .val (.int (((p4.toUInt32 >>> ((1 : Int32) &&& 31).toUInt32).toInt32) &&& (3 : Int32))), .val (.int ((p1 &&& (255 : Int32)).toUInt32.toUInt16.toUInt32.toInt32)), .val (.int ((p2 &&& (255 : Int32)).toUInt32.toUInt16.toUInt32.toInt32)), .val (.int ((p3 &&& (255 : Int32)).toUInt32.toUInt16.toUInt32.toInt32)), .val (.ref x_826), .val (.ref x_827), .val (.int (Int32.ofNat cs_826.length)), .val (.int (Int32.ofNat (cs_826.length - 1)))] [(.ref x_827)]))
    refine own_Go.st (fun _ k => XS.aload X838.here hx rfl (hb hby at_121) rfl rfl k) ?_
    show own_Go _ _ _ _ (T838.setTop (mkF m 123 #[.val (.int p1), .val (.int p2), .val (.int p3), .val (.int p4), .val (.int g4), .val (.int (((p4.toUInt32 >>> ((1 : Int32) &&& 31).toUInt32).toInt32) &&& (3 : Int32))), .val (.int ((p1 &&& (255 : Int32)).toUInt32.toUInt16.toUInt32.toInt32)), .val (.int ((p2 &&& (255 : Int32)).toUInt32.toUInt16.toUInt32.toInt32)), .val (.int ((p3 &&& (255 : Int32)).toUInt32.toUInt16.toUInt32.toInt32)), .val (.ref x_826), .val (.ref x_827), .val (.int (Int32.ofNat cs_826.length)), .val (.int (Int32.ofNat (cs_826.length - 1)))] [(.ref x_826), (.ref x_827)]))
    refine own_Go.st (fun _ k => XS.iconst X838.here hx rfl (hb hby at_123) k) ?_
    show own_Go _ _ _ _ (T838.setTop (mkF m 124 #[.val (.int p1), .val (.int p2), .val (.int p3), .val (.int p4), .val (.int g4), .val (.int (((p4.toUInt32 >>> ((1 : Int32) &&& 31).toUInt32).toInt32) &&& (3 : Int32))), .val (.int ((p1 &&& (255 : Int32)).toUInt32.toUInt16.toUInt32.toInt32)), .val (.int ((p2 &&& (255 : Int32)).toUInt32.toUInt16.toUInt32.toInt32)), .val (.int ((p3 &&& (255 : Int32)).toUInt32.toUInt16.toUInt32.toInt32)), .val (.ref x_826), .val (.ref x_827), .val (.int (Int32.ofNat cs_826.length)), .val (.int (Int32.ofNat (cs_826.length - 1)))] [(.int (2 : Int32)), (.ref x_826), (.ref x_827)]))
    refine own_Go.st (fun _ k => XS.iload X838.here hx rfl (hb hby at_124) rfl k) ?_
    show own_Go _ _ _ _ (T838.setTop (mkF m 126 #[.val (.int p1), .val (.int p2), .val (.int p3), .val (.int p4), .val (.int g4), .val (.int (((p4.toUInt32 >>> ((1 : Int32) &&& 31).toUInt32).toInt32) &&& (3 : Int32))), .val (.int ((p1 &&& (255 : Int32)).toUInt32.toUInt16.toUInt32.toInt32)), .val (.int ((p2 &&& (255 : Int32)).toUInt32.toUInt16.toUInt32.toInt32)), .val (.int ((p3 &&& (255 : Int32)).toUInt32.toUInt16.toUInt32.toInt32)), .val (.ref x_826), .val (.ref x_827), .val (.int (Int32.ofNat cs_826.length)), .val (.int (Int32.ofNat (cs_826.length - 1)))] [(.int (Int32.ofNat (cs_826.length - 1))), (.int (2 : Int32)), (.ref x_826), (.ref x_827)]))
    obtain ⟨_, _, ⟨T839, L839, k839, n839⟩, -, X839, ⟨Lc839, hQ839, l839, y839, z839⟩, st839⟩ := Jvm.LawKit.callS X838 hx (y := (⟨"com/example/net30/net30/http/GzipEtagPinLaw", "same", "(Ljava/lang/String;Ljava/lang/String;II)Z"⟩ : MethodName)) hown827 (mvT hZ827 (hw _ (List.mem_of_getElem? (i := 183) rfl))) (mvT hZ827 (hw _ (List.mem_of_getElem? (i := 184) rfl))) (mvT hZ827 (hw _ (List.mem_of_getElem? (i := 2) rfl))) (mvT hZ827 (hw _ (List.mem_of_getElem? (i := 185) rfl))) (by decide) (backOf (W := 0) (rm_same l Z a0 hw [] x_827 x_826 (2 : Int32) (Int32.ofNat (cs_826.length - 1)) 2 (cs_826.length - 1) t2_827 (cs_826.take (cs_826.length - 1) ++ [(45 : Int32), 103, 122, 105, 112, 34]) t_826 cs_826 zc fm T827.heap f833 f829 f831 st_COMPACT_STRINGS st_SIOOBE_FORMATTER (by first | assumption | decide) (by first | assumption | decide) rfl rfl ⟨by decide, by omega⟩ (fun q => ⟨by rw [List.length_append, hk]; omega, by omega, by rw [own_atL (by omega), own_takeG q]⟩) hlr hC) hZ827 (hw _ (List.mem_of_getElem? (i := 185) rfl)) (hw _ (List.mem_of_getElem? (i := 2) rfl)) (by decide) (by decide)) (g := (mkF m 126 #[.val (.int p1), .val (.int p2), .val (.int p3), .val (.int p4), .val (.int g4), .val (.int (((p4.toUInt32 >>> ((1 : Int32) &&& 31).toUInt32).toInt32) &&& (3 : Int32))), .val (.int ((p1 &&& (255 : Int32)).toUInt32.toUInt16.toUInt32.toInt32)), .val (.int ((p2 &&& (255 : Int32)).toUInt32.toUInt16.toUInt32.toInt32)), .val (.int ((p3 &&& (255 : Int32)).toUInt32.toUInt16.toUInt32.toInt32)), .val (.ref x_826), .val (.ref x_827), .val (.int (Int32.ofNat cs_826.length)), .val (.int (Int32.ofNat (cs_826.length - 1)))] [(.int (Int32.ofNat (cs_826.length - 1))), (.int (2 : Int32)), (.ref x_826), (.ref x_827)])) rfl (by rw [hml]; rfl) (argsL := [(.ref x_827), (.ref x_826), (.int (2 : Int32)), (.int (Int32.ofNat (cs_826.length - 1)))]) (rest := []) (lenOf pd_561 rfl) rfl (by show 2 * 0 + _ ≤ _; exact Nat.le_of_eq rfl) (hb hby at_126) (fun _ _ => ⟨rfl, K838, (by decide : 15 + 0 ≤ _), (by decide : 118 + 0 ≤ _)⟩)
    dsimp only [Pt.U, Pt.locs, Pt.cells, Pt.slots] at X839 l839 y839 z839 st839 hQ839
    subst l839 y839 z839
    obtain ⟨rfl, N839q, K839⟩ := hQ839
    have N839 := Fr.app N838 N839q
    refine own_Go.st st839 ?_
    show own_Go _ _ _ _ (T839.setTop (mkF m 129 #[.val (.int p1), .val (.int p2), .val (.int p3), .val (.int p4), .val (.int g4), .val (.int (((p4.toUInt32 >>> ((1 : Int32) &&& 31).toUInt32).toInt32) &&& (3 : Int32))), .val (.int ((p1 &&& (255 : Int32)).toUInt32.toUInt16.toUInt32.toInt32)), .val (.int ((p2 &&& (255 : Int32)).toUInt32.toUInt16.toUInt32.toInt32)), .val (.int ((p3 &&& (255 : Int32)).toUInt32.toUInt16.toUInt32.toInt32)), .val (.ref x_826), .val (.ref x_827), .val (.int (Int32.ofNat cs_826.length)), .val (.int (Int32.ofNat (cs_826.length - 1)))] [(.int (1 : Int32))]))
    refine own_Go.st (fun _ k => XS.ifNo X839.here hx rfl (hb hby at_129) rfl ((if0 _ _).trans (feq (by decide : ¬ ((1 : Int32) = (0 : Int32)))).1) k) ?_
    show own_Go _ _ _ _ (T839.setTop (mkF m 132 #[.val (.int p1), .val (.int p2), .val (.int p3), .val (.int p4), .val (.int g4), .val (.int (((p4.toUInt32 >>> ((1 : Int32) &&& 31).toUInt32).toInt32) &&& (3 : Int32))), .val (.int ((p1 &&& (255 : Int32)).toUInt32.toUInt16.toUInt32.toInt32)), .val (.int ((p2 &&& (255 : Int32)).toUInt32.toUInt16.toUInt32.toInt32)), .val (.int ((p3 &&& (255 : Int32)).toUInt32.toUInt16.toUInt32.toInt32)), .val (.ref x_826), .val (.ref x_827), .val (.int (Int32.ofNat cs_826.length)), .val (.int (Int32.ofNat (cs_826.length - 1)))] []))
    refine own_Go.st (fun _ k => XS.aload X839.here hx rfl (hb hby at_132) rfl rfl k) ?_
    show own_Go _ _ _ _ (T839.setTop (mkF m 134 #[.val (.int p1), .val (.int p2), .val (.int p3), .val (.int p4), .val (.int g4), .val (.int (((p4.toUInt32 >>> ((1 : Int32) &&& 31).toUInt32).toInt32) &&& (3 : Int32))), .val (.int ((p1 &&& (255 : Int32)).toUInt32.toUInt16.toUInt32.toInt32)), .val (.int ((p2 &&& (255 : Int32)).toUInt32.toUInt16.toUInt32.toInt32)), .val (.int ((p3 &&& (255 : Int32)).toUInt32.toUInt16.toUInt32.toInt32)), .val (.ref x_826), .val (.ref x_827), .val (.int (Int32.ofNat cs_826.length)), .val (.int (Int32.ofNat (cs_826.length - 1)))] [(.ref x_827)]))
    refine own_Go.st (fun _ k => XS.aload X839.here hx rfl (hb hby at_134) rfl rfl k) ?_
    show own_Go _ _ _ _ (T839.setTop (mkF m 136 #[.val (.int p1), .val (.int p2), .val (.int p3), .val (.int p4), .val (.int g4), .val (.int (((p4.toUInt32 >>> ((1 : Int32) &&& 31).toUInt32).toInt32) &&& (3 : Int32))), .val (.int ((p1 &&& (255 : Int32)).toUInt32.toUInt16.toUInt32.toInt32)), .val (.int ((p2 &&& (255 : Int32)).toUInt32.toUInt16.toUInt32.toInt32)), .val (.int ((p3 &&& (255 : Int32)).toUInt32.toUInt16.toUInt32.toInt32)), .val (.ref x_826), .val (.ref x_827), .val (.int (Int32.ofNat cs_826.length)), .val (.int (Int32.ofNat (cs_826.length - 1)))] [(.ref x_826), (.ref x_827)]))
    refine own_Go.st (fun _ k => XS.iconst X839.here hx rfl (hb hby at_136) k) ?_
    show own_Go _ _ _ _ (T839.setTop (mkF m 137 #[.val (.int p1), .val (.int p2), .val (.int p3), .val (.int p4), .val (.int g4), .val (.int (((p4.toUInt32 >>> ((1 : Int32) &&& 31).toUInt32).toInt32) &&& (3 : Int32))), .val (.int ((p1 &&& (255 : Int32)).toUInt32.toUInt16.toUInt32.toInt32)), .val (.int ((p2 &&& (255 : Int32)).toUInt32.toUInt16.toUInt32.toInt32)), .val (.int ((p3 &&& (255 : Int32)).toUInt32.toUInt16.toUInt32.toInt32)), .val (.ref x_826), .val (.ref x_827), .val (.int (Int32.ofNat cs_826.length)), .val (.int (Int32.ofNat (cs_826.length - 1)))] [(.int (3 : Int32)), (.ref x_826), (.ref x_827)]))
    refine own_Go.st (fun _ k => XS.iload X839.here hx rfl (hb hby at_137) rfl k) ?_
    show own_Go _ _ _ _ (T839.setTop (mkF m 139 #[.val (.int p1), .val (.int p2), .val (.int p3), .val (.int p4), .val (.int g4), .val (.int (((p4.toUInt32 >>> ((1 : Int32) &&& 31).toUInt32).toInt32) &&& (3 : Int32))), .val (.int ((p1 &&& (255 : Int32)).toUInt32.toUInt16.toUInt32.toInt32)), .val (.int ((p2 &&& (255 : Int32)).toUInt32.toUInt16.toUInt32.toInt32)), .val (.int ((p3 &&& (255 : Int32)).toUInt32.toUInt16.toUInt32.toInt32)), .val (.ref x_826), .val (.ref x_827), .val (.int (Int32.ofNat cs_826.length)), .val (.int (Int32.ofNat (cs_826.length - 1)))] [(.int (Int32.ofNat (cs_826.length - 1))), (.int (3 : Int32)), (.ref x_826), (.ref x_827)]))
    obtain ⟨_, _, ⟨T840, L840, k840, n840⟩, -, X840, ⟨Lc840, hQ840, l840, y840, z840⟩, st840⟩ := Jvm.LawKit.callS X839 hx (y := (⟨"com/example/net30/net30/http/GzipEtagPinLaw", "same", "(Ljava/lang/String;Ljava/lang/String;II)Z"⟩ : MethodName)) hown827 (mvT hZ827 (hw _ (List.mem_of_getElem? (i := 183) rfl))) (mvT hZ827 (hw _ (List.mem_of_getElem? (i := 184) rfl))) (mvT hZ827 (hw _ (List.mem_of_getElem? (i := 2) rfl))) (mvT hZ827 (hw _ (List.mem_of_getElem? (i := 185) rfl))) (by decide) (backOf (W := 0) (rm_same l Z a0 hw [] x_827 x_826 (3 : Int32) (Int32.ofNat (cs_826.length - 1)) 3 (cs_826.length - 1) t2_827 (cs_826.take (cs_826.length - 1) ++ [(45 : Int32), 103, 122, 105, 112, 34]) t_826 cs_826 zc fm T827.heap f833 f829 f831 st_COMPACT_STRINGS st_SIOOBE_FORMATTER (by first | assumption | decide) (by first | assumption | decide) rfl rfl ⟨by decide, by omega⟩ (fun q => ⟨by rw [List.length_append, hk]; omega, by omega, by rw [own_atL (by omega), own_takeG q]⟩) hlr hC) hZ827 (hw _ (List.mem_of_getElem? (i := 185) rfl)) (hw _ (List.mem_of_getElem? (i := 2) rfl)) (by decide) (by decide)) (g := (mkF m 139 #[.val (.int p1), .val (.int p2), .val (.int p3), .val (.int p4), .val (.int g4), .val (.int (((p4.toUInt32 >>> ((1 : Int32) &&& 31).toUInt32).toInt32) &&& (3 : Int32))), .val (.int ((p1 &&& (255 : Int32)).toUInt32.toUInt16.toUInt32.toInt32)), .val (.int ((p2 &&& (255 : Int32)).toUInt32.toUInt16.toUInt32.toInt32)), .val (.int ((p3 &&& (255 : Int32)).toUInt32.toUInt16.toUInt32.toInt32)), .val (.ref x_826), .val (.ref x_827), .val (.int (Int32.ofNat cs_826.length)), .val (.int (Int32.ofNat (cs_826.length - 1)))] [(.int (Int32.ofNat (cs_826.length - 1))), (.int (3 : Int32)), (.ref x_826), (.ref x_827)])) rfl (by rw [hml]; rfl) (argsL := [(.ref x_827), (.ref x_826), (.int (3 : Int32)), (.int (Int32.ofNat (cs_826.length - 1)))]) (rest := []) (lenOf pd_561 rfl) rfl (by show 2 * 0 + _ ≤ _; exact Nat.le_of_eq rfl) (hb hby at_139) (fun _ _ => ⟨rfl, K839, (by decide : 15 + 0 ≤ _), (by decide : 118 + 0 ≤ _)⟩)
    dsimp only [Pt.U, Pt.locs, Pt.cells, Pt.slots] at X840 l840 y840 z840 st840 hQ840
    subst l840 y840 z840
    obtain ⟨rfl, N840q, K840⟩ := hQ840
    have N840 := Fr.app N839 N840q
    refine own_Go.st st840 ?_
    show own_Go _ _ _ _ (T840.setTop (mkF m 142 #[.val (.int p1), .val (.int p2), .val (.int p3), .val (.int p4), .val (.int g4), .val (.int (((p4.toUInt32 >>> ((1 : Int32) &&& 31).toUInt32).toInt32) &&& (3 : Int32))), .val (.int ((p1 &&& (255 : Int32)).toUInt32.toUInt16.toUInt32.toInt32)), .val (.int ((p2 &&& (255 : Int32)).toUInt32.toUInt16.toUInt32.toInt32)), .val (.int ((p3 &&& (255 : Int32)).toUInt32.toUInt16.toUInt32.toInt32)), .val (.ref x_826), .val (.ref x_827), .val (.int (Int32.ofNat cs_826.length)), .val (.int (Int32.ofNat (cs_826.length - 1)))] [(.int (1 : Int32))]))
    refine own_Go.st (fun _ k => XS.ifNo X840.here hx rfl (hb hby at_142) rfl ((if0 _ _).trans (feq (by decide : ¬ ((1 : Int32) = (0 : Int32)))).1) k) ?_
    show own_Go _ _ _ _ (T840.setTop (mkF m 145 #[.val (.int p1), .val (.int p2), .val (.int p3), .val (.int p4), .val (.int g4), .val (.int (((p4.toUInt32 >>> ((1 : Int32) &&& 31).toUInt32).toInt32) &&& (3 : Int32))), .val (.int ((p1 &&& (255 : Int32)).toUInt32.toUInt16.toUInt32.toInt32)), .val (.int ((p2 &&& (255 : Int32)).toUInt32.toUInt16.toUInt32.toInt32)), .val (.int ((p3 &&& (255 : Int32)).toUInt32.toUInt16.toUInt32.toInt32)), .val (.ref x_826), .val (.ref x_827), .val (.int (Int32.ofNat cs_826.length)), .val (.int (Int32.ofNat (cs_826.length - 1)))] []))
    refine own_Go.st (fun _ k => XS.aload X840.here hx rfl (hb hby at_145) rfl rfl k) ?_
    show own_Go _ _ _ _ (T840.setTop (mkF m 147 #[.val (.int p1), .val (.int p2), .val (.int p3), .val (.int p4), .val (.int g4), .val (.int (((p4.toUInt32 >>> ((1 : Int32) &&& 31).toUInt32).toInt32) &&& (3 : Int32))), .val (.int ((p1 &&& (255 : Int32)).toUInt32.toUInt16.toUInt32.toInt32)), .val (.int ((p2 &&& (255 : Int32)).toUInt32.toUInt16.toUInt32.toInt32)), .val (.int ((p3 &&& (255 : Int32)).toUInt32.toUInt16.toUInt32.toInt32)), .val (.ref x_826), .val (.ref x_827), .val (.int (Int32.ofNat cs_826.length)), .val (.int (Int32.ofNat (cs_826.length - 1)))] [(.ref x_827)]))
    refine own_Go.st (fun _ k => XS.aload X840.here hx rfl (hb hby at_147) rfl rfl k) ?_
    show own_Go _ _ _ _ (T840.setTop (mkF m 149 #[.val (.int p1), .val (.int p2), .val (.int p3), .val (.int p4), .val (.int g4), .val (.int (((p4.toUInt32 >>> ((1 : Int32) &&& 31).toUInt32).toInt32) &&& (3 : Int32))), .val (.int ((p1 &&& (255 : Int32)).toUInt32.toUInt16.toUInt32.toInt32)), .val (.int ((p2 &&& (255 : Int32)).toUInt32.toUInt16.toUInt32.toInt32)), .val (.int ((p3 &&& (255 : Int32)).toUInt32.toUInt16.toUInt32.toInt32)), .val (.ref x_826), .val (.ref x_827), .val (.int (Int32.ofNat cs_826.length)), .val (.int (Int32.ofNat (cs_826.length - 1)))] [(.ref x_826), (.ref x_827)]))
    refine own_Go.st (fun _ k => XS.iconst X840.here hx rfl (hb hby at_149) k) ?_
    show own_Go _ _ _ _ (T840.setTop (mkF m 150 #[.val (.int p1), .val (.int p2), .val (.int p3), .val (.int p4), .val (.int g4), .val (.int (((p4.toUInt32 >>> ((1 : Int32) &&& 31).toUInt32).toInt32) &&& (3 : Int32))), .val (.int ((p1 &&& (255 : Int32)).toUInt32.toUInt16.toUInt32.toInt32)), .val (.int ((p2 &&& (255 : Int32)).toUInt32.toUInt16.toUInt32.toInt32)), .val (.int ((p3 &&& (255 : Int32)).toUInt32.toUInt16.toUInt32.toInt32)), .val (.ref x_826), .val (.ref x_827), .val (.int (Int32.ofNat cs_826.length)), .val (.int (Int32.ofNat (cs_826.length - 1)))] [(.int (4 : Int32)), (.ref x_826), (.ref x_827)]))
    refine own_Go.st (fun _ k => XS.iload X840.here hx rfl (hb hby at_150) rfl k) ?_
    show own_Go _ _ _ _ (T840.setTop (mkF m 152 #[.val (.int p1), .val (.int p2), .val (.int p3), .val (.int p4), .val (.int g4), .val (.int (((p4.toUInt32 >>> ((1 : Int32) &&& 31).toUInt32).toInt32) &&& (3 : Int32))), .val (.int ((p1 &&& (255 : Int32)).toUInt32.toUInt16.toUInt32.toInt32)), .val (.int ((p2 &&& (255 : Int32)).toUInt32.toUInt16.toUInt32.toInt32)), .val (.int ((p3 &&& (255 : Int32)).toUInt32.toUInt16.toUInt32.toInt32)), .val (.ref x_826), .val (.ref x_827), .val (.int (Int32.ofNat cs_826.length)), .val (.int (Int32.ofNat (cs_826.length - 1)))] [(.int (Int32.ofNat (cs_826.length - 1))), (.int (4 : Int32)), (.ref x_826), (.ref x_827)]))
    obtain ⟨_, _, ⟨T841, L841, k841, n841⟩, -, X841, ⟨Lc841, hQ841, l841, y841, z841⟩, st841⟩ := Jvm.LawKit.callS X840 hx (y := (⟨"com/example/net30/net30/http/GzipEtagPinLaw", "same", "(Ljava/lang/String;Ljava/lang/String;II)Z"⟩ : MethodName)) hown827 (mvT hZ827 (hw _ (List.mem_of_getElem? (i := 183) rfl))) (mvT hZ827 (hw _ (List.mem_of_getElem? (i := 184) rfl))) (mvT hZ827 (hw _ (List.mem_of_getElem? (i := 2) rfl))) (mvT hZ827 (hw _ (List.mem_of_getElem? (i := 185) rfl))) (by decide) (backOf (W := 0) (rm_same l Z a0 hw [] x_827 x_826 (4 : Int32) (Int32.ofNat (cs_826.length - 1)) 4 (cs_826.length - 1) t2_827 (cs_826.take (cs_826.length - 1) ++ [(45 : Int32), 103, 122, 105, 112, 34]) t_826 cs_826 zc fm T827.heap f833 f829 f831 st_COMPACT_STRINGS st_SIOOBE_FORMATTER (by first | assumption | decide) (by first | assumption | decide) rfl rfl ⟨by decide, by omega⟩ (fun q => ⟨by rw [List.length_append, hk]; omega, by omega, by rw [own_atL (by omega), own_takeG q]⟩) hlr hC) hZ827 (hw _ (List.mem_of_getElem? (i := 185) rfl)) (hw _ (List.mem_of_getElem? (i := 2) rfl)) (by decide) (by decide)) (g := (mkF m 152 #[.val (.int p1), .val (.int p2), .val (.int p3), .val (.int p4), .val (.int g4), .val (.int (((p4.toUInt32 >>> ((1 : Int32) &&& 31).toUInt32).toInt32) &&& (3 : Int32))), .val (.int ((p1 &&& (255 : Int32)).toUInt32.toUInt16.toUInt32.toInt32)), .val (.int ((p2 &&& (255 : Int32)).toUInt32.toUInt16.toUInt32.toInt32)), .val (.int ((p3 &&& (255 : Int32)).toUInt32.toUInt16.toUInt32.toInt32)), .val (.ref x_826), .val (.ref x_827), .val (.int (Int32.ofNat cs_826.length)), .val (.int (Int32.ofNat (cs_826.length - 1)))] [(.int (Int32.ofNat (cs_826.length - 1))), (.int (4 : Int32)), (.ref x_826), (.ref x_827)])) rfl (by rw [hml]; rfl) (argsL := [(.ref x_827), (.ref x_826), (.int (4 : Int32)), (.int (Int32.ofNat (cs_826.length - 1)))]) (rest := []) (lenOf pd_561 rfl) rfl (by show 2 * 0 + _ ≤ _; exact Nat.le_of_eq rfl) (hb hby at_152) (fun _ _ => ⟨rfl, K840, (by decide : 15 + 0 ≤ _), (by decide : 118 + 0 ≤ _)⟩)
    dsimp only [Pt.U, Pt.locs, Pt.cells, Pt.slots] at X841 l841 y841 z841 st841 hQ841
    subst l841 y841 z841
    obtain ⟨rfl, N841q, K841⟩ := hQ841
    have N841 := Fr.app N840 N841q
    refine own_Go.st st841 ?_
    show own_Go _ _ _ _ (T841.setTop (mkF m 155 #[.val (.int p1), .val (.int p2), .val (.int p3), .val (.int p4), .val (.int g4), .val (.int (((p4.toUInt32 >>> ((1 : Int32) &&& 31).toUInt32).toInt32) &&& (3 : Int32))), .val (.int ((p1 &&& (255 : Int32)).toUInt32.toUInt16.toUInt32.toInt32)), .val (.int ((p2 &&& (255 : Int32)).toUInt32.toUInt16.toUInt32.toInt32)), .val (.int ((p3 &&& (255 : Int32)).toUInt32.toUInt16.toUInt32.toInt32)), .val (.ref x_826), .val (.ref x_827), .val (.int (Int32.ofNat cs_826.length)), .val (.int (Int32.ofNat (cs_826.length - 1)))] [(.int (1 : Int32))]))
    refine own_Go.st (fun _ k => XS.ifNo X841.here hx rfl (hb hby at_155) rfl ((if0 _ _).trans (feq (by decide : ¬ ((1 : Int32) = (0 : Int32)))).1) k) ?_
    show own_Go _ _ _ _ (T841.setTop (mkF m 158 #[.val (.int p1), .val (.int p2), .val (.int p3), .val (.int p4), .val (.int g4), .val (.int (((p4.toUInt32 >>> ((1 : Int32) &&& 31).toUInt32).toInt32) &&& (3 : Int32))), .val (.int ((p1 &&& (255 : Int32)).toUInt32.toUInt16.toUInt32.toInt32)), .val (.int ((p2 &&& (255 : Int32)).toUInt32.toUInt16.toUInt32.toInt32)), .val (.int ((p3 &&& (255 : Int32)).toUInt32.toUInt16.toUInt32.toInt32)), .val (.ref x_826), .val (.ref x_827), .val (.int (Int32.ofNat cs_826.length)), .val (.int (Int32.ofNat (cs_826.length - 1)))] []))
    refine own_Go.st (fun _ k => XS.aload X841.here hx rfl (hb hby at_158) rfl rfl k) ?_
    show own_Go _ _ _ _ (T841.setTop (mkF m 160 #[.val (.int p1), .val (.int p2), .val (.int p3), .val (.int p4), .val (.int g4), .val (.int (((p4.toUInt32 >>> ((1 : Int32) &&& 31).toUInt32).toInt32) &&& (3 : Int32))), .val (.int ((p1 &&& (255 : Int32)).toUInt32.toUInt16.toUInt32.toInt32)), .val (.int ((p2 &&& (255 : Int32)).toUInt32.toUInt16.toUInt32.toInt32)), .val (.int ((p3 &&& (255 : Int32)).toUInt32.toUInt16.toUInt32.toInt32)), .val (.ref x_826), .val (.ref x_827), .val (.int (Int32.ofNat cs_826.length)), .val (.int (Int32.ofNat (cs_826.length - 1)))] [(.ref x_827)]))
    refine own_Go.st (fun _ k => XS.aload X841.here hx rfl (hb hby at_160) rfl rfl k) ?_
    show own_Go _ _ _ _ (T841.setTop (mkF m 162 #[.val (.int p1), .val (.int p2), .val (.int p3), .val (.int p4), .val (.int g4), .val (.int (((p4.toUInt32 >>> ((1 : Int32) &&& 31).toUInt32).toInt32) &&& (3 : Int32))), .val (.int ((p1 &&& (255 : Int32)).toUInt32.toUInt16.toUInt32.toInt32)), .val (.int ((p2 &&& (255 : Int32)).toUInt32.toUInt16.toUInt32.toInt32)), .val (.int ((p3 &&& (255 : Int32)).toUInt32.toUInt16.toUInt32.toInt32)), .val (.ref x_826), .val (.ref x_827), .val (.int (Int32.ofNat cs_826.length)), .val (.int (Int32.ofNat (cs_826.length - 1)))] [(.ref x_826), (.ref x_827)]))
    refine own_Go.st (fun _ k => XS.iconst X841.here hx rfl (hb hby at_162) k) ?_
    show own_Go _ _ _ _ (T841.setTop (mkF m 163 #[.val (.int p1), .val (.int p2), .val (.int p3), .val (.int p4), .val (.int g4), .val (.int (((p4.toUInt32 >>> ((1 : Int32) &&& 31).toUInt32).toInt32) &&& (3 : Int32))), .val (.int ((p1 &&& (255 : Int32)).toUInt32.toUInt16.toUInt32.toInt32)), .val (.int ((p2 &&& (255 : Int32)).toUInt32.toUInt16.toUInt32.toInt32)), .val (.int ((p3 &&& (255 : Int32)).toUInt32.toUInt16.toUInt32.toInt32)), .val (.ref x_826), .val (.ref x_827), .val (.int (Int32.ofNat cs_826.length)), .val (.int (Int32.ofNat (cs_826.length - 1)))] [(.int (5 : Int32)), (.ref x_826), (.ref x_827)]))
    refine own_Go.st (fun _ k => XS.iload X841.here hx rfl (hb hby at_163) rfl k) ?_
    show own_Go _ _ _ _ (T841.setTop (mkF m 165 #[.val (.int p1), .val (.int p2), .val (.int p3), .val (.int p4), .val (.int g4), .val (.int (((p4.toUInt32 >>> ((1 : Int32) &&& 31).toUInt32).toInt32) &&& (3 : Int32))), .val (.int ((p1 &&& (255 : Int32)).toUInt32.toUInt16.toUInt32.toInt32)), .val (.int ((p2 &&& (255 : Int32)).toUInt32.toUInt16.toUInt32.toInt32)), .val (.int ((p3 &&& (255 : Int32)).toUInt32.toUInt16.toUInt32.toInt32)), .val (.ref x_826), .val (.ref x_827), .val (.int (Int32.ofNat cs_826.length)), .val (.int (Int32.ofNat (cs_826.length - 1)))] [(.int (Int32.ofNat (cs_826.length - 1))), (.int (5 : Int32)), (.ref x_826), (.ref x_827)]))
    obtain ⟨_, _, ⟨T842, L842, k842, n842⟩, -, X842, ⟨Lc842, hQ842, l842, y842, z842⟩, st842⟩ := Jvm.LawKit.callS X841 hx (y := (⟨"com/example/net30/net30/http/GzipEtagPinLaw", "same", "(Ljava/lang/String;Ljava/lang/String;II)Z"⟩ : MethodName)) hown827 (mvT hZ827 (hw _ (List.mem_of_getElem? (i := 183) rfl))) (mvT hZ827 (hw _ (List.mem_of_getElem? (i := 184) rfl))) (mvT hZ827 (hw _ (List.mem_of_getElem? (i := 2) rfl))) (mvT hZ827 (hw _ (List.mem_of_getElem? (i := 185) rfl))) (by decide) (backOf (W := 0) (rm_same l Z a0 hw [] x_827 x_826 (5 : Int32) (Int32.ofNat (cs_826.length - 1)) 5 (cs_826.length - 1) t2_827 (cs_826.take (cs_826.length - 1) ++ [(45 : Int32), 103, 122, 105, 112, 34]) t_826 cs_826 zc fm T827.heap f833 f829 f831 st_COMPACT_STRINGS st_SIOOBE_FORMATTER (by first | assumption | decide) (by first | assumption | decide) rfl rfl ⟨by decide, by omega⟩ (fun q => ⟨by rw [List.length_append, hk]; omega, by omega, by rw [own_atL (by omega), own_takeG q]⟩) hlr hC) hZ827 (hw _ (List.mem_of_getElem? (i := 185) rfl)) (hw _ (List.mem_of_getElem? (i := 2) rfl)) (by decide) (by decide)) (g := (mkF m 165 #[.val (.int p1), .val (.int p2), .val (.int p3), .val (.int p4), .val (.int g4), .val (.int (((p4.toUInt32 >>> ((1 : Int32) &&& 31).toUInt32).toInt32) &&& (3 : Int32))), .val (.int ((p1 &&& (255 : Int32)).toUInt32.toUInt16.toUInt32.toInt32)), .val (.int ((p2 &&& (255 : Int32)).toUInt32.toUInt16.toUInt32.toInt32)), .val (.int ((p3 &&& (255 : Int32)).toUInt32.toUInt16.toUInt32.toInt32)), .val (.ref x_826), .val (.ref x_827), .val (.int (Int32.ofNat cs_826.length)), .val (.int (Int32.ofNat (cs_826.length - 1)))] [(.int (Int32.ofNat (cs_826.length - 1))), (.int (5 : Int32)), (.ref x_826), (.ref x_827)])) rfl (by rw [hml]; rfl) (argsL := [(.ref x_827), (.ref x_826), (.int (5 : Int32)), (.int (Int32.ofNat (cs_826.length - 1)))]) (rest := []) (lenOf pd_561 rfl) rfl (by show 2 * 0 + _ ≤ _; exact Nat.le_of_eq rfl) (hb hby at_165) (fun _ _ => ⟨rfl, K841, (by decide : 15 + 0 ≤ _), (by decide : 118 + 0 ≤ _)⟩)
    dsimp only [Pt.U, Pt.locs, Pt.cells, Pt.slots] at X842 l842 y842 z842 st842 hQ842
    subst l842 y842 z842
    obtain ⟨rfl, N842q, K842⟩ := hQ842
    have N842 := Fr.app N841 N842q
    refine own_Go.st st842 ?_
    show own_Go _ _ _ _ (T842.setTop (mkF m 168 #[.val (.int p1), .val (.int p2), .val (.int p3), .val (.int p4), .val (.int g4), .val (.int (((p4.toUInt32 >>> ((1 : Int32) &&& 31).toUInt32).toInt32) &&& (3 : Int32))), .val (.int ((p1 &&& (255 : Int32)).toUInt32.toUInt16.toUInt32.toInt32)), .val (.int ((p2 &&& (255 : Int32)).toUInt32.toUInt16.toUInt32.toInt32)), .val (.int ((p3 &&& (255 : Int32)).toUInt32.toUInt16.toUInt32.toInt32)), .val (.ref x_826), .val (.ref x_827), .val (.int (Int32.ofNat cs_826.length)), .val (.int (Int32.ofNat (cs_826.length - 1)))] [(.int (1 : Int32))]))
    refine own_Go.st (fun _ k => XS.ifYes X842.here hx rfl (pc0 := 168) (pc' := 173) rfl (hb hby at_168) rfl ((if0 _ _).trans (feq (by decide : ¬ ((1 : Int32) = (0 : Int32)))).2) (by decide) (by decide) k) ?_
    show own_Go _ _ _ _ (T842.setTop (mkF m 173 #[.val (.int p1), .val (.int p2), .val (.int p3), .val (.int p4), .val (.int g4), .val (.int (((p4.toUInt32 >>> ((1 : Int32) &&& 31).toUInt32).toInt32) &&& (3 : Int32))), .val (.int ((p1 &&& (255 : Int32)).toUInt32.toUInt16.toUInt32.toInt32)), .val (.int ((p2 &&& (255 : Int32)).toUInt32.toUInt16.toUInt32.toInt32)), .val (.int ((p3 &&& (255 : Int32)).toUInt32.toUInt16.toUInt32.toInt32)), .val (.ref x_826), .val (.ref x_827), .val (.int (Int32.ofNat cs_826.length)), .val (.int (Int32.ofNat (cs_826.length - 1)))] []))
    refine own_Go.st (fun _ k => XS.aload X842.here hx rfl (hb hby at_173) rfl rfl k) ?_
    show own_Go _ _ _ _ (T842.setTop (mkF m 175 #[.val (.int p1), .val (.int p2), .val (.int p3), .val (.int p4), .val (.int g4), .val (.int (((p4.toUInt32 >>> ((1 : Int32) &&& 31).toUInt32).toInt32) &&& (3 : Int32))), .val (.int ((p1 &&& (255 : Int32)).toUInt32.toUInt16.toUInt32.toInt32)), .val (.int ((p2 &&& (255 : Int32)).toUInt32.toUInt16.toUInt32.toInt32)), .val (.int ((p3 &&& (255 : Int32)).toUInt32.toUInt16.toUInt32.toInt32)), .val (.ref x_826), .val (.ref x_827), .val (.int (Int32.ofNat cs_826.length)), .val (.int (Int32.ofNat (cs_826.length - 1)))] [(.ref x_827)]))
    refine own_Go.st (fun _ k => XS.iload X842.here hx rfl (hb hby at_175) rfl k) ?_
    show own_Go _ _ _ _ (T842.setTop (mkF m 177 #[.val (.int p1), .val (.int p2), .val (.int p3), .val (.int p4), .val (.int g4), .val (.int (((p4.toUInt32 >>> ((1 : Int32) &&& 31).toUInt32).toInt32) &&& (3 : Int32))), .val (.int ((p1 &&& (255 : Int32)).toUInt32.toUInt16.toUInt32.toInt32)), .val (.int ((p2 &&& (255 : Int32)).toUInt32.toUInt16.toUInt32.toInt32)), .val (.int ((p3 &&& (255 : Int32)).toUInt32.toUInt16.toUInt32.toInt32)), .val (.ref x_826), .val (.ref x_827), .val (.int (Int32.ofNat cs_826.length)), .val (.int (Int32.ofNat (cs_826.length - 1)))] [(.int (Int32.ofNat (cs_826.length - 1))), (.ref x_827)]))
    obtain ⟨kb844, N844_, vs844, s1844, s2844, s3844, s4844, s5844⟩ := own_Str.lat f829 (fun c q => (hlr c q).2)
    obtain ⟨cq843, kq843, q843a, q843b, q843c⟩ := isOf hZ827 K842 f829.exa
    obtain ⟨_, _, ⟨T843, L843, k843, n843⟩, -, X843, ⟨Lc843, hQ843, l843, y843, z843⟩, st843⟩ := X842.virtualBack hx (y := (⟨"java/lang/String", "charAt", "(I)C"⟩ : MethodName)) (z := (⟨"java/lang/String", "charAt", "(I)C"⟩ : MethodName)) hown827 (mvT hZ827 (hw _ (List.mem_of_getElem? (i := 186) rfl))) (mvT hZ827 (hw _ (List.mem_of_getElem? (i := 187) rfl))) (notFace_of_selects (args := #[]) (mvT hZ827 (hw _ (List.mem_of_getElem? (i := 189) rfl)))) (mvT hZ827 (hw _ (List.mem_of_getElem? (i := 189) rfl))) (mvT hZ827 (hw _ (List.mem_of_getElem? (i := 188) rfl))) (by decide) (StrChars.Road.chN (W := 0) hZ827 (own_hch hw) (kI := 4) (hw _ (List.mem_of_getElem? (i := 5) rfl)) s1844 s2844 s3844 s4844 s5844 f829.rng (st_COMPACT_STRINGS.ext f833.2) hzc (st_SIOOBE_FORMATTER.ext f833.2) hfm f829.le (i := (cs_826.length - 1 + 0)) (by rw [List.length_append, hk]; simp only [List.length_cons, List.length_nil]; omega) (j := (Int32.ofNat (cs_826.length - 1))) rfl (by decide) (by decide)) q843a q843c (g := (mkF m 177 #[.val (.int p1), .val (.int p2), .val (.int p3), .val (.int p4), .val (.int g4), .val (.int (((p4.toUInt32 >>> ((1 : Int32) &&& 31).toUInt32).toInt32) &&& (3 : Int32))), .val (.int ((p1 &&& (255 : Int32)).toUInt32.toUInt16.toUInt32.toInt32)), .val (.int ((p2 &&& (255 : Int32)).toUInt32.toUInt16.toUInt32.toInt32)), .val (.int ((p3 &&& (255 : Int32)).toUInt32.toUInt16.toUInt32.toInt32)), .val (.ref x_826), .val (.ref x_827), .val (.int (Int32.ofNat cs_826.length)), .val (.int (Int32.ofNat (cs_826.length - 1)))] [(.int (Int32.ofNat (cs_826.length - 1))), (.ref x_827)])) rfl (by rw [hml]; rfl) (Steps.refl _) (argsL := [(.int (Int32.ofNat (cs_826.length - 1)))]) (rest := []) (lenOf pd_549 rfl) rfl (by show 2 * 0 + _ ≤ _; exact Nat.le_of_eq rfl) (hb hby at_177) (fun _ _ => ⟨rfl, K842, (by decide : 15 + 0 ≤ _), (by decide : 118 + 0 ≤ _)⟩)
    dsimp only [Pt.U, Pt.locs, Pt.cells, Pt.slots] at X843 l843 y843 z843 st843 hQ843
    subst l843 y843 z843
    obtain ⟨rfl, rfl, K843⟩ := hQ843
    have N843 := Fr.app N842 (Fr.nil Z.heap.size)
    refine own_Go.tr st843 ?_
    show own_Go _ _ _ _ (T843.setTop (mkF m 180 #[.val (.int p1), .val (.int p2), .val (.int p3), .val (.int p4), .val (.int g4), .val (.int (((p4.toUInt32 >>> ((1 : Int32) &&& 31).toUInt32).toInt32) &&& (3 : Int32))), .val (.int ((p1 &&& (255 : Int32)).toUInt32.toUInt16.toUInt32.toInt32)), .val (.int ((p2 &&& (255 : Int32)).toUInt32.toUInt16.toUInt32.toInt32)), .val (.int ((p3 &&& (255 : Int32)).toUInt32.toUInt16.toUInt32.toInt32)), .val (.ref x_826), .val (.ref x_827), .val (.int (Int32.ofNat cs_826.length)), .val (.int (Int32.ofNat (cs_826.length - 1)))] [(.int ((cs_826.take (cs_826.length - 1) ++ [(45 : Int32), 103, 122, 105, 112, 34]).getD (cs_826.length - 1 + 0) 0))]))
    refine own_Go.st (fun _ k => XS.bipush X843.here hx rfl (hb hby at_180) k) ?_
    show own_Go _ _ _ _ (T843.setTop (mkF m 182 #[.val (.int p1), .val (.int p2), .val (.int p3), .val (.int p4), .val (.int g4), .val (.int (((p4.toUInt32 >>> ((1 : Int32) &&& 31).toUInt32).toInt32) &&& (3 : Int32))), .val (.int ((p1 &&& (255 : Int32)).toUInt32.toUInt16.toUInt32.toInt32)), .val (.int ((p2 &&& (255 : Int32)).toUInt32.toUInt16.toUInt32.toInt32)), .val (.int ((p3 &&& (255 : Int32)).toUInt32.toUInt16.toUInt32.toInt32)), .val (.ref x_826), .val (.ref x_827), .val (.int (Int32.ofNat cs_826.length)), .val (.int (Int32.ofNat (cs_826.length - 1)))] [(.int (45 : Int32)), (.int ((cs_826.take (cs_826.length - 1) ++ [(45 : Int32), 103, 122, 105, 112, 34]).getD (cs_826.length - 1 + 0) 0))]))
    have hc845 : ((cs_826.take (cs_826.length - 1) ++ [(45 : Int32), 103, 122, 105, 112, 34]).getD (cs_826.length - 1 + 0) 0) = (45 : Int32) := (own_at hk).trans rfl
    refine own_Go.st (fun _ k => XS.icmpNo X843.here hx rfl (hb hby at_182) rfl (teq hc845).2 k) ?_
    show own_Go _ _ _ _ (T843.setTop (mkF m 185 #[.val (.int p1), .val (.int p2), .val (.int p3), .val (.int p4), .val (.int g4), .val (.int (((p4.toUInt32 >>> ((1 : Int32) &&& 31).toUInt32).toInt32) &&& (3 : Int32))), .val (.int ((p1 &&& (255 : Int32)).toUInt32.toUInt16.toUInt32.toInt32)), .val (.int ((p2 &&& (255 : Int32)).toUInt32.toUInt16.toUInt32.toInt32)), .val (.int ((p3 &&& (255 : Int32)).toUInt32.toUInt16.toUInt32.toInt32)), .val (.ref x_826), .val (.ref x_827), .val (.int (Int32.ofNat cs_826.length)), .val (.int (Int32.ofNat (cs_826.length - 1)))] []))
    refine own_Go.st (fun _ k => XS.aload X843.here hx rfl (hb hby at_185) rfl rfl k) ?_
    show own_Go _ _ _ _ (T843.setTop (mkF m 187 #[.val (.int p1), .val (.int p2), .val (.int p3), .val (.int p4), .val (.int g4), .val (.int (((p4.toUInt32 >>> ((1 : Int32) &&& 31).toUInt32).toInt32) &&& (3 : Int32))), .val (.int ((p1 &&& (255 : Int32)).toUInt32.toUInt16.toUInt32.toInt32)), .val (.int ((p2 &&& (255 : Int32)).toUInt32.toUInt16.toUInt32.toInt32)), .val (.int ((p3 &&& (255 : Int32)).toUInt32.toUInt16.toUInt32.toInt32)), .val (.ref x_826), .val (.ref x_827), .val (.int (Int32.ofNat cs_826.length)), .val (.int (Int32.ofNat (cs_826.length - 1)))] [(.ref x_827)]))
    refine own_Go.st (fun _ k => XS.iload X843.here hx rfl (hb hby at_187) rfl k) ?_
    show own_Go _ _ _ _ (T843.setTop (mkF m 189 #[.val (.int p1), .val (.int p2), .val (.int p3), .val (.int p4), .val (.int g4), .val (.int (((p4.toUInt32 >>> ((1 : Int32) &&& 31).toUInt32).toInt32) &&& (3 : Int32))), .val (.int ((p1 &&& (255 : Int32)).toUInt32.toUInt16.toUInt32.toInt32)), .val (.int ((p2 &&& (255 : Int32)).toUInt32.toUInt16.toUInt32.toInt32)), .val (.int ((p3 &&& (255 : Int32)).toUInt32.toUInt16.toUInt32.toInt32)), .val (.ref x_826), .val (.ref x_827), .val (.int (Int32.ofNat cs_826.length)), .val (.int (Int32.ofNat (cs_826.length - 1)))] [(.int (Int32.ofNat (cs_826.length - 1))), (.ref x_827)]))
    refine own_Go.st (fun _ k => XS.iconst X843.here hx rfl (hb hby at_189) k) ?_
    show own_Go _ _ _ _ (T843.setTop (mkF m 190 #[.val (.int p1), .val (.int p2), .val (.int p3), .val (.int p4), .val (.int g4), .val (.int (((p4.toUInt32 >>> ((1 : Int32) &&& 31).toUInt32).toInt32) &&& (3 : Int32))), .val (.int ((p1 &&& (255 : Int32)).toUInt32.toUInt16.toUInt32.toInt32)), .val (.int ((p2 &&& (255 : Int32)).toUInt32.toUInt16.toUInt32.toInt32)), .val (.int ((p3 &&& (255 : Int32)).toUInt32.toUInt16.toUInt32.toInt32)), .val (.ref x_826), .val (.ref x_827), .val (.int (Int32.ofNat cs_826.length)), .val (.int (Int32.ofNat (cs_826.length - 1)))] [(.int (1 : Int32)), (.int (Int32.ofNat (cs_826.length - 1))), (.ref x_827)]))
    refine own_Go.st (fun _ k => XS.iadd X843.here hx rfl (hb hby at_190) rfl k) ?_
    show own_Go _ _ _ _ (T843.setTop (mkF m 191 #[.val (.int p1), .val (.int p2), .val (.int p3), .val (.int p4), .val (.int g4), .val (.int (((p4.toUInt32 >>> ((1 : Int32) &&& 31).toUInt32).toInt32) &&& (3 : Int32))), .val (.int ((p1 &&& (255 : Int32)).toUInt32.toUInt16.toUInt32.toInt32)), .val (.int ((p2 &&& (255 : Int32)).toUInt32.toUInt16.toUInt32.toInt32)), .val (.int ((p3 &&& (255 : Int32)).toUInt32.toUInt16.toUInt32.toInt32)), .val (.ref x_826), .val (.ref x_827), .val (.int (Int32.ofNat cs_826.length)), .val (.int (Int32.ofNat (cs_826.length - 1)))] [(.int ((Int32.ofNat (cs_826.length - 1)) + (1 : Int32))), (.ref x_827)]))
    obtain ⟨kb847, N847_, vs847, s1847, s2847, s3847, s4847, s5847⟩ := own_Str.lat f829 (fun c q => (hlr c q).2)
    obtain ⟨cq846, kq846, q846a, q846b, q846c⟩ := isOf hZ827 K843 f829.exa
    obtain ⟨_, _, ⟨T846, L846, k846, n846⟩, -, X846, ⟨Lc846, hQ846, l846, y846, z846⟩, st846⟩ := X843.virtualBack hx (y := (⟨"java/lang/String", "charAt", "(I)C"⟩ : MethodName)) (z := (⟨"java/lang/String", "charAt", "(I)C"⟩ : MethodName)) hown827 (mvT hZ827 (hw _ (List.mem_of_getElem? (i := 186) rfl))) (mvT hZ827 (hw _ (List.mem_of_getElem? (i := 187) rfl))) (notFace_of_selects (args := #[]) (mvT hZ827 (hw _ (List.mem_of_getElem? (i := 189) rfl)))) (mvT hZ827 (hw _ (List.mem_of_getElem? (i := 189) rfl))) (mvT hZ827 (hw _ (List.mem_of_getElem? (i := 188) rfl))) (by decide) (StrChars.Road.chN (W := 0) hZ827 (own_hch hw) (kI := 4) (hw _ (List.mem_of_getElem? (i := 5) rfl)) s1847 s2847 s3847 s4847 s5847 f829.rng (st_COMPACT_STRINGS.ext f833.2) hzc (st_SIOOBE_FORMATTER.ext f833.2) hfm f829.le (i := (cs_826.length - 1 + 1)) (by rw [List.length_append, hk]; simp only [List.length_cons, List.length_nil]; omega) (j := ((Int32.ofNat (cs_826.length - 1)) + (1 : Int32))) (own_ofA (j := 1) (by omega)) (by decide) (by decide)) q846a q846c (g := (mkF m 191 #[.val (.int p1), .val (.int p2), .val (.int p3), .val (.int p4), .val (.int g4), .val (.int (((p4.toUInt32 >>> ((1 : Int32) &&& 31).toUInt32).toInt32) &&& (3 : Int32))), .val (.int ((p1 &&& (255 : Int32)).toUInt32.toUInt16.toUInt32.toInt32)), .val (.int ((p2 &&& (255 : Int32)).toUInt32.toUInt16.toUInt32.toInt32)), .val (.int ((p3 &&& (255 : Int32)).toUInt32.toUInt16.toUInt32.toInt32)), .val (.ref x_826), .val (.ref x_827), .val (.int (Int32.ofNat cs_826.length)), .val (.int (Int32.ofNat (cs_826.length - 1)))] [(.int ((Int32.ofNat (cs_826.length - 1)) + (1 : Int32))), (.ref x_827)])) rfl (by rw [hml]; rfl) (Steps.refl _) (argsL := [(.int ((Int32.ofNat (cs_826.length - 1)) + (1 : Int32)))]) (rest := []) (lenOf pd_549 rfl) rfl (by show 2 * 0 + _ ≤ _; exact Nat.le_of_eq rfl) (hb hby at_191) (fun _ _ => ⟨rfl, K843, (by decide : 15 + 0 ≤ _), (by decide : 118 + 0 ≤ _)⟩)
    dsimp only [Pt.U, Pt.locs, Pt.cells, Pt.slots] at X846 l846 y846 z846 st846 hQ846
    subst l846 y846 z846
    obtain ⟨rfl, rfl, K846⟩ := hQ846
    have N846 := Fr.app N843 (Fr.nil Z.heap.size)
    refine own_Go.tr st846 ?_
    show own_Go _ _ _ _ (T846.setTop (mkF m 194 #[.val (.int p1), .val (.int p2), .val (.int p3), .val (.int p4), .val (.int g4), .val (.int (((p4.toUInt32 >>> ((1 : Int32) &&& 31).toUInt32).toInt32) &&& (3 : Int32))), .val (.int ((p1 &&& (255 : Int32)).toUInt32.toUInt16.toUInt32.toInt32)), .val (.int ((p2 &&& (255 : Int32)).toUInt32.toUInt16.toUInt32.toInt32)), .val (.int ((p3 &&& (255 : Int32)).toUInt32.toUInt16.toUInt32.toInt32)), .val (.ref x_826), .val (.ref x_827), .val (.int (Int32.ofNat cs_826.length)), .val (.int (Int32.ofNat (cs_826.length - 1)))] [(.int ((cs_826.take (cs_826.length - 1) ++ [(45 : Int32), 103, 122, 105, 112, 34]).getD (cs_826.length - 1 + 1) 0))]))
    refine own_Go.st (fun _ k => XS.bipush X846.here hx rfl (hb hby at_194) k) ?_
    show own_Go _ _ _ _ (T846.setTop (mkF m 196 #[.val (.int p1), .val (.int p2), .val (.int p3), .val (.int p4), .val (.int g4), .val (.int (((p4.toUInt32 >>> ((1 : Int32) &&& 31).toUInt32).toInt32) &&& (3 : Int32))), .val (.int ((p1 &&& (255 : Int32)).toUInt32.toUInt16.toUInt32.toInt32)), .val (.int ((p2 &&& (255 : Int32)).toUInt32.toUInt16.toUInt32.toInt32)), .val (.int ((p3 &&& (255 : Int32)).toUInt32.toUInt16.toUInt32.toInt32)), .val (.ref x_826), .val (.ref x_827), .val (.int (Int32.ofNat cs_826.length)), .val (.int (Int32.ofNat (cs_826.length - 1)))] [(.int (103 : Int32)), (.int ((cs_826.take (cs_826.length - 1) ++ [(45 : Int32), 103, 122, 105, 112, 34]).getD (cs_826.length - 1 + 1) 0))]))
    have hc848 : ((cs_826.take (cs_826.length - 1) ++ [(45 : Int32), 103, 122, 105, 112, 34]).getD (cs_826.length - 1 + 1) 0) = (103 : Int32) := (own_at hk).trans rfl
    refine own_Go.st (fun _ k => XS.icmpNo X846.here hx rfl (hb hby at_196) rfl (teq hc848).2 k) ?_
    show own_Go _ _ _ _ (T846.setTop (mkF m 199 #[.val (.int p1), .val (.int p2), .val (.int p3), .val (.int p4), .val (.int g4), .val (.int (((p4.toUInt32 >>> ((1 : Int32) &&& 31).toUInt32).toInt32) &&& (3 : Int32))), .val (.int ((p1 &&& (255 : Int32)).toUInt32.toUInt16.toUInt32.toInt32)), .val (.int ((p2 &&& (255 : Int32)).toUInt32.toUInt16.toUInt32.toInt32)), .val (.int ((p3 &&& (255 : Int32)).toUInt32.toUInt16.toUInt32.toInt32)), .val (.ref x_826), .val (.ref x_827), .val (.int (Int32.ofNat cs_826.length)), .val (.int (Int32.ofNat (cs_826.length - 1)))] []))
    refine own_Go.st (fun _ k => XS.aload X846.here hx rfl (hb hby at_199) rfl rfl k) ?_
    show own_Go _ _ _ _ (T846.setTop (mkF m 201 #[.val (.int p1), .val (.int p2), .val (.int p3), .val (.int p4), .val (.int g4), .val (.int (((p4.toUInt32 >>> ((1 : Int32) &&& 31).toUInt32).toInt32) &&& (3 : Int32))), .val (.int ((p1 &&& (255 : Int32)).toUInt32.toUInt16.toUInt32.toInt32)), .val (.int ((p2 &&& (255 : Int32)).toUInt32.toUInt16.toUInt32.toInt32)), .val (.int ((p3 &&& (255 : Int32)).toUInt32.toUInt16.toUInt32.toInt32)), .val (.ref x_826), .val (.ref x_827), .val (.int (Int32.ofNat cs_826.length)), .val (.int (Int32.ofNat (cs_826.length - 1)))] [(.ref x_827)]))
    refine own_Go.st (fun _ k => XS.iload X846.here hx rfl (hb hby at_201) rfl k) ?_
    show own_Go _ _ _ _ (T846.setTop (mkF m 203 #[.val (.int p1), .val (.int p2), .val (.int p3), .val (.int p4), .val (.int g4), .val (.int (((p4.toUInt32 >>> ((1 : Int32) &&& 31).toUInt32).toInt32) &&& (3 : Int32))), .val (.int ((p1 &&& (255 : Int32)).toUInt32.toUInt16.toUInt32.toInt32)), .val (.int ((p2 &&& (255 : Int32)).toUInt32.toUInt16.toUInt32.toInt32)), .val (.int ((p3 &&& (255 : Int32)).toUInt32.toUInt16.toUInt32.toInt32)), .val (.ref x_826), .val (.ref x_827), .val (.int (Int32.ofNat cs_826.length)), .val (.int (Int32.ofNat (cs_826.length - 1)))] [(.int (Int32.ofNat (cs_826.length - 1))), (.ref x_827)]))
    refine own_Go.st (fun _ k => XS.iconst X846.here hx rfl (hb hby at_203) k) ?_
    show own_Go _ _ _ _ (T846.setTop (mkF m 204 #[.val (.int p1), .val (.int p2), .val (.int p3), .val (.int p4), .val (.int g4), .val (.int (((p4.toUInt32 >>> ((1 : Int32) &&& 31).toUInt32).toInt32) &&& (3 : Int32))), .val (.int ((p1 &&& (255 : Int32)).toUInt32.toUInt16.toUInt32.toInt32)), .val (.int ((p2 &&& (255 : Int32)).toUInt32.toUInt16.toUInt32.toInt32)), .val (.int ((p3 &&& (255 : Int32)).toUInt32.toUInt16.toUInt32.toInt32)), .val (.ref x_826), .val (.ref x_827), .val (.int (Int32.ofNat cs_826.length)), .val (.int (Int32.ofNat (cs_826.length - 1)))] [(.int (2 : Int32)), (.int (Int32.ofNat (cs_826.length - 1))), (.ref x_827)]))
    refine own_Go.st (fun _ k => XS.iadd X846.here hx rfl (hb hby at_204) rfl k) ?_
    show own_Go _ _ _ _ (T846.setTop (mkF m 205 #[.val (.int p1), .val (.int p2), .val (.int p3), .val (.int p4), .val (.int g4), .val (.int (((p4.toUInt32 >>> ((1 : Int32) &&& 31).toUInt32).toInt32) &&& (3 : Int32))), .val (.int ((p1 &&& (255 : Int32)).toUInt32.toUInt16.toUInt32.toInt32)), .val (.int ((p2 &&& (255 : Int32)).toUInt32.toUInt16.toUInt32.toInt32)), .val (.int ((p3 &&& (255 : Int32)).toUInt32.toUInt16.toUInt32.toInt32)), .val (.ref x_826), .val (.ref x_827), .val (.int (Int32.ofNat cs_826.length)), .val (.int (Int32.ofNat (cs_826.length - 1)))] [(.int ((Int32.ofNat (cs_826.length - 1)) + (2 : Int32))), (.ref x_827)]))
    obtain ⟨kb850, N850_, vs850, s1850, s2850, s3850, s4850, s5850⟩ := own_Str.lat f829 (fun c q => (hlr c q).2)
    obtain ⟨cq849, kq849, q849a, q849b, q849c⟩ := isOf hZ827 K846 f829.exa
    obtain ⟨_, _, ⟨T849, L849, k849, n849⟩, -, X849, ⟨Lc849, hQ849, l849, y849, z849⟩, st849⟩ := X846.virtualBack hx (y := (⟨"java/lang/String", "charAt", "(I)C"⟩ : MethodName)) (z := (⟨"java/lang/String", "charAt", "(I)C"⟩ : MethodName)) hown827 (mvT hZ827 (hw _ (List.mem_of_getElem? (i := 186) rfl))) (mvT hZ827 (hw _ (List.mem_of_getElem? (i := 187) rfl))) (notFace_of_selects (args := #[]) (mvT hZ827 (hw _ (List.mem_of_getElem? (i := 189) rfl)))) (mvT hZ827 (hw _ (List.mem_of_getElem? (i := 189) rfl))) (mvT hZ827 (hw _ (List.mem_of_getElem? (i := 188) rfl))) (by decide) (StrChars.Road.chN (W := 0) hZ827 (own_hch hw) (kI := 4) (hw _ (List.mem_of_getElem? (i := 5) rfl)) s1850 s2850 s3850 s4850 s5850 f829.rng (st_COMPACT_STRINGS.ext f833.2) hzc (st_SIOOBE_FORMATTER.ext f833.2) hfm f829.le (i := (cs_826.length - 1 + 2)) (by rw [List.length_append, hk]; simp only [List.length_cons, List.length_nil]; omega) (j := ((Int32.ofNat (cs_826.length - 1)) + (2 : Int32))) (own_ofA (j := 2) (by omega)) (by decide) (by decide)) q849a q849c (g := (mkF m 205 #[.val (.int p1), .val (.int p2), .val (.int p3), .val (.int p4), .val (.int g4), .val (.int (((p4.toUInt32 >>> ((1 : Int32) &&& 31).toUInt32).toInt32) &&& (3 : Int32))), .val (.int ((p1 &&& (255 : Int32)).toUInt32.toUInt16.toUInt32.toInt32)), .val (.int ((p2 &&& (255 : Int32)).toUInt32.toUInt16.toUInt32.toInt32)), .val (.int ((p3 &&& (255 : Int32)).toUInt32.toUInt16.toUInt32.toInt32)), .val (.ref x_826), .val (.ref x_827), .val (.int (Int32.ofNat cs_826.length)), .val (.int (Int32.ofNat (cs_826.length - 1)))] [(.int ((Int32.ofNat (cs_826.length - 1)) + (2 : Int32))), (.ref x_827)])) rfl (by rw [hml]; rfl) (Steps.refl _) (argsL := [(.int ((Int32.ofNat (cs_826.length - 1)) + (2 : Int32)))]) (rest := []) (lenOf pd_549 rfl) rfl (by show 2 * 0 + _ ≤ _; exact Nat.le_of_eq rfl) (hb hby at_205) (fun _ _ => ⟨rfl, K846, (by decide : 15 + 0 ≤ _), (by decide : 118 + 0 ≤ _)⟩)
    dsimp only [Pt.U, Pt.locs, Pt.cells, Pt.slots] at X849 l849 y849 z849 st849 hQ849
    subst l849 y849 z849
    obtain ⟨rfl, rfl, K849⟩ := hQ849
    have N849 := Fr.app N846 (Fr.nil Z.heap.size)
    refine own_Go.tr st849 ?_
    show own_Go _ _ _ _ (T849.setTop (mkF m 208 #[.val (.int p1), .val (.int p2), .val (.int p3), .val (.int p4), .val (.int g4), .val (.int (((p4.toUInt32 >>> ((1 : Int32) &&& 31).toUInt32).toInt32) &&& (3 : Int32))), .val (.int ((p1 &&& (255 : Int32)).toUInt32.toUInt16.toUInt32.toInt32)), .val (.int ((p2 &&& (255 : Int32)).toUInt32.toUInt16.toUInt32.toInt32)), .val (.int ((p3 &&& (255 : Int32)).toUInt32.toUInt16.toUInt32.toInt32)), .val (.ref x_826), .val (.ref x_827), .val (.int (Int32.ofNat cs_826.length)), .val (.int (Int32.ofNat (cs_826.length - 1)))] [(.int ((cs_826.take (cs_826.length - 1) ++ [(45 : Int32), 103, 122, 105, 112, 34]).getD (cs_826.length - 1 + 2) 0))]))
    refine own_Go.st (fun _ k => XS.bipush X849.here hx rfl (hb hby at_208) k) ?_
    show own_Go _ _ _ _ (T849.setTop (mkF m 210 #[.val (.int p1), .val (.int p2), .val (.int p3), .val (.int p4), .val (.int g4), .val (.int (((p4.toUInt32 >>> ((1 : Int32) &&& 31).toUInt32).toInt32) &&& (3 : Int32))), .val (.int ((p1 &&& (255 : Int32)).toUInt32.toUInt16.toUInt32.toInt32)), .val (.int ((p2 &&& (255 : Int32)).toUInt32.toUInt16.toUInt32.toInt32)), .val (.int ((p3 &&& (255 : Int32)).toUInt32.toUInt16.toUInt32.toInt32)), .val (.ref x_826), .val (.ref x_827), .val (.int (Int32.ofNat cs_826.length)), .val (.int (Int32.ofNat (cs_826.length - 1)))] [(.int (122 : Int32)), (.int ((cs_826.take (cs_826.length - 1) ++ [(45 : Int32), 103, 122, 105, 112, 34]).getD (cs_826.length - 1 + 2) 0))]))
    have hc851 : ((cs_826.take (cs_826.length - 1) ++ [(45 : Int32), 103, 122, 105, 112, 34]).getD (cs_826.length - 1 + 2) 0) = (122 : Int32) := (own_at hk).trans rfl
    refine own_Go.st (fun _ k => XS.icmpNo X849.here hx rfl (hb hby at_210) rfl (teq hc851).2 k) ?_
    show own_Go _ _ _ _ (T849.setTop (mkF m 213 #[.val (.int p1), .val (.int p2), .val (.int p3), .val (.int p4), .val (.int g4), .val (.int (((p4.toUInt32 >>> ((1 : Int32) &&& 31).toUInt32).toInt32) &&& (3 : Int32))), .val (.int ((p1 &&& (255 : Int32)).toUInt32.toUInt16.toUInt32.toInt32)), .val (.int ((p2 &&& (255 : Int32)).toUInt32.toUInt16.toUInt32.toInt32)), .val (.int ((p3 &&& (255 : Int32)).toUInt32.toUInt16.toUInt32.toInt32)), .val (.ref x_826), .val (.ref x_827), .val (.int (Int32.ofNat cs_826.length)), .val (.int (Int32.ofNat (cs_826.length - 1)))] []))
    refine own_Go.st (fun _ k => XS.aload X849.here hx rfl (hb hby at_213) rfl rfl k) ?_
    show own_Go _ _ _ _ (T849.setTop (mkF m 215 #[.val (.int p1), .val (.int p2), .val (.int p3), .val (.int p4), .val (.int g4), .val (.int (((p4.toUInt32 >>> ((1 : Int32) &&& 31).toUInt32).toInt32) &&& (3 : Int32))), .val (.int ((p1 &&& (255 : Int32)).toUInt32.toUInt16.toUInt32.toInt32)), .val (.int ((p2 &&& (255 : Int32)).toUInt32.toUInt16.toUInt32.toInt32)), .val (.int ((p3 &&& (255 : Int32)).toUInt32.toUInt16.toUInt32.toInt32)), .val (.ref x_826), .val (.ref x_827), .val (.int (Int32.ofNat cs_826.length)), .val (.int (Int32.ofNat (cs_826.length - 1)))] [(.ref x_827)]))
    refine own_Go.st (fun _ k => XS.iload X849.here hx rfl (hb hby at_215) rfl k) ?_
    show own_Go _ _ _ _ (T849.setTop (mkF m 217 #[.val (.int p1), .val (.int p2), .val (.int p3), .val (.int p4), .val (.int g4), .val (.int (((p4.toUInt32 >>> ((1 : Int32) &&& 31).toUInt32).toInt32) &&& (3 : Int32))), .val (.int ((p1 &&& (255 : Int32)).toUInt32.toUInt16.toUInt32.toInt32)), .val (.int ((p2 &&& (255 : Int32)).toUInt32.toUInt16.toUInt32.toInt32)), .val (.int ((p3 &&& (255 : Int32)).toUInt32.toUInt16.toUInt32.toInt32)), .val (.ref x_826), .val (.ref x_827), .val (.int (Int32.ofNat cs_826.length)), .val (.int (Int32.ofNat (cs_826.length - 1)))] [(.int (Int32.ofNat (cs_826.length - 1))), (.ref x_827)]))
    refine own_Go.st (fun _ k => XS.iconst X849.here hx rfl (hb hby at_217) k) ?_
    show own_Go _ _ _ _ (T849.setTop (mkF m 218 #[.val (.int p1), .val (.int p2), .val (.int p3), .val (.int p4), .val (.int g4), .val (.int (((p4.toUInt32 >>> ((1 : Int32) &&& 31).toUInt32).toInt32) &&& (3 : Int32))), .val (.int ((p1 &&& (255 : Int32)).toUInt32.toUInt16.toUInt32.toInt32)), .val (.int ((p2 &&& (255 : Int32)).toUInt32.toUInt16.toUInt32.toInt32)), .val (.int ((p3 &&& (255 : Int32)).toUInt32.toUInt16.toUInt32.toInt32)), .val (.ref x_826), .val (.ref x_827), .val (.int (Int32.ofNat cs_826.length)), .val (.int (Int32.ofNat (cs_826.length - 1)))] [(.int (3 : Int32)), (.int (Int32.ofNat (cs_826.length - 1))), (.ref x_827)]))
    refine own_Go.st (fun _ k => XS.iadd X849.here hx rfl (hb hby at_218) rfl k) ?_
    show own_Go _ _ _ _ (T849.setTop (mkF m 219 #[.val (.int p1), .val (.int p2), .val (.int p3), .val (.int p4), .val (.int g4), .val (.int (((p4.toUInt32 >>> ((1 : Int32) &&& 31).toUInt32).toInt32) &&& (3 : Int32))), .val (.int ((p1 &&& (255 : Int32)).toUInt32.toUInt16.toUInt32.toInt32)), .val (.int ((p2 &&& (255 : Int32)).toUInt32.toUInt16.toUInt32.toInt32)), .val (.int ((p3 &&& (255 : Int32)).toUInt32.toUInt16.toUInt32.toInt32)), .val (.ref x_826), .val (.ref x_827), .val (.int (Int32.ofNat cs_826.length)), .val (.int (Int32.ofNat (cs_826.length - 1)))] [(.int ((Int32.ofNat (cs_826.length - 1)) + (3 : Int32))), (.ref x_827)]))
    obtain ⟨kb853, N853_, vs853, s1853, s2853, s3853, s4853, s5853⟩ := own_Str.lat f829 (fun c q => (hlr c q).2)
    obtain ⟨cq852, kq852, q852a, q852b, q852c⟩ := isOf hZ827 K849 f829.exa
    obtain ⟨_, _, ⟨T852, L852, k852, n852⟩, -, X852, ⟨Lc852, hQ852, l852, y852, z852⟩, st852⟩ := X849.virtualBack hx (y := (⟨"java/lang/String", "charAt", "(I)C"⟩ : MethodName)) (z := (⟨"java/lang/String", "charAt", "(I)C"⟩ : MethodName)) hown827 (mvT hZ827 (hw _ (List.mem_of_getElem? (i := 186) rfl))) (mvT hZ827 (hw _ (List.mem_of_getElem? (i := 187) rfl))) (notFace_of_selects (args := #[]) (mvT hZ827 (hw _ (List.mem_of_getElem? (i := 189) rfl)))) (mvT hZ827 (hw _ (List.mem_of_getElem? (i := 189) rfl))) (mvT hZ827 (hw _ (List.mem_of_getElem? (i := 188) rfl))) (by decide) (StrChars.Road.chN (W := 0) hZ827 (own_hch hw) (kI := 4) (hw _ (List.mem_of_getElem? (i := 5) rfl)) s1853 s2853 s3853 s4853 s5853 f829.rng (st_COMPACT_STRINGS.ext f833.2) hzc (st_SIOOBE_FORMATTER.ext f833.2) hfm f829.le (i := (cs_826.length - 1 + 3)) (by rw [List.length_append, hk]; simp only [List.length_cons, List.length_nil]; omega) (j := ((Int32.ofNat (cs_826.length - 1)) + (3 : Int32))) (own_ofA (j := 3) (by omega)) (by decide) (by decide)) q852a q852c (g := (mkF m 219 #[.val (.int p1), .val (.int p2), .val (.int p3), .val (.int p4), .val (.int g4), .val (.int (((p4.toUInt32 >>> ((1 : Int32) &&& 31).toUInt32).toInt32) &&& (3 : Int32))), .val (.int ((p1 &&& (255 : Int32)).toUInt32.toUInt16.toUInt32.toInt32)), .val (.int ((p2 &&& (255 : Int32)).toUInt32.toUInt16.toUInt32.toInt32)), .val (.int ((p3 &&& (255 : Int32)).toUInt32.toUInt16.toUInt32.toInt32)), .val (.ref x_826), .val (.ref x_827), .val (.int (Int32.ofNat cs_826.length)), .val (.int (Int32.ofNat (cs_826.length - 1)))] [(.int ((Int32.ofNat (cs_826.length - 1)) + (3 : Int32))), (.ref x_827)])) rfl (by rw [hml]; rfl) (Steps.refl _) (argsL := [(.int ((Int32.ofNat (cs_826.length - 1)) + (3 : Int32)))]) (rest := []) (lenOf pd_549 rfl) rfl (by show 2 * 0 + _ ≤ _; exact Nat.le_of_eq rfl) (hb hby at_219) (fun _ _ => ⟨rfl, K849, (by decide : 15 + 0 ≤ _), (by decide : 118 + 0 ≤ _)⟩)
    dsimp only [Pt.U, Pt.locs, Pt.cells, Pt.slots] at X852 l852 y852 z852 st852 hQ852
    subst l852 y852 z852
    obtain ⟨rfl, rfl, K852⟩ := hQ852
    have N852 := Fr.app N849 (Fr.nil Z.heap.size)
    refine own_Go.tr st852 ?_
    show own_Go _ _ _ _ (T852.setTop (mkF m 222 #[.val (.int p1), .val (.int p2), .val (.int p3), .val (.int p4), .val (.int g4), .val (.int (((p4.toUInt32 >>> ((1 : Int32) &&& 31).toUInt32).toInt32) &&& (3 : Int32))), .val (.int ((p1 &&& (255 : Int32)).toUInt32.toUInt16.toUInt32.toInt32)), .val (.int ((p2 &&& (255 : Int32)).toUInt32.toUInt16.toUInt32.toInt32)), .val (.int ((p3 &&& (255 : Int32)).toUInt32.toUInt16.toUInt32.toInt32)), .val (.ref x_826), .val (.ref x_827), .val (.int (Int32.ofNat cs_826.length)), .val (.int (Int32.ofNat (cs_826.length - 1)))] [(.int ((cs_826.take (cs_826.length - 1) ++ [(45 : Int32), 103, 122, 105, 112, 34]).getD (cs_826.length - 1 + 3) 0))]))
    refine own_Go.st (fun _ k => XS.bipush X852.here hx rfl (hb hby at_222) k) ?_
    show own_Go _ _ _ _ (T852.setTop (mkF m 224 #[.val (.int p1), .val (.int p2), .val (.int p3), .val (.int p4), .val (.int g4), .val (.int (((p4.toUInt32 >>> ((1 : Int32) &&& 31).toUInt32).toInt32) &&& (3 : Int32))), .val (.int ((p1 &&& (255 : Int32)).toUInt32.toUInt16.toUInt32.toInt32)), .val (.int ((p2 &&& (255 : Int32)).toUInt32.toUInt16.toUInt32.toInt32)), .val (.int ((p3 &&& (255 : Int32)).toUInt32.toUInt16.toUInt32.toInt32)), .val (.ref x_826), .val (.ref x_827), .val (.int (Int32.ofNat cs_826.length)), .val (.int (Int32.ofNat (cs_826.length - 1)))] [(.int (105 : Int32)), (.int ((cs_826.take (cs_826.length - 1) ++ [(45 : Int32), 103, 122, 105, 112, 34]).getD (cs_826.length - 1 + 3) 0))]))
    have hc854 : ((cs_826.take (cs_826.length - 1) ++ [(45 : Int32), 103, 122, 105, 112, 34]).getD (cs_826.length - 1 + 3) 0) = (105 : Int32) := (own_at hk).trans rfl
    refine own_Go.st (fun _ k => XS.icmpNo X852.here hx rfl (hb hby at_224) rfl (teq hc854).2 k) ?_
    show own_Go _ _ _ _ (T852.setTop (mkF m 227 #[.val (.int p1), .val (.int p2), .val (.int p3), .val (.int p4), .val (.int g4), .val (.int (((p4.toUInt32 >>> ((1 : Int32) &&& 31).toUInt32).toInt32) &&& (3 : Int32))), .val (.int ((p1 &&& (255 : Int32)).toUInt32.toUInt16.toUInt32.toInt32)), .val (.int ((p2 &&& (255 : Int32)).toUInt32.toUInt16.toUInt32.toInt32)), .val (.int ((p3 &&& (255 : Int32)).toUInt32.toUInt16.toUInt32.toInt32)), .val (.ref x_826), .val (.ref x_827), .val (.int (Int32.ofNat cs_826.length)), .val (.int (Int32.ofNat (cs_826.length - 1)))] []))
    refine own_Go.st (fun _ k => XS.aload X852.here hx rfl (hb hby at_227) rfl rfl k) ?_
    show own_Go _ _ _ _ (T852.setTop (mkF m 229 #[.val (.int p1), .val (.int p2), .val (.int p3), .val (.int p4), .val (.int g4), .val (.int (((p4.toUInt32 >>> ((1 : Int32) &&& 31).toUInt32).toInt32) &&& (3 : Int32))), .val (.int ((p1 &&& (255 : Int32)).toUInt32.toUInt16.toUInt32.toInt32)), .val (.int ((p2 &&& (255 : Int32)).toUInt32.toUInt16.toUInt32.toInt32)), .val (.int ((p3 &&& (255 : Int32)).toUInt32.toUInt16.toUInt32.toInt32)), .val (.ref x_826), .val (.ref x_827), .val (.int (Int32.ofNat cs_826.length)), .val (.int (Int32.ofNat (cs_826.length - 1)))] [(.ref x_827)]))
    refine own_Go.st (fun _ k => XS.iload X852.here hx rfl (hb hby at_229) rfl k) ?_
    show own_Go _ _ _ _ (T852.setTop (mkF m 231 #[.val (.int p1), .val (.int p2), .val (.int p3), .val (.int p4), .val (.int g4), .val (.int (((p4.toUInt32 >>> ((1 : Int32) &&& 31).toUInt32).toInt32) &&& (3 : Int32))), .val (.int ((p1 &&& (255 : Int32)).toUInt32.toUInt16.toUInt32.toInt32)), .val (.int ((p2 &&& (255 : Int32)).toUInt32.toUInt16.toUInt32.toInt32)), .val (.int ((p3 &&& (255 : Int32)).toUInt32.toUInt16.toUInt32.toInt32)), .val (.ref x_826), .val (.ref x_827), .val (.int (Int32.ofNat cs_826.length)), .val (.int (Int32.ofNat (cs_826.length - 1)))] [(.int (Int32.ofNat (cs_826.length - 1))), (.ref x_827)]))
    refine own_Go.st (fun _ k => XS.iconst X852.here hx rfl (hb hby at_231) k) ?_
    show own_Go _ _ _ _ (T852.setTop (mkF m 232 #[.val (.int p1), .val (.int p2), .val (.int p3), .val (.int p4), .val (.int g4), .val (.int (((p4.toUInt32 >>> ((1 : Int32) &&& 31).toUInt32).toInt32) &&& (3 : Int32))), .val (.int ((p1 &&& (255 : Int32)).toUInt32.toUInt16.toUInt32.toInt32)), .val (.int ((p2 &&& (255 : Int32)).toUInt32.toUInt16.toUInt32.toInt32)), .val (.int ((p3 &&& (255 : Int32)).toUInt32.toUInt16.toUInt32.toInt32)), .val (.ref x_826), .val (.ref x_827), .val (.int (Int32.ofNat cs_826.length)), .val (.int (Int32.ofNat (cs_826.length - 1)))] [(.int (4 : Int32)), (.int (Int32.ofNat (cs_826.length - 1))), (.ref x_827)]))
    refine own_Go.st (fun _ k => XS.iadd X852.here hx rfl (hb hby at_232) rfl k) ?_
    show own_Go _ _ _ _ (T852.setTop (mkF m 233 #[.val (.int p1), .val (.int p2), .val (.int p3), .val (.int p4), .val (.int g4), .val (.int (((p4.toUInt32 >>> ((1 : Int32) &&& 31).toUInt32).toInt32) &&& (3 : Int32))), .val (.int ((p1 &&& (255 : Int32)).toUInt32.toUInt16.toUInt32.toInt32)), .val (.int ((p2 &&& (255 : Int32)).toUInt32.toUInt16.toUInt32.toInt32)), .val (.int ((p3 &&& (255 : Int32)).toUInt32.toUInt16.toUInt32.toInt32)), .val (.ref x_826), .val (.ref x_827), .val (.int (Int32.ofNat cs_826.length)), .val (.int (Int32.ofNat (cs_826.length - 1)))] [(.int ((Int32.ofNat (cs_826.length - 1)) + (4 : Int32))), (.ref x_827)]))
    obtain ⟨kb856, N856_, vs856, s1856, s2856, s3856, s4856, s5856⟩ := own_Str.lat f829 (fun c q => (hlr c q).2)
    obtain ⟨cq855, kq855, q855a, q855b, q855c⟩ := isOf hZ827 K852 f829.exa
    obtain ⟨_, _, ⟨T855, L855, k855, n855⟩, -, X855, ⟨Lc855, hQ855, l855, y855, z855⟩, st855⟩ := X852.virtualBack hx (y := (⟨"java/lang/String", "charAt", "(I)C"⟩ : MethodName)) (z := (⟨"java/lang/String", "charAt", "(I)C"⟩ : MethodName)) hown827 (mvT hZ827 (hw _ (List.mem_of_getElem? (i := 186) rfl))) (mvT hZ827 (hw _ (List.mem_of_getElem? (i := 187) rfl))) (notFace_of_selects (args := #[]) (mvT hZ827 (hw _ (List.mem_of_getElem? (i := 189) rfl)))) (mvT hZ827 (hw _ (List.mem_of_getElem? (i := 189) rfl))) (mvT hZ827 (hw _ (List.mem_of_getElem? (i := 188) rfl))) (by decide) (StrChars.Road.chN (W := 0) hZ827 (own_hch hw) (kI := 4) (hw _ (List.mem_of_getElem? (i := 5) rfl)) s1856 s2856 s3856 s4856 s5856 f829.rng (st_COMPACT_STRINGS.ext f833.2) hzc (st_SIOOBE_FORMATTER.ext f833.2) hfm f829.le (i := (cs_826.length - 1 + 4)) (by rw [List.length_append, hk]; simp only [List.length_cons, List.length_nil]; omega) (j := ((Int32.ofNat (cs_826.length - 1)) + (4 : Int32))) (own_ofA (j := 4) (by omega)) (by decide) (by decide)) q855a q855c (g := (mkF m 233 #[.val (.int p1), .val (.int p2), .val (.int p3), .val (.int p4), .val (.int g4), .val (.int (((p4.toUInt32 >>> ((1 : Int32) &&& 31).toUInt32).toInt32) &&& (3 : Int32))), .val (.int ((p1 &&& (255 : Int32)).toUInt32.toUInt16.toUInt32.toInt32)), .val (.int ((p2 &&& (255 : Int32)).toUInt32.toUInt16.toUInt32.toInt32)), .val (.int ((p3 &&& (255 : Int32)).toUInt32.toUInt16.toUInt32.toInt32)), .val (.ref x_826), .val (.ref x_827), .val (.int (Int32.ofNat cs_826.length)), .val (.int (Int32.ofNat (cs_826.length - 1)))] [(.int ((Int32.ofNat (cs_826.length - 1)) + (4 : Int32))), (.ref x_827)])) rfl (by rw [hml]; rfl) (Steps.refl _) (argsL := [(.int ((Int32.ofNat (cs_826.length - 1)) + (4 : Int32)))]) (rest := []) (lenOf pd_549 rfl) rfl (by show 2 * 0 + _ ≤ _; exact Nat.le_of_eq rfl) (hb hby at_233) (fun _ _ => ⟨rfl, K852, (by decide : 15 + 0 ≤ _), (by decide : 118 + 0 ≤ _)⟩)
    dsimp only [Pt.U, Pt.locs, Pt.cells, Pt.slots] at X855 l855 y855 z855 st855 hQ855
    subst l855 y855 z855
    obtain ⟨rfl, rfl, K855⟩ := hQ855
    have N855 := Fr.app N852 (Fr.nil Z.heap.size)
    refine own_Go.tr st855 ?_
    show own_Go _ _ _ _ (T855.setTop (mkF m 236 #[.val (.int p1), .val (.int p2), .val (.int p3), .val (.int p4), .val (.int g4), .val (.int (((p4.toUInt32 >>> ((1 : Int32) &&& 31).toUInt32).toInt32) &&& (3 : Int32))), .val (.int ((p1 &&& (255 : Int32)).toUInt32.toUInt16.toUInt32.toInt32)), .val (.int ((p2 &&& (255 : Int32)).toUInt32.toUInt16.toUInt32.toInt32)), .val (.int ((p3 &&& (255 : Int32)).toUInt32.toUInt16.toUInt32.toInt32)), .val (.ref x_826), .val (.ref x_827), .val (.int (Int32.ofNat cs_826.length)), .val (.int (Int32.ofNat (cs_826.length - 1)))] [(.int ((cs_826.take (cs_826.length - 1) ++ [(45 : Int32), 103, 122, 105, 112, 34]).getD (cs_826.length - 1 + 4) 0))]))
    refine own_Go.st (fun _ k => XS.bipush X855.here hx rfl (hb hby at_236) k) ?_
    show own_Go _ _ _ _ (T855.setTop (mkF m 238 #[.val (.int p1), .val (.int p2), .val (.int p3), .val (.int p4), .val (.int g4), .val (.int (((p4.toUInt32 >>> ((1 : Int32) &&& 31).toUInt32).toInt32) &&& (3 : Int32))), .val (.int ((p1 &&& (255 : Int32)).toUInt32.toUInt16.toUInt32.toInt32)), .val (.int ((p2 &&& (255 : Int32)).toUInt32.toUInt16.toUInt32.toInt32)), .val (.int ((p3 &&& (255 : Int32)).toUInt32.toUInt16.toUInt32.toInt32)), .val (.ref x_826), .val (.ref x_827), .val (.int (Int32.ofNat cs_826.length)), .val (.int (Int32.ofNat (cs_826.length - 1)))] [(.int (112 : Int32)), (.int ((cs_826.take (cs_826.length - 1) ++ [(45 : Int32), 103, 122, 105, 112, 34]).getD (cs_826.length - 1 + 4) 0))]))
    have hc857 : ((cs_826.take (cs_826.length - 1) ++ [(45 : Int32), 103, 122, 105, 112, 34]).getD (cs_826.length - 1 + 4) 0) = (112 : Int32) := (own_at hk).trans rfl
    refine own_Go.st (fun _ k => XS.icmpNo X855.here hx rfl (hb hby at_238) rfl (teq hc857).2 k) ?_
    show own_Go _ _ _ _ (T855.setTop (mkF m 241 #[.val (.int p1), .val (.int p2), .val (.int p3), .val (.int p4), .val (.int g4), .val (.int (((p4.toUInt32 >>> ((1 : Int32) &&& 31).toUInt32).toInt32) &&& (3 : Int32))), .val (.int ((p1 &&& (255 : Int32)).toUInt32.toUInt16.toUInt32.toInt32)), .val (.int ((p2 &&& (255 : Int32)).toUInt32.toUInt16.toUInt32.toInt32)), .val (.int ((p3 &&& (255 : Int32)).toUInt32.toUInt16.toUInt32.toInt32)), .val (.ref x_826), .val (.ref x_827), .val (.int (Int32.ofNat cs_826.length)), .val (.int (Int32.ofNat (cs_826.length - 1)))] []))
    refine own_Go.st (fun _ k => XS.aload X855.here hx rfl (hb hby at_241) rfl rfl k) ?_
    show own_Go _ _ _ _ (T855.setTop (mkF m 243 #[.val (.int p1), .val (.int p2), .val (.int p3), .val (.int p4), .val (.int g4), .val (.int (((p4.toUInt32 >>> ((1 : Int32) &&& 31).toUInt32).toInt32) &&& (3 : Int32))), .val (.int ((p1 &&& (255 : Int32)).toUInt32.toUInt16.toUInt32.toInt32)), .val (.int ((p2 &&& (255 : Int32)).toUInt32.toUInt16.toUInt32.toInt32)), .val (.int ((p3 &&& (255 : Int32)).toUInt32.toUInt16.toUInt32.toInt32)), .val (.ref x_826), .val (.ref x_827), .val (.int (Int32.ofNat cs_826.length)), .val (.int (Int32.ofNat (cs_826.length - 1)))] [(.ref x_827)]))
    refine own_Go.st (fun _ k => XS.iload X855.here hx rfl (hb hby at_243) rfl k) ?_
    show own_Go _ _ _ _ (T855.setTop (mkF m 245 #[.val (.int p1), .val (.int p2), .val (.int p3), .val (.int p4), .val (.int g4), .val (.int (((p4.toUInt32 >>> ((1 : Int32) &&& 31).toUInt32).toInt32) &&& (3 : Int32))), .val (.int ((p1 &&& (255 : Int32)).toUInt32.toUInt16.toUInt32.toInt32)), .val (.int ((p2 &&& (255 : Int32)).toUInt32.toUInt16.toUInt32.toInt32)), .val (.int ((p3 &&& (255 : Int32)).toUInt32.toUInt16.toUInt32.toInt32)), .val (.ref x_826), .val (.ref x_827), .val (.int (Int32.ofNat cs_826.length)), .val (.int (Int32.ofNat (cs_826.length - 1)))] [(.int (Int32.ofNat (cs_826.length - 1))), (.ref x_827)]))
    refine own_Go.st (fun _ k => XS.iconst X855.here hx rfl (hb hby at_245) k) ?_
    show own_Go _ _ _ _ (T855.setTop (mkF m 246 #[.val (.int p1), .val (.int p2), .val (.int p3), .val (.int p4), .val (.int g4), .val (.int (((p4.toUInt32 >>> ((1 : Int32) &&& 31).toUInt32).toInt32) &&& (3 : Int32))), .val (.int ((p1 &&& (255 : Int32)).toUInt32.toUInt16.toUInt32.toInt32)), .val (.int ((p2 &&& (255 : Int32)).toUInt32.toUInt16.toUInt32.toInt32)), .val (.int ((p3 &&& (255 : Int32)).toUInt32.toUInt16.toUInt32.toInt32)), .val (.ref x_826), .val (.ref x_827), .val (.int (Int32.ofNat cs_826.length)), .val (.int (Int32.ofNat (cs_826.length - 1)))] [(.int (5 : Int32)), (.int (Int32.ofNat (cs_826.length - 1))), (.ref x_827)]))
    refine own_Go.st (fun _ k => XS.iadd X855.here hx rfl (hb hby at_246) rfl k) ?_
    show own_Go _ _ _ _ (T855.setTop (mkF m 247 #[.val (.int p1), .val (.int p2), .val (.int p3), .val (.int p4), .val (.int g4), .val (.int (((p4.toUInt32 >>> ((1 : Int32) &&& 31).toUInt32).toInt32) &&& (3 : Int32))), .val (.int ((p1 &&& (255 : Int32)).toUInt32.toUInt16.toUInt32.toInt32)), .val (.int ((p2 &&& (255 : Int32)).toUInt32.toUInt16.toUInt32.toInt32)), .val (.int ((p3 &&& (255 : Int32)).toUInt32.toUInt16.toUInt32.toInt32)), .val (.ref x_826), .val (.ref x_827), .val (.int (Int32.ofNat cs_826.length)), .val (.int (Int32.ofNat (cs_826.length - 1)))] [(.int ((Int32.ofNat (cs_826.length - 1)) + (5 : Int32))), (.ref x_827)]))
    obtain ⟨kb859, N859_, vs859, s1859, s2859, s3859, s4859, s5859⟩ := own_Str.lat f829 (fun c q => (hlr c q).2)
    obtain ⟨cq858, kq858, q858a, q858b, q858c⟩ := isOf hZ827 K855 f829.exa
    obtain ⟨_, _, ⟨T858, L858, k858, n858⟩, -, X858, ⟨Lc858, hQ858, l858, y858, z858⟩, st858⟩ := X855.virtualBack hx (y := (⟨"java/lang/String", "charAt", "(I)C"⟩ : MethodName)) (z := (⟨"java/lang/String", "charAt", "(I)C"⟩ : MethodName)) hown827 (mvT hZ827 (hw _ (List.mem_of_getElem? (i := 186) rfl))) (mvT hZ827 (hw _ (List.mem_of_getElem? (i := 187) rfl))) (notFace_of_selects (args := #[]) (mvT hZ827 (hw _ (List.mem_of_getElem? (i := 189) rfl)))) (mvT hZ827 (hw _ (List.mem_of_getElem? (i := 189) rfl))) (mvT hZ827 (hw _ (List.mem_of_getElem? (i := 188) rfl))) (by decide) (StrChars.Road.chN (W := 0) hZ827 (own_hch hw) (kI := 4) (hw _ (List.mem_of_getElem? (i := 5) rfl)) s1859 s2859 s3859 s4859 s5859 f829.rng (st_COMPACT_STRINGS.ext f833.2) hzc (st_SIOOBE_FORMATTER.ext f833.2) hfm f829.le (i := (cs_826.length - 1 + 5)) (by rw [List.length_append, hk]; simp only [List.length_cons, List.length_nil]; omega) (j := ((Int32.ofNat (cs_826.length - 1)) + (5 : Int32))) (own_ofA (j := 5) (by omega)) (by decide) (by decide)) q858a q858c (g := (mkF m 247 #[.val (.int p1), .val (.int p2), .val (.int p3), .val (.int p4), .val (.int g4), .val (.int (((p4.toUInt32 >>> ((1 : Int32) &&& 31).toUInt32).toInt32) &&& (3 : Int32))), .val (.int ((p1 &&& (255 : Int32)).toUInt32.toUInt16.toUInt32.toInt32)), .val (.int ((p2 &&& (255 : Int32)).toUInt32.toUInt16.toUInt32.toInt32)), .val (.int ((p3 &&& (255 : Int32)).toUInt32.toUInt16.toUInt32.toInt32)), .val (.ref x_826), .val (.ref x_827), .val (.int (Int32.ofNat cs_826.length)), .val (.int (Int32.ofNat (cs_826.length - 1)))] [(.int ((Int32.ofNat (cs_826.length - 1)) + (5 : Int32))), (.ref x_827)])) rfl (by rw [hml]; rfl) (Steps.refl _) (argsL := [(.int ((Int32.ofNat (cs_826.length - 1)) + (5 : Int32)))]) (rest := []) (lenOf pd_549 rfl) rfl (by show 2 * 0 + _ ≤ _; exact Nat.le_of_eq rfl) (hb hby at_247) (fun _ _ => ⟨rfl, K855, (by decide : 15 + 0 ≤ _), (by decide : 118 + 0 ≤ _)⟩)
    dsimp only [Pt.U, Pt.locs, Pt.cells, Pt.slots] at X858 l858 y858 z858 st858 hQ858
    subst l858 y858 z858
    obtain ⟨rfl, rfl, K858⟩ := hQ858
    have N858 := Fr.app N855 (Fr.nil Z.heap.size)
    refine own_Go.tr st858 ?_
    show own_Go _ _ _ _ (T858.setTop (mkF m 250 #[.val (.int p1), .val (.int p2), .val (.int p3), .val (.int p4), .val (.int g4), .val (.int (((p4.toUInt32 >>> ((1 : Int32) &&& 31).toUInt32).toInt32) &&& (3 : Int32))), .val (.int ((p1 &&& (255 : Int32)).toUInt32.toUInt16.toUInt32.toInt32)), .val (.int ((p2 &&& (255 : Int32)).toUInt32.toUInt16.toUInt32.toInt32)), .val (.int ((p3 &&& (255 : Int32)).toUInt32.toUInt16.toUInt32.toInt32)), .val (.ref x_826), .val (.ref x_827), .val (.int (Int32.ofNat cs_826.length)), .val (.int (Int32.ofNat (cs_826.length - 1)))] [(.int ((cs_826.take (cs_826.length - 1) ++ [(45 : Int32), 103, 122, 105, 112, 34]).getD (cs_826.length - 1 + 5) 0))]))
    refine own_Go.st (fun _ k => XS.bipush X858.here hx rfl (hb hby at_250) k) ?_
    show own_Go _ _ _ _ (T858.setTop (mkF m 252 #[.val (.int p1), .val (.int p2), .val (.int p3), .val (.int p4), .val (.int g4), .val (.int (((p4.toUInt32 >>> ((1 : Int32) &&& 31).toUInt32).toInt32) &&& (3 : Int32))), .val (.int ((p1 &&& (255 : Int32)).toUInt32.toUInt16.toUInt32.toInt32)), .val (.int ((p2 &&& (255 : Int32)).toUInt32.toUInt16.toUInt32.toInt32)), .val (.int ((p3 &&& (255 : Int32)).toUInt32.toUInt16.toUInt32.toInt32)), .val (.ref x_826), .val (.ref x_827), .val (.int (Int32.ofNat cs_826.length)), .val (.int (Int32.ofNat (cs_826.length - 1)))] [(.int (34 : Int32)), (.int ((cs_826.take (cs_826.length - 1) ++ [(45 : Int32), 103, 122, 105, 112, 34]).getD (cs_826.length - 1 + 5) 0))]))
    have hc860 : ((cs_826.take (cs_826.length - 1) ++ [(45 : Int32), 103, 122, 105, 112, 34]).getD (cs_826.length - 1 + 5) 0) = (34 : Int32) := (own_at hk).trans rfl
    refine own_Go.st (fun _ k => XS.icmpNo X858.here hx rfl (hb hby at_252) rfl (teq hc860).2 k) ?_
    show own_Go _ _ _ _ (T858.setTop (mkF m 255 #[.val (.int p1), .val (.int p2), .val (.int p3), .val (.int p4), .val (.int g4), .val (.int (((p4.toUInt32 >>> ((1 : Int32) &&& 31).toUInt32).toInt32) &&& (3 : Int32))), .val (.int ((p1 &&& (255 : Int32)).toUInt32.toUInt16.toUInt32.toInt32)), .val (.int ((p2 &&& (255 : Int32)).toUInt32.toUInt16.toUInt32.toInt32)), .val (.int ((p3 &&& (255 : Int32)).toUInt32.toUInt16.toUInt32.toInt32)), .val (.ref x_826), .val (.ref x_827), .val (.int (Int32.ofNat cs_826.length)), .val (.int (Int32.ofNat (cs_826.length - 1)))] []))
    refine own_Go.st (fun _ k => XS.iconst X858.here hx rfl (hb hby at_255) k) ?_
    show own_Go _ _ _ _ (T858.setTop (mkF m 256 #[.val (.int p1), .val (.int p2), .val (.int p3), .val (.int p4), .val (.int g4), .val (.int (((p4.toUInt32 >>> ((1 : Int32) &&& 31).toUInt32).toInt32) &&& (3 : Int32))), .val (.int ((p1 &&& (255 : Int32)).toUInt32.toUInt16.toUInt32.toInt32)), .val (.int ((p2 &&& (255 : Int32)).toUInt32.toUInt16.toUInt32.toInt32)), .val (.int ((p3 &&& (255 : Int32)).toUInt32.toUInt16.toUInt32.toInt32)), .val (.ref x_826), .val (.ref x_827), .val (.int (Int32.ofNat cs_826.length)), .val (.int (Int32.ofNat (cs_826.length - 1)))] [(.int (1 : Int32))]))
    refine own_Go.st (fun _ k => XS.goto X858.here hx rfl (pc0 := 256) (pc' := 260) rfl (hb hby at_256) (by decide) (by decide) k) ?_
    show own_Go _ _ _ _ (T858.setTop (mkF m 260 #[.val (.int p1), .val (.int p2), .val (.int p3), .val (.int p4), .val (.int g4), .val (.int (((p4.toUInt32 >>> ((1 : Int32) &&& 31).toUInt32).toInt32) &&& (3 : Int32))), .val (.int ((p1 &&& (255 : Int32)).toUInt32.toUInt16.toUInt32.toInt32)), .val (.int ((p2 &&& (255 : Int32)).toUInt32.toUInt16.toUInt32.toInt32)), .val (.int ((p3 &&& (255 : Int32)).toUInt32.toUInt16.toUInt32.toInt32)), .val (.ref x_826), .val (.ref x_827), .val (.int (Int32.ofNat cs_826.length)), .val (.int (Int32.ofNat (cs_826.length - 1)))] [(.int (1 : Int32))]))
    obtain ⟨fs861, hr861, hrun861, hend861, hret861⟩ := X858.leaveW hS827 (by rw [K858]; exact (by omega)) (v := some (.int (nar .boolean (1 : Int32)))) (fun h => by rw [Bd.returns] at h; cases h)
    have K862 : Keep h0 T826.heap [] := (Keep.refl h0 []).trans K826 all0
    have K863 : Keep h0 T827.heap [] := K862.trans K827 all0
    subst hPP
    refine ⟨_, _, retN X858 hx (t := .boolean) Bd.returns (by simp) (hb hby at_260) hr861, hrun861, hend861, _, _, rfl, ?_, ?_, hret861.1, hret861.2.1, hret861.2.2.1, hret861.2.2.2.mono (by decide) (by decide)⟩
    · show Q_law Z _ _ _ _ _ _ h0 _ T858.heap _
      rw [K858]
      exact ⟨rfl, N858, K863⟩
    · have hfin := R827.trans (CHv.at X858 hZ827 hEL R827.1)
      rw [← hh] at hfin
      show CHr Z consts_1 s.vm s.heap T858.vm T858.heap
      rw [K858]
      exact hfin
  refine own_Go.st (fun _ k => XS.iloadN X0.here hx rfl (hb hby at_0) rfl k) ?_
  show own_Go _ _ _ _ (s₁.setTop (mkF m 1 #[.val (.int p1), .val (.int p2), .val (.int p3), .val (.int p4), .unset, .unset, .unset, .unset, .unset, .unset, .unset, .unset, .unset] [(.int p4)]))
  refine own_Go.st (fun _ k => XS.iconst X0.here hx rfl (hb hby at_1) k) ?_
  show own_Go _ _ _ _ (s₁.setTop (mkF m 2 #[.val (.int p1), .val (.int p2), .val (.int p3), .val (.int p4), .unset, .unset, .unset, .unset, .unset, .unset, .unset, .unset, .unset] [(.int (1 : Int32)), (.int p4)]))
  refine own_Go.st (fun _ k => XS.iand X0.here hx rfl (hb hby at_2) rfl k) ?_
  show own_Go _ _ _ _ (s₁.setTop (mkF m 3 #[.val (.int p1), .val (.int p2), .val (.int p3), .val (.int p4), .unset, .unset, .unset, .unset, .unset, .unset, .unset, .unset, .unset] [(.int (p4 &&& (1 : Int32)))]))
  by_cases hc864 : (p4 &&& (1 : Int32)) = (0 : Int32)
  ·
    refine own_Go.st (fun _ k => XS.ifYes X0.here hx rfl (pc0 := 3) (pc' := 10) rfl (hb hby at_3) rfl ((if0 _ _).trans (teq hc864).1) (by decide) (by decide) k) ?_
    show own_Go _ _ _ _ (s₁.setTop (mkF m 10 #[.val (.int p1), .val (.int p2), .val (.int p3), .val (.int p4), .unset, .unset, .unset, .unset, .unset, .unset, .unset, .unset, .unset] []))
    refine own_Go.st (fun _ k => XS.iconst X0.here hx rfl (hb hby at_10) k) ?_
    show own_Go _ _ _ _ (s₁.setTop (mkF m 11 #[.val (.int p1), .val (.int p2), .val (.int p3), .val (.int p4), .unset, .unset, .unset, .unset, .unset, .unset, .unset, .unset, .unset] [(.int (0 : Int32))]))
    exact J825 (0 : Int32) trivial
  ·
    refine own_Go.st (fun _ k => XS.ifNo X0.here hx rfl (hb hby at_3) rfl ((if0 _ _).trans (feq hc864).1) k) ?_
    show own_Go _ _ _ _ (s₁.setTop (mkF m 6 #[.val (.int p1), .val (.int p2), .val (.int p3), .val (.int p4), .unset, .unset, .unset, .unset, .unset, .unset, .unset, .unset, .unset] []))
    refine own_Go.st (fun _ k => XS.iconst X0.here hx rfl (hb hby at_6) k) ?_
    show own_Go _ _ _ _ (s₁.setTop (mkF m 7 #[.val (.int p1), .val (.int p2), .val (.int p3), .val (.int p4), .unset, .unset, .unset, .unset, .unset, .unset, .unset, .unset, .unset] [(.int (1 : Int32))]))
    refine own_Go.st (fun _ k => XS.goto X0.here hx rfl (pc0 := 7) (pc' := 11) rfl (hb hby at_7) (by decide) (by decide) k) ?_
    show own_Go _ _ _ _ (s₁.setTop (mkF m 11 #[.val (.int p1), .val (.int p2), .val (.int p3), .val (.int p4), .unset, .unset, .unset, .unset, .unset, .unset, .unset, .unset, .unset] [(.int (1 : Int32))]))
    exact J825 (1 : Int32) trivial
set_option maxRecDepth 65536 in
set_option maxHeartbeats 40000000 in
theorem comes_1 {Post : Tables → Env → Array Value → State → Outcome → State → Prop} (hpost : ∀ tb e args s v u, (limb_1_1.after args s (.returned v) u = true ∧ limb_1_2.after args s (.returned v) u = true ∧ True) → ReturnedEndW s (.returned v) u (Jvm.fieldLocs frame_1_writes args s ++ Jvm.arrayLocs frame_1_arrays args s ++ Jvm.staticLocs frame_1_statics s) 32 3328 → Post tb e args s (.returned v) u) :
    ArmFor flags0 classFile x code maxLocals ret World_1 tables_1 room_1 Calls_1 rest_1 Pre_1 Post := by
  intro l hfl _ _ p e ha hc hk s m args below hf hA hF happ hP
  obtain ⟨hcalls, hrest, hpre⟩ := hP
  obtain ⟨-, -, -, hnamed, -, -, -, hat⟩ := (Spec.applies_iff hf).mp happ
  obtain ⟨hg, hn⟩ := and_e (Cond.before_iff.mp (show (Jvm.Cond.and given_1 narrow_1).before args s = true from hpre))
  obtain ⟨g0, r0⟩ := and_e hg
  obtain ⟨g1, r1⟩ := and_e r0
  obtain ⟨g2, r2⟩ := and_e r1
  obtain ⟨g3, r3⟩ := and_e r2
  obtain ⟨w0, w1, w2, w3, rfl⟩ : ∃ w0 w1 w2 w3 : Value, args = #[w0, w1, w2, w3] := by
    have hs : args.size = 4 := by simpa [Cond.value, given_1] using g0
    obtain ⟨L⟩ := args
    match L, hs with
    | [w0, w1, w2, w3], _ => exact ⟨w0, w1, w2, w3, rfl⟩
  have hw := fun d (hd : d ∈ tables_1) => atoms_spec (ws := Jvm.Cond.code x code maxLocals ret :: tables_1) hat d (List.mem_cons_of_mem _ hd)
  obtain ⟨hsets, hown0⟩ := atoms_of _ (rest_1_c_eq ▸ (show rest_1_c.before _ s = true from hrest))
  have hfit : Fit s := fun {y c} hc i hi => by
    obtain ⟨ha, rfl⟩ := Array.getElem?_eq_some_iff.mp hc
    have q := List.all_eq_true.mp ((Array.all_eq_true_iff_forall_mem.mp hF) _ (Array.getElem_mem ha)) i (List.mem_range.mpr hi)
    simpa [Array.getElem?_eq_getElem hi] using q
  obtain ⟨i0, e0⟩ := is_v g1
  obtain rfl : w0 = (.int i0) := Option.some.inj e0
  obtain ⟨i1, e1⟩ := is_v g2
  obtain rfl : w1 = (.int i1) := Option.some.inj e1
  obtain ⟨i2, e2⟩ := is_v g3
  obtain rfl : w2 = (.int i2) := Option.some.inj e2
  obtain ⟨i3, e3⟩ := is_v r3
  obtain rfl : w3 = (.int i3) := Option.some.inj e3
  obtain ⟨zc, ez⟩ := is_v (Cond.before_iff.mp (hsets _ (List.mem_of_getElem? (i := 1) rfl)))
  have st_zc : Sta s s.heap "java/lang/String" "COMPACT_STRINGS" "Z" (.int zc) := Sta.start ez (Or.inl (hsets _ (List.mem_of_getElem? (i := 0) rfl)))
  have hzc : ¬ (zc = (0 : Int32)) := gotF (Cond.eq_ints ez (Term.int_eval (0))) (not_v (Cond.before_iff.mp (hsets _ (List.mem_of_getElem? (i := 2) rfl))))
  obtain ⟨fm, ef, hfm⟩ := isR_v (Cond.before_iff.mp (hsets _ (List.mem_of_getElem? (i := 8) rfl)))
  have st_fm : Sta s s.heap "jdk/internal/util/Preconditions" "SIOOBE_FORMATTER" "Ljava/util/function/BiFunction;" fm := Sta.start ef (Or.inl (hsets _ (List.mem_of_getElem? (i := 7) rfl)))
  have hEL : EW s _ consts_1 := (EW.cons (hw _ (List.mem_of_getElem? (i := 149) rfl)) (by decide) (EW.cons (hw _ (List.mem_of_getElem? (i := 146) rfl)) (by decide) (EW.cons (hw _ (List.mem_of_getElem? (i := 150) rfl)) (by decide) EW.nil)))
  have hC0 : CHv s consts_1 s.vm s.heap := CHv.start hEL (fun p hp => hcalls.1 p hp) (hsets _ (List.mem_of_getElem? (i := 2) rfl)) (hw _ (List.mem_of_getElem? (i := 23) rfl)) (hw _ (List.mem_of_getElem? (i := 5) rfl))
  obtain ⟨n, o, h1, h2, h3, _, L, rfl, ⟨rfl, N, -⟩, -, hq⟩ := rm_law l s _ hw tables_1 i0 i1 i2 i3 zc fm s.heap hEL (Old.start s) st_zc st_fm hzc hfm p e ha hc hk s m _ below hf ((Spec.applies_iff_loose hf).mp happ).1 ⟨rfl, State.Warmed39.refl s, rfl, hC0⟩ trivial
  refine ⟨n, _, h1, h2, h3, hpost _ _ _ _ _ _ ⟨Cond.after_iff.mpr rfl, Cond.after_iff.mpr (eq_i res_at (Term.int_eval (1)) rfl), trivial⟩ ⟨hq.1, hq.2.1, hq.2.2.1, (hq.2.2.2.sift fun y hy => Or.inr (N y hy)).mono (by decide) (by decide)⟩⟩
theorem main_1_1 : Claimed_1_1 := comes_1 fun _ _ _ _ _ _ h hF => ⟨h.1, hF⟩
theorem main_1_2 : Claimed_1_2 := comes_1 fun _ _ _ _ _ _ h hF => ⟨h.2.1, hF⟩
end Jvm.Pilot.@@N@@
namespace Jvm.Pilot.@@N@@
open Jvm Jvm.ClassFile Sem Op Lib Jvm.Free Jvm.Stand Jvm.Pilot.@@N@@.Jvm.D
/-! MADE BY PROGRAM (witnessworld.py) out of the Statement's table words and the real class files: 26 classes; the members and pool entries that the words name. The judged class is class 1, her method 1. -/
namespace start1
open Jvm.ClassFile
def u (s : String) : CpInfo := .utf8 (stringToUtf16 s)
/-- a pool by its gaps: so many unusable entries, then the entry; so many at the end -/
def gap : Nat → List CpInfo → List CpInfo
  | 0, r => r
  | n + 1, r => .unusable :: gap n r
def poolList (es : List (Nat × CpInfo)) (last : Nat) : List CpInfo := es.foldr (fun e r => gap e.1 (e.2 :: r)) (gap last [])
def pool (es : List (Nat × CpInfo)) (last : Nat) : Array CpInfo := ⟨poolList es last⟩
def fileOf (pool : Array CpInfo) (this : Nat) (attrs : Array Attribute := #[]) (ms : Array MethodInfo := #[]) (fl : Nat := 33) (sup : Nat := 0) (ifs : Array Nat := #[]) (fds : Array FieldInfo := #[]) : ClassFile where
  minorVersion := 0
  majorVersion := 65
  constantPool := pool
  accessFlags := fl
  thisClass := this
  superClass := sup
  interfaces := ifs
  fields := fds
  methods := ms
  attributes := attrs
def plain (name : String) (sup : Option ClassId) : Class where
  name := name
  kind := .ordinary
  loader := none
  accessFlags := 33
  super := sup
  interfaces := #[]
  cf := none
  fields := #[]
  methods := #[]
  instanceTypes := #[]
  staticTypes := #[]
  resolved := #[]
  callSites := []
  init := .initialized
  statics := none
  mirror := none

def pool0 : Array CpInfo := pool [(5, u "<init>"), (0, u "()V"), (1, .class_ 10), (1, u "java/lang/Object")] 113

def k0c0 : Code := { maxStack := 0, maxLocals := 1, code := object_method_1_code, exceptionTable := #[], attributes := #[] }
def k0m0 : Method := { name := "<init>", desc := "()V", sig := { parameters := [], returnType := none }, accessFlags := 1, code := some k0c0 }
/-- java/lang/Object -/
def k0 : Class := { plain "java/lang/Object" none with
  accessFlags := 33
  interfaces := #[]
  cf := some (fileOf pool0 8 #[] #[{ accessFlags := 1, nameIndex := 5, descriptorIndex := 6, attributes := #[] }] 33 0 #[] #[])
  fields := #[]
  methods := #[k0m0]
  instanceTypes := #[]
  staticTypes := #[]
  resolved := Array.replicate 124 none
  statics := none }

def pool1 : Array CpInfo := pool [(2, .class_ 4), (1, u "java/lang/Object"), (0, u "<init>"), (0, u "()V"), (0, .methodref 8 9), (0, .class_ 10), (0, .nameAndType 11 12), (0, u "com/example/net30/net30/http/GzipEtagPinLaw"), (0, u "tag"), (0, u "(ZICCC)Ljava/lang/String;"), (0, .methodref 14 15), (0, .class_ 16), (0, .nameAndType 17 18), (0, u "com/example/net30/net30/http/Gzip"), (0, u "etag"), (0, u "(Ljava/lang/String;)Ljava/lang/String;"), (0, .methodref 20 21), (0, .class_ 22), (0, .nameAndType 23 24), (0, u "java/lang/String"), (0, u "length"), (0, u "()I"), (0, .methodref 8 26), (0, .nameAndType 27 28), (0, u "same"), (0, u "(Ljava/lang/String;Ljava/lang/String;II)Z"), (0, .methodref 20 30), (0, .nameAndType 31 32), (0, u "charAt"), (0, u "(I)C"), (0, .methodref 20 34), (0, .nameAndType 5 35), (0, u "([C)V"), (2, u "law"), (0, u "(IIII)Z")] 3

def k1m0 : Method := { name := "<init>", desc := "()V", sig := { parameters := [], returnType := none }, accessFlags := 1, code := none }
def k1c1 : Code := { maxStack := 5, maxLocals := 13, code := code, exceptionTable := #[], attributes := #[] }
def k1m1 : Method := { name := "law", desc := "(IIII)Z", sig := { parameters := [.int, .int, .int, .int], returnType := some .boolean }, accessFlags := 9, code := some k1c1 }
def k1c2 : Code := { maxStack := 3, maxLocals := 4, code := method_3_code, exceptionTable := #[], attributes := #[] }
def k1m2 : Method := { name := "same", desc := "(Ljava/lang/String;Ljava/lang/String;II)Z", sig := { parameters := [(.object "java/lang/String"), (.object "java/lang/String"), .int, .int], returnType := some .boolean }, accessFlags := 10, code := some k1c2 }
def k1c3 : Code := { maxStack := 6, maxLocals := 5, code := method_4_code, exceptionTable := #[], attributes := #[] }
def k1m3 : Method := { name := "tag", desc := "(ZICCC)Ljava/lang/String;", sig := { parameters := [.boolean, .int, .char, .char, .char], returnType := some (.object "java/lang/String") }, accessFlags := 10, code := some k1c3 }
/-- com/example/net30/net30/http/GzipEtagPinLaw -/
def k1 : Class := { plain "com/example/net30/net30/http/GzipEtagPinLaw" (some 0) with
  accessFlags := 49
  interfaces := #[]
  cf := some (fileOf pool1 8 #[] #[{ accessFlags := 1, nameIndex := 5, descriptorIndex := 6, attributes := #[] }, { accessFlags := 9, nameIndex := 38, descriptorIndex := 39, attributes := #[] }, { accessFlags := 10, nameIndex := 27, descriptorIndex := 28, attributes := #[] }, { accessFlags := 10, nameIndex := 11, descriptorIndex := 12, attributes := #[] }] 49 2 #[] #[])
  fields := #[]
  methods := #[k1m0, k1m1, k1m2, k1m3]
  instanceTypes := #[]
  staticTypes := #[]
  resolved := Array.replicate 43 none
  statics := none }

def pool2 : Array CpInfo := pool [(1, .class_ 2), (0, u "java/io/Serializable"), (0, .class_ 4), (0, u "java/lang/Object")] 2

/-- java/io/Serializable -/
def k2 : Class := { plain "java/io/Serializable" (some 0) with
  accessFlags := 1537
  interfaces := #[]
  cf := some (fileOf pool2 1 #[] #[] 1537 3 #[] #[])
  fields := #[]
  methods := #[]
  instanceTypes := #[]
  staticTypes := #[]
  resolved := Array.replicate 7 none
  statics := none }

def pool3 : Array CpInfo := pool [(1, .class_ 2), (0, u "java/lang/Comparable"), (0, .class_ 4), (0, u "java/lang/Object")] 7

/-- java/lang/Comparable -/
def k3 : Class := { plain "java/lang/Comparable" (some 0) with
  accessFlags := 1537
  interfaces := #[]
  cf := some (fileOf pool3 1 #[] #[] 1537 3 #[] #[])
  fields := #[]
  methods := #[]
  instanceTypes := #[]
  staticTypes := #[]
  resolved := Array.replicate 12 none
  statics := none }

def pool4 : Array CpInfo := pool [(2, .class_ 4), (1, u "java/lang/CharSequence"), (42, .class_ 48), (0, u "java/lang/CharSequence$1CodePointIterator"), (10, .class_ 60), (0, u "java/lang/CharSequence$1CharIterator"), (5, .class_ 67), (0, u "java/lang/Object")] 63

/-- java/lang/CharSequence -/
def k4 : Class := { plain "java/lang/CharSequence" (some 0) with
  accessFlags := 1537
  interfaces := #[]
  cf := some (fileOf pool4 2 #[.nestMembers #[47, 59]] #[] 1537 66 #[] #[])
  fields := #[]
  methods := #[]
  instanceTypes := #[]
  staticTypes := #[]
  resolved := Array.replicate 131 none
  statics := none }

def pool5 : Array CpInfo := pool [(1, .class_ 2), (0, u "java/lang/constant/Constable"), (0, .class_ 4), (0, u "java/lang/Object")] 6

/-- java/lang/constant/Constable -/
def k5 : Class := { plain "java/lang/constant/Constable" (some 0) with
  accessFlags := 1537
  interfaces := #[]
  cf := some (fileOf pool5 1 #[] #[] 1537 3 #[] #[])
  fields := #[]
  methods := #[]
  instanceTypes := #[]
  staticTypes := #[]
  resolved := Array.replicate 11 none
  statics := none }

def pool6 : Array CpInfo := pool [(1, .class_ 2), (0, u "java/lang/constant/ConstantDesc"), (0, .class_ 4), (0, u "java/lang/Object")] 32

/-- java/lang/constant/ConstantDesc -/
def k6 : Class := { plain "java/lang/constant/ConstantDesc" (some 0) with
  accessFlags := 1537
  interfaces := #[]
  cf := some (fileOf pool6 1 #[] #[] 1537 3 #[] #[])
  fields := #[]
  methods := #[]
  instanceTypes := #[]
  staticTypes := #[]
  resolved := Array.replicate 37 none
  statics := none }

def pool7 : Array CpInfo := pool [(1, .methodref 2 3), (0, .class_ 4), (0, .nameAndType 5 6), (0, u "java/lang/Object"), (0, u "<init>"), (0, u "()V"), (2, .fieldref 10 11), (0, .class_ 12), (0, .nameAndType 13 14), (0, u "java/lang/String"), (0, u "value"), (0, u "[B"), (0, .fieldref 10 16), (0, .nameAndType 17 18), (0, u "coder"), (0, u "B"), (2, u "hash"), (0, u "I"), (2, u "hashIsZero"), (0, u "Z"), (0, .methodref 10 28), (0, .nameAndType 5 29), (0, u "([CIILjava/lang/Void;)V"), (8, .fieldref 10 39), (0, .nameAndType 40 26), (0, u "COMPACT_STRINGS"), (1, .class_ 44), (1, u "java/lang/StringUTF16"), (0, u "compress"), (1, .methodref 42 48), (0, .nameAndType 49 50), (0, u "coderFromArrayLen"), (0, u "([BI)B"), (3, .methodref 55 56), (0, .class_ 57), (0, .nameAndType 58 59), (0, u "java/util/Arrays"), (0, u "copyOfRange"), (0, u "([BII)[B"), (47, .class_ 109), (1, u "java/lang/StringLatin1"), (32, u "()Z"), (34, .methodref 42 178), (0, .nameAndType 45 179), (0, u "([CII)[B"), (13, .class_ 195), (1, u "java/lang/System"), (15, u "([BB)V"), (0, .methodref 193 213), (0, .nameAndType 214 215), (0, u "arraycopy"), (0, u "(Ljava/lang/Object;ILjava/lang/Object;II)V"), (118, u "()I"), (0, .methodref 10 336), (0, .nameAndType 17 337), (0, u "()B"), (2, u "()[B"), (22, u "([BI)C"), (27, u "(II)V"), (35, u "(I)C"), (61, .methodref 10 490), (0, .nameAndType 5 491), (0, u "(Ljava/lang/AbstractStringBuilder;Ljava/lang/Void;)V"), (0, .methodref 10 493), (0, .nameAndType 494 142), (0, u "isLatin1"), (0, .methodref 107 496), (0, .nameAndType 497 363), (0, u "charAt"), (3, u "checkIndex"), (3, .methodref 10 506), (0, .nameAndType 507 334), (0, u "length"), (5, u "checkFromToIndex"), (7, .methodref 10 522), (0, .nameAndType 523 524), (0, u "checkBoundsBeginEnd"), (0, u "(III)V"), (7, u "getBytes"), (16, .methodref 550 506), (0, .class_ 551), (0, u "java/lang/AbstractStringBuilder"), (0, .methodref 550 553), (0, .nameAndType 554 340), (0, u "getValue"), (20, .class_ 576), (0, u "java/lang/CharSequence"), (22, u "CASE_INSENSITIVE_ORDER"), (0, u "Ljava/util/Comparator;"), (82, u "substring"), (0, u "(II)Ljava/lang/String;"), (0, .methodref 107 686), (0, .nameAndType 687 688), (0, u "newString"), (0, u "([BII)Ljava/lang/String;"), (132, u "([BIB)V"), (188, u "([C)V"), (36, .methodref 550 493), (5, .fieldref 1054 1055), (0, .class_ 1056), (0, .nameAndType 1057 1058), (0, u "jdk/internal/util/Preconditions"), (0, u "SIOOBE_FORMATTER"), (0, u "Ljava/util/function/BiFunction;"), (0, .methodref 1054 1060), (0, .nameAndType 501 1061), (0, u "(IILjava/util/function/BiFunction;)I"), (0, .methodref 1054 1063), (0, .nameAndType 513 1064), (0, u "(IIILjava/util/function/BiFunction;)I"), (36, u "serialPersistentFields"), (0, u "[Ljava/io/ObjectStreamField;"), (0, .class_ 1104), (0, u "java/lang/String$CaseInsensitiveComparator"), (1, .class_ 1107), (0, u "java/io/Serializable"), (0, .class_ 1109), (0, u "java/lang/Comparable"), (0, .class_ 1111), (0, u "java/lang/constant/Constable"), (0, .class_ 1113), (0, u "java/lang/constant/ConstantDesc"), (2, u "serialVersionUID"), (0, u "J"), (3, u "REPL"), (0, u "C"), (2, u "LATIN1"), (1, u "UTF16"), (105, u "(Ljava/lang/StringBuilder;)V")] 217

def k7m0 : Method := { name := "<init>", desc := "()V", sig := { parameters := [], returnType := none }, accessFlags := 1, code := none }
def k7c1 : Code := { maxStack := 5, maxLocals := 2, code := jdk_42_method_3_code, exceptionTable := #[], attributes := #[] }
def k7m1 : Method := { name := "<init>", desc := "([C)V", sig := { parameters := [(.array .char)], returnType := none }, accessFlags := 1, code := some k7c1 }
def k7c2 : Code := { maxStack := 3, maxLocals := 2, code := jdk_42_method_53_code, exceptionTable := #[], attributes := #[] }
def k7m2 : Method := { name := "<init>", desc := "(Ljava/lang/StringBuilder;)V", sig := { parameters := [(.object "java/lang/StringBuilder")], returnType := none }, accessFlags := 1, code := some k7c2 }
def k7c3 : Code := { maxStack := 2, maxLocals := 1, code := jdk_42_method_54_code, exceptionTable := #[], attributes := #[] }
def k7m3 : Method := { name := "length", desc := "()I", sig := { parameters := [], returnType := some .int }, accessFlags := 1, code := some k7c3 }
def k7c4 : Code := { maxStack := 2, maxLocals := 2, code := jdk_42_method_56_code, exceptionTable := #[], attributes := #[] }
def k7m4 : Method := { name := "charAt", desc := "(I)C", sig := { parameters := [.int], returnType := some .char }, accessFlags := 1, code := some k7c4 }
def k7c5 : Code := { maxStack := 3, maxLocals := 5, code := jdk_42_method_92_code, exceptionTable := #[], attributes := #[] }
def k7m5 : Method := { name := "substring", desc := "(II)Ljava/lang/String;", sig := { parameters := [.int, .int], returnType := some (.object "java/lang/String") }, accessFlags := 1, code := some k7c5 }
def k7c6 : Code := { maxStack := 5, maxLocals := 4, code := jdk_42_method_147_code, exceptionTable := #[], attributes := #[] }
def k7m6 : Method := { name := "getBytes", desc := "([BIB)V", sig := { parameters := [(.array .byte), .int, .byte], returnType := none }, accessFlags := 0, code := some k7c6 }
def k7c7 : Code := { maxStack := 4, maxLocals := 6, code := jdk_42_method_149_code, exceptionTable := #[], attributes := #[] }
def k7m7 : Method := { name := "<init>", desc := "([CIILjava/lang/Void;)V", sig := { parameters := [(.array .char), .int, .int, (.object "java/lang/Void")], returnType := none }, accessFlags := 2, code := some k7c7 }
def k7c8 : Code := { maxStack := 5, maxLocals := 5, code := jdk_42_method_150_code, exceptionTable := #[], attributes := #[] }
def k7m8 : Method := { name := "<init>", desc := "(Ljava/lang/AbstractStringBuilder;Ljava/lang/Void;)V", sig := { parameters := [(.object "java/lang/AbstractStringBuilder"), (.object "java/lang/Void")], returnType := none }, accessFlags := 0, code := some k7c8 }
def k7c9 : Code := { maxStack := 2, maxLocals := 3, code := jdk_42_method_151_code, exceptionTable := #[], attributes := #[] }
def k7m9 : Method := { name := "<init>", desc := "([BB)V", sig := { parameters := [(.array .byte), .byte], returnType := none }, accessFlags := 0, code := some k7c9 }
def k7c10 : Code := { maxStack := 1, maxLocals := 1, code := jdk_42_method_152_code, exceptionTable := #[], attributes := #[] }
def k7m10 : Method := { name := "coder", desc := "()B", sig := { parameters := [], returnType := some .byte }, accessFlags := 0, code := some k7c10 }
def k7c11 : Code := { maxStack := 1, maxLocals := 1, code := jdk_42_method_154_code, exceptionTable := #[], attributes := #[] }
def k7m11 : Method := { name := "isLatin1", desc := "()Z", sig := { parameters := [], returnType := some .boolean }, accessFlags := 0, code := some k7c11 }
def k7c12 : Code := { maxStack := 3, maxLocals := 2, code := jdk_42_method_155_code, exceptionTable := #[], attributes := #[] }
def k7m12 : Method := { name := "checkIndex", desc := "(II)V", sig := { parameters := [.int, .int], returnType := none }, accessFlags := 8, code := some k7c12 }
def k7c13 : Code := { maxStack := 4, maxLocals := 3, code := jdk_42_method_158_code, exceptionTable := #[], attributes := #[] }
def k7m13 : Method := { name := "checkBoundsBeginEnd", desc := "(III)V", sig := { parameters := [.int, .int, .int], returnType := none }, accessFlags := 8, code := some k7c13 }
/-- java/lang/String -/
def k7 : Class := { plain "java/lang/String" (some 0) with
  accessFlags := 49
  interfaces := #[2, 3, 4, 5, 6]
  cf := some (fileOf pool7 10 #[.nestMembers #[1103]] #[{ accessFlags := 1, nameIndex := 5, descriptorIndex := 6, attributes := #[] }, { accessFlags := 1, nameIndex := 5, descriptorIndex := 1010, attributes := #[] }, { accessFlags := 1, nameIndex := 5, descriptorIndex := 1233, attributes := #[] }, { accessFlags := 1, nameIndex := 507, descriptorIndex := 334, attributes := #[] }, { accessFlags := 1, nameIndex := 497, descriptorIndex := 427, attributes := #[] }, { accessFlags := 1, nameIndex := 683, descriptorIndex := 684, attributes := #[] }, { accessFlags := 0, nameIndex := 532, descriptorIndex := 821, attributes := #[] }, { accessFlags := 2, nameIndex := 5, descriptorIndex := 29, attributes := #[] }, { accessFlags := 0, nameIndex := 5, descriptorIndex := 491, attributes := #[] }, { accessFlags := 0, nameIndex := 5, descriptorIndex := 211, attributes := #[] }, { accessFlags := 0, nameIndex := 17, descriptorIndex := 337, attributes := #[] }, { accessFlags := 0, nameIndex := 494, descriptorIndex := 142, attributes := #[] }, { accessFlags := 8, nameIndex := 501, descriptorIndex := 391, attributes := #[] }, { accessFlags := 8, nameIndex := 523, descriptorIndex := 524, attributes := #[] }] 49 2 #[1106, 1108, 575, 1110, 1112] #[{ accessFlags := 18, nameIndex := 13, descriptorIndex := 14, attributes := #[] }, { accessFlags := 18, nameIndex := 17, descriptorIndex := 18, attributes := #[] }, { accessFlags := 2, nameIndex := 21, descriptorIndex := 22, attributes := #[] }, { accessFlags := 2, nameIndex := 25, descriptorIndex := 26, attributes := #[] }, { accessFlags := 26, nameIndex := 1116, descriptorIndex := 1117, attributes := #[] }, { accessFlags := 24, nameIndex := 40, descriptorIndex := 26, attributes := #[] }, { accessFlags := 26, nameIndex := 1101, descriptorIndex := 1102, attributes := #[] }, { accessFlags := 26, nameIndex := 1121, descriptorIndex := 1122, attributes := #[] }, { accessFlags := 25, nameIndex := 599, descriptorIndex := 600, attributes := #[] }, { accessFlags := 24, nameIndex := 1125, descriptorIndex := 18, attributes := #[] }, { accessFlags := 24, nameIndex := 1127, descriptorIndex := 18, attributes := #[] }])
  fields := #[{ name := "value", type := (.array .byte), accessFlags := 18, slot := 0, constantValue := 0 }, { name := "coder", type := .byte, accessFlags := 18, slot := 1, constantValue := 0 }, { name := "hash", type := .int, accessFlags := 2, slot := 2, constantValue := 0 }, { name := "hashIsZero", type := .boolean, accessFlags := 2, slot := 3, constantValue := 0 }, { name := "serialVersionUID", type := .long, accessFlags := 26, slot := 0, constantValue := 0 }, { name := "COMPACT_STRINGS", type := .boolean, accessFlags := 24, slot := 1, constantValue := 0 }, { name := "serialPersistentFields", type := (.array (.object "java/io/ObjectStreamField")), accessFlags := 26, slot := 2, constantValue := 0 }, { name := "REPL", type := .char, accessFlags := 26, slot := 3, constantValue := 0 }, { name := "CASE_INSENSITIVE_ORDER", type := (.object "java/util/Comparator"), accessFlags := 25, slot := 4, constantValue := 0 }, { name := "LATIN1", type := .byte, accessFlags := 24, slot := 5, constantValue := 0 }, { name := "UTF16", type := .byte, accessFlags := 24, slot := 6, constantValue := 0 }]
  methods := #[k7m0, k7m1, k7m2, k7m3, k7m4, k7m5, k7m6, k7m7, k7m8, k7m9, k7m10, k7m11, k7m12, k7m13]
  instanceTypes := #[(.array .byte), .byte, .int, .boolean]
  staticTypes := #[.long, .boolean, (.array (.object "java/io/ObjectStreamField")), .char, (.object "java/util/Comparator"), .byte, .byte]
  resolved := Array.replicate 1451 none
  statics := some 0 }

def pool8 : Array CpInfo := pool [(6, .class_ 8), (1, u "java/lang/Object"), (0, u "<init>"), (0, u "()V"), (1, .class_ 14), (1, u "java/lang/StringUTF16"), (31, u "$assertionsDisabled"), (0, u "Z"), (13, u "HI_BYTE_SHIFT"), (0, u "I"), (2, u "LO_BYTE_SHIFT"), (49, .methodref 12 116), (0, .nameAndType 117 118), (0, u "compress"), (0, u "([CI[BII)I"), (3, u "([CII)[B"), (138, u "coderFromArrayLen"), (0, u "([BI)B"), (106, .class_ 371), (1, u "java/lang/StringUTF16$LinesSpliterator"), (58, u "MAX_LENGTH"), (196, .class_ 628), (0, u "java/lang/StringUTF16$CodePointsSpliterator"), (0, .class_ 630), (0, u "java/lang/StringUTF16$CharsSpliterator")] 4

def k8m0 : Method := { name := "<init>", desc := "()V", sig := { parameters := [], returnType := none }, accessFlags := 0, code := none }
def k8c1 : Code := { maxStack := 2, maxLocals := 2, code := jdk_52_method_15_code, exceptionTable := #[], attributes := #[] }
def k8m1 : Method := { name := "coderFromArrayLen", desc := "([BI)B", sig := { parameters := [(.array .byte), .int], returnType := some .byte }, accessFlags := 8, code := some k8c1 }
def k8c2 : Code := { maxStack := 5, maxLocals := 6, code := jdk_52_method_16_code, exceptionTable := #[], attributes := #[] }
def k8m2 : Method := { name := "compress", desc := "([CII)[B", sig := { parameters := [(.array .char), .int, .int], returnType := some (.array .byte) }, accessFlags := 9, code := some k8c2 }
def k8c3 : Code := { maxStack := 3, maxLocals := 7, code := jdk_52_method_21_code, exceptionTable := #[], attributes := #[] }
def k8m3 : Method := { name := "compress", desc := "([CI[BII)I", sig := { parameters := [(.array .char), .int, (.array .byte), .int, .int], returnType := some .int }, accessFlags := 9, code := some k8c3 }
/-- java/lang/StringUTF16 -/
def k8 : Class := { plain "java/lang/StringUTF16" (some 0) with
  accessFlags := 48
  interfaces := #[]
  cf := some (fileOf pool8 12 #[.nestMembers #[627, 629, 369]] #[{ accessFlags := 0, nameIndex := 9, descriptorIndex := 10, attributes := #[] }, { accessFlags := 8, nameIndex := 261, descriptorIndex := 262, attributes := #[] }, { accessFlags := 9, nameIndex := 117, descriptorIndex := 122, attributes := #[] }, { accessFlags := 9, nameIndex := 117, descriptorIndex := 118, attributes := #[] }] 48 6 #[] #[{ accessFlags := 26, nameIndex := 61, descriptorIndex := 62, attributes := #[] }, { accessFlags := 26, nameIndex := 65, descriptorIndex := 62, attributes := #[] }, { accessFlags := 24, nameIndex := 430, descriptorIndex := 62, attributes := #[] }, { accessFlags := 4120, nameIndex := 46, descriptorIndex := 47, attributes := #[] }])
  fields := #[{ name := "HI_BYTE_SHIFT", type := .int, accessFlags := 26, slot := 0, constantValue := 0 }, { name := "LO_BYTE_SHIFT", type := .int, accessFlags := 26, slot := 1, constantValue := 0 }, { name := "MAX_LENGTH", type := .int, accessFlags := 24, slot := 2, constantValue := 0 }, { name := "$assertionsDisabled", type := .boolean, accessFlags := 4120, slot := 3, constantValue := 0 }]
  methods := #[k8m0, k8m1, k8m2, k8m3]
  instanceTypes := #[]
  staticTypes := #[.int, .int, .int, .boolean]
  resolved := Array.replicate 635 none
  statics := none }

def pool9 : Array CpInfo := pool [(2, .class_ 4), (0, .nameAndType 5 6), (0, u "java/lang/Object"), (0, u "<init>"), (0, u "()V"), (0, .class_ 8), (0, u "com/example/net30/net30/http/Gzip"), (0, .string 10), (0, u "gzip"), (1, .class_ 14), (1, u "java/lang/String"), (52, .class_ 68), (0, u "java/lang/StringBuilder"), (0, .methodref 67 3), (0, .methodref 12 71), (0, .nameAndType 72 73), (0, u "length"), (0, u "()I"), (0, .methodref 12 75), (0, .nameAndType 76 77), (0, u "substring"), (0, u "(II)Ljava/lang/String;"), (0, .methodref 67 79), (0, .nameAndType 80 81), (0, u "append"), (0, u "(Ljava/lang/String;)Ljava/lang/StringBuilder;"), (0, .string 83), (0, u "-"), (0, .string 85), (0, u "\""), (0, .methodref 67 87), (0, .nameAndType 88 89), (0, u "toString"), (0, u "()Ljava/lang/String;"), (92, u "CODING"), (0, u "Ljava/lang/String;"), (1, u "ALIAS"), (0, u "HEADER_BYTES"), (0, u "I"), (1, u "TRAILER_BYTES"), (1, u "ISIZE_MASK"), (0, u "J"), (0, u "ID1"), (1, u "ID2"), (1, u "DEFLATE"), (0, u "FHCRC"), (1, u "FEXTRA"), (1, u "FNAME"), (0, u "FCOMMENT"), (1, u "RESERVED"), (1, u "BUFFER_BYTES"), (0, u "HEADER_CUT_SHORT"), (12, u "etag"), (0, u "(Ljava/lang/String;)Ljava/lang/String;")] 2

def k9m0 : Method := { name := "<init>", desc := "()V", sig := { parameters := [], returnType := none }, accessFlags := 2, code := none }
def k9c1 : Code := { maxStack := 5, maxLocals := 1, code := prog_2_method_5_code, exceptionTable := #[], attributes := #[] }
def k9m1 : Method := { name := "etag", desc := "(Ljava/lang/String;)Ljava/lang/String;", sig := { parameters := [(.object "java/lang/String")], returnType := some (.object "java/lang/String") }, accessFlags := 8, code := some k9c1 }
/-- com/example/net30/net30/http/Gzip -/
def k9 : Class := { plain "com/example/net30/net30/http/Gzip" (some 0) with
  accessFlags := 48
  interfaces := #[]
  cf := some (fileOf pool9 7 #[] #[{ accessFlags := 2, nameIndex := 5, descriptorIndex := 6, attributes := #[] }, { accessFlags := 8, nameIndex := 221, descriptorIndex := 222, attributes := #[] }] 48 2 #[] #[{ accessFlags := 24, nameIndex := 182, descriptorIndex := 183, attributes := #[] }, { accessFlags := 26, nameIndex := 185, descriptorIndex := 183, attributes := #[] }, { accessFlags := 26, nameIndex := 186, descriptorIndex := 187, attributes := #[] }, { accessFlags := 26, nameIndex := 189, descriptorIndex := 187, attributes := #[] }, { accessFlags := 26, nameIndex := 191, descriptorIndex := 192, attributes := #[] }, { accessFlags := 26, nameIndex := 193, descriptorIndex := 187, attributes := #[] }, { accessFlags := 26, nameIndex := 195, descriptorIndex := 187, attributes := #[] }, { accessFlags := 26, nameIndex := 197, descriptorIndex := 187, attributes := #[] }, { accessFlags := 26, nameIndex := 198, descriptorIndex := 187, attributes := #[] }, { accessFlags := 26, nameIndex := 200, descriptorIndex := 187, attributes := #[] }, { accessFlags := 26, nameIndex := 202, descriptorIndex := 187, attributes := #[] }, { accessFlags := 26, nameIndex := 203, descriptorIndex := 187, attributes := #[] }, { accessFlags := 26, nameIndex := 205, descriptorIndex := 187, attributes := #[] }, { accessFlags := 26, nameIndex := 207, descriptorIndex := 187, attributes := #[] }, { accessFlags := 26, nameIndex := 208, descriptorIndex := 183, attributes := #[] }])
  fields := #[{ name := "CODING", type := (.object "java/lang/String"), accessFlags := 24, slot := 0, constantValue := 0 }, { name := "ALIAS", type := (.object "java/lang/String"), accessFlags := 26, slot := 1, constantValue := 0 }, { name := "HEADER_BYTES", type := .int, accessFlags := 26, slot := 2, constantValue := 0 }, { name := "TRAILER_BYTES", type := .int, accessFlags := 26, slot := 3, constantValue := 0 }, { name := "ISIZE_MASK", type := .long, accessFlags := 26, slot := 4, constantValue := 0 }, { name := "ID1", type := .int, accessFlags := 26, slot := 5, constantValue := 0 }, { name := "ID2", type := .int, accessFlags := 26, slot := 6, constantValue := 0 }, { name := "DEFLATE", type := .int, accessFlags := 26, slot := 7, constantValue := 0 }, { name := "FHCRC", type := .int, accessFlags := 26, slot := 8, constantValue := 0 }, { name := "FEXTRA", type := .int, accessFlags := 26, slot := 9, constantValue := 0 }, { name := "FNAME", type := .int, accessFlags := 26, slot := 10, constantValue := 0 }, { name := "FCOMMENT", type := .int, accessFlags := 26, slot := 11, constantValue := 0 }, { name := "RESERVED", type := .int, accessFlags := 26, slot := 12, constantValue := 0 }, { name := "BUFFER_BYTES", type := .int, accessFlags := 26, slot := 13, constantValue := 0 }, { name := "HEADER_CUT_SHORT", type := (.object "java/lang/String"), accessFlags := 26, slot := 14, constantValue := 0 }]
  methods := #[k9m0, k9m1]
  instanceTypes := #[]
  staticTypes := #[(.object "java/lang/String"), (.object "java/lang/String"), .int, .int, .long, .int, .int, .int, .int, .int, .int, .int, .int, .int, (.object "java/lang/String")]
  resolved := Array.replicate 225 none
  statics := none }

def pool10 : Array CpInfo := pool [(1, .class_ 2), (0, u "java/lang/Appendable"), (0, .class_ 4), (0, u "java/lang/Object")] 9

/-- java/lang/Appendable -/
def k10 : Class := { plain "java/lang/Appendable" (some 0) with
  accessFlags := 1537
  interfaces := #[]
  cf := some (fileOf pool10 1 #[] #[] 1537 3 #[] #[])
  fields := #[]
  methods := #[]
  instanceTypes := #[]
  staticTypes := #[]
  resolved := Array.replicate 14 none
  statics := none }

def pool11 : Array CpInfo := pool [(1, .class_ 2), (0, u "java/lang/String"), (0, .methodref 4 5), (0, .class_ 6), (0, .nameAndType 7 8), (0, u "java/lang/Object"), (0, u "<init>"), (0, u "()V"), (1, .class_ 12), (1, u "java/lang/AbstractStringBuilder"), (0, u "EMPTYVALUE"), (0, u "[B"), (0, .fieldref 10 16), (0, .nameAndType 17 14), (0, u "value"), (0, .fieldref 1 19), (0, .nameAndType 20 21), (0, u "COMPACT_STRINGS"), (0, u "Z"), (0, .fieldref 10 23), (0, .nameAndType 24 25), (0, u "coder"), (0, u "B"), (6, .methodref 1 33), (0, .nameAndType 34 35), (0, u "length"), (0, u "()I"), (4, .methodref 1 41), (0, .nameAndType 24 42), (0, u "()B"), (2, u "append"), (0, u "(Ljava/lang/String;)Ljava/lang/AbstractStringBuilder;"), (1, .class_ 49), (0, u "java/lang/CharSequence"), (19, u "(Ljava/lang/String;)V"), (5, u "maybeLatin1"), (3, .fieldref 10 80), (0, .nameAndType 81 82), (0, u "count"), (0, u "I"), (2, u "isLatin1"), (0, u "()Z"), (13, .methodref 10 101), (0, .nameAndType 102 103), (0, u "ensureCapacityInternal"), (0, u "(I)V"), (104, .methodref 10 209), (0, .nameAndType 210 211), (0, u "putStringAt"), (0, u "(ILjava/lang/String;)V"), (5, u "inflateIfNeededFor"), (2, .nameAndType 221 222), (0, u "getBytes"), (0, u "([BIB)V"), (174, .methodref 10 398), (0, .nameAndType 217 69), (0, .methodref 1 220), (3, u "()[B"), (40, .class_ 445), (0, u "java/lang/Appendable"), (106, u "getValue")] 56

def k11m0 : Method := { name := "<init>", desc := "()V", sig := { parameters := [], returnType := none }, accessFlags := 0, code := none }
def k11c1 : Code := { maxStack := 2, maxLocals := 2, code := jdk_68_method_2_code, exceptionTable := #[], attributes := #[] }
def k11m1 : Method := { name := "<init>", desc := "(I)V", sig := { parameters := [.int], returnType := none }, accessFlags := 0, code := some k11c1 }
def k11c2 : Code := { maxStack := 1, maxLocals := 1, code := jdk_68_method_6_code, exceptionTable := #[], attributes := #[] }
def k11m2 : Method := { name := "length", desc := "()I", sig := { parameters := [], returnType := some .int }, accessFlags := 1, code := some k11c2 }
def k11c3 : Code := { maxStack := 4, maxLocals := 3, code := jdk_68_method_9_code, exceptionTable := #[], attributes := #[] }
def k11m3 : Method := { name := "ensureCapacityInternal", desc := "(I)V", sig := { parameters := [.int], returnType := none }, accessFlags := 2, code := some k11c3 }
def k11c4 : Code := { maxStack := 3, maxLocals := 3, code := jdk_68_method_22_code, exceptionTable := #[], attributes := #[] }
def k11m4 : Method := { name := "append", desc := "(Ljava/lang/String;)Ljava/lang/AbstractStringBuilder;", sig := { parameters := [(.object "java/lang/String")], returnType := some (.object "java/lang/AbstractStringBuilder") }, accessFlags := 1, code := some k11c4 }
def k11c5 : Code := { maxStack := 1, maxLocals := 1, code := jdk_68_method_64_code, exceptionTable := #[], attributes := #[] }
def k11m5 : Method := { name := "getValue", desc := "()[B", sig := { parameters := [], returnType := some (.array .byte) }, accessFlags := 16, code := some k11c5 }
def k11c6 : Code := { maxStack := 1, maxLocals := 1, code := jdk_68_method_68_code, exceptionTable := #[], attributes := #[] }
def k11m6 : Method := { name := "isLatin1", desc := "()Z", sig := { parameters := [], returnType := some .boolean }, accessFlags := 16, code := some k11c6 }
def k11c7 : Code := { maxStack := 2, maxLocals := 2, code := jdk_68_method_71_code, exceptionTable := #[], attributes := #[] }
def k11m7 : Method := { name := "inflateIfNeededFor", desc := "(Ljava/lang/String;)V", sig := { parameters := [(.object "java/lang/String")], returnType := none }, accessFlags := 2, code := some k11c7 }
def k11c8 : Code := { maxStack := 4, maxLocals := 3, code := jdk_68_method_73_code, exceptionTable := #[], attributes := #[] }
def k11m8 : Method := { name := "putStringAt", desc := "(ILjava/lang/String;)V", sig := { parameters := [.int, (.object "java/lang/String")], returnType := none }, accessFlags := 2, code := some k11c8 }
/-- java/lang/AbstractStringBuilder -/
def k11 : Class := { plain "java/lang/AbstractStringBuilder" (some 0) with
  accessFlags := 1056
  interfaces := #[10, 4]
  cf := some (fileOf pool11 10 #[] #[{ accessFlags := 0, nameIndex := 7, descriptorIndex := 8, attributes := #[] }, { accessFlags := 0, nameIndex := 7, descriptorIndex := 103, attributes := #[] }, { accessFlags := 1, nameIndex := 34, descriptorIndex := 35, attributes := #[] }, { accessFlags := 2, nameIndex := 102, descriptorIndex := 103, attributes := #[] }, { accessFlags := 1, nameIndex := 45, descriptorIndex := 46, attributes := #[] }, { accessFlags := 16, nameIndex := 552, descriptorIndex := 403, attributes := #[] }, { accessFlags := 16, nameIndex := 85, descriptorIndex := 86, attributes := #[] }, { accessFlags := 2, nameIndex := 217, descriptorIndex := 69, attributes := #[] }, { accessFlags := 2, nameIndex := 210, descriptorIndex := 211, attributes := #[] }] 1056 4 #[444, 48] #[{ accessFlags := 0, nameIndex := 17, descriptorIndex := 14, attributes := #[] }, { accessFlags := 0, nameIndex := 24, descriptorIndex := 25, attributes := #[] }, { accessFlags := 0, nameIndex := 75, descriptorIndex := 21, attributes := #[] }, { accessFlags := 0, nameIndex := 81, descriptorIndex := 82, attributes := #[] }, { accessFlags := 26, nameIndex := 13, descriptorIndex := 14, attributes := #[] }])
  fields := #[{ name := "value", type := (.array .byte), accessFlags := 0, slot := 0, constantValue := 0 }, { name := "coder", type := .byte, accessFlags := 0, slot := 1, constantValue := 0 }, { name := "maybeLatin1", type := .boolean, accessFlags := 0, slot := 2, constantValue := 0 }, { name := "count", type := .int, accessFlags := 0, slot := 3, constantValue := 0 }, { name := "EMPTYVALUE", type := (.array .byte), accessFlags := 26, slot := 0, constantValue := 0 }]
  methods := #[k11m0, k11m1, k11m2, k11m3, k11m4, k11m5, k11m6, k11m7, k11m8]
  instanceTypes := #[(.array .byte), .byte, .boolean, .int]
  staticTypes := #[(.array .byte)]
  resolved := Array.replicate 609 none
  statics := none }

def pool12 : Array CpInfo := pool [(1, .methodref 2 3), (0, .class_ 4), (0, .nameAndType 5 6), (0, u "java/lang/AbstractStringBuilder"), (0, u "<init>"), (0, u "(I)V"), (11, .class_ 20), (1, u "java/lang/String"), (3, .class_ 26), (1, u "java/lang/StringBuilder"), (0, u "append"), (0, u "(Ljava/lang/String;)Ljava/lang/StringBuilder;"), (0, .methodref 2 30), (0, .nameAndType 27 31), (0, u "(Ljava/lang/String;)Ljava/lang/AbstractStringBuilder;"), (105, .methodref 18 138), (0, .nameAndType 5 139), (0, u "(Ljava/lang/StringBuilder;)V"), (5, u "()V"), (10, u "()I"), (186, .methodref 2 344), (0, .nameAndType 345 156), (0, u "length"), (3, .class_ 350), (0, u "java/lang/Appendable"), (0, .class_ 352), (0, u "java/io/Serializable"), (0, .class_ 354), (0, u "java/lang/Comparable"), (0, .class_ 356), (0, u "java/lang/CharSequence"), (0, u "serialVersionUID"), (0, u "J"), (40, u "toString"), (0, u "()Ljava/lang/String;")] 21

def k12c0 : Code := { maxStack := 2, maxLocals := 1, code := jdk_67_method_1_code, exceptionTable := #[], attributes := #[] }
def k12m0 : Method := { name := "<init>", desc := "()V", sig := { parameters := [], returnType := none }, accessFlags := 1, code := some k12c0 }
def k12c1 : Code := { maxStack := 2, maxLocals := 2, code := jdk_67_method_7_code, exceptionTable := #[], attributes := #[] }
def k12m1 : Method := { name := "append", desc := "(Ljava/lang/String;)Ljava/lang/StringBuilder;", sig := { parameters := [(.object "java/lang/String")], returnType := some (.object "java/lang/StringBuilder") }, accessFlags := 1, code := some k12c1 }
def k12c2 : Code := { maxStack := 3, maxLocals := 1, code := jdk_67_method_42_code, exceptionTable := #[], attributes := #[] }
def k12m2 : Method := { name := "toString", desc := "()Ljava/lang/String;", sig := { parameters := [], returnType := some (.object "java/lang/String") }, accessFlags := 1, code := some k12c2 }
def k12c3 : Code := { maxStack := 1, maxLocals := 1, code := jdk_67_method_93_code, exceptionTable := #[], attributes := #[] }
def k12m3 : Method := { name := "length", desc := "()I", sig := { parameters := [], returnType := some .int }, accessFlags := 4161, code := some k12c3 }
/-- java/lang/StringBuilder -/
def k12 : Class := { plain "java/lang/StringBuilder" (some 11) with
  accessFlags := 49
  interfaces := #[10, 2, 3, 4]
  cf := some (fileOf pool12 24 #[] #[{ accessFlags := 1, nameIndex := 5, descriptorIndex := 145, attributes := #[] }, { accessFlags := 1, nameIndex := 27, descriptorIndex := 28, attributes := #[] }, { accessFlags := 1, nameIndex := 399, descriptorIndex := 400, attributes := #[] }, { accessFlags := 4161, nameIndex := 345, descriptorIndex := 156, attributes := #[] }] 49 2 #[349, 351, 353, 355] #[{ accessFlags := 24, nameIndex := 357, descriptorIndex := 358, attributes := #[] }])
  fields := #[{ name := "serialVersionUID", type := .long, accessFlags := 24, slot := 0, constantValue := 0 }]
  methods := #[k12m0, k12m1, k12m2, k12m3]
  instanceTypes := #[(.array .byte), .byte, .boolean, .int]
  staticTypes := #[.long]
  resolved := Array.replicate 422 none
  statics := none }

def pool13 : Array CpInfo := pool [(2, .class_ 4), (1, u "java/lang/Object"), (0, u "<init>"), (0, u "()V"), (17, .class_ 26), (1, u "jdk/internal/util/Preconditions"), (6, u "checkIndex"), (13, u "checkFromToIndex"), (7, .class_ 56), (0, u "jdk/internal/util/Preconditions$4"), (57, .class_ 115), (0, u "jdk/internal/util/Preconditions$1"), (7, u "SIOOBE_FORMATTER"), (0, u "Ljava/util/function/BiFunction;"), (0, .class_ 126), (0, u "jdk/internal/util/Preconditions$2"), (3, u "AIOOBE_FORMATTER"), (0, .class_ 132), (0, u "jdk/internal/util/Preconditions$3"), (3, u "IOOBE_FORMATTER"), (41, u "(IILjava/util/function/BiFunction;)I"), (4, u "(IIILjava/util/function/BiFunction;)I")] 10

def k13m0 : Method := { name := "<init>", desc := "()V", sig := { parameters := [], returnType := none }, accessFlags := 1, code := none }
def k13c1 : Code := { maxStack := 3, maxLocals := 3, code := jdk_41_method_11_code, exceptionTable := #[], attributes := #[] }
def k13m1 : Method := { name := "checkIndex", desc := "(IILjava/util/function/BiFunction;)I", sig := { parameters := [.int, .int, (.object "java/util/function/BiFunction")], returnType := some .int }, accessFlags := 9, code := some k13c1 }
def k13c2 : Code := { maxStack := 4, maxLocals := 4, code := jdk_41_method_12_code, exceptionTable := #[], attributes := #[] }
def k13m2 : Method := { name := "checkFromToIndex", desc := "(IIILjava/util/function/BiFunction;)I", sig := { parameters := [.int, .int, .int, (.object "java/util/function/BiFunction")], returnType := some .int }, accessFlags := 9, code := some k13c2 }
/-- jdk/internal/util/Preconditions -/
def k13 : Class := { plain "jdk/internal/util/Preconditions" (some 0) with
  accessFlags := 33
  interfaces := #[]
  cf := some (fileOf pool13 24 #[.nestMembers #[55, 131, 125, 114]] #[{ accessFlags := 1, nameIndex := 5, descriptorIndex := 6, attributes := #[] }, { accessFlags := 9, nameIndex := 33, descriptorIndex := 178, attributes := #[] }, { accessFlags := 9, nameIndex := 47, descriptorIndex := 183, attributes := #[] }] 33 2 #[] #[{ accessFlags := 25, nameIndex := 123, descriptorIndex := 124, attributes := #[] }, { accessFlags := 25, nameIndex := 130, descriptorIndex := 124, attributes := #[] }, { accessFlags := 25, nameIndex := 136, descriptorIndex := 124, attributes := #[] }])
  fields := #[{ name := "SIOOBE_FORMATTER", type := (.object "java/util/function/BiFunction"), accessFlags := 25, slot := 0, constantValue := 0 }, { name := "AIOOBE_FORMATTER", type := (.object "java/util/function/BiFunction"), accessFlags := 25, slot := 1, constantValue := 0 }, { name := "IOOBE_FORMATTER", type := (.object "java/util/function/BiFunction"), accessFlags := 25, slot := 2, constantValue := 0 }]
  methods := #[k13m0, k13m1, k13m2]
  instanceTypes := #[]
  staticTypes := #[(.object "java/util/function/BiFunction"), (.object "java/util/function/BiFunction"), (.object "java/util/function/BiFunction")]
  resolved := Array.replicate 194 none
  statics := some 1 }

def pool14 : Array CpInfo := pool [(1, .class_ 2), (0, u "java/lang/String"), (1, .class_ 6), (1, u "java/lang/Object"), (0, u "<init>"), (0, u "()V"), (0, .methodref 1 10), (0, .nameAndType 11 12), (0, u "checkIndex"), (0, u "(II)V"), (1, .class_ 16), (1, u "java/lang/StringLatin1"), (36, u "([BI)C"), (58, .methodref 1 113), (0, .nameAndType 7 114), (0, u "([BB)V"), (6, u "$assertionsDisabled"), (0, u "Z"), (8, .class_ 133), (1, u "java/util/Arrays"), (62, u "newString"), (0, u "([BII)Ljava/lang/String;"), (23, .class_ 223), (1, u "java/lang/StringLatin1$LinesSpliterator"), (8, .methodref 131 233), (0, .nameAndType 234 235), (0, u "copyOfRange"), (0, u "([BII)[B"), (16, u "charAt"), (137, .class_ 391), (0, u "java/lang/StringLatin1$CharsSpliterator")] 3

def k14m0 : Method := { name := "<init>", desc := "()V", sig := { parameters := [], returnType := none }, accessFlags := 0, code := none }
def k14c1 : Code := { maxStack := 2, maxLocals := 2, code := jdk_43_method_2_code, exceptionTable := #[], attributes := #[] }
def k14m1 : Method := { name := "charAt", desc := "([BI)C", sig := { parameters := [(.array .byte), .int], returnType := some .char }, accessFlags := 9, code := some k14c1 }
def k14c2 : Code := { maxStack := 6, maxLocals := 3, code := jdk_43_method_47_code, exceptionTable := #[], attributes := #[] }
def k14m2 : Method := { name := "newString", desc := "([BII)Ljava/lang/String;", sig := { parameters := [(.array .byte), .int, .int], returnType := some (.object "java/lang/String") }, accessFlags := 9, code := some k14c2 }
/-- java/lang/StringLatin1 -/
def k14 : Class := { plain "java/lang/StringLatin1" (some 0) with
  accessFlags := 48
  interfaces := #[]
  cf := some (fileOf pool14 14 #[.nestMembers #[390, 221]] #[{ accessFlags := 0, nameIndex := 7, descriptorIndex := 8, attributes := #[] }, { accessFlags := 9, nameIndex := 252, descriptorIndex := 53, attributes := #[] }, { accessFlags := 9, nameIndex := 196, descriptorIndex := 197, attributes := #[] }] 48 4 #[] #[{ accessFlags := 4120, nameIndex := 121, descriptorIndex := 122, attributes := #[] }])
  fields := #[{ name := "$assertionsDisabled", type := .boolean, accessFlags := 4120, slot := 0, constantValue := 0 }]
  methods := #[k14m0, k14m1, k14m2]
  instanceTypes := #[]
  staticTypes := #[.boolean]
  resolved := Array.replicate 395 none
  statics := none }

def pool15 : Array CpInfo := pool [(2, .class_ 4), (1, u "java/lang/Object"), (0, u "<init>"), (0, u "()V"), (7, .class_ 16), (1, u "java/util/Arrays"), (57, .class_ 76), (1, u "java/util/Arrays$NaturalOrder"), (36, .class_ 115), (1, u "java/util/Arrays$LegacyMergeSort"), (1, u "Z"), (21, u "copyOfRange"), (10, .methodref 151 152), (0, .class_ 153), (0, .nameAndType 154 155), (0, u "java/lang/System"), (0, u "arraycopy"), (0, u "(Ljava/lang/Object;ILjava/lang/Object;II)V"), (148, .methodref 305 306), (0, .class_ 307), (0, .nameAndType 308 309), (0, u "java/lang/Math"), (0, u "min"), (0, u "(II)I"), (29, .methodref 14 340), (0, .nameAndType 341 342), (0, u "copyOfRangeByte"), (0, u "([BII)[B"), (0, .methodref 14 344), (0, .nameAndType 345 346), (0, u "checkLength"), (0, u "(II)V"), (28, .class_ 376), (0, u "java/util/Arrays$ArrayList"), (68, u "$assertionsDisabled"), (269, u "MIN_ARRAY_SORT_GRAN"), (0, u "I"), (2, u "INSERTIONSORT_THRESHOLD"), (255, .class_ 976), (0, u "java/util/Arrays$ArrayItr")] 52

def k15m0 : Method := { name := "<init>", desc := "()V", sig := { parameters := [], returnType := none }, accessFlags := 2, code := none }
def k15c1 : Code := { maxStack := 4, maxLocals := 2, code := jdk_65_method_131_code, exceptionTable := #[], attributes := #[] }
def k15m1 : Method := { name := "checkLength", desc := "(II)V", sig := { parameters := [.int, .int], returnType := none }, accessFlags := 10, code := some k15c1 }
def k15c2 : Code := { maxStack := 3, maxLocals := 3, code := jdk_65_method_132_code, exceptionTable := #[], attributes := #[] }
def k15m2 : Method := { name := "copyOfRange", desc := "([BII)[B", sig := { parameters := [(.array .byte), .int, .int], returnType := some (.array .byte) }, accessFlags := 9, code := some k15c2 }
def k15c3 : Code := { maxStack := 6, maxLocals := 5, code := jdk_65_method_133_code, exceptionTable := #[], attributes := #[] }
def k15m3 : Method := { name := "copyOfRangeByte", desc := "([BII)[B", sig := { parameters := [(.array .byte), .int, .int], returnType := some (.array .byte) }, accessFlags := 10, code := some k15c3 }
/-- java/util/Arrays -/
def k15 : Class := { plain "java/util/Arrays" (some 0) with
  accessFlags := 49
  interfaces := #[]
  cf := some (fileOf pool15 14 #[.nestMembers #[975, 375, 113, 74]] #[{ accessFlags := 2, nameIndex := 5, descriptorIndex := 6, attributes := #[] }, { accessFlags := 10, nameIndex := 345, descriptorIndex := 346, attributes := #[] }, { accessFlags := 9, nameIndex := 139, descriptorIndex := 342, attributes := #[] }, { accessFlags := 10, nameIndex := 341, descriptorIndex := 342, attributes := #[] }] 49 2 #[] #[{ accessFlags := 26, nameIndex := 715, descriptorIndex := 716, attributes := #[] }, { accessFlags := 26, nameIndex := 719, descriptorIndex := 716, attributes := #[] }, { accessFlags := 4120, nameIndex := 445, descriptorIndex := 117, attributes := #[] }])
  fields := #[{ name := "MIN_ARRAY_SORT_GRAN", type := .int, accessFlags := 26, slot := 0, constantValue := 0 }, { name := "INSERTIONSORT_THRESHOLD", type := .int, accessFlags := 26, slot := 1, constantValue := 0 }, { name := "$assertionsDisabled", type := .boolean, accessFlags := 4120, slot := 2, constantValue := 0 }]
  methods := #[k15m0, k15m1, k15m2, k15m3]
  instanceTypes := #[]
  staticTypes := #[.int, .int, .boolean]
  resolved := Array.replicate 1029 none
  statics := none }

def pool16 : Array CpInfo := pool [(1, .class_ 2), (0, u "java/lang/Math"), (1, .class_ 6), (1, u "java/lang/Object"), (0, u "<init>"), (0, u "()V"), (89, .class_ 100), (1, u "java/lang/Math$RandomNumberGeneratorHolder"), (71, u "negativeZeroFloatBits"), (0, u "J"), (2, u "negativeZeroDoubleBits"), (24, u "min"), (43, u "$assertionsDisabled"), (0, u "Z"), (88, u "(II)I"), (2, u "twoToTheDoubleScaleDown"), (0, u "D"), (4, u "twoToTheDoubleScaleUp"), (9, u "E"), (3, u "PI"), (2, u "TAU"), (2, u "DEGREES_TO_RADIANS"), (0, u "RADIANS_TO_DEGREES")] 94

def k16m0 : Method := { name := "<init>", desc := "()V", sig := { parameters := [], returnType := none }, accessFlags := 2, code := none }
def k16c1 : Code := { maxStack := 2, maxLocals := 2, code := jdk_29_method_69_code, exceptionTable := #[], attributes := #[] }
def k16m1 : Method := { name := "min", desc := "(II)I", sig := { parameters := [.int, .int], returnType := some .int }, accessFlags := 9, code := some k16c1 }
/-- java/lang/Math -/
def k16 : Class := { plain "java/lang/Math" (some 0) with
  accessFlags := 49
  interfaces := #[]
  cf := some (fileOf pool16 1 #[.nestMembers #[98]] #[{ accessFlags := 2, nameIndex := 7, descriptorIndex := 8, attributes := #[] }, { accessFlags := 9, nameIndex := 201, descriptorIndex := 335, attributes := #[] }] 49 4 #[] #[{ accessFlags := 25, nameIndex := 354, descriptorIndex := 339, attributes := #[] }, { accessFlags := 25, nameIndex := 358, descriptorIndex := 339, attributes := #[] }, { accessFlags := 25, nameIndex := 361, descriptorIndex := 339, attributes := #[] }, { accessFlags := 26, nameIndex := 364, descriptorIndex := 339, attributes := #[] }, { accessFlags := 26, nameIndex := 365, descriptorIndex := 339, attributes := #[] }, { accessFlags := 26, nameIndex := 172, descriptorIndex := 173, attributes := #[] }, { accessFlags := 26, nameIndex := 176, descriptorIndex := 173, attributes := #[] }, { accessFlags := 8, nameIndex := 344, descriptorIndex := 339, attributes := #[] }, { accessFlags := 8, nameIndex := 338, descriptorIndex := 339, attributes := #[] }, { accessFlags := 4120, nameIndex := 245, descriptorIndex := 246, attributes := #[] }])
  fields := #[{ name := "E", type := .double, accessFlags := 25, slot := 0, constantValue := 0 }, { name := "PI", type := .double, accessFlags := 25, slot := 1, constantValue := 0 }, { name := "TAU", type := .double, accessFlags := 25, slot := 2, constantValue := 0 }, { name := "DEGREES_TO_RADIANS", type := .double, accessFlags := 26, slot := 3, constantValue := 0 }, { name := "RADIANS_TO_DEGREES", type := .double, accessFlags := 26, slot := 4, constantValue := 0 }, { name := "negativeZeroFloatBits", type := .long, accessFlags := 26, slot := 5, constantValue := 0 }, { name := "negativeZeroDoubleBits", type := .long, accessFlags := 26, slot := 6, constantValue := 0 }, { name := "twoToTheDoubleScaleUp", type := .double, accessFlags := 8, slot := 7, constantValue := 0 }, { name := "twoToTheDoubleScaleDown", type := .double, accessFlags := 8, slot := 8, constantValue := 0 }, { name := "$assertionsDisabled", type := .boolean, accessFlags := 4120, slot := 9, constantValue := 0 }]
  methods := #[k16m0, k16m1]
  instanceTypes := #[]
  staticTypes := #[.double, .double, .double, .double, .double, .long, .long, .double, .double, .boolean]
  resolved := Array.replicate 460 none
  statics := none }

def pool17 : Array CpInfo := pool [(2, .class_ 4), (1, u "java/lang/Object"), (0, u "<init>"), (0, u "()V"), (1, .class_ 10), (1, u "java/lang/System"), (0, u "allowSecurityManager"), (0, u "I"), (16, u "cons"), (0, u "Ljava/io/Console;"), (77, .class_ 110), (1, u "java/lang/System$CallersHolder"), (43, u "initialErrStream"), (0, u "Ljava/io/PrintStream;"), (19, u "security"), (0, u "Ljava/lang/SecurityManager;"), (31, .class_ 209), (0, u "java/lang/System$1"), (7, u "props"), (0, u "Ljava/util/Properties;"), (2, u "lineSeparator"), (0, u "Ljava/lang/String;"), (96, .class_ 321), (1, u "java/lang/System$LoggerFinder"), (5, .class_ 328), (0, u "java/lang/System$Logger"), (67, u "err"), (2, u "out"), (91, u "notSupportedJnuEncoding"), (15, u "in"), (17, u "initialIn"), (0, u "Ljava/io/InputStream;"), (35, u "bootLayer"), (0, u "Ljava/lang/ModuleLayer;"), (99, .class_ 664), (0, u "java/lang/System$2"), (9, u "NEVER"), (2, u "MAYBE"), (49, u "arraycopy"), (0, u "(Ljava/lang/Object;ILjava/lang/Object;II)V"), (72, .class_ 802), (0, u "java/lang/System$Logger$Level")] 31

def k17m0 : Method := { name := "<init>", desc := "()V", sig := { parameters := [], returnType := none }, accessFlags := 2, code := none }
def k17m1 : Method := { name := "arraycopy", desc := "(Ljava/lang/Object;ILjava/lang/Object;II)V", sig := { parameters := [(.object "java/lang/Object"), .int, (.object "java/lang/Object"), .int, .int], returnType := none }, accessFlags := 265, code := none }
/-- java/lang/System -/
def k17 : Class := { plain "java/lang/System" (some 0) with
  accessFlags := 49
  interfaces := #[]
  cf := some (fileOf pool17 8 #[.nestMembers #[319, 327, 801, 108, 663, 208]] #[{ accessFlags := 2, nameIndex := 5, descriptorIndex := 6, attributes := #[] }, { accessFlags := 265, nameIndex := 727, descriptorIndex := 728, attributes := #[] }] 49 2 #[] #[{ accessFlags := 25, nameIndex := 507, descriptorIndex := 526, attributes := #[] }, { accessFlags := 25, nameIndex := 399, descriptorIndex := 155, attributes := #[] }, { accessFlags := 25, nameIndex := 396, descriptorIndex := 155, attributes := #[] }, { accessFlags := 10, nameIndex := 525, descriptorIndex := 526, attributes := #[] }, { accessFlags := 26, nameIndex := 674, descriptorIndex := 12, attributes := #[] }, { accessFlags := 26, nameIndex := 677, descriptorIndex := 12, attributes := #[] }, { accessFlags := 10, nameIndex := 11, descriptorIndex := 12, attributes := #[] }, { accessFlags := 74, nameIndex := 175, descriptorIndex := 176, attributes := #[] }, { accessFlags := 10, nameIndex := 491, descriptorIndex := 222, attributes := #[] }, { accessFlags := 74, nameIndex := 29, descriptorIndex := 30, attributes := #[] }, { accessFlags := 74, nameIndex := 154, descriptorIndex := 155, attributes := #[] }, { accessFlags := 10, nameIndex := 217, descriptorIndex := 218, attributes := #[] }, { accessFlags := 10, nameIndex := 221, descriptorIndex := 222, attributes := #[] }, { accessFlags := 8, nameIndex := 562, descriptorIndex := 563, attributes := #[] }])
  fields := #[{ name := "in", type := (.object "java/io/InputStream"), accessFlags := 25, slot := 0, constantValue := 0 }, { name := "out", type := (.object "java/io/PrintStream"), accessFlags := 25, slot := 1, constantValue := 0 }, { name := "err", type := (.object "java/io/PrintStream"), accessFlags := 25, slot := 2, constantValue := 0 }, { name := "initialIn", type := (.object "java/io/InputStream"), accessFlags := 10, slot := 3, constantValue := 0 }, { name := "NEVER", type := .int, accessFlags := 26, slot := 4, constantValue := 0 }, { name := "MAYBE", type := .int, accessFlags := 26, slot := 5, constantValue := 0 }, { name := "allowSecurityManager", type := .int, accessFlags := 10, slot := 6, constantValue := 0 }, { name := "security", type := (.object "java/lang/SecurityManager"), accessFlags := 74, slot := 7, constantValue := 0 }, { name := "notSupportedJnuEncoding", type := (.object "java/lang/String"), accessFlags := 10, slot := 8, constantValue := 0 }, { name := "cons", type := (.object "java/io/Console"), accessFlags := 74, slot := 9, constantValue := 0 }, { name := "initialErrStream", type := (.object "java/io/PrintStream"), accessFlags := 74, slot := 10, constantValue := 0 }, { name := "props", type := (.object "java/util/Properties"), accessFlags := 10, slot := 11, constantValue := 0 }, { name := "lineSeparator", type := (.object "java/lang/String"), accessFlags := 10, slot := 12, constantValue := 0 }, { name := "bootLayer", type := (.object "java/lang/ModuleLayer"), accessFlags := 8, slot := 13, constantValue := 0 }]
  methods := #[k17m0, k17m1]
  instanceTypes := #[]
  staticTypes := #[(.object "java/io/InputStream"), (.object "java/io/PrintStream"), (.object "java/io/PrintStream"), (.object "java/io/InputStream"), .int, .int, .int, (.object "java/lang/SecurityManager"), (.object "java/lang/String"), (.object "java/io/Console"), (.object "java/io/PrintStream"), (.object "java/util/Properties"), (.object "java/lang/String"), (.object "java/lang/ModuleLayer")]
  resolved := Array.replicate 834 none
  statics := none }

def pool18 : Array CpInfo := pool [(9, u "<init>"), (6, .class_ 18), (1, u "java/lang/Object"), (0, u "()V"), (1, .class_ 23), (1, u "jdk/internal/util/ArraysSupport"), (0, u "LOG2_ARRAY_LONG_INDEX_SCALE"), (0, u "I"), (2, u "U"), (0, u "Ljdk/internal/misc/Unsafe;"), (8, u "BIG_ENDIAN"), (0, u "Z"), (8, u "LOG2_BYTE_BIT_SIZE"), (4, u "LOG2_ARRAY_INT_INDEX_SCALE"), (54, u "JLA"), (0, u "Ljdk/internal/access/JavaLangAccess;"), (11, u "LOG2_ARRAY_BOOLEAN_INDEX_SCALE"), (9, u "LOG2_ARRAY_BYTE_INDEX_SCALE"), (5, u "LOG2_ARRAY_CHAR_INDEX_SCALE"), (5, u "LOG2_ARRAY_SHORT_INDEX_SCALE"), (18, u "LOG2_ARRAY_FLOAT_INDEX_SCALE"), (24, u "LOG2_ARRAY_DOUBLE_INDEX_SCALE"), (89, u "T_BOOLEAN"), (2, u "T_CHAR"), (1, u "T_FLOAT"), (1, u "T_DOUBLE"), (1, u "T_BYTE"), (1, u "T_SHORT"), (1, u "T_INT"), (1, u "T_LONG"), (1, u "SOFT_MAX_ARRAY_LENGTH")] 83

def k18m0 : Method := { name := "<init>", desc := "()V", sig := { parameters := [], returnType := none }, accessFlags := 2, code := none }
/-- jdk/internal/util/ArraysSupport -/
def k18 : Class := { plain "jdk/internal/util/ArraysSupport" (some 0) with
  accessFlags := 33
  interfaces := #[]
  cf := some (fileOf pool18 21 #[] #[{ accessFlags := 2, nameIndex := 9, descriptorIndex := 19, attributes := #[] }] 33 16 #[] #[{ accessFlags := 24, nameIndex := 28, descriptorIndex := 29, attributes := #[] }, { accessFlags := 26, nameIndex := 38, descriptorIndex := 39, attributes := #[] }, { accessFlags := 25, nameIndex := 121, descriptorIndex := 25, attributes := #[] }, { accessFlags := 25, nameIndex := 131, descriptorIndex := 25, attributes := #[] }, { accessFlags := 25, nameIndex := 137, descriptorIndex := 25, attributes := #[] }, { accessFlags := 25, nameIndex := 143, descriptorIndex := 25, attributes := #[] }, { accessFlags := 25, nameIndex := 53, descriptorIndex := 25, attributes := #[] }, { accessFlags := 25, nameIndex := 24, descriptorIndex := 25, attributes := #[] }, { accessFlags := 25, nameIndex := 162, descriptorIndex := 25, attributes := #[] }, { accessFlags := 25, nameIndex := 187, descriptorIndex := 25, attributes := #[] }, { accessFlags := 26, nameIndex := 48, descriptorIndex := 25, attributes := #[] }, { accessFlags := 25, nameIndex := 277, descriptorIndex := 25, attributes := #[] }, { accessFlags := 25, nameIndex := 280, descriptorIndex := 25, attributes := #[] }, { accessFlags := 25, nameIndex := 282, descriptorIndex := 25, attributes := #[] }, { accessFlags := 25, nameIndex := 284, descriptorIndex := 25, attributes := #[] }, { accessFlags := 25, nameIndex := 286, descriptorIndex := 25, attributes := #[] }, { accessFlags := 25, nameIndex := 288, descriptorIndex := 25, attributes := #[] }, { accessFlags := 25, nameIndex := 290, descriptorIndex := 25, attributes := #[] }, { accessFlags := 25, nameIndex := 292, descriptorIndex := 25, attributes := #[] }, { accessFlags := 26, nameIndex := 108, descriptorIndex := 109, attributes := #[] }, { accessFlags := 25, nameIndex := 294, descriptorIndex := 25, attributes := #[] }])
  fields := #[{ name := "U", type := (.object "jdk/internal/misc/Unsafe"), accessFlags := 24, slot := 0, constantValue := 0 }, { name := "BIG_ENDIAN", type := .boolean, accessFlags := 26, slot := 1, constantValue := 0 }, { name := "LOG2_ARRAY_BOOLEAN_INDEX_SCALE", type := .int, accessFlags := 25, slot := 2, constantValue := 0 }, { name := "LOG2_ARRAY_BYTE_INDEX_SCALE", type := .int, accessFlags := 25, slot := 3, constantValue := 0 }, { name := "LOG2_ARRAY_CHAR_INDEX_SCALE", type := .int, accessFlags := 25, slot := 4, constantValue := 0 }, { name := "LOG2_ARRAY_SHORT_INDEX_SCALE", type := .int, accessFlags := 25, slot := 5, constantValue := 0 }, { name := "LOG2_ARRAY_INT_INDEX_SCALE", type := .int, accessFlags := 25, slot := 6, constantValue := 0 }, { name := "LOG2_ARRAY_LONG_INDEX_SCALE", type := .int, accessFlags := 25, slot := 7, constantValue := 0 }, { name := "LOG2_ARRAY_FLOAT_INDEX_SCALE", type := .int, accessFlags := 25, slot := 8, constantValue := 0 }, { name := "LOG2_ARRAY_DOUBLE_INDEX_SCALE", type := .int, accessFlags := 25, slot := 9, constantValue := 0 }, { name := "LOG2_BYTE_BIT_SIZE", type := .int, accessFlags := 26, slot := 10, constantValue := 0 }, { name := "T_BOOLEAN", type := .int, accessFlags := 25, slot := 11, constantValue := 0 }, { name := "T_CHAR", type := .int, accessFlags := 25, slot := 12, constantValue := 0 }, { name := "T_FLOAT", type := .int, accessFlags := 25, slot := 13, constantValue := 0 }, { name := "T_DOUBLE", type := .int, accessFlags := 25, slot := 14, constantValue := 0 }, { name := "T_BYTE", type := .int, accessFlags := 25, slot := 15, constantValue := 0 }, { name := "T_SHORT", type := .int, accessFlags := 25, slot := 16, constantValue := 0 }, { name := "T_INT", type := .int, accessFlags := 25, slot := 17, constantValue := 0 }, { name := "T_LONG", type := .int, accessFlags := 25, slot := 18, constantValue := 0 }, { name := "JLA", type := (.object "jdk/internal/access/JavaLangAccess"), accessFlags := 26, slot := 19, constantValue := 0 }, { name := "SOFT_MAX_ARRAY_LENGTH", type := .int, accessFlags := 25, slot := 20, constantValue := 0 }]
  methods := #[k18m0]
  instanceTypes := #[]
  staticTypes := #[(.object "jdk/internal/misc/Unsafe"), .boolean, .int, .int, .int, .int, .int, .int, .int, .int, .int, .int, .int, .int, .int, .int, .int, .int, .int, (.object "jdk/internal/access/JavaLangAccess"), .int]
  resolved := Array.replicate 378 none
  statics := none }

def pool19 : Array CpInfo := pool [(1, u "java/lang/Cloneable"), (0, .class_ 1), (0, u "java/lang/Object"), (0, .class_ 3)] 3

/-- java/lang/Cloneable -/
def k19 : Class := { plain "java/lang/Cloneable" (some 0) with
  accessFlags := 1537
  interfaces := #[]
  cf := some (fileOf pool19 2 #[] #[] 1537 4 #[] #[])
  fields := #[]
  methods := #[]
  instanceTypes := #[]
  staticTypes := #[]
  resolved := Array.replicate 8 none
  statics := none }

/-- the primitive byte -/
def k20 : Class := { plain "byte" none with kind := .primitive 'B', accessFlags := 0x411 }
/-- [B -/
def k21 : Class := { plain "[B" (some 0) with kind := .array 20 .byte, interfaces := #[19, 2], accessFlags := 1041 }

/-- the primitive char -/
def k22 : Class := { plain "char" none with kind := .primitive 'C', accessFlags := 0x411 }
/-- [C -/
def k23 : Class := { plain "[C" (some 0) with kind := .array 22 .char, interfaces := #[19, 2], accessFlags := 1041 }

/-- the primitive int -/
def k24 : Class := { plain "int" none with kind := .primitive 'I', accessFlags := 0x411 }
/-- [I -/
def k25 : Class := { plain "[I" (some 0) with kind := .array 24 .int, interfaces := #[19, 2], accessFlags := 1041 }

def heap : Heap := #[{ cls := 7, slots := #[.long 0, .int 1, .null, .int 0, .null, .int 0, .int 0], vm := .statics 7 },
  { cls := 13, slots := #[.null, .null, .null], vm := .statics 13 }]
def classes : Array Class := #[k0, k1, k2, k3, k4, k5, k6, k7, k8, k9, k10, k11, k12, k13, k14, k15, k16, k17, k18, k19, k20, k21, k22, k23, k24, k25]
def interned : List (Array UInt16 × Addr) := []
def slotsUsed : Nat := 10
def theMethod : MethodId := ⟨1, 1⟩
def args0 : Array Value := #[.int 65, .int 66, .int 67, .int 5]
def aboutOver (below : List Frame) : State where
  vm := { classes := classes, interned := interned.toArray }
  heap := heap
  slotsUsed := slotsUsed
  threads := #[{ frames := .invoking theMethod args0 :: below }]
def below0 : List Frame := [.native { method := ⟨0, 0⟩, args := #[] }]
def about1 : State := aboutOver below0
def p0 : Program := .bare "" "" ""
def e0 : Env := launch0.env 0 0 0
theorem w_frames : about1.frames = Frame.invoking theMethod args0 :: below0 := rfl
set_option maxRecDepth 65536 in
theorem w_args : argsFit about1.vm theMethod args0 = true := by decide +kernel
set_option maxRecDepth 65536 in
theorem w_heap : heapFits about1 = true := by decide +kernel
set_option maxRecDepth 65536 in
theorem w_runnable : about1.curStatus? = some .runnable := by decide +kernel
set_option maxRecDepth 65536 in
theorem w_alone : about1.alone = true := by decide +kernel
set_option maxRecDepth 65536 in
theorem w_named : about1.methodNamed? x = some theMethod := by decide +kernel
set_option maxRecDepth 65536 in
theorem w_hears : about1.hears theMethod below0 = true := by decide +kernel
set_option maxRecDepth 65536 in
theorem w_ripe : about1.ripe theMethod args0 below0 = true := by decide +kernel
theorem w_running : about1.status = .running := rfl
set_option maxRecDepth 65536 in
theorem w_room : about1.hasRoom e0.platform room_1 = true :=
  launch0.hasRoom_least _ room_1 (by decide +kernel) (by decide +kernel) (by decide +kernel) (by decide +kernel) (by decide +kernel) (by decide +kernel)
theorem allAtoms_all (ts : List Jvm.Cond) (a : Array Jvm.Value) (st : Jvm.State) : (allAtoms ts).before a st = ts.all (fun c => c.before a st) := by
  induction ts with
  | nil => rfl
  | cons c t ih =>
    show (Jvm.Cond.and c (allAtoms t)).before a st = _
    rw [Jvm.Cond.before_and, ih, List.all_cons]
def words1 : List Jvm.Cond := Jvm.Cond.code x code maxLocals ret :: tables_1
/-- a 'code' word, met by the world's own term for the bytes: nothing is compared byte by byte -/
theorem code_word {y : MethodName} {bytes : ByteArray} {mx : Nat} {rt : Option FieldType} {a : Array Value} {s : State} {m : MethodId} {meth : Method} {c : Code} (h1 : s.methodNamed? y = some m) (h2 : s.vm.method? m = some meth) (h3 : meth.code = some c) (h4 : c.code = bytes)
    (h5 : (c.maxLocals == mx && c.exceptionTable.isEmpty && decide (c.maxStack ≤ mostOperands) && decide (meth.sig.returnType = rt) && !meth.locks && decide (parseMethodDescriptor y.desc = some meth.sig)) = true) : (Jvm.Cond.code y bytes mx rt).before a s = true := by
  simp only [Bool.and_eq_true, beq_iff_eq, Bool.not_eq_true', decide_eq_true_eq] at h5
  obtain ⟨⟨⟨⟨⟨g1, g2⟩, g3⟩, g4⟩, g5⟩, g6⟩ := h5
  simp [Cond.before, Cond.holds, Cond.value, h1, h2, h3, h4, g1, g2, g3, g4, g5, g6]
def isCode : Jvm.Cond → Bool
  | .code _ _ _ _ => true
  | _ => false
theorem all_split {L : List Jvm.Cond} {P : Jvm.Cond → Bool} (h1 : L.all (fun c => isCode c || P c) = true) (h2 : ∀ c ∈ L.filter isCode, P c = true) : L.all P = true := by
  refine List.all_eq_true.mpr fun c hc => ?_
  have h := List.all_eq_true.mp h1 c hc
  rcases Bool.eq_false_or_eq_true (isCode c) with hi | hi
  · exact h2 c (List.mem_filter.mpr ⟨hc, hi⟩)
  · simpa [hi] using h
set_option maxRecDepth 65536 in
theorem w_c0 : (Jvm.Cond.code x code maxLocals ret).before args0 about1 = true := code_word (m := ⟨1, 1⟩) (meth := k1m1) (c := k1c1) (by decide +kernel) rfl rfl rfl (by decide +kernel)
set_option maxRecDepth 65536 in
theorem w_c1 : (Jvm.Cond.code ({ cls := "com/example/net30/net30/http/GzipEtagPinLaw", name := "tag", desc := "(ZICCC)Ljava/lang/String;" } : Jvm.MethodName) method_4_code (5 : Nat) (Option.some (Jvm.ClassFile.FieldType.object "java/lang/String"))).before args0 about1 = true := code_word (m := ⟨1, 3⟩) (meth := k1m3) (c := k1c3) (by decide +kernel) rfl rfl rfl (by decide +kernel)
set_option maxRecDepth 65536 in
theorem w_c2 : (Jvm.Cond.code ({ cls := "java/lang/String", name := "<init>", desc := "([C)V" } : Jvm.MethodName) jdk_42_method_3_code (2 : Nat) (Option.none : Option Jvm.ClassFile.FieldType)).before args0 about1 = true := code_word (m := ⟨7, 1⟩) (meth := k7m1) (c := k7c1) (by decide +kernel) rfl rfl rfl (by decide +kernel)
set_option maxRecDepth 65536 in
theorem w_c3 : (Jvm.Cond.code ({ cls := "java/lang/String", name := "<init>", desc := "([CIILjava/lang/Void;)V" } : Jvm.MethodName) jdk_42_method_149_code (6 : Nat) (Option.none : Option Jvm.ClassFile.FieldType)).before args0 about1 = true := code_word (m := ⟨7, 7⟩) (meth := k7m7) (c := k7c7) (by decide +kernel) rfl rfl rfl (by decide +kernel)
set_option maxRecDepth 65536 in
theorem w_c4 : (Jvm.Cond.code ({ cls := "java/lang/Object", name := "<init>", desc := "()V" } : Jvm.MethodName) object_method_1_code (1 : Nat) (Option.none : Option Jvm.ClassFile.FieldType)).before args0 about1 = true := code_word (m := ⟨0, 0⟩) (meth := k0m0) (c := k0c0) (by decide +kernel) rfl rfl rfl (by decide +kernel)
set_option maxRecDepth 65536 in
theorem w_c5 : (Jvm.Cond.code ({ cls := "java/lang/StringUTF16", name := "compress", desc := "([CII)[B" } : Jvm.MethodName) jdk_52_method_16_code (6 : Nat) (Option.some (Jvm.ClassFile.FieldType.array Jvm.ClassFile.FieldType.byte))).before args0 about1 = true := code_word (m := ⟨8, 2⟩) (meth := k8m2) (c := k8c2) (by decide +kernel) rfl rfl rfl (by decide +kernel)
set_option maxRecDepth 65536 in
theorem w_c6 : (Jvm.Cond.code ({ cls := "java/lang/StringUTF16", name := "compress", desc := "([CI[BII)I" } : Jvm.MethodName) jdk_52_method_21_code (7 : Nat) (Option.some Jvm.ClassFile.FieldType.int)).before args0 about1 = true := code_word (m := ⟨8, 3⟩) (meth := k8m3) (c := k8c3) (by decide +kernel) rfl rfl rfl (by decide +kernel)
set_option maxRecDepth 65536 in
theorem w_c7 : (Jvm.Cond.code ({ cls := "java/lang/StringUTF16", name := "coderFromArrayLen", desc := "([BI)B" } : Jvm.MethodName) jdk_52_method_15_code (2 : Nat) (Option.some Jvm.ClassFile.FieldType.byte)).before args0 about1 = true := code_word (m := ⟨8, 1⟩) (meth := k8m1) (c := k8c1) (by decide +kernel) rfl rfl rfl (by decide +kernel)
set_option maxRecDepth 65536 in
theorem w_c8 : (Jvm.Cond.code ({ cls := "com/example/net30/net30/http/Gzip", name := "etag", desc := "(Ljava/lang/String;)Ljava/lang/String;" } : Jvm.MethodName) prog_2_method_5_code (1 : Nat) (Option.some (Jvm.ClassFile.FieldType.object "java/lang/String"))).before args0 about1 = true := code_word (m := ⟨9, 1⟩) (meth := k9m1) (c := k9c1) (by decide +kernel) rfl rfl rfl (by decide +kernel)
set_option maxRecDepth 65536 in
theorem w_c9 : (Jvm.Cond.code ({ cls := "java/lang/StringBuilder", name := "<init>", desc := "()V" } : Jvm.MethodName) jdk_67_method_1_code (1 : Nat) (Option.none : Option Jvm.ClassFile.FieldType)).before args0 about1 = true := code_word (m := ⟨12, 0⟩) (meth := k12m0) (c := k12c0) (by decide +kernel) rfl rfl rfl (by decide +kernel)
set_option maxRecDepth 65536 in
theorem w_c10 : (Jvm.Cond.code ({ cls := "java/lang/AbstractStringBuilder", name := "<init>", desc := "(I)V" } : Jvm.MethodName) jdk_68_method_2_code (2 : Nat) (Option.none : Option Jvm.ClassFile.FieldType)).before args0 about1 = true := code_word (m := ⟨11, 1⟩) (meth := k11m1) (c := k11c1) (by decide +kernel) rfl rfl rfl (by decide +kernel)
set_option maxRecDepth 65536 in
theorem w_c11 : (Jvm.Cond.code ({ cls := "java/lang/String", name := "length", desc := "()I" } : Jvm.MethodName) jdk_42_method_54_code (1 : Nat) (Option.some Jvm.ClassFile.FieldType.int)).before args0 about1 = true := code_word (m := ⟨7, 3⟩) (meth := k7m3) (c := k7c3) (by decide +kernel) rfl rfl rfl (by decide +kernel)
set_option maxRecDepth 65536 in
theorem w_c12 : (Jvm.Cond.code ({ cls := "java/lang/String", name := "coder", desc := "()B" } : Jvm.MethodName) jdk_42_method_152_code (1 : Nat) (Option.some Jvm.ClassFile.FieldType.byte)).before args0 about1 = true := code_word (m := ⟨7, 10⟩) (meth := k7m10) (c := k7c10) (by decide +kernel) rfl rfl rfl (by decide +kernel)
set_option maxRecDepth 65536 in
theorem w_c13 : (Jvm.Cond.code ({ cls := "java/lang/String", name := "substring", desc := "(II)Ljava/lang/String;" } : Jvm.MethodName) jdk_42_method_92_code (5 : Nat) (Option.some (Jvm.ClassFile.FieldType.object "java/lang/String"))).before args0 about1 = true := code_word (m := ⟨7, 5⟩) (meth := k7m5) (c := k7c5) (by decide +kernel) rfl rfl rfl (by decide +kernel)
set_option maxRecDepth 65536 in
theorem w_c14 : (Jvm.Cond.code ({ cls := "java/lang/String", name := "checkBoundsBeginEnd", desc := "(III)V" } : Jvm.MethodName) jdk_42_method_158_code (3 : Nat) (Option.none : Option Jvm.ClassFile.FieldType)).before args0 about1 = true := code_word (m := ⟨7, 13⟩) (meth := k7m13) (c := k7c13) (by decide +kernel) rfl rfl rfl (by decide +kernel)
set_option maxRecDepth 65536 in
theorem w_c15 : (Jvm.Cond.code ({ cls := "jdk/internal/util/Preconditions", name := "checkFromToIndex", desc := "(IIILjava/util/function/BiFunction;)I" } : Jvm.MethodName) jdk_41_method_12_code (4 : Nat) (Option.some Jvm.ClassFile.FieldType.int)).before args0 about1 = true := code_word (m := ⟨13, 2⟩) (meth := k13m2) (c := k13c2) (by decide +kernel) rfl rfl rfl (by decide +kernel)
set_option maxRecDepth 65536 in
theorem w_c16 : (Jvm.Cond.code ({ cls := "java/lang/String", name := "isLatin1", desc := "()Z" } : Jvm.MethodName) jdk_42_method_154_code (1 : Nat) (Option.some Jvm.ClassFile.FieldType.boolean)).before args0 about1 = true := code_word (m := ⟨7, 11⟩) (meth := k7m11) (c := k7c11) (by decide +kernel) rfl rfl rfl (by decide +kernel)
set_option maxRecDepth 65536 in
theorem w_c17 : (Jvm.Cond.code ({ cls := "java/lang/StringLatin1", name := "newString", desc := "([BII)Ljava/lang/String;" } : Jvm.MethodName) jdk_43_method_47_code (3 : Nat) (Option.some (Jvm.ClassFile.FieldType.object "java/lang/String"))).before args0 about1 = true := code_word (m := ⟨14, 2⟩) (meth := k14m2) (c := k14c2) (by decide +kernel) rfl rfl rfl (by decide +kernel)
set_option maxRecDepth 65536 in
theorem w_c18 : (Jvm.Cond.code ({ cls := "java/util/Arrays", name := "copyOfRange", desc := "([BII)[B" } : Jvm.MethodName) jdk_65_method_132_code (3 : Nat) (Option.some (Jvm.ClassFile.FieldType.array Jvm.ClassFile.FieldType.byte))).before args0 about1 = true := code_word (m := ⟨15, 2⟩) (meth := k15m2) (c := k15c2) (by decide +kernel) rfl rfl rfl (by decide +kernel)
set_option maxRecDepth 65536 in
theorem w_c19 : (Jvm.Cond.code ({ cls := "java/util/Arrays", name := "copyOfRangeByte", desc := "([BII)[B" } : Jvm.MethodName) jdk_65_method_133_code (5 : Nat) (Option.some (Jvm.ClassFile.FieldType.array Jvm.ClassFile.FieldType.byte))).before args0 about1 = true := code_word (m := ⟨15, 3⟩) (meth := k15m3) (c := k15c3) (by decide +kernel) rfl rfl rfl (by decide +kernel)
set_option maxRecDepth 65536 in
theorem w_c20 : (Jvm.Cond.code ({ cls := "java/util/Arrays", name := "checkLength", desc := "(II)V" } : Jvm.MethodName) jdk_65_method_131_code (2 : Nat) (Option.none : Option Jvm.ClassFile.FieldType)).before args0 about1 = true := code_word (m := ⟨15, 1⟩) (meth := k15m1) (c := k15c1) (by decide +kernel) rfl rfl rfl (by decide +kernel)
set_option maxRecDepth 65536 in
theorem w_c21 : (Jvm.Cond.code ({ cls := "java/lang/Math", name := "min", desc := "(II)I" } : Jvm.MethodName) jdk_29_method_69_code (2 : Nat) (Option.some Jvm.ClassFile.FieldType.int)).before args0 about1 = true := code_word (m := ⟨16, 1⟩) (meth := k16m1) (c := k16c1) (by decide +kernel) rfl rfl rfl (by decide +kernel)
set_option maxRecDepth 65536 in
theorem w_c22 : (Jvm.Cond.code ({ cls := "java/lang/String", name := "<init>", desc := "([BB)V" } : Jvm.MethodName) jdk_42_method_151_code (3 : Nat) (Option.none : Option Jvm.ClassFile.FieldType)).before args0 about1 = true := code_word (m := ⟨7, 9⟩) (meth := k7m9) (c := k7c9) (by decide +kernel) rfl rfl rfl (by decide +kernel)
set_option maxRecDepth 65536 in
theorem w_c23 : (Jvm.Cond.code ({ cls := "java/lang/StringBuilder", name := "append", desc := "(Ljava/lang/String;)Ljava/lang/StringBuilder;" } : Jvm.MethodName) jdk_67_method_7_code (2 : Nat) (Option.some (Jvm.ClassFile.FieldType.object "java/lang/StringBuilder"))).before args0 about1 = true := code_word (m := ⟨12, 1⟩) (meth := k12m1) (c := k12c1) (by decide +kernel) rfl rfl rfl (by decide +kernel)
set_option maxRecDepth 65536 in
theorem w_c24 : (Jvm.Cond.code ({ cls := "java/lang/AbstractStringBuilder", name := "append", desc := "(Ljava/lang/String;)Ljava/lang/AbstractStringBuilder;" } : Jvm.MethodName) jdk_68_method_22_code (3 : Nat) (Option.some (Jvm.ClassFile.FieldType.object "java/lang/AbstractStringBuilder"))).before args0 about1 = true := code_word (m := ⟨11, 4⟩) (meth := k11m4) (c := k11c4) (by decide +kernel) rfl rfl rfl (by decide +kernel)
set_option maxRecDepth 65536 in
theorem w_c25 : (Jvm.Cond.code ({ cls := "java/lang/AbstractStringBuilder", name := "ensureCapacityInternal", desc := "(I)V" } : Jvm.MethodName) jdk_68_method_9_code (3 : Nat) (Option.none : Option Jvm.ClassFile.FieldType)).before args0 about1 = true := code_word (m := ⟨11, 3⟩) (meth := k11m3) (c := k11c3) (by decide +kernel) rfl rfl rfl (by decide +kernel)
set_option maxRecDepth 65536 in
theorem w_c26 : (Jvm.Cond.code ({ cls := "java/lang/AbstractStringBuilder", name := "putStringAt", desc := "(ILjava/lang/String;)V" } : Jvm.MethodName) jdk_68_method_73_code (3 : Nat) (Option.none : Option Jvm.ClassFile.FieldType)).before args0 about1 = true := code_word (m := ⟨11, 8⟩) (meth := k11m8) (c := k11c8) (by decide +kernel) rfl rfl rfl (by decide +kernel)
set_option maxRecDepth 65536 in
theorem w_c27 : (Jvm.Cond.code ({ cls := "java/lang/AbstractStringBuilder", name := "inflateIfNeededFor", desc := "(Ljava/lang/String;)V" } : Jvm.MethodName) jdk_68_method_71_code (2 : Nat) (Option.none : Option Jvm.ClassFile.FieldType)).before args0 about1 = true := code_word (m := ⟨11, 7⟩) (meth := k11m7) (c := k11c7) (by decide +kernel) rfl rfl rfl (by decide +kernel)
set_option maxRecDepth 65536 in
theorem w_c28 : (Jvm.Cond.code ({ cls := "java/lang/String", name := "getBytes", desc := "([BIB)V" } : Jvm.MethodName) jdk_42_method_147_code (4 : Nat) (Option.none : Option Jvm.ClassFile.FieldType)).before args0 about1 = true := code_word (m := ⟨7, 6⟩) (meth := k7m6) (c := k7c6) (by decide +kernel) rfl rfl rfl (by decide +kernel)
set_option maxRecDepth 65536 in
theorem w_c29 : (Jvm.Cond.code ({ cls := "java/lang/StringBuilder", name := "toString", desc := "()Ljava/lang/String;" } : Jvm.MethodName) jdk_67_method_42_code (1 : Nat) (Option.some (Jvm.ClassFile.FieldType.object "java/lang/String"))).before args0 about1 = true := code_word (m := ⟨12, 2⟩) (meth := k12m2) (c := k12c2) (by decide +kernel) rfl rfl rfl (by decide +kernel)
set_option maxRecDepth 65536 in
theorem w_c30 : (Jvm.Cond.code ({ cls := "java/lang/String", name := "<init>", desc := "(Ljava/lang/StringBuilder;)V" } : Jvm.MethodName) jdk_42_method_53_code (2 : Nat) (Option.none : Option Jvm.ClassFile.FieldType)).before args0 about1 = true := code_word (m := ⟨7, 2⟩) (meth := k7m2) (c := k7c2) (by decide +kernel) rfl rfl rfl (by decide +kernel)
set_option maxRecDepth 65536 in
theorem w_c31 : (Jvm.Cond.code ({ cls := "java/lang/String", name := "<init>", desc := "(Ljava/lang/AbstractStringBuilder;Ljava/lang/Void;)V" } : Jvm.MethodName) jdk_42_method_150_code (5 : Nat) (Option.none : Option Jvm.ClassFile.FieldType)).before args0 about1 = true := code_word (m := ⟨7, 8⟩) (meth := k7m8) (c := k7c8) (by decide +kernel) rfl rfl rfl (by decide +kernel)
set_option maxRecDepth 65536 in
theorem w_c32 : (Jvm.Cond.code ({ cls := "java/lang/AbstractStringBuilder", name := "getValue", desc := "()[B" } : Jvm.MethodName) jdk_68_method_64_code (1 : Nat) (Option.some (Jvm.ClassFile.FieldType.array Jvm.ClassFile.FieldType.byte))).before args0 about1 = true := code_word (m := ⟨11, 5⟩) (meth := k11m5) (c := k11c5) (by decide +kernel) rfl rfl rfl (by decide +kernel)
set_option maxRecDepth 65536 in
theorem w_c33 : (Jvm.Cond.code ({ cls := "java/lang/StringBuilder", name := "length", desc := "()I" } : Jvm.MethodName) jdk_67_method_93_code (1 : Nat) (Option.some Jvm.ClassFile.FieldType.int)).before args0 about1 = true := code_word (m := ⟨12, 3⟩) (meth := k12m3) (c := k12c3) (by decide +kernel) rfl rfl rfl (by decide +kernel)
set_option maxRecDepth 65536 in
theorem w_c34 : (Jvm.Cond.code ({ cls := "java/lang/AbstractStringBuilder", name := "length", desc := "()I" } : Jvm.MethodName) jdk_68_method_6_code (1 : Nat) (Option.some Jvm.ClassFile.FieldType.int)).before args0 about1 = true := code_word (m := ⟨11, 2⟩) (meth := k11m2) (c := k11c2) (by decide +kernel) rfl rfl rfl (by decide +kernel)
set_option maxRecDepth 65536 in
theorem w_c35 : (Jvm.Cond.code ({ cls := "java/lang/AbstractStringBuilder", name := "isLatin1", desc := "()Z" } : Jvm.MethodName) jdk_68_method_68_code (1 : Nat) (Option.some Jvm.ClassFile.FieldType.boolean)).before args0 about1 = true := code_word (m := ⟨11, 6⟩) (meth := k11m6) (c := k11c6) (by decide +kernel) rfl rfl rfl (by decide +kernel)
set_option maxRecDepth 65536 in
theorem w_c36 : (Jvm.Cond.code ({ cls := "com/example/net30/net30/http/GzipEtagPinLaw", name := "same", desc := "(Ljava/lang/String;Ljava/lang/String;II)Z" } : Jvm.MethodName) method_3_code (4 : Nat) (Option.some Jvm.ClassFile.FieldType.boolean)).before args0 about1 = true := code_word (m := ⟨1, 2⟩) (meth := k1m2) (c := k1c2) (by decide +kernel) rfl rfl rfl (by decide +kernel)
set_option maxRecDepth 65536 in
theorem w_c37 : (Jvm.Cond.code ({ cls := "java/lang/String", name := "charAt", desc := "(I)C" } : Jvm.MethodName) jdk_42_method_56_code (2 : Nat) (Option.some Jvm.ClassFile.FieldType.char)).before args0 about1 = true := code_word (m := ⟨7, 4⟩) (meth := k7m4) (c := k7c4) (by decide +kernel) rfl rfl rfl (by decide +kernel)
set_option maxRecDepth 65536 in
theorem w_c38 : (Jvm.Cond.code ({ cls := "java/lang/StringLatin1", name := "charAt", desc := "([BI)C" } : Jvm.MethodName) jdk_43_method_2_code (2 : Nat) (Option.some Jvm.ClassFile.FieldType.char)).before args0 about1 = true := code_word (m := ⟨14, 1⟩) (meth := k14m1) (c := k14c1) (by decide +kernel) rfl rfl rfl (by decide +kernel)
set_option maxRecDepth 65536 in
theorem w_c39 : (Jvm.Cond.code ({ cls := "java/lang/String", name := "checkIndex", desc := "(II)V" } : Jvm.MethodName) jdk_42_method_155_code (2 : Nat) (Option.none : Option Jvm.ClassFile.FieldType)).before args0 about1 = true := code_word (m := ⟨7, 12⟩) (meth := k7m12) (c := k7c12) (by decide +kernel) rfl rfl rfl (by decide +kernel)
set_option maxRecDepth 65536 in
theorem w_c40 : (Jvm.Cond.code ({ cls := "jdk/internal/util/Preconditions", name := "checkIndex", desc := "(IILjava/util/function/BiFunction;)I" } : Jvm.MethodName) jdk_41_method_11_code (3 : Nat) (Option.some Jvm.ClassFile.FieldType.int)).before args0 about1 = true := code_word (m := ⟨13, 1⟩) (meth := k13m1) (c := k13c1) (by decide +kernel) rfl rfl rfl (by decide +kernel)
def codes1 : List Jvm.Cond := [Jvm.Cond.code x code maxLocals ret, Jvm.Cond.code ({ cls := "com/example/net30/net30/http/GzipEtagPinLaw", name := "tag", desc := "(ZICCC)Ljava/lang/String;" } : Jvm.MethodName) method_4_code (5 : Nat) (Option.some (Jvm.ClassFile.FieldType.object "java/lang/String")), Jvm.Cond.code ({ cls := "java/lang/String", name := "<init>", desc := "([C)V" } : Jvm.MethodName) jdk_42_method_3_code (2 : Nat) (Option.none : Option Jvm.ClassFile.FieldType), Jvm.Cond.code ({ cls := "java/lang/String", name := "<init>", desc := "([CIILjava/lang/Void;)V" } : Jvm.MethodName) jdk_42_method_149_code (6 : Nat) (Option.none : Option Jvm.ClassFile.FieldType), Jvm.Cond.code ({ cls := "java/lang/Object", name := "<init>", desc := "()V" } : Jvm.MethodName) object_method_1_code (1 : Nat) (Option.none : Option Jvm.ClassFile.FieldType), Jvm.Cond.code ({ cls := "java/lang/StringUTF16", name := "compress", desc := "([CII)[B" } : Jvm.MethodName) jdk_52_method_16_code (6 : Nat) (Option.some (Jvm.ClassFile.FieldType.array Jvm.ClassFile.FieldType.byte)), Jvm.Cond.code ({ cls := "java/lang/StringUTF16", name := "compress", desc := "([CI[BII)I" } : Jvm.MethodName) jdk_52_method_21_code (7 : Nat) (Option.some Jvm.ClassFile.FieldType.int), Jvm.Cond.code ({ cls := "java/lang/StringUTF16", name := "coderFromArrayLen", desc := "([BI)B" } : Jvm.MethodName) jdk_52_method_15_code (2 : Nat) (Option.some Jvm.ClassFile.FieldType.byte), Jvm.Cond.code ({ cls := "com/example/net30/net30/http/Gzip", name := "etag", desc := "(Ljava/lang/String;)Ljava/lang/String;" } : Jvm.MethodName) prog_2_method_5_code (1 : Nat) (Option.some (Jvm.ClassFile.FieldType.object "java/lang/String")), Jvm.Cond.code ({ cls := "java/lang/StringBuilder", name := "<init>", desc := "()V" } : Jvm.MethodName) jdk_67_method_1_code (1 : Nat) (Option.none : Option Jvm.ClassFile.FieldType), Jvm.Cond.code ({ cls := "java/lang/AbstractStringBuilder", name := "<init>", desc := "(I)V" } : Jvm.MethodName) jdk_68_method_2_code (2 : Nat) (Option.none : Option Jvm.ClassFile.FieldType), Jvm.Cond.code ({ cls := "java/lang/String", name := "length", desc := "()I" } : Jvm.MethodName) jdk_42_method_54_code (1 : Nat) (Option.some Jvm.ClassFile.FieldType.int), Jvm.Cond.code ({ cls := "java/lang/String", name := "coder", desc := "()B" } : Jvm.MethodName) jdk_42_method_152_code (1 : Nat) (Option.some Jvm.ClassFile.FieldType.byte), Jvm.Cond.code ({ cls := "java/lang/String", name := "substring", desc := "(II)Ljava/lang/String;" } : Jvm.MethodName) jdk_42_method_92_code (5 : Nat) (Option.some (Jvm.ClassFile.FieldType.object "java/lang/String")), Jvm.Cond.code ({ cls := "java/lang/String", name := "checkBoundsBeginEnd", desc := "(III)V" } : Jvm.MethodName) jdk_42_method_158_code (3 : Nat) (Option.none : Option Jvm.ClassFile.FieldType), Jvm.Cond.code ({ cls := "jdk/internal/util/Preconditions", name := "checkFromToIndex", desc := "(IIILjava/util/function/BiFunction;)I" } : Jvm.MethodName) jdk_41_method_12_code (4 : Nat) (Option.some Jvm.ClassFile.FieldType.int), Jvm.Cond.code ({ cls := "java/lang/String", name := "isLatin1", desc := "()Z" } : Jvm.MethodName) jdk_42_method_154_code (1 : Nat) (Option.some Jvm.ClassFile.FieldType.boolean), Jvm.Cond.code ({ cls := "java/lang/StringLatin1", name := "newString", desc := "([BII)Ljava/lang/String;" } : Jvm.MethodName) jdk_43_method_47_code (3 : Nat) (Option.some (Jvm.ClassFile.FieldType.object "java/lang/String")), Jvm.Cond.code ({ cls := "java/util/Arrays", name := "copyOfRange", desc := "([BII)[B" } : Jvm.MethodName) jdk_65_method_132_code (3 : Nat) (Option.some (Jvm.ClassFile.FieldType.array Jvm.ClassFile.FieldType.byte)), Jvm.Cond.code ({ cls := "java/util/Arrays", name := "copyOfRangeByte", desc := "([BII)[B" } : Jvm.MethodName) jdk_65_method_133_code (5 : Nat) (Option.some (Jvm.ClassFile.FieldType.array Jvm.ClassFile.FieldType.byte)), Jvm.Cond.code ({ cls := "java/util/Arrays", name := "checkLength", desc := "(II)V" } : Jvm.MethodName) jdk_65_method_131_code (2 : Nat) (Option.none : Option Jvm.ClassFile.FieldType), Jvm.Cond.code ({ cls := "java/lang/Math", name := "min", desc := "(II)I" } : Jvm.MethodName) jdk_29_method_69_code (2 : Nat) (Option.some Jvm.ClassFile.FieldType.int), Jvm.Cond.code ({ cls := "java/lang/String", name := "<init>", desc := "([BB)V" } : Jvm.MethodName) jdk_42_method_151_code (3 : Nat) (Option.none : Option Jvm.ClassFile.FieldType), Jvm.Cond.code ({ cls := "java/lang/StringBuilder", name := "append", desc := "(Ljava/lang/String;)Ljava/lang/StringBuilder;" } : Jvm.MethodName) jdk_67_method_7_code (2 : Nat) (Option.some (Jvm.ClassFile.FieldType.object "java/lang/StringBuilder")), Jvm.Cond.code ({ cls := "java/lang/AbstractStringBuilder", name := "append", desc := "(Ljava/lang/String;)Ljava/lang/AbstractStringBuilder;" } : Jvm.MethodName) jdk_68_method_22_code (3 : Nat) (Option.some (Jvm.ClassFile.FieldType.object "java/lang/AbstractStringBuilder")), Jvm.Cond.code ({ cls := "java/lang/AbstractStringBuilder", name := "ensureCapacityInternal", desc := "(I)V" } : Jvm.MethodName) jdk_68_method_9_code (3 : Nat) (Option.none : Option Jvm.ClassFile.FieldType), Jvm.Cond.code ({ cls := "java/lang/AbstractStringBuilder", name := "putStringAt", desc := "(ILjava/lang/String;)V" } : Jvm.MethodName) jdk_68_method_73_code (3 : Nat) (Option.none : Option Jvm.ClassFile.FieldType), Jvm.Cond.code ({ cls := "java/lang/AbstractStringBuilder", name := "inflateIfNeededFor", desc := "(Ljava/lang/String;)V" } : Jvm.MethodName) jdk_68_method_71_code (2 : Nat) (Option.none : Option Jvm.ClassFile.FieldType), Jvm.Cond.code ({ cls := "java/lang/String", name := "getBytes", desc := "([BIB)V" } : Jvm.MethodName) jdk_42_method_147_code (4 : Nat) (Option.none : Option Jvm.ClassFile.FieldType), Jvm.Cond.code ({ cls := "java/lang/StringBuilder", name := "toString", desc := "()Ljava/lang/String;" } : Jvm.MethodName) jdk_67_method_42_code (1 : Nat) (Option.some (Jvm.ClassFile.FieldType.object "java/lang/String")), Jvm.Cond.code ({ cls := "java/lang/String", name := "<init>", desc := "(Ljava/lang/StringBuilder;)V" } : Jvm.MethodName) jdk_42_method_53_code (2 : Nat) (Option.none : Option Jvm.ClassFile.FieldType), Jvm.Cond.code ({ cls := "java/lang/String", name := "<init>", desc := "(Ljava/lang/AbstractStringBuilder;Ljava/lang/Void;)V" } : Jvm.MethodName) jdk_42_method_150_code (5 : Nat) (Option.none : Option Jvm.ClassFile.FieldType), Jvm.Cond.code ({ cls := "java/lang/AbstractStringBuilder", name := "getValue", desc := "()[B" } : Jvm.MethodName) jdk_68_method_64_code (1 : Nat) (Option.some (Jvm.ClassFile.FieldType.array Jvm.ClassFile.FieldType.byte)), Jvm.Cond.code ({ cls := "java/lang/StringBuilder", name := "length", desc := "()I" } : Jvm.MethodName) jdk_67_method_93_code (1 : Nat) (Option.some Jvm.ClassFile.FieldType.int), Jvm.Cond.code ({ cls := "java/lang/AbstractStringBuilder", name := "length", desc := "()I" } : Jvm.MethodName) jdk_68_method_6_code (1 : Nat) (Option.some Jvm.ClassFile.FieldType.int), Jvm.Cond.code ({ cls := "java/lang/AbstractStringBuilder", name := "isLatin1", desc := "()Z" } : Jvm.MethodName) jdk_68_method_68_code (1 : Nat) (Option.some Jvm.ClassFile.FieldType.boolean), Jvm.Cond.code ({ cls := "com/example/net30/net30/http/GzipEtagPinLaw", name := "same", desc := "(Ljava/lang/String;Ljava/lang/String;II)Z" } : Jvm.MethodName) method_3_code (4 : Nat) (Option.some Jvm.ClassFile.FieldType.boolean), Jvm.Cond.code ({ cls := "java/lang/String", name := "charAt", desc := "(I)C" } : Jvm.MethodName) jdk_42_method_56_code (2 : Nat) (Option.some Jvm.ClassFile.FieldType.char), Jvm.Cond.code ({ cls := "java/lang/StringLatin1", name := "charAt", desc := "([BI)C" } : Jvm.MethodName) jdk_43_method_2_code (2 : Nat) (Option.some Jvm.ClassFile.FieldType.char), Jvm.Cond.code ({ cls := "java/lang/String", name := "checkIndex", desc := "(II)V" } : Jvm.MethodName) jdk_42_method_155_code (2 : Nat) (Option.none : Option Jvm.ClassFile.FieldType), Jvm.Cond.code ({ cls := "jdk/internal/util/Preconditions", name := "checkIndex", desc := "(IILjava/util/function/BiFunction;)I" } : Jvm.MethodName) jdk_41_method_11_code (3 : Nat) (Option.some Jvm.ClassFile.FieldType.int)]
set_option maxRecDepth 65536 in
theorem codes_eq : words1.filter isCode = codes1 := rfl
theorem w_codes : ∀ c ∈ words1.filter isCode, c.before args0 about1 = true := by
  rw [codes_eq]
  intro c hc
  simp only [codes1, List.mem_cons, List.not_mem_nil, or_false] at hc
  rcases hc with rfl | rfl | rfl | rfl | rfl | rfl | rfl | rfl | rfl | rfl | rfl | rfl | rfl | rfl | rfl | rfl | rfl | rfl | rfl | rfl | rfl | rfl | rfl | rfl | rfl | rfl | rfl | rfl | rfl | rfl | rfl | rfl | rfl | rfl | rfl | rfl | rfl | rfl | rfl | rfl | rfl
  · exact w_c0
  · exact w_c1
  · exact w_c2
  · exact w_c3
  · exact w_c4
  · exact w_c5
  · exact w_c6
  · exact w_c7
  · exact w_c8
  · exact w_c9
  · exact w_c10
  · exact w_c11
  · exact w_c12
  · exact w_c13
  · exact w_c14
  · exact w_c15
  · exact w_c16
  · exact w_c17
  · exact w_c18
  · exact w_c19
  · exact w_c20
  · exact w_c21
  · exact w_c22
  · exact w_c23
  · exact w_c24
  · exact w_c25
  · exact w_c26
  · exact w_c27
  · exact w_c28
  · exact w_c29
  · exact w_c30
  · exact w_c31
  · exact w_c32
  · exact w_c33
  · exact w_c34
  · exact w_c35
  · exact w_c36
  · exact w_c37
  · exact w_c38
  · exact w_c39
  · exact w_c40
set_option maxRecDepth 65536 in
theorem w_t1 : (words1.take 24).all (fun c => isCode c || c.before args0 about1) = true := by decide +kernel
set_option maxRecDepth 65536 in
theorem w_t2 : ((words1.drop 24).take 24).all (fun c => isCode c || c.before args0 about1) = true := by decide +kernel
set_option maxRecDepth 65536 in
theorem w_t3 : (((words1.drop 24).drop 24).take 24).all (fun c => isCode c || c.before args0 about1) = true := by decide +kernel
set_option maxRecDepth 65536 in
theorem w_t4 : ((((words1.drop 24).drop 24).drop 24).take 24).all (fun c => isCode c || c.before args0 about1) = true := by decide +kernel
set_option maxRecDepth 65536 in
theorem w_t5 : (((((words1.drop 24).drop 24).drop 24).drop 24).take 24).all (fun c => isCode c || c.before args0 about1) = true := by decide +kernel
set_option maxRecDepth 65536 in
theorem w_t6 : ((((((words1.drop 24).drop 24).drop 24).drop 24).drop 24).take 24).all (fun c => isCode c || c.before args0 about1) = true := by decide +kernel
set_option maxRecDepth 65536 in
theorem w_t7 : (((((((words1.drop 24).drop 24).drop 24).drop 24).drop 24).drop 24).take 24).all (fun c => isCode c || c.before args0 about1) = true := by decide +kernel
set_option maxRecDepth 65536 in
theorem w_t8 : ((((((((words1.drop 24).drop 24).drop 24).drop 24).drop 24).drop 24).drop 24).take 24).all (fun c => isCode c || c.before args0 about1) = true := by decide +kernel
set_option maxRecDepth 65536 in
theorem w_t9 : ((((((((words1.drop 24).drop 24).drop 24).drop 24).drop 24).drop 24).drop 24).drop 24).all (fun c => isCode c || c.before args0 about1) = true := by decide +kernel
theorem w_tables : (allAtoms (Jvm.Cond.code x code maxLocals ret :: tables_1)).before args0 about1 = true := by
  rw [allAtoms_all]
  show words1.all (fun c => c.before args0 about1) = true
  refine all_split ?_ w_codes
  rw [← List.take_append_drop 24 words1, List.all_append, w_t1, ← List.take_append_drop 24 (words1.drop 24), List.all_append, w_t2, ← List.take_append_drop 24 ((words1.drop 24).drop 24), List.all_append, w_t3, ← List.take_append_drop 24 (((words1.drop 24).drop 24).drop 24), List.all_append, w_t4, ← List.take_append_drop 24 ((((words1.drop 24).drop 24).drop 24).drop 24), List.all_append, w_t5, ← List.take_append_drop 24 (((((words1.drop 24).drop 24).drop 24).drop 24).drop 24), List.all_append, w_t6, ← List.take_append_drop 24 ((((((words1.drop 24).drop 24).drop 24).drop 24).drop 24).drop 24), List.all_append, w_t7, ← List.take_append_drop 24 (((((((words1.drop 24).drop 24).drop 24).drop 24).drop 24).drop 24).drop 24), List.all_append, w_t8, w_t9]
  rfl
set_option maxRecDepth 65536 in
theorem w_rest : rest_1_c.before args0 about1 = true := by decide +kernel
set_option maxRecDepth 65536 in
theorem w_case : (Jvm.Cond.and given_1 narrow_1).before args0 about1 = true := by decide +kernel
set_option maxRecDepth 65536 in
theorem w_consts : constsHeld consts_1 about1 := Jvm.Lit.constsHeldB_iff.mp (by decide +kernel)
theorem w_applies : (headSpec (Jvm.Cond.code x code maxLocals ret :: tables_1) room_1).applies x e0.platform about1 = true :=
  (Spec.applies_iff w_frames).mpr ⟨w_running, w_runnable, w_alone, w_named, w_hears, w_ripe, w_room, w_tables⟩
theorem atStart : AtStart classFile x code maxLocals ret World_1 tables_1 room_1 Calls_1 rest_1 Pre_1 launch0 p0 e0 about1 theMethod args0 below0 :=
  ⟨lists_1, trivial, launch0.admits_env _ _ _, launch0.least_env, fairChoices_fair.cas, fairChoices_fair.clock, w_frames, w_args, w_heap, w_applies, ⟨w_consts, trivial⟩, w_rest, w_case⟩
end start1
theorem witness_1 : WitnessClaimed_1 := ⟨start1.p0, start1.e0, start1.about1, start1.theMethod, start1.args0, start1.below0, start1.atStart⟩
end Jvm.Pilot.@@N@@
