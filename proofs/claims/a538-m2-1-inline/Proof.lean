import JvmDerived
import JvmDerived.Pilot.@@N@@Statement
import JvmDerived.Pilot.@@N@@Code
set_option linter.unusedVariables false
set_option linter.unusedSimpArgs false

/- laws to paste: Road.backV, Road.lenW, Road.chN, Road.empW, Road.codOf (cut by pick.py; bodies as the Statement names them) -/
namespace Jvm.Pilot.@@N@@
namespace StrChars
open Jvm Sem ClassFile Op Lib Jvm.Stand Jvm.Free.XT Jvm.Free.ALB Jvm.Free.JM Jvm.Free
open Jvm.Lib.Cold (StaticIs)
/-- a char array whose places are chars -/
def Ch (a : Addr) (A : Cell) (U : State) : Prop := Arr .char a A U ∧ Typed .char A
theorem Ch.mv {a : Addr} {A : Cell} {U U' : State} (h : Ch a A U) (hal : U.vm.Alike U'.vm) (hh : U'.heap = U.heap) : Ch a A U' := ⟨h.1.mv hal hh, h.2⟩
theorem Ch.keep {a : Addr} {A : Cell} {U U' : State} (h : Ch a A U) (hal : U.vm.Alike U'.vm) (hk : U'.heap[a]? = some A) : Ch a A U' := ⟨h.1.keep hal hk, h.2⟩
/-- what place i of a char[]'s cell holds -/
def cv (A : Cell) (i : Nat) : Int32 := match A.slots[i]? with | some (.int x) => x | _ => 0
theorem Ch.get {a : Addr} {A : Cell} {U : State} (h : Ch a A U) {i : Nat} (hi : i < A.slots.size) : A.slots[i]? = some (.int (cv A i)) := by
  have e := Array.getElem?_eq_getElem hi
  have f := h.2 i _ e
  unfold cv; rw [e]
  generalize A.slots[i] = v at f
  cases v <;> simp [fits] at f ⊢
/-- the byte that i2b leaves of a char -/
def lo8 (x : Int32) : Int32 := x.toInt8.toInt32
theorem fits_lo8 (y : Int32) : fits .byte (.int (lo8 y)) = true := by
  have h1 := y.toInt8.le_toInt
  have h2 := y.toInt8.toInt_lt
  simp only [lo8, fits, Bool.and_eq_true, decide_eq_true_eq, Int32.le_iff_toInt_le, Int8.toInt_toInt32, show (-128 : Int32).toInt = -128 from by decide, show (127 : Int32).toInt = 127 from by decide]
  omega
/-- A' is A but that each place j of lo .. hi - 1 holds f j -/
def Laid (A A' : Cell) (lo hi : Nat) (f : Nat → Value) : Prop := A'.cls = A.cls ∧ A'.vm = A.vm ∧ A'.slots.size = A.slots.size ∧ ∀ i, A'.slots[i]? = if lo ≤ i ∧ i < hi then some (f i) else A.slots[i]?
theorem Laid.zero (A : Cell) (lo : Nat) (f : Nat → Value) : Laid A A lo (lo + 0) f := ⟨rfl, rfl, rfl, fun i => by rw [if_neg (by omega)]⟩
theorem Laid.step {A Ak : Cell} {lo k : Nat} {f : Nat → Value} {v : Value} (h : Laid A Ak lo k f) (hlo : lo ≤ k) (hk : k < Ak.slots.size) (hv : v = f k) : Laid A (Ak.setSlot k v) lo (k + 1) f := by
  refine ⟨h.1, h.2.1, by simpa [Cell.setSlot] using h.2.2.1, fun i => ?_⟩
  by_cases e : k = i
  · subst e; rw [Cell.slots_setSlot_self v hk, if_pos (by omega), hv]
  · rw [Cell.slots_setSlot_ne v e, h.2.2.2 i]
    by_cases q : lo ≤ i ∧ i < k
    · rw [if_pos q, if_pos (by omega)]
    · rw [if_neg q, if_neg (by omega)]
def U16 : String := "java/lang/StringUTF16"
namespace Cmp5
def yN : MethodName := ⟨"java/lang/StringUTF16", "compress", "([CI[BII)I"⟩
abbrev yB : ByteArray := jdk_52_method_21_code
theorem d0 : decode yB 0 = .ok (.iconst 0, 1) := by decide +kernel
theorem d1 : decode yB 1 = .ok (.istore 5, 2) := by decide +kernel
theorem d3 : decode yB 3 = .ok (.iload 5, 2) := by decide +kernel
theorem d5 : decode yB 5 = .ok (.iload 4, 2) := by decide +kernel
theorem d7 : decode yB 7 = .ok (.if_icmp (.ge) 37, 3) := by decide +kernel
theorem d10 : decode yB 10 = .ok (.aload_n 0, 1) := by decide +kernel
theorem d11 : decode yB 11 = .ok (.iload_n 1, 1) := by decide +kernel
theorem d12 : decode yB 12 = .ok (.caload, 1) := by decide +kernel
theorem d13 : decode yB 13 = .ok (.istore 6, 2) := by decide +kernel
theorem d15 : decode yB 15 = .ok (.iload 6, 2) := by decide +kernel
theorem d17 : decode yB 17 = .ok (.sipush 255, 3) := by decide +kernel
theorem d20 : decode yB 20 = .ok (.if_icmp (.le) 6, 3) := by decide +kernel
theorem d26 : decode yB 26 = .ok (.aload_n 2, 1) := by decide +kernel
theorem d27 : decode yB 27 = .ok (.iload_n 3, 1) := by decide +kernel
theorem d28 : decode yB 28 = .ok (.iload 6, 2) := by decide +kernel
theorem d30 : decode yB 30 = .ok (.i2b, 1) := by decide +kernel
theorem d31 : decode yB 31 = .ok (.bastore, 1) := by decide +kernel
theorem d32 : decode yB 32 = .ok (.iinc 1 1, 3) := by decide +kernel
theorem d35 : decode yB 35 = .ok (.iinc 3 1, 3) := by decide +kernel
theorem d38 : decode yB 38 = .ok (.iinc 5 1, 3) := by decide +kernel
theorem d41 : decode yB 41 = .ok (.goto (-38), 3) := by decide +kernel
theorem d44 : decode yB 44 = .ok (.iload 4, 2) := by decide +kernel
theorem d46 : decode yB 46 = .ok (.ireturn, 1) := by decide +kernel
def site : List Cond := []
def tab : Cond := tabOf yN yB 7 (some .int) site
def P (b : Addr) (A : Cell) (d : Addr) (B : Cell) (o q len : Nat) (args : Array Value) (s : State) : Prop := args = #[.ref b, .int (Int32.ofNat o), .ref d, .int (Int32.ofNat q), .int (Int32.ofNat len)] ∧ Ch b A s ∧ Arr .byte d B s ∧ b ≠ d ∧ o + len ≤ A.slots.size ∧ q + len ≤ B.slots.size ∧ ∀ i, i < len → ¬ 255 < cv A (o + i)
def E (b : Addr) (A : Cell) (d : Addr) (B : Cell) (o q len : Nat) (r : Option Value) (s u : State) : Prop := r = some (.int (Int32.ofNat len)) ∧ ∃ B', Put d B' s u ∧ Laid B B' q (q + len) (fun j => Value.int (lo8 (cv A (o + (j - q)))))
/-- no char of the range above 255: len; the places written hold each char's low byte -/
theorem law (l : Launch) (b : Addr) (A : Cell) (d : Addr) (B : Cell) (o q len : Nat) : Law l yN 5 5 0 0 yB 7 (some .int) site (P b A d B o q len) (E b A d B o q len) (copyLocs d q len) 0 0 := by
  refine Law.of_walk (plainFor_of_name (by decide +kernel)) (by decide +kernel) (by decide +kernel) (by decide) (fun _ _ h => by rw [h.1]; rfl) (fun _ U U' hal hh h => ⟨h.1, h.2.1.mv hal hh, h.2.2.1.mv hal hh, h.2.2.2⟩) (fun r U U' V V' h1 hal h2 h => ⟨h.1, h.2.elim fun B' q => ⟨B', q.1.mv h1 h2, q.2⟩⟩) ?_
  intro p e s m args below meth c s₁ X0 hexec hbytes hml hret hlk hnm hown hh0 W hP
  obtain ⟨rfl, hA, hB, hne, l1, l2, hp⟩ := hP
  have c1 : Steps p.tables e below (s₁.setTop (entryFrame m #[.ref b, .int (Int32.ofNat o), .ref d, .int (Int32.ofNat q), .int (Int32.ofNat len)] 7)) (s₁.setTop (mkF m 0 #[.val (.ref b), .val (.int (Int32.ofNat o)), .val (.ref d), .val (.int (Int32.ofNat q)), .val (.int (Int32.ofNat len)), .unset, .unset] [])) := entry rfl
  have hA0 := hA.1.mv X0.warmed.alike hh0
  have hB0 := hB.mv X0.warmed.alike hh0
  have a31 := hA.1.2.2.2
  have c2 : Steps p.tables e below (s₁.setTop (entryFrame m #[.ref b, .int (Int32.ofNat o), .ref d, .int (Int32.ofNat q), .int (Int32.ofNat len)] 7)) (s₁.setTop (mkF m 3 #[.val (.ref b), .val (.int (Int32.ofNat o)), .val (.ref d), .val (.int (Int32.ofNat q)), .val (.int (Int32.ofNat len)), .val (.int 0), .unset] [])) := c1.trans (by
    refine iconstV X0.here hexec rfl 0 (hb hbytes d0) (by decide) ?_
    refine XS.istore X0.here hexec rfl (hb hbytes d1) rfl rfl ?_
    exact Steps.refl _)
  have loop : ∀ (r i : Nat), i + r = len → ∀ (z : Slot), (z = .unset ∨ ∃ w, z = .val w ∧ w.category = 1) → ∀ (Tl : State) (Bk : Cell), Stand p l e { frames := 0, locals := 0, cells := 0, slots := 0 } s m #[.ref b, .int (Int32.ofNat o), .ref d, .int (Int32.ofNat q), .int (Int32.ofNat len)] below meth c Tl ([] ++ copyLocs d q i) 0 0 → Put d Bk s₁ Tl → Laid B Bk q (q + i) (fun j => Value.int (lo8 (cv A (o + (j - q))))) →
      Steps p.tables e below (s₁.setTop (entryFrame m #[.ref b, .int (Int32.ofNat o), .ref d, .int (Int32.ofNat q), .int (Int32.ofNat len)] 7)) (Tl.setTop (mkF m 3 #[.val (.ref b), .val (.int (Int32.ofNat (o + i))), .val (.ref d), .val (.int (Int32.ofNat (q + i))), .val (.int (Int32.ofNat len)), .val (.int (Int32.ofNat i)), z] [])) → ∃ (T' : State) (B' : Cell) (z' : Slot), Stand p l e { frames := 0, locals := 0, cells := 0, slots := 0 } s m #[.ref b, .int (Int32.ofNat o), .ref d, .int (Int32.ofNat q), .int (Int32.ofNat len)] below meth c T' ([] ++ copyLocs d q len) 0 0 ∧ Put d B' s₁ T' ∧ Laid B B' q (q + len) (fun j => Value.int (lo8 (cv A (o + (j - q))))) ∧
      Steps p.tables e below (s₁.setTop (entryFrame m #[.ref b, .int (Int32.ofNat o), .ref d, .int (Int32.ofNat q), .int (Int32.ofNat len)] 7)) (T'.setTop (mkF m 3 #[.val (.ref b), .val (.int (Int32.ofNat (o + len))), .val (.ref d), .val (.int (Int32.ofNat (q + len))), .val (.int (Int32.ofNat len)), .val (.int (Int32.ofNat len)), z'] [])) := by
    intro r
    induction r with
    | zero =>
      intro i hi z hz Tl Bk Xl pl fl cl
      have hil : i = len := by omega
      rw [hil] at Xl fl cl
      exact ⟨Tl, Bk, z, Xl, pl, fl, cl⟩
    | succ r ih =>
      intro i hi z hz Tl Bk Xl pl fl cl
      have all := X0.warmed.alike.symm.trans Xl.warmed.alike
      have hAl := hA0.keep all (pl.other hne hA0.1)
      have hBk := hB0.like all pl.1 fl.1 fl.2.1 fl.2.2.1
      have hlt : q + i < Bk.slots.size := by rw [fl.2.2.1]; omega
      have c3 : Steps p.tables e below (s₁.setTop (entryFrame m #[.ref b, .int (Int32.ofNat o), .ref d, .int (Int32.ofNat q), .int (Int32.ofNat len)] 7)) (Tl.setTop (mkF m 12 #[.val (.ref b), .val (.int (Int32.ofNat (o + i))), .val (.ref d), .val (.int (Int32.ofNat (q + i))), .val (.int (Int32.ofNat len)), .val (.int (Int32.ofNat i)), z] [.int (Int32.ofNat (o + i)), .ref b])) := cl.trans (by
        refine XS.iload Xl.here hexec rfl (hb hbytes d3) rfl ?_
        refine XS.iload Xl.here hexec rfl (hb hbytes d5) rfl ?_
        refine XS.icmpNo Xl.here hexec rfl (hb hbytes d7) rfl (ii_ge_f (lt32 (by omega) (by omega))) ?_
        refine XS.aloadN Xl.here hexec rfl (hb hbytes d10) rfl rfl ?_
        refine XS.iloadN Xl.here hexec rfl (hb hbytes d11) rfl ?_
        exact Steps.refl _)
      have c4 : Steps p.tables e below (s₁.setTop (entryFrame m #[.ref b, .int (Int32.ofNat o), .ref d, .int (Int32.ofNat q), .int (Int32.ofNat len)] 7)) (Tl.setTop (mkF m 13 #[.val (.ref b), .val (.int (Int32.ofNat (o + i))), .val (.ref d), .val (.int (Int32.ofNat (q + i))), .val (.int (Int32.ofNat len)), .val (.int (Int32.ofNat i)), z] [.int (cv A (o + i))])) := c3.trans (by
        refine Xl.aget hexec hAl rfl (hA.get (i := o + i) (by omega)) rfl rfl (hb hbytes d12) ?_
        exact Steps.refl _)
      have c5 : Steps p.tables e below (s₁.setTop (entryFrame m #[.ref b, .int (Int32.ofNat o), .ref d, .int (Int32.ofNat q), .int (Int32.ofNat len)] 7)) (Tl.setTop (mkF m 15 #[.val (.ref b), .val (.int (Int32.ofNat (o + i))), .val (.ref d), .val (.int (Int32.ofNat (q + i))), .val (.int (Int32.ofNat len)), .val (.int (Int32.ofNat i)), .val (.int (cv A (o + i)))] [])) := c4.trans (by
        refine XS.istoreS Xl.here hexec rfl (hb hbytes d13) rfl rfl hz ?_
        exact Steps.refl _)
      have c6 : Steps p.tables e below (s₁.setTop (entryFrame m #[.ref b, .int (Int32.ofNat o), .ref d, .int (Int32.ofNat q), .int (Int32.ofNat len)] 7)) (Tl.setTop (mkF m 31 #[.val (.ref b), .val (.int (Int32.ofNat (o + i))), .val (.ref d), .val (.int (Int32.ofNat (q + i))), .val (.int (Int32.ofNat len)), .val (.int (Int32.ofNat i)), .val (.int (cv A (o + i)))] [.int (lo8 (cv A (o + i))), .int (Int32.ofNat (q + i)), .ref d])) := c5.trans (by
        refine XS.iload Xl.here hexec rfl (hb hbytes d15) rfl ?_
        refine sipushV Xl.here hexec rfl 255 (hb hbytes d17) (by decide) ?_
        refine XS.icmpYes Xl.here hexec rfl (pc0 := 20) rfl (hb hbytes d20) rfl (ii_le_t (hp i (by omega))) (by decide) rfl ?_
        refine XS.aloadN Xl.here hexec rfl (hb hbytes d26) rfl rfl ?_
        refine XS.iloadN Xl.here hexec rfl (hb hbytes d27) rfl ?_
        refine XS.iload Xl.here hexec rfl (hb hbytes d28) rfl ?_
        refine i2b Xl.here hexec rfl (hb hbytes d30) rfl ?_
        exact Steps.refl _)
      obtain ⟨T7, X7, p7, st7⟩ := Xl.aput hexec hBk rfl hlt rfl (fits_lo8 (cv A (o + i))) (g := (mkF m 31 #[.val (.ref b), .val (.int (Int32.ofNat (o + i))), .val (.ref d), .val (.int (Int32.ofNat (q + i))), .val (.int (Int32.ofNat len)), .val (.int (Int32.ofNat i)), .val (.int (cv A (o + i)))] [.int (lo8 (cv A (o + i))), .int (Int32.ofNat (q + i)), .ref d])) rfl (rest := []) rfl (hb hbytes d31)
      have c8 : Steps p.tables e below (s₁.setTop (entryFrame m #[.ref b, .int (Int32.ofNat o), .ref d, .int (Int32.ofNat q), .int (Int32.ofNat len)] 7)) (T7.setTop (mkF m 32 #[.val (.ref b), .val (.int (Int32.ofNat (o + i))), .val (.ref d), .val (.int (Int32.ofNat (q + i))), .val (.int (Int32.ofNat len)), .val (.int (Int32.ofNat i)), .val (.int (cv A (o + i)))] [])) := c6.trans (st7 _ (Steps.refl _))
      have c9 : Steps p.tables e below (s₁.setTop (entryFrame m #[.ref b, .int (Int32.ofNat o), .ref d, .int (Int32.ofNat q), .int (Int32.ofNat len)] 7)) (T7.setTop (mkF m 3 #[.val (.ref b), .val (.int (Int32.ofNat (o + i) + 1)), .val (.ref d), .val (.int (Int32.ofNat (q + i) + 1)), .val (.int (Int32.ofNat len)), .val (.int (Int32.ofNat i + 1)), .val (.int (cv A (o + i)))] [])) := c8.trans (by
        refine iincV X7.here hexec rfl 1 (hb hbytes d32) (by decide) rfl rfl ?_
        refine iincV X7.here hexec rfl 1 (hb hbytes d35) (by decide) rfl rfl ?_
        refine iincV X7.here hexec rfl 1 (hb hbytes d38) (by decide) rfl rfl ?_
        refine XS.goto X7.here hexec rfl (pc0 := 41) rfl (hb hbytes d41) (by decide) rfl ?_
        exact Steps.refl _)
      have c10 : Steps p.tables e below (s₁.setTop (entryFrame m #[.ref b, .int (Int32.ofNat o), .ref d, .int (Int32.ofNat q), .int (Int32.ofNat len)] 7)) (T7.setTop (mkF m 3 #[.val (.ref b), .val (.int (Int32.ofNat (o + (i + 1)))), .val (.ref d), .val (.int (Int32.ofNat (q + (i + 1)))), .val (.int (Int32.ofNat len)), .val (.int (Int32.ofNat (i + 1))), .val (.int (cv A (o + i)))] [])) := by
        have := c9
        rw [succ32, succ32, succ32] at this
        exact this
      exact ih (i + 1) (by omega) _ (Or.inr ⟨_, rfl, rfl⟩) T7 _ (by rw [copyLocs_step, ← List.append_assoc]; exact X7) (pl.trans p7) (fl.step (by omega) hlt (by simp)) c10
  obtain ⟨T9, B9, z9, X9, p9, f9, g9⟩ := loop len 0 (by omega) .unset (Or.inl rfl) s₁ B (by simpa [copyLocs] using X0) ⟨hB0.1, fun _ _ => rfl, rfl⟩ (Laid.zero _ _ _) c2
  have c11 : Steps p.tables e below (s₁.setTop (entryFrame m #[.ref b, .int (Int32.ofNat o), .ref d, .int (Int32.ofNat q), .int (Int32.ofNat len)] 7)) (T9.setTop (mkF m 46 #[.val (.ref b), .val (.int (Int32.ofNat (o + len))), .val (.ref d), .val (.int (Int32.ofNat (q + len))), .val (.int (Int32.ofNat len)), .val (.int (Int32.ofNat len)), z9] [.int (Int32.ofNat len)])) := g9.trans (by
    refine XS.iload X9.here hexec rfl (hb hbytes d3) rfl ?_
    refine XS.iload X9.here hexec rfl (hb hbytes d5) rfl ?_
    refine XS.icmpYes X9.here hexec rfl (pc0 := 7) rfl (hb hbytes d7) rfl (ii_ge_t (nlt32 (by omega) (Nat.le_refl _))) (by decide) rfl ?_
    refine XS.iload X9.here hexec rfl (hb hbytes d44) rfl ?_
    exact Steps.refl _)
  exact ⟨T9, some (.int (Int32.ofNat len)), _, _, _, X9, by simp, rfl, rfl, (fun h => by cases h), ⟨rfl, B9, p9.from hh0, f9⟩, fun fs hl => c11.trans (X9.ireturnOut hexec hret rfl (Or.inl rfl) (hb hbytes d46) hl)⟩
end Cmp5
namespace Cmp3
def yN : MethodName := ⟨"java/lang/StringUTF16", "compress", "([CII)[B"⟩
abbrev yB : ByteArray := jdk_52_method_16_code
theorem d0 : decode yB 0 = .ok (.iload_n 2, 1) := by decide +kernel
theorem d1 : decode yB 1 = .ok (.newarray .byte, 2) := by decide +kernel
theorem d3 : decode yB 3 = .ok (.astore_n 3, 1) := by decide +kernel
theorem d4 : decode yB 4 = .ok (.aload_n 0, 1) := by decide +kernel
theorem d5 : decode yB 5 = .ok (.iload_n 1, 1) := by decide +kernel
theorem d6 : decode yB 6 = .ok (.aload_n 3, 1) := by decide +kernel
theorem d7 : decode yB 7 = .ok (.iconst 0, 1) := by decide +kernel
theorem d8 : decode yB 8 = .ok (.iload_n 2, 1) := by decide +kernel
theorem d9 : decode yB 9 = .ok (.invokestatic 115, 3) := by decide +kernel
theorem d12 : decode yB 12 = .ok (.istore 4, 2) := by decide +kernel
theorem d14 : decode yB 14 = .ok (.iload 4, 2) := by decide +kernel
theorem d16 : decode yB 16 = .ok (.iload_n 2, 1) := by decide +kernel
theorem d17 : decode yB 17 = .ok (.if_icmp (.eq) 40, 3) := by decide +kernel
theorem d57 : decode yB 57 = .ok (.aload_n 3, 1) := by decide +kernel
theorem d58 : decode yB 58 = .ok (.areturn, 1) := by decide +kernel
def site : List Cond := [.arrayClass .byte, Cmp5.tab] ++ staticW U16 115 Cmp5.yN
def tab : Cond := tabOf yN yB 6 (some (.array .byte)) site
def P (b : Addr) (A : Cell) (o len : Nat) (args : Array Value) (s : State) : Prop := args = #[.ref b, .int (Int32.ofNat o), .int (Int32.ofNat len)] ∧ Ch b A s ∧ o + len ≤ A.slots.size ∧ len ≤ 536870912 ∧ ∀ i, i < len → ¬ 255 < cv A (o + i)
def E (b : Addr) (A : Cell) (o len : Nat) (r : Option Value) (s u : State) : Prop := NewArr .byte "[B" len (fun j => .int (lo8 (cv A (o + j)))) r s u ∧ u.heap.size = s.heap.size + 1
/-- no char of the range above 255: a new byte[] of their low bytes -/
theorem law (l : Launch) (b : Addr) (A : Cell) (o len : Nat) : Law l yN 3 3 1 18 yB 6 (some (.array .byte)) site (P b A o len) (E b A o len) [] 1 len := by
  refine Law.of_walk (plainFor_of_name (by decide +kernel)) (by decide +kernel) (by decide +kernel) (by decide) (fun _ _ h => by rw [h.1]; rfl) (fun _ U U' hal hh h => ⟨h.1, h.2.1.mv hal hh, h.2.2⟩) (fun r U U' V V' h1 hal h2 h => ⟨NewArr.mv r U U' V V' h1 hal h2 h.1, by rw [h1, h2]; exact h.2⟩) ?_
  intro p e s m args below meth c s₁ X0 hexec hbytes hml hret hlk hnm hown hh0 W hP
  obtain ⟨rfl, hA, l1, l2, hp⟩ := hP
  have a31 := hA.1.2.2.2
  have c1 : Steps p.tables e below (s₁.setTop (entryFrame m #[.ref b, .int (Int32.ofNat o), .int (Int32.ofNat len)] 6)) (s₁.setTop (mkF m 0 #[.val (.ref b), .val (.int (Int32.ofNat o)), .val (.int (Int32.ofNat len)), .unset, .unset, .unset] [])) := entry rfl
  have c2 : Steps p.tables e below (s₁.setTop (entryFrame m #[.ref b, .int (Int32.ofNat o), .int (Int32.ofNat len)] 6)) (s₁.setTop (mkF m 1 #[.val (.ref b), .val (.int (Int32.ofNat o)), .val (.int (Int32.ofNat len)), .unset, .unset, .unset] [.int (Int32.ofNat len)])) := c1.trans (by
    refine XS.iloadN X0.here hexec rfl (hb hbytes d0) rfl ?_
    exact Steps.refl _)
  obtain ⟨T3, B3, X3, ba3, bs3, bv3, bh3, bf3, st3⟩ := X0.anew hexec (atype := .byte) (wk W (.arrayClass .byte)) rfl (by show len * 1 ≤ _; omega) (by omega) (g := (mkF m 1 #[.val (.ref b), .val (.int (Int32.ofNat o)), .val (.int (Int32.ofNat len)), .unset, .unset, .unset] [.int (Int32.ofNat len)])) rfl (hb hbytes d1) (rest := []) rfl (Nat.le_refl _) (by show 0 + len ≤ len; omega)
  rw [hh0] at ba3 st3
  have kp3 : XT.Kept s T3 := (XT.Kept.of_eq hh0).push bh3
  have hA3 := hA.keep X3.warmed.alike (kp3 _ _ hA.1.1)
  have hne : b ≠ s.heap.size := hA.1.ne
  have c4 : Steps p.tables e below (s₁.setTop (entryFrame m #[.ref b, .int (Int32.ofNat o), .int (Int32.ofNat len)] 6)) (T3.setTop (mkF m 3 #[.val (.ref b), .val (.int (Int32.ofNat o)), .val (.int (Int32.ofNat len)), .unset, .unset, .unset] [.ref s.heap.size])) := c2.trans (st3 _ (Steps.refl _))
  have c5 : Steps p.tables e below (s₁.setTop (entryFrame m #[.ref b, .int (Int32.ofNat o), .int (Int32.ofNat len)] 6)) (T3.setTop (mkF m 9 #[.val (.ref b), .val (.int (Int32.ofNat o)), .val (.int (Int32.ofNat len)), .val (.ref s.heap.size), .unset, .unset] [.int (Int32.ofNat len), .int 0, .ref s.heap.size, .int (Int32.ofNat o), .ref b])) := c4.trans (by
    refine XS.astoreN X3.here hexec rfl (hb hbytes d3) rfl rfl rfl ?_
    refine XS.aloadN X3.here hexec rfl (hb hbytes d4) rfl rfl ?_
    refine XS.iloadN X3.here hexec rfl (hb hbytes d5) rfl ?_
    refine XS.aloadN X3.here hexec rfl (hb hbytes d6) rfl rfl ?_
    refine iconstV X3.here hexec rfl 0 (hb hbytes d7) (by decide) ?_
    refine XS.iloadN X3.here hexec rfl (hb hbytes d8) rfl ?_
    exact Steps.refl _)
  obtain ⟨v6, T6, X6, E6, g6⟩ := X3.callS hexec (Cmp5.law l b A s.heap.size B3 o 0 len) hown (wks W (staticW U16 115 Cmp5.yN)) (wk W Cmp5.tab) (W := 0) (Nat.le_of_ble_eq_true rfl) (Nat.le_of_ble_eq_true rfl) (Nat.le_refl _) (by show 0 + len + 0 ≤ len; omega) (g := (mkF m 9 #[.val (.ref b), .val (.int (Int32.ofNat o)), .val (.int (Int32.ofNat len)), .val (.ref s.heap.size), .unset, .unset] [.int (Int32.ofNat len), .int (Int32.ofNat 0), .ref s.heap.size, .int (Int32.ofNat o), .ref b])) rfl (by rw [hml]; rfl) c5 (argsL := [.ref b, .int (Int32.ofNat o), .ref s.heap.size, .int (Int32.ofNat 0), .int (Int32.ofNat len)]) (rest := []) rfl rfl (by show 2 * 0 + 0 ≤ _; decide) (hb hbytes d9) (⟨rfl, hA3, ba3, hne, l1, by rw [bs3]; simp, hp⟩)
  obtain ⟨rfl, B6, p6, f6⟩ := E6
  have c7 : Steps p.tables e below (s₁.setTop (entryFrame m #[.ref b, .int (Int32.ofNat o), .int (Int32.ofNat len)] 6)) (T6.setTop (mkF m 12 #[.val (.ref b), .val (.int (Int32.ofNat o)), .val (.int (Int32.ofNat len)), .val (.ref s.heap.size), .unset, .unset] [.int (Int32.ofNat len)])) := g6
  have c8 : Steps p.tables e below (s₁.setTop (entryFrame m #[.ref b, .int (Int32.ofNat o), .int (Int32.ofNat len)] 6)) (T6.setTop (mkF m 58 #[.val (.ref b), .val (.int (Int32.ofNat o)), .val (.int (Int32.ofNat len)), .val (.ref s.heap.size), .val (.int (Int32.ofNat len)), .unset] [.ref s.heap.size])) := c7.trans (by
    refine XS.istore X6.here hexec rfl (hb hbytes d12) rfl rfl ?_
    refine XS.iload X6.here hexec rfl (hb hbytes d14) rfl ?_
    refine XS.iloadN X6.here hexec rfl (hb hbytes d16) rfl ?_
    refine XS.icmpYes X6.here hexec rfl (pc0 := 17) rfl (hb hbytes d17) rfl (ii_eq_t rfl) (by decide) rfl ?_
    refine XS.aloadN X6.here hexec rfl (hb hbytes d57) rfl rfl ?_
    exact Steps.refl _)
  have X8 := X6.wide (L' := []) (cells' := 1) (slots' := len) (fun x hx hlt => by
    simp only [List.nil_append, copyLocs, List.mem_map, List.mem_range] at hx
    obtain ⟨i, -, rfl⟩ := hx
    exact absurd hlt (Nat.lt_irrefl _)) (Nat.le_refl _) (by omega)
  exact ⟨T6, some (.ref s.heap.size), _, _, _, X8, rfl, rfl, rfl, (fun h => by cases h), ⟨⟨rfl, B6, ba3.like (X3.warmed.alike.symm.trans X6.warmed.alike) p6.1 f6.1 f6.2.1 f6.2.2.1, f6.2.1.trans bv3, by rw [X6.warmed.alike.findClass, f6.1]; exact bf3, by rw [f6.2.2.1, bs3]; simp, fun j hj => by rw [f6.2.2.2 j, if_pos (by omega)]; rfl, kp3.put p6 (Nat.le_refl _)⟩, by rw [p6.2.2, bh3, hh0]; simp⟩, fun fs hl => c8.trans (X8.areturnOut hexec rfl hret rfl (hb hbytes d58) hl)⟩
end Cmp3
namespace CodL
def yN : MethodName := ⟨"java/lang/StringUTF16", "coderFromArrayLen", "([BI)B"⟩
abbrev yB : ByteArray := jdk_52_method_15_code
theorem d0 : decode yB 0 = .ok (.iload_n 1, 1) := by decide +kernel
theorem d1 : decode yB 1 = .ok (.aload_n 0, 1) := by decide +kernel
theorem d2 : decode yB 2 = .ok (.arraylength, 1) := by decide +kernel
theorem d3 : decode yB 3 = .ok (.isub, 1) := by decide +kernel
theorem d4 : decode yB 4 = .ok (.bipush 31, 2) := by decide +kernel
theorem d6 : decode yB 6 = .ok (.iushr, 1) := by decide +kernel
theorem d7 : decode yB 7 = .ok (.i2b, 1) := by decide +kernel
theorem d8 : decode yB 8 = .ok (.ireturn, 1) := by decide +kernel
def site : List Cond := []
def tab : Cond := tabOf yN yB 2 (some .byte) site
def P (d : Addr) (B : Cell) (args : Array Value) (s : State) : Prop := args = #[.ref d, .int (Int32.ofNat B.slots.size)] ∧ Arr .byte d B s
def E (r : Option Value) (s u : State) : Prop := XT.PureE (some (.int 0)) r s u
/-- an array as long as the number of chars: LATIN1 -/
theorem law (l : Launch) (d : Addr) (B : Cell) : Law l yN 2 2 0 0 yB 2 (some .byte) site (P d B) E [] 0 0 := by
  refine Law.of_walk (plainFor_of_name (by decide +kernel)) (by decide +kernel) (by decide +kernel) (by decide) (fun _ _ h => by rw [h.1]; rfl) (fun _ U U' hal hh h => ⟨h.1, h.2.mv hal hh⟩) (fun r U U' V V' h1 hal h2 h => XT.PureE.mv r U U' V V' h1 hal h2 h) ?_
  intro p e s m args below meth c s₁ X0 hexec hbytes hml hret hlk hnm hown hh0 W hP
  obtain ⟨rfl, hB⟩ := hP
  have hB0 := hB.mv X0.warmed.alike hh0
  have c1 : Steps p.tables e below (s₁.setTop (entryFrame m #[.ref d, .int (Int32.ofNat B.slots.size)] 2)) (s₁.setTop (mkF m 0 #[.val (.ref d), .val (.int (Int32.ofNat B.slots.size))] [])) := entry rfl
  have c2 : Steps p.tables e below (s₁.setTop (entryFrame m #[.ref d, .int (Int32.ofNat B.slots.size)] 2)) (s₁.setTop (mkF m 2 #[.val (.ref d), .val (.int (Int32.ofNat B.slots.size))] [.ref d, .int (Int32.ofNat B.slots.size)])) := c1.trans (by
    refine XS.iloadN X0.here hexec rfl (hb hbytes d0) rfl ?_
    refine XS.aloadN X0.here hexec rfl (hb hbytes d1) rfl rfl ?_
    exact Steps.refl _)
  have c3 : Steps p.tables e below (s₁.setTop (entryFrame m #[.ref d, .int (Int32.ofNat B.slots.size)] 2)) (s₁.setTop (mkF m 8 #[.val (.ref d), .val (.int (Int32.ofNat B.slots.size))] [.int (lo8 (ushr (Int32.ofNat B.slots.size - Int32.ofNat B.slots.size) 31))])) := c2.trans (by
    refine X0.alen hexec hB0 rfl rfl (hb hbytes d2) ?_
    refine XS.isub X0.here hexec rfl (hb hbytes d3) rfl ?_
    refine bipushV X0.here hexec rfl 31 (hb hbytes d4) (by decide) ?_
    refine iushr X0.here hexec rfl (hb hbytes d6) rfl ?_
    refine i2b X0.here hexec rfl (hb hbytes d7) rfl ?_
    exact Steps.refl _)
  have e0 : lo8 (ushr (Int32.ofNat B.slots.size - Int32.ofNat B.slots.size) 31) = 0 := by rw [Int32.sub_self]; decide
  rw [e0] at c3
  exact ⟨s₁, some (.int 0), _, _, _, X0, rfl, rfl, rfl, (fun h => by cases h), ⟨rfl, hh0⟩, fun fs hl => c3.trans (X0.ireturnOut hexec hret rfl (Or.inr (Or.inr (Or.inl rfl))) (hb hbytes d8) hl)⟩
end CodL
/-- the String at a is Latin-1 over a new byte[] (the heap's one new cell): the low bytes of the len chars of A from o on; every cell but a is kept -/
def Got (a : Addr) (D : Cell) (fV fC : Field) (A : Cell) (o len : Nat) (r : Option Value) (s u : State) : Prop := r = none ∧ ∃ D' V : Cell, Blank "java/lang/String" a D' u ∧ Same D D' [fV.slot, fC.slot] ∧ D'.slots[fV.slot]? = some (.ref s.heap.size) ∧ D'.slots[fC.slot]? = some (.int 0) ∧ Arr .byte s.heap.size V u ∧ V.vm = .none ∧ u.vm.findClass "[B" = some V.cls ∧ V.slots.size = len ∧ (∀ j, j < len → V.slots[j]? = some (.int (lo8 (cv A (o + j))))) ∧ (∀ (y : Addr) (c : Cell), y ≠ a → s.heap[y]? = some c → u.heap[y]? = some c) ∧ u.heap.size = s.heap.size + 1
theorem Got.mv {a : Addr} {D A : Cell} {fV fC : Field} {o len : Nat} : ∀ r (U U' V V' : State), U'.heap = U.heap → V.vm.Alike V'.vm → V'.heap = V.heap → Got a D fV fC A o len r U V → Got a D fV fC A o len r U' V' :=
  fun r U U' V V' h1 hal h2 ⟨e0, D', X, a1, a2, a3, a4, a5, a6, a7, a8, a9, a10, a11⟩ => ⟨e0, D', X, a1.mv hal h2, a2, by rw [h1]; exact a3, a4, by rw [h1]; exact a5.mv hal h2, a6, by rw [hal.findClass]; exact a7, a8, a9, by rw [h1, h2]; exact a10, by rw [h1, h2]; exact a11⟩
namespace New4
def yN : MethodName := ⟨"java/lang/String", "<init>", "([CIILjava/lang/Void;)V"⟩
abbrev yB : ByteArray := jdk_42_method_149_code
theorem d0 : decode yB 0 = .ok (.aload_n 0, 1) := by decide +kernel
theorem d1 : decode yB 1 = .ok (.invokespecial 1, 3) := by decide +kernel
theorem d4 : decode yB 4 = .ok (.iload_n 3, 1) := by decide +kernel
theorem d5 : decode yB 5 = .ok (.ifCond (.ne) 22, 3) := by decide +kernel
theorem d27 : decode yB 27 = .ok (.getstatic 38, 3) := by decide +kernel
theorem d30 : decode yB 30 = .ok (.ifCond (.eq) 28, 3) := by decide +kernel
theorem d33 : decode yB 33 = .ok (.aload_n 1, 1) := by decide +kernel
theorem d34 : decode yB 34 = .ok (.iload_n 2, 1) := by decide +kernel
theorem d35 : decode yB 35 = .ok (.iload_n 3, 1) := by decide +kernel
theorem d36 : decode yB 36 = .ok (.invokestatic 177, 3) := by decide +kernel
theorem d39 : decode yB 39 = .ok (.astore 5, 2) := by decide +kernel
theorem d41 : decode yB 41 = .ok (.aload_n 0, 1) := by decide +kernel
theorem d42 : decode yB 42 = .ok (.aload 5, 2) := by decide +kernel
theorem d44 : decode yB 44 = .ok (.iload_n 3, 1) := by decide +kernel
theorem d45 : decode yB 45 = .ok (.invokestatic 47, 3) := by decide +kernel
theorem d48 : decode yB 48 = .ok (.putfield 15, 3) := by decide +kernel
theorem d51 : decode yB 51 = .ok (.aload_n 0, 1) := by decide +kernel
theorem d52 : decode yB 52 = .ok (.aload 5, 2) := by decide +kernel
theorem d54 : decode yB 54 = .ok (.putfield 9, 3) := by decide +kernel
theorem d57 : decode yB 57 = .ok (.return_, 1) := by decide +kernel
def site : List Cond := [.fieldLink "java/lang/String" 38 "java/lang/String" "COMPACT_STRINGS" "Z", Cmp3.tab, CodL.tab, .laysFinal "java/lang/String" "java/lang/String" "value" "[B", .fieldLink "java/lang/String" 9 "java/lang/String" "value" "[B", .laysFinal "java/lang/String" "java/lang/String" "coder" "B", .fieldLink "java/lang/String" 15 "java/lang/String" "coder" "B"] ++ objW "java/lang/String" 1 ++ staticW "java/lang/String" 177 Cmp3.yN ++ staticW "java/lang/String" 47 CodL.yN
def tab : Cond := tabOf yN yB 6 none site
def P (a : Addr) (D : Cell) (fV fC : Field) (b : Addr) (A : Cell) (z : Int32) (o len : Nat) (args : Array Value) (s : State) : Prop := args = #[.ref a, .ref b, .int (Int32.ofNat o), .int (Int32.ofNat len), .null] ∧ Blank "java/lang/String" a D s ∧ Found "java/lang/String" "value" "[B" fV s ∧ Found "java/lang/String" "coder" "B" fC s ∧ Ch b A s ∧ StaticIs s "java/lang/String" "COMPACT_STRINGS" "Z" (.int z) ∧ ¬ z = 0 ∧ 0 < len ∧ o + len ≤ A.slots.size ∧ len ≤ 536870912 ∧ ∀ i, i < len → ¬ 255 < cv A (o + i)
def E (a : Addr) (D : Cell) (fV fC : Field) (A : Cell) (o len : Nat) (r : Option Value) (s u : State) : Prop := Got a D fV fC A o len r s u
/-- len > 0, no char of the range above 255: a Latin-1 String of their low bytes -/
theorem law (l : Launch) (a : Addr) (D : Cell) (fV fC : Field) (b : Addr) (A : Cell) (z : Int32) (o len : Nat) : Law l yN 5 4 2 35 yB 6 none site (P a D fV fC b A z o len) (E a D fV fC A o len) [⟨a, fC.slot⟩, ⟨a, fV.slot⟩] 1 len := by
  refine Law.of_walk (plainFor_of_name (by decide +kernel)) (by decide +kernel) (by decide +kernel) (by decide) (fun _ _ h => by rw [h.1]; rfl) (fun _ U U' hal hh h => ⟨h.1, h.2.1.mv hal hh, h.2.2.1.al hal, h.2.2.2.1.al hal, h.2.2.2.2.1.mv hal hh, h.2.2.2.2.2.1.there hal hh, h.2.2.2.2.2.2⟩) (fun r U U' V V' h1 hal h2 h => Got.mv r U U' V V' h1 hal h2 h) ?_
  intro p e s m args below meth c s₁ X0 hexec hbytes hml hret hlk hnm hown hh0 W hP
  obtain ⟨rfl, hB, f1, f2, hA, s1, hz, l0, l1, l2, hp⟩ := hP
  have a31 := hA.1.2.2.2
  have c1 : Steps p.tables e below (s₁.setTop (entryFrame m #[.ref a, .ref b, .int (Int32.ofNat o), .int (Int32.ofNat len), .null] 6)) (s₁.setTop (mkF m 0 #[.val (.ref a), .val (.ref b), .val (.int (Int32.ofNat o)), .val (.int (Int32.ofNat len)), .val .null, .unset] [])) := entry rfl
  have c2 : Steps p.tables e below (s₁.setTop (entryFrame m #[.ref a, .ref b, .int (Int32.ofNat o), .int (Int32.ofNat len), .null] 6)) (s₁.setTop (mkF m 1 #[.val (.ref a), .val (.ref b), .val (.int (Int32.ofNat o)), .val (.int (Int32.ofNat len)), .val .null, .unset] [.ref a])) := c1.trans (by
    refine XS.aloadN X0.here hexec rfl (hb hbytes d0) rfl rfl ?_
    exact Steps.refl _)
  obtain ⟨T3, X3, q3, st3⟩ := X0.oinit hexec hown (wks W (objW "java/lang/String" 1)) (g := (mkF m 1 #[.val (.ref a), .val (.ref b), .val (.int (Int32.ofNat o)), .val (.int (Int32.ofNat len)), .val .null, .unset] [.ref a])) rfl (by rw [hml]; rfl) (rest := []) rfl (hb hbytes d1) (W := 0) (by show 2 * 0 + 0 ≤ _; decide) (Nat.le_of_ble_eq_true rfl) (Nat.le_of_ble_eq_true rfl)
  have hh3 := q3.trans hh0
  have c4 : Steps p.tables e below (s₁.setTop (entryFrame m #[.ref a, .ref b, .int (Int32.ofNat o), .int (Int32.ofNat len), .null] 6)) (T3.setTop (mkF m 27 #[.val (.ref a), .val (.ref b), .val (.int (Int32.ofNat o)), .val (.int (Int32.ofNat len)), .val .null, .unset] [])) := (c2.trans (st3 _ (Steps.refl _))).trans (by
    refine XS.iloadN X3.here hexec rfl (hb hbytes d4) rfl ?_
    refine XS.ifYes X3.here hexec rfl (pc0 := 5) rfl (hb hbytes d5) rfl (i0_ne_t (nz32 (by omega) l0)) (by decide) rfl ?_
    exact Steps.refl _)
  obtain ⟨T5, X5, q5, st5⟩ := X3.sget hexec hown (wk W (.fieldLink "java/lang/String" 38 "java/lang/String" "COMPACT_STRINGS" "Z")) s1 (fun _ _ h => by rw [hh3]; exact h) (g := (mkF m 27 #[.val (.ref a), .val (.ref b), .val (.int (Int32.ofNat o)), .val (.int (Int32.ofNat len)), .val .null, .unset] [])) rfl (hb hbytes d27)
  have hh5 := q5.trans hh3
  have c6 : Steps p.tables e below (s₁.setTop (entryFrame m #[.ref a, .ref b, .int (Int32.ofNat o), .int (Int32.ofNat len), .null] 6)) (T5.setTop (mkF m 30 #[.val (.ref a), .val (.ref b), .val (.int (Int32.ofNat o)), .val (.int (Int32.ofNat len)), .val .null, .unset] [.int z])) := c4.trans (st5 _ (Steps.refl _))
  have c7 : Steps p.tables e below (s₁.setTop (entryFrame m #[.ref a, .ref b, .int (Int32.ofNat o), .int (Int32.ofNat len), .null] 6)) (T5.setTop (mkF m 36 #[.val (.ref a), .val (.ref b), .val (.int (Int32.ofNat o)), .val (.int (Int32.ofNat len)), .val .null, .unset] [.int (Int32.ofNat len), .int (Int32.ofNat o), .ref b])) := c6.trans (by
    refine XS.ifNo X5.here hexec rfl (hb hbytes d30) rfl (i0_eq_f hz) ?_
    refine XS.aloadN X5.here hexec rfl (hb hbytes d33) rfl rfl ?_
    refine XS.iloadN X5.here hexec rfl (hb hbytes d34) rfl ?_
    refine XS.iloadN X5.here hexec rfl (hb hbytes d35) rfl ?_
    exact Steps.refl _)
  obtain ⟨v8, T8, X8, E8, g8⟩ := X5.callS hexec (Cmp3.law l b A o len) hown (wks W (staticW "java/lang/String" 177 Cmp3.yN)) (wk W Cmp3.tab) (W := 0) (Nat.le_of_ble_eq_true rfl) (Nat.le_of_ble_eq_true rfl) (Nat.le_refl _) (by show 0 + len ≤ len; omega) (g := (mkF m 36 #[.val (.ref a), .val (.ref b), .val (.int (Int32.ofNat o)), .val (.int (Int32.ofNat len)), .val .null, .unset] [.int (Int32.ofNat len), .int (Int32.ofNat o), .ref b])) rfl (by rw [hml]; rfl) c7 (argsL := [.ref b, .int (Int32.ofNat o), .int (Int32.ofNat len)]) (rest := []) rfl rfl (by show 2 * 0 + 0 ≤ _; decide) (hb hbytes d36) (⟨rfl, hA.mv X5.warmed.alike hh5, l1, l2, hp⟩)
  obtain ⟨e8, z8⟩ := E8
  obtain ⟨rfl, N, n1, n2, n3, n4, n5, n6⟩ := NewArr.mv _ T5 s _ _ hh5.symm (Vm.Alike.refl _) rfl e8
  rw [hh5] at z8
  have hB1 := hB.keep X8.warmed.alike (n6 _ _ hB.1)
  have hne : s.heap.size ≠ a := (Nat.ne_of_lt (Array.getElem?_eq_some_iff.mp hB.1).1).symm
  have c9 : Steps p.tables e below (s₁.setTop (entryFrame m #[.ref a, .ref b, .int (Int32.ofNat o), .int (Int32.ofNat len), .null] 6)) (T8.setTop (mkF m 39 #[.val (.ref a), .val (.ref b), .val (.int (Int32.ofNat o)), .val (.int (Int32.ofNat len)), .val .null, .unset] [.ref s.heap.size])) := g8
  have c10 : Steps p.tables e below (s₁.setTop (entryFrame m #[.ref a, .ref b, .int (Int32.ofNat o), .int (Int32.ofNat len), .null] 6)) (T8.setTop (mkF m 45 #[.val (.ref a), .val (.ref b), .val (.int (Int32.ofNat o)), .val (.int (Int32.ofNat len)), .val .null, .val (.ref s.heap.size)] [.int (Int32.ofNat N.slots.size), .ref s.heap.size, .ref a])) := by
    have hc : Steps p.tables e below (s₁.setTop (entryFrame m #[.ref a, .ref b, .int (Int32.ofNat o), .int (Int32.ofNat len), .null] 6)) (T8.setTop (mkF m 45 #[.val (.ref a), .val (.ref b), .val (.int (Int32.ofNat o)), .val (.int (Int32.ofNat len)), .val .null, .val (.ref s.heap.size)] [.int (Int32.ofNat len), .ref s.heap.size, .ref a])) := c9.trans (by
      refine XS.astore X8.here hexec rfl (hb hbytes d39) rfl rfl rfl ?_
      refine XS.aloadN X8.here hexec rfl (hb hbytes d41) rfl rfl ?_
      refine XS.aload X8.here hexec rfl (hb hbytes d42) rfl rfl ?_
      refine XS.iloadN X8.here hexec rfl (hb hbytes d44) rfl ?_
      exact Steps.refl _)
    rw [n4]; exact hc
  obtain ⟨v11, T11, X11, E11, g11⟩ := X8.callS hexec (CodL.law l s.heap.size N) hown (wks W (staticW "java/lang/String" 47 CodL.yN)) (wk W CodL.tab) (W := 1) (Nat.le_of_ble_eq_true rfl) (Nat.le_of_ble_eq_true rfl) (Nat.le_refl _) (by show 0 + len + 0 ≤ len; omega) (g := (mkF m 45 #[.val (.ref a), .val (.ref b), .val (.int (Int32.ofNat o)), .val (.int (Int32.ofNat len)), .val .null, .val (.ref s.heap.size)] [.int (Int32.ofNat N.slots.size), .ref s.heap.size, .ref a])) rfl (by rw [hml]; rfl) c10 (argsL := [.ref s.heap.size, .int (Int32.ofNat N.slots.size)]) (rest := [.ref a]) rfl rfl (by show 2 * 0 + (1 + 0) ≤ _; decide) (hb hbytes d45) (⟨rfl, n1⟩)
  obtain ⟨rfl, q11⟩ := E11
  have hB11 := hB1.mv (X8.warmed.alike.symm.trans X11.warmed.alike) q11
  have c12 : Steps p.tables e below (s₁.setTop (entryFrame m #[.ref a, .ref b, .int (Int32.ofNat o), .int (Int32.ofNat len), .null] 6)) (T11.setTop (mkF m 48 #[.val (.ref a), .val (.ref b), .val (.int (Int32.ofNat o)), .val (.int (Int32.ofNat len)), .val .null, .val (.ref s.heap.size)] [.int 0, .ref a])) := g11
  obtain ⟨T13, X13, p13, bl13, sl13, st13⟩ := X11.finit hexec hown (wk W (.fieldLink "java/lang/String" 15 "java/lang/String" "coder" "B")) (Or.inr ⟨_, (wk W (.laysFinal "java/lang/String" "java/lang/String" "coder" "B"))⟩) (Or.inl ⟨rfl, hnm⟩) f2 (Or.inl rfl) hB11 (t := .byte) (by decide +kernel) rfl (g := (mkF m 48 #[.val (.ref a), .val (.ref b), .val (.int (Int32.ofNat o)), .val (.int (Int32.ofNat len)), .val .null, .val (.ref s.heap.size)] [.int 0, .ref a])) rfl (rest := []) rfl (hb hbytes d48)
  have c14 : Steps p.tables e below (s₁.setTop (entryFrame m #[.ref a, .ref b, .int (Int32.ofNat o), .int (Int32.ofNat len), .null] 6)) (T13.setTop (mkF m 54 #[.val (.ref a), .val (.ref b), .val (.int (Int32.ofNat o)), .val (.int (Int32.ofNat len)), .val .null, .val (.ref s.heap.size)] [.ref s.heap.size, .ref a])) := (c12.trans (st13 _ (Steps.refl _))).trans (by
    refine XS.aloadN X13.here hexec rfl (hb hbytes d51) rfl rfl ?_
    refine XS.aload X13.here hexec rfl (hb hbytes d52) rfl rfl ?_
    exact Steps.refl _)
  obtain ⟨T15, X15, p15, bl15, sl15, st15⟩ := X13.finit hexec hown (wk W (.fieldLink "java/lang/String" 9 "java/lang/String" "value" "[B")) (Or.inr ⟨_, (wk W (.laysFinal "java/lang/String" "java/lang/String" "value" "[B"))⟩) (Or.inl ⟨rfl, hnm⟩) f1 (Or.inl rfl) bl13 (t := (.array .byte)) (by decide +kernel) rfl (g := (mkF m 54 #[.val (.ref a), .val (.ref b), .val (.int (Int32.ofNat o)), .val (.int (Int32.ofNat len)), .val .null, .val (.ref s.heap.size)] [.ref s.heap.size, .ref a])) rfl (rest := []) rfl (hb hbytes d54)
  have c16 : Steps p.tables e below (s₁.setTop (entryFrame m #[.ref a, .ref b, .int (Int32.ofNat o), .int (Int32.ofNat len), .null] 6)) (T15.setTop (mkF m 57 #[.val (.ref a), .val (.ref b), .val (.int (Int32.ofNat o)), .val (.int (Int32.ofNat len)), .val .null, .val (.ref s.heap.size)] [])) := c14.trans (st15 _ (Steps.refl _))
  have ap := apart (Or.inr ⟨_, (wk W (.laysFinal "java/lang/String" "java/lang/String" "value" "[B"))⟩) (Or.inr ⟨_, (wk W (.laysFinal "java/lang/String" "java/lang/String" "coder" "B"))⟩) f1 f2 (t₁ := .array .byte) (t₂ := .byte) (by decide +kernel) (by decide +kernel) (by decide)
  have al := X8.warmed.alike.symm.trans X15.warmed.alike
  have n7 : T11.heap[s.heap.size]? = some N := by rw [q11]; exact n1.1
  exact ⟨T15, none, _, _, _, X15, by simp, rfl, by omega, (fun _ => rfl), ⟨rfl, _, N, bl15, ((Same.refl D _).set _ (by simp)).set _ (by simp), sl15, (Cell.slots_setSlot_ne _ ap).trans sl13, n1.keep al (p15.other hne (p13.other hne n7)), n2, by rw [al.findClass]; exact n3, n4, n5, fun y c h1 h2 => p15.other h1 (p13.other h1 (by rw [q11]; exact n6 y c h2)), by rw [p15.2.2, p13.2.2, q11]; exact z8⟩, fun fs hl => c16.trans (X15.returnOut hexec hret (hb hbytes d57) hl)⟩
end New4
namespace New1
def yN : MethodName := ⟨"java/lang/String", "<init>", "([C)V"⟩
abbrev yB : ByteArray := jdk_42_method_3_code
theorem d0 : decode yB 0 = .ok (.aload_n 0, 1) := by decide +kernel
theorem d1 : decode yB 1 = .ok (.aload_n 1, 1) := by decide +kernel
theorem d2 : decode yB 2 = .ok (.iconst 0, 1) := by decide +kernel
theorem d3 : decode yB 3 = .ok (.aload_n 1, 1) := by decide +kernel
theorem d4 : decode yB 4 = .ok (.arraylength, 1) := by decide +kernel
theorem d5 : decode yB 5 = .ok (.aconst_null, 1) := by decide +kernel
theorem d6 : decode yB 6 = .ok (.invokespecial 27, 3) := by decide +kernel
theorem d9 : decode yB 9 = .ok (.return_, 1) := by decide +kernel
def site : List Cond := [New4.tab] ++ initW "java/lang/String" 27 New4.yN
def tab : Cond := tabOf yN yB 2 none site
def P (a : Addr) (D : Cell) (fV fC : Field) (b : Addr) (A : Cell) (z : Int32) (args : Array Value) (s : State) : Prop := args = #[.ref a, .ref b] ∧ Blank "java/lang/String" a D s ∧ Found "java/lang/String" "value" "[B" fV s ∧ Found "java/lang/String" "coder" "B" fC s ∧ Ch b A s ∧ StaticIs s "java/lang/String" "COMPACT_STRINGS" "Z" (.int z) ∧ ¬ z = 0 ∧ 0 < A.slots.size ∧ A.slots.size ≤ 536870912 ∧ ∀ i, i < A.slots.size → ¬ 255 < cv A i
def E (a : Addr) (D : Cell) (fV fC : Field) (A : Cell) (r : Option Value) (s u : State) : Prop := Got a D fV fC A 0 A.slots.size r s u
/-- new String(chars), not empty, no char above 255: a Latin-1 String of their low bytes -/
theorem law (l : Launch) (a : Addr) (D : Cell) (fV fC : Field) (b : Addr) (A : Cell) (z : Int32) : Law l yN 2 1 3 52 yB 2 none site (P a D fV fC b A z) (E a D fV fC A) [⟨a, fC.slot⟩, ⟨a, fV.slot⟩] 1 A.slots.size := by
  refine Law.of_walk (plainFor_of_name (by decide +kernel)) (by decide +kernel) (by decide +kernel) (by decide) (fun _ _ h => by rw [h.1]; rfl) (fun _ U U' hal hh h => ⟨h.1, h.2.1.mv hal hh, h.2.2.1.al hal, h.2.2.2.1.al hal, h.2.2.2.2.1.mv hal hh, h.2.2.2.2.2.1.there hal hh, h.2.2.2.2.2.2⟩) (fun r U U' V V' h1 hal h2 h => Got.mv r U U' V V' h1 hal h2 h) ?_
  intro p e s m args below meth c s₁ X0 hexec hbytes hml hret hlk hnm hown hh0 W hP
  obtain ⟨rfl, hB, f1, f2, hA, s1, hz, l0, l2, hp⟩ := hP
  have c1 : Steps p.tables e below (s₁.setTop (entryFrame m #[.ref a, .ref b] 2)) (s₁.setTop (mkF m 0 #[.val (.ref a), .val (.ref b)] [])) := entry rfl
  have c2 : Steps p.tables e below (s₁.setTop (entryFrame m #[.ref a, .ref b] 2)) (s₁.setTop (mkF m 6 #[.val (.ref a), .val (.ref b)] [.null, .int (Int32.ofNat A.slots.size), .int 0, .ref b, .ref a])) := c1.trans (by
    refine XS.aloadN X0.here hexec rfl (hb hbytes d0) rfl rfl ?_
    refine XS.aloadN X0.here hexec rfl (hb hbytes d1) rfl rfl ?_
    refine iconstV X0.here hexec rfl 0 (hb hbytes d2) (by decide) ?_
    refine XS.aloadN X0.here hexec rfl (hb hbytes d3) rfl rfl ?_
    refine X0.alen hexec (hA.1.mv X0.warmed.alike hh0) rfl rfl (hb hbytes d4) ?_
    refine XS.aconstNull X0.here hexec rfl (hb hbytes d5) ?_
    exact Steps.refl _)
  obtain ⟨v3, T3, X3, E3, g3⟩ := X0.callN hexec (New4.law l a D fV fC b A z 0 A.slots.size) rfl hown (wks W (initW "java/lang/String" 27 New4.yN)) (W New4.tab (by simp only [site, List.mem_cons, List.mem_append, true_or, or_true])) (W := 0) (Nat.le_of_ble_eq_true rfl) (Nat.le_of_ble_eq_true rfl) (Nat.le_refl _) (by show 0 + A.slots.size ≤ A.slots.size; omega) (g := (mkF m 6 #[.val (.ref a), .val (.ref b)] [.null, .int (Int32.ofNat A.slots.size), .int (Int32.ofNat 0), .ref b, .ref a])) rfl (by rw [hml]; rfl) c2 (argsL := [.ref b, .int (Int32.ofNat 0), .int (Int32.ofNat A.slots.size), .null]) (rest := []) rfl rfl (by show 2 * 0 + 0 ≤ _; decide) (hb hbytes d6) (⟨rfl, hB.mv X0.warmed.alike hh0, f1.al X0.warmed.alike, f2.al X0.warmed.alike, hA.mv X0.warmed.alike hh0, s1.there X0.warmed.alike hh0, hz, l0, by omega, l2, fun i hi => by rw [Nat.zero_add]; exact hp i hi⟩)
  have e0 := Got.mv _ s₁ s _ _ hh0.symm (Vm.Alike.refl _) rfl E3
  obtain rfl := e0.1
  have c4 : Steps p.tables e below (s₁.setTop (entryFrame m #[.ref a, .ref b] 2)) (T3.setTop (mkF m 9 #[.val (.ref a), .val (.ref b)] [])) := g3
  exact ⟨T3, none, _, _, _, X3, by simp, rfl, by omega, (fun _ => rfl), e0, fun fs hl => c4.trans (X3.returnOut hexec hret (hb hbytes d9) hl)⟩
theorem pays {l : Launch} {R : Room} {p : Program} {e : Env} {below : List Frame} {s : State} {sargs : Array Value} {len W : Nat} (a : Addr) (D : Cell) (fV fC : Field) (b : Addr) (A : Cell) (z : Int32) (htab : tab.before sargs s = true) (hfr : 4 ≤ R.frames) (hlo : W + 65 ≤ R.locals) :
    Back l R p e below s sargs yN len W (fun A₁ a₁ => A₁.cells + 1 ≤ R.cells ∧ A₁.slots + A.slots.size ≤ R.slots ∧ P a D fV fC b A z a₁ A₁.U) (fun A₁ _ v₁ B₁ => E a D fV fC A v₁ A₁.U B₁.U ∧ B₁.locs = A₁.locs ++ [⟨a, fC.slot⟩, ⟨a, fV.slot⟩] ∧ B₁.cells = A₁.cells + 1 ∧ B₁.slots = A₁.slots + A.slots.size) :=
  (law l a D fV fC b A z).pays htab hfr (by omega)
end New1
/-- the byte, read back as charAt reads it, is the char -/
theorem lo8_mask {x : Int32} (h0 : ¬ x < 0) (h1 : ¬ 255 < x) : lo8 x &&& 255 = x := by
  have t : ∀ k : Fin 256, lo8 (Int32.ofNat k.val) &&& 255 = Int32.ofNat k.val := by decide +kernel
  rw [Int32.lt_iff_toInt_lt] at h0 h1
  have e0 : (0 : Int32).toInt = 0 := rfl
  have e1 : (255 : Int32).toInt = 255 := rfl
  obtain ⟨k, hk⟩ : ∃ k : Nat, x.toInt = k := ⟨x.toInt.toNat, by omega⟩
  have hx : x = Int32.ofNat k := Int32.toInt_inj.mp (by rw [hk, Int32.toInt_ofNat_small (by omega)])
  rw [hx]
  exact t ⟨k, by omega⟩
end StrChars
namespace StrChars.Road
open Jvm Sem ClassFile Op Lib Jvm.Stand Jvm.Free Jvm.Free.XT
open Jvm.Lib.Cold (StaticIs)
abbrev ST : String := "java/lang/String"
/-- every table word that New1's law asks, flat -/
abbrev words : List Jvm.Cond := [.code New1.yN New1.yB 2 none, .initialized ST, .methodLink ST 27 New4.yN, .instanceMethod New4.yN,
  .code New4.yN New4.yB 6 none, .fieldLink ST 38 ST "COMPACT_STRINGS" "Z", .laysFinal ST ST "value" "[B", .fieldLink ST 9 ST "value" "[B", .laysFinal ST ST "coder" "B", .fieldLink ST 15 ST "coder" "B",
  .methodLink ST 1 Lib.objectInit, .instanceMethod Lib.objectInit, .code Lib.objectInit ⟨#[0xb1]⟩ 1 none, .methodLink ST 177 Cmp3.yN, .static Cmp3.yN, .methodLink ST 47 CodL.yN, .static CodL.yN,
  .code Cmp3.yN Cmp3.yB 6 (some (.array .byte)), .initialized U16, .arrayClass .byte, .methodLink U16 115 Cmp5.yN, .static Cmp5.yN, .code Cmp5.yN Cmp5.yB 7 (some .int), .code CodL.yN CodL.yB 2 (some .byte)]
theorem tab_of {a : Array Value} {s : State} (h : ∀ w ∈ words, w.before a s = true) : New1.tab.before a s = true := by
  have h5 : Cmp5.tab.before a s = true := unparts (wk h (.code Cmp5.yN Cmp5.yB 7 (some .int))) (wks h (.initialized Cmp5.yN.cls :: Cmp5.site))
  have hc : CodL.tab.before a s = true := unparts (wk h (.code CodL.yN CodL.yB 2 (some .byte))) (wks h (.initialized CodL.yN.cls :: CodL.site))
  have q5 : ∀ w ∈ Cmp5.tab :: words, w.before a s = true := fun w hw => (List.mem_cons.mp hw).elim (fun e => e ▸ h5) (h w)
  have h3 : Cmp3.tab.before a s = true := unparts (wk q5 (.code Cmp3.yN Cmp3.yB 6 (some (.array .byte)))) (wks q5 (.initialized Cmp3.yN.cls :: Cmp3.site))
  have q3 : ∀ w ∈ Cmp3.tab :: CodL.tab :: words, w.before a s = true := fun w hw => (List.mem_cons.mp hw).elim (fun e => e ▸ h3) fun hw => (List.mem_cons.mp hw).elim (fun e => e ▸ hc) (h w)
  have h4 : New4.tab.before a s = true := unparts (wk q3 (.code New4.yN New4.yB 6 none)) (wks q3 (.initialized New4.yN.cls :: New4.site))
  have q4 : ∀ w ∈ New4.tab :: words, w.before a s = true := fun w hw => (List.mem_cons.mp hw).elim (fun e => e ▸ h4) (h w)
  exact unparts (wk q4 (.code New1.yN New1.yB 2 none)) (wks q4 (.initialized New1.yN.cls :: New1.site))
/-- the words ride from the start Z to the walk's own state -/
theorem moved {Z s : State} {a0 args : Array Value} (hZ : Z.Warmed39 s.vm) (hw : ∀ d ∈ words, d.before a0 Z = true) : ∀ d ∈ words, d.before args s = true := fun d hd => by
  have q := hw d hd
  have t : ∀ d ∈ words, d = .arrayClass .byte ∨ (d.onTables && d.keepsFace) = true := by decide +kernel
  rcases t d hd with rfl | t
  · exact RoadKit.mvA hZ q
  · exact RoadKit.mv hZ q t
/-- WHAT COMES BACK, over the tables of the start Z: h the heap at the call, h' behind it -/
def Q (Z : State) (x : Addr) (A : Cell) (h : Heap) (v : Option Value) (h' : Heap) (L : List Loc) : Prop := v = none ∧ (∀ y ∈ L, y.base = x) ∧ RoadKit.Keep h h' [x] ∧ h'.size = h.size + 1 ∧ RoadKit.Exa Z h' x ST ∧ RoadKit.Fld Z h' x ST "value" "[B" (.ref h.size) ∧ RoadKit.Fld Z h' x ST "coder" "B" (.int 0) ∧
  (∃ V : Cell, RoadKit.Arr Z h' h.size V .byte ∧ V.vm = .none ∧ Z.vm.findClass "[B" = some V.cls ∧ V.slots.size = A.slots.size ∧ ∀ j, j < A.slots.size → V.slots[j]? = some (.int (lo8 (cv A j)))) ∧
  ∀ (O n d : String) (w : Value), RoadKit.Fld Z h x O n d w → RoadKit.slotOf Z O n d ≠ RoadKit.slotOf Z ST "value" "[B" → RoadKit.slotOf Z O n d ≠ RoadKit.slotOf Z ST "coder" "B" → RoadKit.Fld Z h' x O n d w
/-- **new String(chars) AT A CALL, IN THE ROAD'S FORM**: for specialBack behind newO: x the fresh String, b the char[] with the cell A -/
theorem back {p : Program} {l : Launch} {e : Env} {R : Room} {s : State} {args : Array Value} {below : List Frame} {len W : Nat} {Z : State} {a0 : Array Value} {h : Heap} (hZ : Z.Warmed39 s.vm) (hw : ∀ d ∈ words, d.before a0 Z = true) {kI : Nat} (wi : (Jvm.Cond.instantiable ST kI).before a0 Z = true)
    {x b : Addr} {A : Cell} {z : Int32} {v0 c0 : Value} (E : RoadKit.Exa Z h x ST) (V : RoadKit.Fld Z h x ST "value" "[B" v0) (C : RoadKit.Fld Z h x ST "coder" "B" c0) (K : RoadKit.Arr Z h b A .char) (hty : Typed .char A) (S : RoadKit.Sta Z h ST "COMPACT_STRINGS" "Z" (.int z)) (hz : ¬ z = 0)
    (l0 : 0 < A.slots.size) (l2 : A.slots.size ≤ 536870912) (hp : ∀ i, i < A.slots.size → ¬ 255 < cv A i) (hfr : 4 ≤ R.frames) (hlo : W + 65 ≤ R.locals) :
    Back l R p e below s args New1.yN len W (fun P a => a = #[.ref x, .ref b] ∧ P.U.heap = h ∧ P.cells + 1 ≤ R.cells ∧ P.slots + A.slots.size ≤ R.slots)
      (fun P _ v B => ∃ L, Q Z x A h v B.U.heap L ∧ B.locs = P.locs ++ L ∧ B.cells = P.cells + 1 ∧ B.slots = P.slots + A.slots.size) := by
  intro m meth c P g ig mk a X hg hsize hdg hW hn hp'
  obtain ⟨rfl, rfl, r1, r2⟩ := hp'
  have al : Z.vm.Alike P.U.vm := hZ.alike.trans X.warmed.alike
  obtain ⟨D, cfV, kV, iV, fV, hD, gV, stV, knV, obV, asV, slV⟩ := id V
  obtain ⟨D', cfC, kC, iC, fC, hD', gC, stC, -, -, asC, slC⟩ := id C
  cases hD.symm.trans hD'
  obtain ⟨D2, kD, e1, e2, e3, e4, e5⟩ := id E
  cases hD.symm.trans e1
  obtain ⟨c2, k2, i1, i2, i3, -⟩ := Cond.instantiable_spec wi
  cases e2.symm.trans i1
  cases e3.symm.trans i2
  obtain ⟨kU, u1, u2⟩ := al.2.2 _ _ e3
  have hB : Blank ST x D P.U := ⟨hD, ⟨knV, fun q hq => by rw [hq] at obV; cases obV⟩, by rw [al.findClass]; exact e2, kU, u1, by rw [u2]; exact i3, by rw [u2]; exact e5 i3⟩
  have F1 : Found ST "value" "[B" fV P.U := ⟨SBG.found_only al ⟨cfV, kV, iV, gV⟩, stV⟩
  have F2 : Found ST "coder" "B" fC P.U := ⟨SBG.found_only al ⟨cfC, kC, iC, gC⟩, stC⟩
  have hA : Ch b A P.U := ⟨⟨K.1, State.isArrayOf_alike al K.2.1, K.2.2, by omega⟩, hty⟩
  have hS : StaticIs P.U ST "COMPACT_STRINGS" "Z" (.int z) := by
    obtain ⟨cfS, iS, kS, fS, st, cS, t1, t2, t3, t4, t5, t6, t7⟩ := S
    exact StaticIs.there (s := { Z with heap := P.U.heap }) ⟨cfS, iS, kS, fS, st, cS, t1, t2, t3, t4, t5, (fun q => by rw [q] at t6; cases t6), t7⟩ al rfl
  obtain ⟨v, B, X', ⟨⟨hv, E', V', q1, q2, q3, q4, q5, q6, q7, q8, q9, q10, q11⟩, hl, hc, hs⟩, st⟩ := New1.pays x D fV fC b A z (tab_of (moved hZ hw)) hfr hlo m meth c P g ig mk _ X hg hsize hdg hW hn ⟨r1, r2, rfl, hB, F1, F2, hA, hS, hz, l0, l2, hp⟩
  have al' : Z.vm.Alike B.U.vm := hZ.alike.trans X'.warmed.alike
  have hsz : E'.slots.size = D.slots.size := by
    obtain ⟨-, -, -, kB, w1, w2, w3⟩ := q1
    obtain ⟨kB', y1, y2⟩ := al'.2.2 _ _ e3
    rw [q2.2.1] at w1
    cases w1.symm.trans y1
    rw [w3, e5 i3, y2]
  refine ⟨v, B, X', ⟨_, ⟨hv, ?_, ⟨by omega, fun y cy hy hn' => q10 y cy (by simpa using hn') hy, fun y cy hy => ?_⟩, q11, ⟨E', _, q1.1, by rw [q2.2.1]; exact e2, by rw [q2.2.1]; exact e3, by rw [q2.1]; exact obV, fun _ => by rw [hsz]; exact e5 i3⟩,
    ⟨E', cfV, kV, iV, fV, q1.1, gV, stV, by rw [q2.1]; exact knV, by rw [q2.1]; exact obV, by rw [q2.2.1]; exact asV, q3⟩, ⟨E', cfC, kC, iC, fC, q1.1, gC, stC, by rw [q2.1]; exact knV, by rw [q2.1]; exact obV, by rw [q2.2.1]; exact asC, q4⟩,
    ⟨V', ⟨q5.1, State.isArrayOf_alike al'.symm q5.2.1, q5.2.2.1⟩, q6, by rw [← al'.findClass]; exact q7, q8, fun j hj => by have := q9 j hj; rwa [Nat.zero_add] at this⟩, fun O n d w F n1 n2 => ?_⟩, hl, hc, hs⟩, st⟩
  · intro y hy
    simp only [List.mem_cons, List.not_mem_nil, or_false] at hy
    rcases hy with rfl | rfl <;> rfl
  · by_cases q : y = x
    · subst q
      cases hD.symm.trans hy
      exact ⟨E', q1.1, q2.2.1, q2.1, hsz⟩
    · exact ⟨cy, q10 y cy q hy, rfl, rfl, rfl⟩
  · obtain ⟨D3, cf, k, i, f, g1, g2, g3, g4, g5, g6, g7⟩ := F
    cases hD.symm.trans g1
    simp only [RoadKit.slotOf, g2, gV, gC, Option.map_some, Option.getD_some] at n1 n2
    exact ⟨E', cf, k, i, f, q1.1, g2, g3, by rw [q2.1]; exact g4, by rw [q2.1]; exact g5, by rw [q2.2.1]; exact g6, by rw [q2.2.2 f.slot (by simp [n1, n2])]; exact g7⟩
end StrChars.Road
namespace StrChars.Road
open Jvm Sem ClassFile Op Lib Jvm.Stand Jvm.Free Jvm.Free.XT
/-- WHAT COMES BACK, the byte[] as a list of values -/
def QA (Z : State) (x : Addr) (zn : Int32) (cs : List Int32) (h : Heap) (v : Option Value) (h' : Heap) (L : List Loc) : Prop := v = none ∧ (∀ y ∈ L, y.base = x) ∧ RoadKit.Keep h h' [x] ∧ h'.size = h.size + 1 ∧ RoadKit.Exa Z h' x ST ∧ RoadKit.Fld Z h' x ST "value" "[B" (.ref h.size) ∧ RoadKit.Fld Z h' x ST "coder" "B" (.int 0) ∧
  (∃ kb, Z.vm.findClass "[B" = some kb ∧ RoadKit.Arv Z h' h.size kb .byte zn (cs.map fun c => .int (lo8 c)) (.int 0)) ∧
  ∀ (O n d : String) (w : Value), RoadKit.Fld Z h x O n d w → RoadKit.slotOf Z O n d ≠ RoadKit.slotOf Z ST "value" "[B" → RoadKit.slotOf Z O n d ≠ RoadKit.slotOf Z ST "coder" "B" → RoadKit.Fld Z h' x O n d w
/-- **new String(chars) AT A CALL, THE ARRAYS AS LISTS**: the char[] at b holds cs, not empty, no char above 255 -/
theorem backArv {p : Program} {l : Launch} {e : Env} {R : Room} {s : State} {args : Array Value} {below : List Frame} {len W : Nat} {Z : State} {a0 : Array Value} {h : Heap} (hZ : Z.Warmed39 s.vm) (hw : ∀ d ∈ words, d.before a0 Z = true) {kI : Nat} (wi : (Jvm.Cond.instantiable ST kI).before a0 Z = true)
    {x b : Addr} {k : ClassId} {zn z : Int32} {cs : List Int32} {dv v0 c0 : Value} (E : RoadKit.Exa Z h x ST) (V : RoadKit.Fld Z h x ST "value" "[B" v0) (C : RoadKit.Fld Z h x ST "coder" "B" c0) (K : RoadKit.Arv Z h b k .char zn (cs.map Value.int) dv) (S : RoadKit.Sta Z h ST "COMPACT_STRINGS" "Z" (.int z)) (hz : ¬ z = 0)
    (hlen : zn.toNatClampNeg = cs.length) (h0 : 0 < cs.length) (hbig : cs.length ≤ 536870912) (hall : ∀ c ∈ cs, ¬ 255 < c) (hfr : 4 ≤ R.frames) (hlo : W + 65 ≤ R.locals) :
    Back l R p e below s args New1.yN len W (fun P a => a = #[.ref x, .ref b] ∧ P.U.heap = h ∧ P.cells + 1 ≤ R.cells ∧ P.slots + cs.length ≤ R.slots)
      (fun P _ v B => ∃ L, QA Z x zn cs h v B.U.heap L ∧ B.locs = P.locs ++ L ∧ B.cells = P.cells + 1 ∧ B.slots = P.slots + cs.length) := by
  obtain ⟨A, K1, K2, K3, K4, K5, K6⟩ := K
  have e : A.slots.size = cs.length := K3.trans hlen
  have hat : ∀ (i : Nat) (hi : i < cs.length), A.slots[i]? = some (.int cs[i]) := fun i hi => by rw [K5 i (by omega)]; simp [List.getD_eq_getElem?_getD, hi]
  have hcv : ∀ (i : Nat) (hi : i < cs.length), cv A i = cs[i] := fun i hi => by unfold cv; rw [hat i hi]
  have hty : Typed .char A := fun i v hv => by
    have hi : i < A.slots.size := (Array.getElem?_eq_some_iff.mp hv).1
    have q := K5 i hi
    rw [hv] at q
    rw [Option.some.inj q]
    exact K6 i hi
  refine Back.mono (back hZ hw wi E V C K1 hty S hz (by omega) (by omega) (fun i hi => by rw [hcv i (by omega)]; exact hall _ (List.getElem_mem _)) hfr hlo) (fun P a hp => ⟨hp.1, hp.2.1, hp.2.2.1, by rw [e]; exact hp.2.2.2⟩) (fun P a v B hp hq => ?_)
  obtain ⟨L, ⟨q1, q2, q3, q4, q5, q6, q7, ⟨V', v1, v2, v3, v4, v5⟩, q9⟩, hl, hc, hs⟩ := hq
  refine ⟨L, ⟨q1, q2, q3, q4, q5, q6, q7, ⟨V'.cls, v3, V', v1, rfl, by rw [v4, e, hlen], K4, fun i hi => ?_, fun i hi => ?_⟩, q9⟩, hl, hc, by rw [hs, e]⟩
  · have hi' : i < cs.length := by omega
    rw [v5 i (by omega), hcv i hi']; simp [List.getD_eq_getElem?_getD, hi']
  · have hi' : i < cs.length := by omega
    simp only [List.getD_eq_getElem?_getD, List.getElem?_map, List.getElem?_eq_getElem hi', Option.map_some, Option.getD_some]
    exact fits_lo8 _
end StrChars.Road
namespace StrChars.Road
open Jvm Sem ClassFile Op Lib Jvm.Stand Jvm.Free Jvm.Free.XT
/-- WHAT COMES BACK, in the writer's own shape -/
def QV (Z : State) (x : Addr) (N : Int32) (bs : List Int32) (h : Heap) (n0 : Nat) (v : Option Value) (h' : Heap) (L : List Loc) : Prop := v = none ∧ RoadKit.Fr n0 L ∧ RoadKit.Keep h h' [x] ∧ RoadKit.Exa Z h' x ST ∧ RoadKit.Fld Z h' x ST "coder" "B" (.int 0) ∧
  ∃ (t : Addr) (kb : ClassId), n0 ≤ t ∧ h.size ≤ t ∧ ¬ t = x ∧ RoadKit.Fld Z h' x ST "value" "[B" (.ref t) ∧ RoadKit.Arv Z h' t kb .byte N (bs.map Value.int) (.int 0)
/-- **new String(chars) AT A CALL, FOR THE WRITER**: a char[] of n known ints, each 0 to 255 -/
theorem backV {p : Program} {l : Launch} {e : Env} {R : Room} {s : State} {args : Array Value} {below : List Frame} {len W : Nat} {Z : State} {a0 : Array Value} {h : Heap} (hZ : Z.Warmed39 s.vm) (hw : ∀ d ∈ words, d.before a0 Z = true) {kI : Nat} (wi : (Jvm.Cond.instantiable ST kI).before a0 Z = true)
    {x b : Addr} {kC : ClassId} {cs bs : List Int32} {d v0 c0 : Value} {z N : Int32} {n n0 : Nat} (hx0 : n0 ≤ x) (hh0 : n0 ≤ h.size) (E : RoadKit.Exa Z h x ST) (V : RoadKit.Fld Z h x ST "value" "[B" v0) (C : RoadKit.Fld Z h x ST "coder" "B" c0) (K : RoadKit.Arv Z h b kC .char N (cs.map Value.int) d) (S : RoadKit.Sta Z h ST "COMPACT_STRINGS" "Z" (.int z)) (hz : ¬ z = 0)
    (hn : cs.length = n) (hN : N = Int32.ofNat n) (l0 : 0 < n) (l2 : n ≤ 4000) (hp : ∀ c ∈ cs, ¬ c < 0 ∧ ¬ (255 : Int32) < c) (hb : bs = cs.map (fun c => c.toInt8.toInt32)) (hfr : 4 ≤ R.frames) (hlo : W + 65 ≤ R.locals) :
    Back l R p e below s args (⟨"java/lang/String", "<init>", "([C)V"⟩ : MethodName) len W (fun P a => a = #[.ref x, .ref b] ∧ P.U.heap = h ∧ P.cells + 1 ≤ R.cells ∧ P.slots + n ≤ R.slots)
      (fun P _ v B => ∃ L, QV Z x N bs h n0 v B.U.heap L ∧ B.locs = P.locs ++ L ∧ B.cells = P.cells + 1 ∧ B.slots = P.slots + n) := by
  subst hn hN hb
  refine Back.mono (backArv hZ hw wi E V C K S hz (n32 (by omega)) l0 (by omega) (fun c hc => (hp c hc).2) hfr hlo) (fun P a hp => hp) (fun P a v B hp hq => ?_)
  obtain ⟨L, ⟨q1, q2, q3, q4, q5, q6, q7, ⟨kb, v1, v2⟩, q9⟩, hl, hc, hs⟩ := hq
  exact ⟨L, ⟨q1, fun y hy => by rw [q2 y hy]; exact hx0, q3, q5, q7, h.size, kb, hh0, Nat.le_refl _, Nat.ne_of_gt E.lt, q6, by rw [List.map_map]; exact v2⟩, hl, hc, hs⟩
end StrChars.Road
namespace StrChars
open Jvm Sem ClassFile Op Lib Jvm.Stand Jvm.Free.XT Jvm.Free.ALB Jvm.Free.JM Jvm.Free
open Jvm.Lib.Cold (StaticIs)
def hi8 (x : Int32) : Int32 := lo8 (x >>> ((8 : Int32) &&& 31))
/-- what StringUTF16.getChar makes of two bytes -/
def pairCh (u v : Int32) : Int32 := (((u &&& 255) <<< ((0 : Int32) &&& 31)) ||| ((v &&& 255) <<< ((8 : Int32) &&& 31))).toUInt32.toUInt16.toUInt32.toInt32
theorem shr0 (c : Int32) : c >>> ((0 : Int32) &&& 31) = c := by
  have e : ((0 : Int32) &&& 31) = 0 := by decide
  rw [e]
  apply Int32.toBitVec_inj.mp
  rw [Int32.toBitVec_shiftRight]
  have e1 : ((0 : Int32).toBitVec.smod 32) = 0#32 := by decide
  rw [e1, BitVec.sshiftRight_eq']
  exact BitVec.sshiftRight_zero
theorem lo8_and (x : Int32) : (lo8 x &&& 255).toBitVec.toNat = x.toBitVec.toNat % 256 := by
  have h : (lo8 x).toBitVec = (x.toBitVec.signExtend 8).signExtend 32 := by rw [lo8, Int8.toBitVec_toInt32, Int32.toBitVec_toInt8]
  rw [Int32.toBitVec_and, BitVec.toNat_and, h]
  have e : ((x.toBitVec.signExtend 8).signExtend 32).toNat % 256 = x.toBitVec.toNat % 256 := by
    rw [BitVec.toNat_signExtend]
    have hlt := x.toBitVec.isLt
    simp only [BitVec.toNat_setWidth, BitVec.toNat_signExtend]
    split <;> split <;> omega
  rw [← e]
  exact Nat.and_two_pow_sub_one_eq_mod _ 8
theorem pair_says {c : Int32} (h0 : ¬ c < 0) (h1 : ¬ 65535 < c) : pairCh (lo8 c) (hi8 c) = c := by
  rw [Int32.lt_iff_toInt_lt] at h0 h1
  have e0 : (0 : Int32).toInt = 0 := rfl
  have e1 : (65535 : Int32).toInt = 65535 := rfl
  have hc : c.toInt = c.toBitVec.toNat := by
    have := c.toBitVec.isLt
    have e : c.toInt = c.toBitVec.toInt := rfl
    rw [e] at h0 h1
    rw [e]
    rw [BitVec.toInt_eq_toNat_cond] at h0 h1 ⊢
    split at h0 <;> split <;> omega
  have hn : c.toBitVec.toNat < 65536 := by omega
  have a1 := lo8_and c
  have a2 : (hi8 c &&& 255).toBitVec.toNat = c.toBitVec.toNat / 256 := by
    rw [hi8, lo8_and]
    have e : ((8 : Int32) &&& 31) = 8 := by decide
    rw [e, Int32.toBitVec_shiftRight]
    have e2 : ((8 : Int32).toBitVec.smod 32) = 8#32 := by decide
    rw [e2, BitVec.sshiftRight_eq', BitVec.toNat_sshiftRight_of_msb_false (by rw [BitVec.msb_eq_false_iff_two_mul_lt]; omega)]
    show c.toBitVec.toNat >>> 8 % 256 = _
    rw [Nat.shiftRight_eq_div_pow]
    omega
  unfold pairCh
  apply Int32.toBitVec_inj.mp
  apply BitVec.eq_of_toNat_eq
  have f0 : ((0 : Int32) &&& 31) = 0 := by decide
  have f8 : ((8 : Int32) &&& 31) = 8 := by decide
  rw [f0, f8]
  have g : (((lo8 c &&& 255) <<< (0 : Int32)) ||| ((hi8 c &&& 255) <<< (8 : Int32))).toBitVec.toNat = c.toBitVec.toNat := by
    rw [Int32.toBitVec_or, Int32.toBitVec_shiftLeft, Int32.toBitVec_shiftLeft]
    have s0 : ((0 : Int32).toBitVec.smod 32) = 0#32 := by decide
    have s8 : ((8 : Int32).toBitVec.smod 32) = 8#32 := by decide
    rw [s0, s8, BitVec.toNat_or]
    simp only [BitVec.shiftLeft_eq', BitVec.toNat_shiftLeft, a1, a2]
    show (c.toBitVec.toNat % 256) <<< 0 % 2 ^ 32 ||| (c.toBitVec.toNat / 256) <<< 8 % 2 ^ 32 = _
    rw [Nat.shiftLeft_zero, Nat.mod_eq_of_lt (show c.toBitVec.toNat % 256 < 2 ^ 32 by omega), Nat.mod_eq_of_lt (show (c.toBitVec.toNat / 256) <<< 8 < 2 ^ 32 by rw [Nat.shiftLeft_eq]; omega), Nat.or_comm, ← Nat.shiftLeft_add_eq_or_of_lt (by omega), Nat.shiftLeft_eq]
    omega
  show BitVec.toNat (((((lo8 c &&& 255) <<< (0 : Int32)) ||| ((hi8 c &&& 255) <<< (8 : Int32))).toBitVec.setWidth 16).setWidth 32) = _
  rw [BitVec.toNat_setWidth, BitVec.toNat_setWidth, g]
  omega
end StrChars
namespace StrChars
open Jvm Sem ClassFile Op Lib Jvm.Stand Jvm.Free.XT Jvm.Free.ALB Jvm.Free.JM Jvm.Free
open Jvm.Lib.Cold (StaticIs)
theorem shr1 {n : Nat} (h : 2 * n < 2 ^ 31) : Int32.ofNat (2 * n) >>> ((1 : Int32) &&& 31) = Int32.ofNat n := by
  have e : ((1 : Int32) &&& 31) = 1 := by decide
  rw [e]
  apply Int32.toBitVec_inj.mp
  rw [Int32.toBitVec_shiftRight]
  have e1 : ((1 : Int32).toBitVec.smod 32) = 1#32 := by decide
  have hm : (BitVec.ofNat 32 (2 * n)).toNat = 2 * n := by rw [BitVec.toNat_ofNat, Nat.mod_eq_of_lt (by omega)]
  rw [e1, BitVec.sshiftRight_eq']
  apply BitVec.eq_of_toNat_eq
  show ((BitVec.ofNat 32 (2 * n)).sshiftRight 1).toNat = (BitVec.ofNat 32 n).toNat
  rw [BitVec.toNat_sshiftRight_of_msb_false (by rw [BitVec.msb_eq_false_iff_two_mul_lt, hm]; omega), hm, BitVec.toNat_ofNat, Nat.shiftRight_eq_div_pow]
  omega
/-- charAt's cast of a byte read back -/
def chr8 (u : Int32) : Int32 := (u &&& 255).toUInt32.toUInt16.toUInt32.toInt32
theorem chr8_lo8 {c : Int32} (h0 : ¬ c < 0) (h1 : ¬ 255 < c) : chr8 (lo8 c) = c := by
  have t : ∀ k : Fin 256, (Int32.ofNat k.val).toUInt32.toUInt16.toUInt32.toInt32 = Int32.ofNat k.val := by decide +kernel
  unfold chr8
  rw [lo8_mask h0 h1]
  rw [Int32.lt_iff_toInt_lt] at h0 h1
  have e0 : (0 : Int32).toInt = 0 := rfl
  have e1 : (255 : Int32).toInt = 255 := rfl
  obtain ⟨k, hk⟩ : ∃ k : Nat, c.toInt = k := ⟨c.toInt.toNat, by omega⟩
  have hx : c = Int32.ofNat k := Int32.toInt_inj.mp (by rw [hk, Int32.toInt_ofNat_small (by omega)])
  rw [hx]
  exact t ⟨k, by omega⟩
theorem narrow_ch {c : Int32} (h0 : ¬ c < 0) (h1 : ¬ 65535 < c) : narrow .char (.int c) = .int c := by
  have q : narrow .char (.int (pairCh (lo8 c) (hi8 c))) = .int (pairCh (lo8 c) (hi8 c)) := narrow_c _
  rwa [pair_says h0 h1] at q
/-- the array's cell V codes the n chars f 0 .. f (n - 1) by the coder cd, as the JDK does: coder 1 just where some char is above 255 -/
def Cod (cd : Int32) (n : Nat) (f : Nat → Int32) (V : Cell) : Prop := (cd = 0 ∧ V.slots.size = n ∧ ∀ j, j < n → V.slots[j]? = some (.int (lo8 (f j))) ∧ ¬ 255 < f j) ∨ (cd = 1 ∧ V.slots.size = 2 * n ∧ (∀ j, j < n → V.slots[2 * j]? = some (.int (lo8 (f j))) ∧ V.slots[2 * j + 1]? = some (.int (hi8 (f j)))) ∧ ∃ j, j < n ∧ 255 < f j)
theorem Cod.cd {cd : Int32} {n : Nat} {f : Nat → Int32} {V : Cell} (h : Cod cd n f V) : cd = 0 ∨ cd = 1 := h.imp (fun q => q.1) fun q => q.1
theorem Cod.len {cd : Int32} {n : Nat} {f : Nat → Int32} {V : Cell} (h : Cod cd n f V) (hs : V.slots.size < 2 ^ 31) : Int32.ofNat V.slots.size >>> (cd &&& 31) = Int32.ofNat n := by
  rcases h with ⟨rfl, h, -⟩ | ⟨rfl, h, -⟩
  · rw [shr0, h]
  · rw [h, shr1 (by omega)]
/-- **x is a String of the n chars f 0 .. f (n - 1)**, Latin-1 or UTF-16; its array at t has the cell V -/
def Txt (x t : Addr) (V : Cell) (cd : Int32) (n : Nat) (f : Nat → Int32) (U : State) : Prop := Exact "java/lang/String" x U ∧ Has x "java/lang/String" "value" "[B" (.ref t) U ∧ Has x "java/lang/String" "coder" "B" (.int cd) U ∧ XT.Arr .byte t V U ∧ Cod cd n f V ∧ ∀ j, j < n → ¬ f j < 0 ∧ ¬ 65535 < f j
theorem Txt.mv {x t : Addr} {V : Cell} {cd : Int32} {n : Nat} {f : Nat → Int32} {U U' : State} (h : Txt x t V cd n f U) (hal : U.vm.Alike U'.vm) (hh : U'.heap = U.heap) : Txt x t V cd n f U' := ⟨h.1.mv hal hh, h.2.1.mv hal hh, h.2.2.1.mv hal hh, h.2.2.2.1.mv hal hh, h.2.2.2.2⟩
namespace Cdr
def yN : MethodName := ⟨"java/lang/String", "coder", "()B"⟩
abbrev yB : ByteArray := jdk_42_method_152_code
theorem d0 : decode yB 0 = .ok (.getstatic 38, 3) := by decide +kernel
theorem d3 : decode yB 3 = .ok (.ifCond (.eq) 10, 3) := by decide +kernel
theorem d6 : decode yB 6 = .ok (.aload_n 0, 1) := by decide +kernel
theorem d7 : decode yB 7 = .ok (.getfield 15, 3) := by decide +kernel
theorem d10 : decode yB 10 = .ok (.goto 4, 3) := by decide +kernel
theorem d14 : decode yB 14 = .ok (.ireturn, 1) := by decide +kernel
def site : List Cond := [.fieldLink "java/lang/String" 38 "java/lang/String" "COMPACT_STRINGS" "Z", .fieldLink "java/lang/String" 15 "java/lang/String" "coder" "B"]
def tab : Cond := tabOf yN yB 1 (some .byte) site
def P (x : Addr) (cd z : Int32) (args : Array Value) (s : State) : Prop := args = #[.ref x] ∧ Has x "java/lang/String" "coder" "B" (.int cd) s ∧ (cd = 0 ∨ cd = 1) ∧ StaticIs s "java/lang/String" "COMPACT_STRINGS" "Z" (.int z) ∧ ¬ z = 0
def E (cd : Int32) (r : Option Value) (s u : State) : Prop := XT.PureE (some (.int cd)) r s u
theorem law (l : Launch) (x : Addr) (cd z : Int32) : Law l yN 1 0 0 0 yB 1 (some .byte) site (P x cd z) (E cd) [] 0 0 := by
  refine Law.of_walk (plainFor_of_name (by decide +kernel)) (by decide +kernel) (by decide +kernel) (by decide) (fun _ _ h => by rw [h.1]; rfl) (fun _ U U' hal hh h => ⟨h.1, h.2.1.mv hal hh, h.2.2.1, h.2.2.2.1.there hal hh, h.2.2.2.2⟩) (fun r U U' V V' h1 hal h2 h => XT.PureE.mv r U U' V V' h1 hal h2 h) ?_
  intro p e s m args below meth c s₁ X0 hexec hbytes hml hret hlk hnm hown hh0 W hP
  obtain ⟨rfl, hx, hc, s1, hz⟩ := hP
  have c1 : Steps p.tables e below (s₁.setTop (entryFrame m #[.ref x] 1)) (s₁.setTop (mkF m 0 #[.val (.ref x)] [])) := entry rfl
  obtain ⟨T2, X2, q2, st2⟩ := X0.sget hexec hown (wk W (.fieldLink "java/lang/String" 38 "java/lang/String" "COMPACT_STRINGS" "Z")) s1 (fun _ _ h => by rw [hh0]; exact h) (g := (mkF m 0 #[.val (.ref x)] [])) rfl (hb hbytes d0)
  have hh2 := q2.trans hh0
  have c3 : Steps p.tables e below (s₁.setTop (entryFrame m #[.ref x] 1)) (T2.setTop (mkF m 7 #[.val (.ref x)] [.ref x])) := (c1.trans (st2 _ (Steps.refl _))).trans (by
    refine XS.ifNo X2.here hexec rfl (hb hbytes d3) rfl (i0_eq_f hz) ?_
    refine XS.aloadN X2.here hexec rfl (hb hbytes d6) rfl rfl ?_
    exact Steps.refl _)
  obtain ⟨T4, X4, q4, st4⟩ := X2.hget hexec hown (wk W (.fieldLink "java/lang/String" 15 "java/lang/String" "coder" "B")) (hx.mv X2.warmed.alike hh2) (g := (mkF m 7 #[.val (.ref x)] [.ref x])) rfl (rest := []) rfl (hb hbytes d7)
  have c5 : Steps p.tables e below (s₁.setTop (entryFrame m #[.ref x] 1)) (T4.setTop (mkF m 14 #[.val (.ref x)] [.int cd])) := (c3.trans (st4 _ (Steps.refl _))).trans (by
    refine XS.goto X4.here hexec rfl (pc0 := 10) rfl (hb hbytes d10) (by decide) rfl ?_
    exact Steps.refl _)
  exact ⟨T4, some (.int cd), _, _, _, X4, rfl, rfl, rfl, (fun h => by cases h), ⟨rfl, q4.trans hh2⟩, fun fs hl => c5.trans (X4.ireturnOut hexec hret (by rcases hc with rfl | rfl <;> rfl) (Or.inr (Or.inr (Or.inl rfl))) (hb hbytes d14) hl)⟩
end Cdr
namespace Len
def yN : MethodName := ⟨"java/lang/String", "length", "()I"⟩
abbrev yB : ByteArray := jdk_42_method_54_code
theorem d0 : decode yB 0 = .ok (.aload_n 0, 1) := by decide +kernel
theorem d1 : decode yB 1 = .ok (.getfield 9, 3) := by decide +kernel
theorem d4 : decode yB 4 = .ok (.arraylength, 1) := by decide +kernel
theorem d5 : decode yB 5 = .ok (.aload_n 0, 1) := by decide +kernel
theorem d6 : decode yB 6 = .ok (.invokevirtual 335, 3) := by decide +kernel
theorem d9 : decode yB 9 = .ok (.ishr, 1) := by decide +kernel
theorem d10 : decode yB 10 = .ok (.ireturn, 1) := by decide +kernel
def site : List Cond := [.fieldLink "java/lang/String" 9 "java/lang/String" "value" "[B", Cdr.tab] ++ virtW "java/lang/String" 335 "java/lang/String" Cdr.yN Cdr.yN
def tab : Cond := tabOf yN yB 1 (some .int) site
def P (x t : Addr) (V : Cell) (cd : Int32) (n : Nat) (f : Nat → Int32) (z : Int32) (args : Array Value) (s : State) : Prop := args = #[.ref x] ∧ Txt x t V cd n f s ∧ StaticIs s "java/lang/String" "COMPACT_STRINGS" "Z" (.int z) ∧ ¬ z = 0
def E (n : Nat) (r : Option Value) (s u : State) : Prop := XT.PureE (some (.int (Int32.ofNat n))) r s u
/-- length() of a String of n chars, in either coding -/
theorem law (l : Launch) (x t : Addr) (V : Cell) (cd : Int32) (n : Nat) (f : Nat → Int32) (z : Int32) : Law l yN 1 0 1 13 yB 1 (some .int) site (P x t V cd n f z) (E n) [] 0 0 := by
  refine Law.of_walk (plainFor_of_name (by decide +kernel)) (by decide +kernel) (by decide +kernel) (by decide) (fun _ _ h => by rw [h.1]; rfl) (fun _ U U' hal hh h => ⟨h.1, h.2.1.mv hal hh, h.2.2.1.there hal hh, h.2.2.2⟩) (fun r U U' V V' h1 hal h2 h => XT.PureE.mv r U U' V V' h1 hal h2 h) ?_
  intro p e s m args below meth c s₁ X0 hexec hbytes hml hret hlk hnm hown hh0 W hP
  obtain ⟨rfl, hx, s1, hz⟩ := hP
  have v31 := hx.2.2.2.1.2.2.2
  have c1 : Steps p.tables e below (s₁.setTop (entryFrame m #[.ref x] 1)) (s₁.setTop (mkF m 1 #[.val (.ref x)] [.ref x])) := Steps.trans (entry rfl) (by
    show Steps p.tables e below (s₁.setTop (mkF m 0 #[.val (.ref x)] [])) _
    refine XS.aloadN X0.here hexec rfl (hb hbytes d0) rfl rfl ?_
    exact Steps.refl _)
  obtain ⟨T2, X2, q2, st2⟩ := X0.hget hexec hown (wk W (.fieldLink "java/lang/String" 9 "java/lang/String" "value" "[B")) (hx.mv X0.warmed.alike hh0).2.1 (g := (mkF m 1 #[.val (.ref x)] [.ref x])) rfl (rest := []) rfl (hb hbytes d1)
  have hh2 := q2.trans hh0
  have hx2 := hx.mv X2.warmed.alike hh2
  have c3 : Steps p.tables e below (s₁.setTop (entryFrame m #[.ref x] 1)) (T2.setTop (mkF m 6 #[.val (.ref x)] [.ref x, .int (Int32.ofNat V.slots.size)])) := (c1.trans (st2 _ (Steps.refl _))).trans (by
    refine X2.alen hexec hx2.2.2.2.1 rfl rfl (hb hbytes d4) ?_
    refine XS.aloadN X2.here hexec rfl (hb hbytes d5) rfl rfl ?_
    exact Steps.refl _)
  obtain ⟨v4, T4, X4, E4, g4⟩ := X2.callV hexec (Cdr.law l x cd z) hown (wks W (virtW "java/lang/String" 335 "java/lang/String" Cdr.yN Cdr.yN)) rfl (by decide) (wk W Cdr.tab) (W := 1) (Nat.le_of_ble_eq_true rfl) (Nat.le_of_ble_eq_true rfl) (Nat.le_refl _) (Nat.le_refl _) (hx2.1.fc X2.warmed.alike) hx2.1.is (g := (mkF m 6 #[.val (.ref x)] [.ref x, .int (Int32.ofNat V.slots.size)])) rfl (by rw [hml]; rfl) c3 (argsL := []) (rest := [.int (Int32.ofNat V.slots.size)]) rfl rfl (by show 2 * 0 + (1 + 0) ≤ _; decide) (hb hbytes d6) (⟨rfl, hx2.2.2.1, hx.2.2.2.2.1.cd, s1.there X2.warmed.alike hh2, hz⟩)
  obtain ⟨rfl, q4⟩ := E4
  have c5 : Steps p.tables e below (s₁.setTop (entryFrame m #[.ref x] 1)) (T4.setTop (mkF m 10 #[.val (.ref x)] [.int (Int32.ofNat V.slots.size >>> (cd &&& 31))])) := Steps.trans g4 (by
    refine ishr X4.here hexec rfl (hb hbytes d9) rfl ?_
    exact Steps.refl _)
  rw [hx.2.2.2.2.1.len v31] at c5
  exact ⟨T4, some (.int (Int32.ofNat n)), _, _, _, X4, rfl, rfl, rfl, (fun h => by cases h), ⟨rfl, q4.trans hh2⟩, fun fs hl => c5.trans (X4.ireturnOut hexec hret rfl (Or.inl rfl) (hb hbytes d10) hl)⟩
theorem pays {l : Launch} {R : Room} {p : Program} {e : Env} {below : List Frame} {s : State} {sargs : Array Value} {len W : Nat} (x t : Addr) (V : Cell) (cd : Int32) (n : Nat) (f : Nat → Int32) (z : Int32) (htab : tab.before sargs s = true) (hfr : 2 ≤ R.frames) (hlo : W + 25 ≤ R.locals) :
    Back l R p e below s sargs yN len W (fun A₁ a₁ => A₁.cells + 0 ≤ R.cells ∧ A₁.slots + 0 ≤ R.slots ∧ P x t V cd n f z a₁ A₁.U) (fun A₁ _ v₁ B₁ => E n v₁ A₁.U B₁.U ∧ B₁.locs = A₁.locs ++ [] ∧ B₁.cells = A₁.cells + 0 ∧ B₁.slots = A₁.slots + 0) :=
  (law l x t V cd n f z).pays htab hfr (by omega)
end Len
namespace IsL
def yN : MethodName := ⟨"java/lang/String", "isLatin1", "()Z"⟩
abbrev yB : ByteArray := jdk_42_method_154_code
theorem d0 : decode yB 0 = .ok (.getstatic 38, 3) := by decide +kernel
theorem d3 : decode yB 3 = .ok (.ifCond (.eq) 14, 3) := by decide +kernel
theorem d6 : decode yB 6 = .ok (.aload_n 0, 1) := by decide +kernel
theorem d7 : decode yB 7 = .ok (.getfield 15, 3) := by decide +kernel
theorem d10 : decode yB 10 = .ok (.ifCond (.ne) 7, 3) := by decide +kernel
theorem d13 : decode yB 13 = .ok (.iconst 1, 1) := by decide +kernel
theorem d14 : decode yB 14 = .ok (.goto 4, 3) := by decide +kernel
theorem d17 : decode yB 17 = .ok (.iconst 0, 1) := by decide +kernel
theorem d18 : decode yB 18 = .ok (.ireturn, 1) := by decide +kernel
def site : List Cond := [.fieldLink "java/lang/String" 38 "java/lang/String" "COMPACT_STRINGS" "Z", .fieldLink "java/lang/String" 15 "java/lang/String" "coder" "B"]
def tab : Cond := tabOf yN yB 1 (some .boolean) site
def P (x : Addr) (cd z : Int32) (args : Array Value) (s : State) : Prop := args = #[.ref x] ∧ Has x "java/lang/String" "coder" "B" (.int cd) s ∧ (cd = 0 ∨ cd = 1) ∧ StaticIs s "java/lang/String" "COMPACT_STRINGS" "Z" (.int z) ∧ ¬ z = 0
def E (cd : Int32) (r : Option Value) (s u : State) : Prop := XT.PureE (some (.int (1 - cd))) r s u
theorem law (l : Launch) (x : Addr) (cd z : Int32) : Law l yN 1 0 0 0 yB 1 (some .boolean) site (P x cd z) (E cd) [] 0 0 := by
  refine Law.of_walk (plainFor_of_name (by decide +kernel)) (by decide +kernel) (by decide +kernel) (by decide) (fun _ _ h => by rw [h.1]; rfl) (fun _ U U' hal hh h => ⟨h.1, h.2.1.mv hal hh, h.2.2.1, h.2.2.2.1.there hal hh, h.2.2.2.2⟩) (fun r U U' V V' h1 hal h2 h => XT.PureE.mv r U U' V V' h1 hal h2 h) ?_
  intro p e s m args below meth c s₁ X0 hexec hbytes hml hret hlk hnm hown hh0 W hP
  obtain ⟨rfl, hx, hc, s1, hz⟩ := hP
  have c1 : Steps p.tables e below (s₁.setTop (entryFrame m #[.ref x] 1)) (s₁.setTop (mkF m 0 #[.val (.ref x)] [])) := entry rfl
  obtain ⟨T2, X2, q2, st2⟩ := X0.sget hexec hown (wk W (.fieldLink "java/lang/String" 38 "java/lang/String" "COMPACT_STRINGS" "Z")) s1 (fun _ _ h => by rw [hh0]; exact h) (g := (mkF m 0 #[.val (.ref x)] [])) rfl (hb hbytes d0)
  have hh2 := q2.trans hh0
  have c3 : Steps p.tables e below (s₁.setTop (entryFrame m #[.ref x] 1)) (T2.setTop (mkF m 7 #[.val (.ref x)] [.ref x])) := (c1.trans (st2 _ (Steps.refl _))).trans (by
    refine XS.ifNo X2.here hexec rfl (hb hbytes d3) rfl (i0_eq_f hz) ?_
    refine XS.aloadN X2.here hexec rfl (hb hbytes d6) rfl rfl ?_
    exact Steps.refl _)
  obtain ⟨T4, X4, q4, st4⟩ := X2.hget hexec hown (wk W (.fieldLink "java/lang/String" 15 "java/lang/String" "coder" "B")) (hx.mv X2.warmed.alike hh2) (g := (mkF m 7 #[.val (.ref x)] [.ref x])) rfl (rest := []) rfl (hb hbytes d7)
  have c5 : Steps p.tables e below (s₁.setTop (entryFrame m #[.ref x] 1)) (T4.setTop (mkF m 10 #[.val (.ref x)] [.int cd])) := c3.trans (st4 _ (Steps.refl _))
  have c6 : Steps p.tables e below (s₁.setTop (entryFrame m #[.ref x] 1)) (T4.setTop (mkF m 18 #[.val (.ref x)] [.int (1 - cd)])) := by
    rcases hc with rfl | rfl
    · exact c5.trans (by
        refine XS.ifNo X4.here hexec rfl (hb hbytes d10) rfl (i0_ne_f rfl) ?_
        refine iconstV X4.here hexec rfl 1 (hb hbytes d13) (by decide) ?_
        refine XS.goto X4.here hexec rfl (pc0 := 14) rfl (hb hbytes d14) (by decide) rfl ?_
        exact Steps.refl _)
    · exact c5.trans (by
        refine XS.ifYes X4.here hexec rfl (pc0 := 10) rfl (hb hbytes d10) rfl (i0_ne_t (by decide)) (by decide) rfl ?_
        refine iconstV X4.here hexec rfl 0 (hb hbytes d17) (by decide) ?_
        exact Steps.refl _)
  exact ⟨T4, some (.int (1 - cd)), _, _, _, X4, rfl, rfl, rfl, (fun h => by cases h), ⟨rfl, q4.trans hh2⟩, fun fs hl => c6.trans (X4.ireturnOut hexec hret (by rcases hc with rfl | rfl <;> rfl) (Or.inr (Or.inl rfl)) (hb hbytes d18) hl)⟩
end IsL
namespace LChA
def yN : MethodName := ⟨"java/lang/StringLatin1", "charAt", "([BI)C"⟩
abbrev yB : ByteArray := jdk_43_method_2_code
theorem d0 : decode yB 0 = .ok (.iload_n 1, 1) := by decide +kernel
theorem d1 : decode yB 1 = .ok (.aload_n 0, 1) := by decide +kernel
theorem d2 : decode yB 2 = .ok (.arraylength, 1) := by decide +kernel
theorem d3 : decode yB 3 = .ok (.invokestatic 9, 3) := by decide +kernel
theorem d6 : decode yB 6 = .ok (.aload_n 0, 1) := by decide +kernel
theorem d7 : decode yB 7 = .ok (.iload_n 1, 1) := by decide +kernel
theorem d8 : decode yB 8 = .ok (.baload, 1) := by decide +kernel
theorem d9 : decode yB 9 = .ok (.sipush 255, 3) := by decide +kernel
theorem d12 : decode yB 12 = .ok (.iand, 1) := by decide +kernel
theorem d13 : decode yB 13 = .ok (.i2c, 1) := by decide +kernel
theorem d14 : decode yB 14 = .ok (.ireturn, 1) := by decide +kernel
def site : List Cond := [JO.Str_checkIndex.tab] ++ staticW "java/lang/StringLatin1" 9 JO.Str_checkIndex.yN
def tab : Cond := tabOf yN yB 2 (some .char) site
def P (t : Addr) (V : Cell) (i : Nat) (u : Int32) (fm : Value) (args : Array Value) (s : State) : Prop := args = #[.ref t, .int (Int32.ofNat i)] ∧ XT.Arr .byte t V s ∧ V.slots[i]? = some (.int u) ∧ (StaticIs s "jdk/internal/util/Preconditions" "SIOOBE_FORMATTER" "Ljava/util/function/BiFunction;" fm ∧ fm.isRef = true)
def E (u : Int32) (r : Option Value) (s w : State) : Prop := XT.PureE (some (.int (chr8 u))) r s w
theorem law (l : Launch) (t : Addr) (V : Cell) (i : Nat) (u : Int32) (fm : Value) : Law l yN 2 2 2 27 yB 2 (some .char) site (P t V i u fm) (E u) [] 0 0 := by
  refine Law.of_walk (plainFor_of_name (by decide +kernel)) (by decide +kernel) (by decide +kernel) (by decide) (fun _ _ h => by rw [h.1]; rfl) (fun _ U U' hal hh h => ⟨h.1, h.2.1.mv hal hh, h.2.2.1, h.2.2.2.1.there hal hh, h.2.2.2.2⟩) (fun r U U' V V' h1 hal h2 h => XT.PureE.mv r U U' V V' h1 hal h2 h) ?_
  intro p e s m args below meth c s₁ X0 hexec hbytes hml hret hlk hnm hown hh0 W hP
  obtain ⟨rfl, hV, hu, s1, rf⟩ := hP
  have v31 := hV.2.2.2
  have hi : i < V.slots.size := (Array.getElem?_eq_some_iff.mp hu).1
  have c1 : Steps p.tables e below (s₁.setTop (entryFrame m #[.ref t, .int (Int32.ofNat i)] 2)) (s₁.setTop (mkF m 0 #[.val (.ref t), .val (.int (Int32.ofNat i))] [])) := entry rfl
  have c2 : Steps p.tables e below (s₁.setTop (entryFrame m #[.ref t, .int (Int32.ofNat i)] 2)) (s₁.setTop (mkF m 3 #[.val (.ref t), .val (.int (Int32.ofNat i))] [.int (Int32.ofNat V.slots.size), .int (Int32.ofNat i)])) := c1.trans (by
    refine XS.iloadN X0.here hexec rfl (hb hbytes d0) rfl ?_
    refine XS.aloadN X0.here hexec rfl (hb hbytes d1) rfl rfl ?_
    refine X0.alen hexec (hV.mv X0.warmed.alike hh0) rfl rfl (hb hbytes d2) ?_
    exact Steps.refl _)
  obtain ⟨v3, T3, X3, E3, g3⟩ := X0.callS hexec (JO.Str_checkIndex.law l (Int32.ofNat i) (Int32.ofNat V.slots.size) fm) hown (wks W (staticW "java/lang/StringLatin1" 9 JO.Str_checkIndex.yN)) (wk W JO.Str_checkIndex.tab) (W := 0) (Nat.le_of_ble_eq_true rfl) (Nat.le_of_ble_eq_true rfl) (Nat.le_refl _) (Nat.le_refl _) (g := (mkF m 3 #[.val (.ref t), .val (.int (Int32.ofNat i))] [.int (Int32.ofNat V.slots.size), .int (Int32.ofNat i)])) rfl (by rw [hml]; rfl) c2 (argsL := [.int (Int32.ofNat i), .int (Int32.ofNat V.slots.size)]) (rest := []) rfl rfl (by show 2 * 0 + 0 ≤ _; decide) (hb hbytes d3) (⟨rfl, rf, s1.there X0.warmed.alike hh0, Int32.ofNat_not_neg (by omega), lt32 v31 hi⟩)
  obtain ⟨rfl, q3⟩ := E3
  have hh3 := q3.trans hh0
  have c4 : Steps p.tables e below (s₁.setTop (entryFrame m #[.ref t, .int (Int32.ofNat i)] 2)) (T3.setTop (mkF m 14 #[.val (.ref t), .val (.int (Int32.ofNat i))] [.int (chr8 u)])) := Steps.trans g3 (by
    refine XS.aloadN X3.here hexec rfl (hb hbytes d6) rfl rfl ?_
    refine XS.iloadN X3.here hexec rfl (hb hbytes d7) rfl ?_
    refine X3.aget hexec (hV.mv X3.warmed.alike hh3) rfl hu rfl rfl (hb hbytes d8) ?_
    refine sipushV X3.here hexec rfl 255 (hb hbytes d9) (by decide) ?_
    refine XS.iand X3.here hexec rfl (hb hbytes d12) rfl ?_
    refine i2c X3.here hexec rfl (hb hbytes d13) rfl ?_
    exact Steps.refl _)
  exact ⟨T3, some (.int (chr8 u)), _, _, _, X3, rfl, rfl, rfl, (fun h => by cases h), ⟨rfl, hh3⟩, fun fs hl => c4.trans (X3.ireturnOut hexec hret (narrow_c _) (Or.inr (Or.inr (Or.inr (Or.inl rfl)))) (hb hbytes d14) hl)⟩
end LChA
end StrChars
namespace StrChars.Road
open Jvm Sem ClassFile Op Lib Jvm.Stand Jvm.Free Jvm.Free.XT
open Jvm.Lib.Cold (StaticIs)
theorem consq {a : Array Value} {s : State} {c : Jvm.Cond} {L : List Jvm.Cond} (h0 : c.before a s = true) (h : ∀ w ∈ L, w.before a s = true) : ∀ w ∈ c :: L, w.before a s = true := fun w hw => (List.mem_cons.mp hw).elim (fun e => e ▸ h0) (h w)
/-- the words of String.length(), either coding -/
abbrev wordsLen : List Jvm.Cond := [.code Len.yN Len.yB 1 (some .int), .initialized ST, .fieldLink ST 9 ST "value" "[B", .fieldLink ST 38 ST "COMPACT_STRINGS" "Z", .fieldLink ST 15 ST "coder" "B", .code Cdr.yN Cdr.yB 1 (some .byte), .methodLink ST 335 Cdr.yN, .declares Cdr.yN, .selects ST Cdr.yN Cdr.yN, .instanceMethod Cdr.yN]
theorem tabLen_of {a : Array Value} {s : State} (h : ∀ w ∈ wordsLen, w.before a s = true) : Len.tab.before a s = true := by
  have hc : Cdr.tab.before a s = true := unparts (wk h (.code Cdr.yN Cdr.yB 1 (some .byte))) (wks h (.initialized Cdr.yN.cls :: Cdr.site))
  have q := consq hc h
  exact unparts (wk q (.code Len.yN Len.yB 1 (some .int))) (wks q (.initialized Len.yN.cls :: Len.site))
theorem movedLen {Z s : State} {a0 args : Array Value} (hZ : Z.Warmed39 s.vm) (hw : ∀ d ∈ wordsLen, d.before a0 Z = true) : ∀ d ∈ wordsLen, d.before args s = true := fun d hd => by
  have q := hw d hd
  have t : ∀ d ∈ wordsLen, d = .arrayClass .byte ∨ (d.onTables && d.keepsFace) = true := by decide +kernel
  rcases t d hd with rfl | t
  · exact RoadKit.mvA hZ q
  · exact RoadKit.mv hZ q t
/-- the bytes of the chars cs, low before high -/
def wideBytes : List Int32 → List Value
  | [] => []
  | c :: cs => .int (lo8 c) :: .int (hi8 c) :: wideBytes cs
theorem wide_lo (d : Value) : ∀ (cs : List Int32) (j : Nat), j < cs.length → (wideBytes cs).getD (2 * j) d = .int (lo8 (cs.getD j 0))
  | [], j, h => absurd h (Nat.not_lt_zero j)
  | c :: cs, 0, _ => rfl
  | c :: cs, j + 1, h => by
    have q := wide_lo d cs j (by simpa using h)
    rw [show 2 * (j + 1) = 2 * j + 1 + 1 from by omega]
    simpa [wideBytes] using q
theorem wide_hi (d : Value) : ∀ (cs : List Int32) (j : Nat), j < cs.length → (wideBytes cs).getD (2 * j + 1) d = .int (hi8 (cs.getD j 0))
  | [], j, h => absurd h (Nat.not_lt_zero j)
  | c :: cs, 0, _ => rfl
  | c :: cs, j + 1, h => by
    have q := wide_hi d cs j (by simpa using h)
    rw [show 2 * (j + 1) + 1 = 2 * j + 1 + 1 + 1 from by omega]
    simpa [wideBytes] using q
theorem low_at (d : Value) (cs : List Int32) (j : Nat) (h : j < cs.length) : (cs.map fun c => Value.int (lo8 c)).getD j d = .int (lo8 (cs.getD j 0)) := by
  simp [List.getD_eq_getElem?_getD, h]
/-- an array of N2 bytes vs codes the chars cs by the coder cd -/
def CodA (cs : List Int32) (cd N2 : Int32) (vs : List Value) : Prop := (cd = 0 ∧ N2 = Int32.ofNat cs.length ∧ vs = (cs.map fun c => Value.int (lo8 c)) ∧ ∀ c ∈ cs, ¬ 255 < c) ∨ (cd = 1 ∧ N2 = Int32.ofNat (2 * cs.length) ∧ vs = wideBytes cs ∧ ∃ c ∈ cs, 255 < c)
theorem CodA.cod {cs : List Int32} {cd N2 : Int32} {vs : List Value} {V : Cell} (h : CodA cs cd N2 vs) (hn : 2 * cs.length < 2 ^ 31) (hs : V.slots.size = N2.toNatClampNeg) (hv : RoadKit.Has V vs (.int 0)) : Cod cd cs.length (fun j => cs.getD j 0) V := by
  rcases h with ⟨rfl, rfl, rfl, h⟩ | ⟨rfl, rfl, rfl, c, hc, hw⟩
  · rw [n32 (by omega)] at hs
    exact Or.inl ⟨rfl, hs, fun j hj => ⟨by rw [hv j (by omega), low_at _ _ _ hj], by
      have e : cs.getD j 0 = cs[j] := by simp [List.getD_eq_getElem?_getD, hj]
      show ¬ 255 < cs.getD j 0
      rw [e]; exact h _ (List.getElem_mem _)⟩⟩
  · rw [n32 (by omega)] at hs
    obtain ⟨j, hj, rfl⟩ := List.getElem_of_mem hc
    exact Or.inr ⟨rfl, hs, fun j hj => ⟨by rw [hv _ (by omega), wide_lo _ _ _ hj], by rw [hv _ (by omega), wide_hi _ _ _ hj]⟩, j, hj, by
      have e : cs.getD j 0 = cs[j] := by simp [List.getD_eq_getElem?_getD, hj]
      show 255 < cs.getD j 0
      rw [e]; exact hw⟩
/-- an object of exactly java/lang/String, its two fields found: as the laws ask it -/
theorem strObj {Z U : State} {a0 : Array Value} {kI : Nat} (wi : (Jvm.Cond.instantiable ST kI).before a0 Z = true) (al : Z.vm.Alike U.vm) {x : Addr} {v0 c0 : Value} (E : RoadKit.Exa Z U.heap x ST) (V : RoadKit.Fld Z U.heap x ST "value" "[B" v0) (C : RoadKit.Fld Z U.heap x ST "coder" "B" c0) :
    ∃ (D : Cell) (fV fC : Field), Blank ST x D U ∧ Found ST "value" "[B" fV U ∧ Found ST "coder" "B" fC U ∧ D.slots[fV.slot]? = some v0 ∧ D.slots[fC.slot]? = some c0 ∧ RoadKit.slotOf Z ST "value" "[B" = fV.slot ∧ RoadKit.slotOf Z ST "coder" "B" = fC.slot := by
  obtain ⟨D, cfV, kV, iV, fV, hD, gV, stV, knV, obV, asV, slV⟩ := V
  obtain ⟨D', cfC, kC, iC, fC, hD', gC, stC, -, -, asC, slC⟩ := C
  cases hD.symm.trans hD'
  obtain ⟨D2, kD, e1, e2, e3, e4, e5⟩ := E
  cases hD.symm.trans e1
  obtain ⟨c2, k2, i1, i2, i3, -⟩ := Cond.instantiable_spec wi
  cases e2.symm.trans i1
  cases e3.symm.trans i2
  obtain ⟨kU, u1, u2⟩ := al.2.2 _ _ e3
  exact ⟨D, fV, fC, ⟨hD, ⟨knV, fun q hq => by rw [hq] at obV; cases obV⟩, by rw [al.findClass]; exact e2, kU, u1, by rw [u2]; exact i3, by rw [u2]; exact e5 i3⟩, ⟨SBG.found_only al ⟨cfV, kV, iV, gV⟩, stV⟩, ⟨SBG.found_only al ⟨cfC, kC, iC, gC⟩, stC⟩, slV, slC, by simp [RoadKit.slotOf, gV], by simp [RoadKit.slotOf, gC]⟩
theorem sta_is {Z U : State} (al : Z.vm.Alike U.vm) {C n d : String} {v : Value} (S : RoadKit.Sta Z U.heap C n d v) : StaticIs U C n d v := by
  obtain ⟨cfS, iS, kS, fS, st, cS, t1, t2, t3, t4, t5, t6, t7⟩ := S
  exact StaticIs.there (s := { Z with heap := U.heap }) ⟨cfS, iS, kS, fS, st, cS, t1, t2, t3, t4, t5, (fun q => by rw [q] at t6; cases t6), t7⟩ al rfl
/-- **length() OF SUCH A STRING** -/
theorem lenW {p : Program} {l : Launch} {e : Env} {R : Room} {s : State} {args : Array Value} {below : List Frame} {len W : Nat} {Z : State} {a0 : Array Value} {h : Heap} (hZ : Z.Warmed39 s.vm) (hw : ∀ d ∈ wordsLen, d.before a0 Z = true) {kI : Nat} (wi : (Jvm.Cond.instantiable ST kI).before a0 Z = true)
    {x t : Addr} {kb : ClassId} {cs : List Int32} {cd N2 z : Int32} {vs : List Value} (E : RoadKit.Exa Z h x ST) (V : RoadKit.Fld Z h x ST "value" "[B" (.ref t)) (C : RoadKit.Fld Z h x ST "coder" "B" (.int cd)) (K : RoadKit.Arv Z h t kb .byte N2 vs (.int 0)) (hc : CodA cs cd N2 vs) (hb : ∀ c ∈ cs, ¬ c < 0 ∧ ¬ (65535 : Int32) < c)
    (S : RoadKit.Sta Z h ST "COMPACT_STRINGS" "Z" (.int z)) (hz : ¬ z = 0) (l2 : cs.length ≤ 4000) (hfr : 2 ≤ R.frames) (hlo : W + 25 ≤ R.locals) :
    Back l R p e below s args (⟨"java/lang/String", "length", "()I"⟩ : MethodName) len W (fun P a => a = #[.ref x] ∧ P.U.heap = h ∧ P.cells + 0 ≤ R.cells ∧ P.slots + 0 ≤ R.slots)
      (fun P _ v B => ∃ L, (v = some (.int (Int32.ofNat cs.length)) ∧ L = [] ∧ B.U.heap = h) ∧ B.locs = P.locs ++ L ∧ B.cells = P.cells + 0 ∧ B.slots = P.slots + 0) := by
  obtain ⟨A, K1, K2, K3, K4, K5, K6⟩ := K
  have hcod := hc.cod (by omega) K3 K5
  intro m meth c P g ig mk a X hg hsize hdg hW hn hp'
  obtain ⟨rfl, rfl, r1, r2⟩ := hp'
  have al : Z.vm.Alike P.U.vm := hZ.alike.trans X.warmed.alike
  obtain ⟨D, fV, fC, hB, F1, F2, g1, g2, -, -⟩ := strObj wi al E V C
  have hx : Txt x t A cd cs.length (fun j => cs.getD j 0) P.U := ⟨⟨_, hB.2.2.1, D, hB.1, rfl, by cases q : D.vm <;> first | rfl | exact absurd q (hB.2.1.2 _)⟩, Has.of hB F1 g1, Has.of hB F2 g2, ⟨K1.1, State.isArrayOf_alike al K1.2.1, K1.2.2, by rcases hcod with ⟨-, q, -⟩ | ⟨-, q, -⟩ <;> omega⟩, hcod, fun j hj => by
    have e : cs.getD j 0 = cs[j] := by simp [List.getD_eq_getElem?_getD, hj]
    show ¬ cs.getD j 0 < 0 ∧ ¬ 65535 < cs.getD j 0
    rw [e]; exact hb _ (List.getElem_mem _)⟩
  obtain ⟨v, B, X', ⟨⟨hv, hh⟩, hl, hk, hs⟩, st⟩ := Len.pays x t A cd cs.length (fun j => cs.getD j 0) z (tabLen_of (movedLen hZ hw)) hfr hlo m meth c P g ig mk _ X hg hsize hdg hW hn ⟨r1, r2, rfl, hx, sta_is al S, hz⟩
  exact ⟨v, B, X', ⟨[], ⟨hv, rfl, hh⟩, hl, hk, hs⟩, st⟩
end StrChars.Road
namespace StrChars
open Jvm Sem ClassFile Op Lib Jvm.Stand Jvm.Free.XT Jvm.Free.ALB Jvm.Free.JM Jvm.Free
open Jvm.Lib.Cold (StaticIs)
namespace Emp
def yN : MethodName := ⟨"java/lang/String", "isEmpty", "()Z"⟩
abbrev yB : ByteArray := jdk_42_method_55_code
theorem d0 : decode yB 0 = .ok (.aload_n 0, 1) := by decide +kernel
theorem d1 : decode yB 1 = .ok (.getfield 9, 3) := by decide +kernel
theorem d4 : decode yB 4 = .ok (.arraylength, 1) := by decide +kernel
theorem d5 : decode yB 5 = .ok (.ifCond (.ne) 7, 3) := by decide +kernel
theorem d8 : decode yB 8 = .ok (.iconst 1, 1) := by decide +kernel
theorem d9 : decode yB 9 = .ok (.goto 4, 3) := by decide +kernel
theorem d12 : decode yB 12 = .ok (.iconst 0, 1) := by decide +kernel
theorem d13 : decode yB 13 = .ok (.ireturn, 1) := by decide +kernel
def site : List Cond := [.fieldLink "java/lang/String" 9 "java/lang/String" "value" "[B"]
def tab : Cond := tabOf yN yB 1 (some .boolean) site
def P (x t : Addr) (V : Cell) (cd : Int32) (n : Nat) (f : Nat → Int32) (args : Array Value) (s : State) : Prop := args = #[.ref x] ∧ Txt x t V cd n f s
def E (n : Nat) (r : Option Value) (s u : State) : Prop := XT.PureE (some (.int (if n = 0 then 1 else 0))) r s u
/-- isEmpty() of a String of n chars -/
theorem law (l : Launch) (x t : Addr) (V : Cell) (cd : Int32) (n : Nat) (f : Nat → Int32) : Law l yN 1 0 0 0 yB 1 (some .boolean) site (P x t V cd n f) (E n) [] 0 0 := by
  refine Law.of_walk (plainFor_of_name (by decide +kernel)) (by decide +kernel) (by decide +kernel) (by decide) (fun _ _ h => by rw [h.1]; rfl) (fun _ U U' hal hh h => ⟨h.1, h.2.mv hal hh⟩) (fun r U U' V V' h1 hal h2 h => XT.PureE.mv r U U' V V' h1 hal h2 h) ?_
  intro p e s m args below meth c s₁ X0 hexec hbytes hml hret hlk hnm hown hh0 W hP
  obtain ⟨rfl, hx⟩ := hP
  have v31 := hx.2.2.2.1.2.2.2
  have c1 : Steps p.tables e below (s₁.setTop (entryFrame m #[.ref x] 1)) (s₁.setTop (mkF m 1 #[.val (.ref x)] [.ref x])) := Steps.trans (entry rfl) (by
    show Steps p.tables e below (s₁.setTop (mkF m 0 #[.val (.ref x)] [])) _
    refine XS.aloadN X0.here hexec rfl (hb hbytes d0) rfl rfl ?_
    exact Steps.refl _)
  obtain ⟨T2, X2, q2, st2⟩ := X0.hget hexec hown (wk W (.fieldLink "java/lang/String" 9 "java/lang/String" "value" "[B")) (hx.mv X0.warmed.alike hh0).2.1 (g := (mkF m 1 #[.val (.ref x)] [.ref x])) rfl (rest := []) rfl (hb hbytes d1)
  have hh2 := q2.trans hh0
  have hx2 := hx.mv X2.warmed.alike hh2
  have c3 : Steps p.tables e below (s₁.setTop (entryFrame m #[.ref x] 1)) (T2.setTop (mkF m 5 #[.val (.ref x)] [.int (Int32.ofNat V.slots.size)])) := (c1.trans (st2 _ (Steps.refl _))).trans (by
    refine X2.alen hexec hx2.2.2.2.1 rfl rfl (hb hbytes d4) ?_
    exact Steps.refl _)
  have hz : V.slots.size = 0 ↔ n = 0 := by
    rcases hx.2.2.2.2.1 with ⟨-, q, -⟩ | ⟨-, q, -⟩ <;> omega
  by_cases h0 : n = 0
  · have c4 : Steps p.tables e below (s₁.setTop (entryFrame m #[.ref x] 1)) (T2.setTop (mkF m 13 #[.val (.ref x)] [.int 1])) := c3.trans (by
      refine XS.ifNo X2.here hexec rfl (hb hbytes d5) rfl (i0_ne_f (by rw [hz.mpr h0]; rfl)) ?_
      refine iconstV X2.here hexec rfl 1 (hb hbytes d8) (by decide) ?_
      refine XS.goto X2.here hexec rfl (pc0 := 9) rfl (hb hbytes d9) (by decide) rfl ?_
      exact Steps.refl _)
    exact ⟨T2, some (.int 1), _, _, _, X2, rfl, rfl, rfl, (fun h => by cases h), ⟨by rw [if_pos h0], hh2⟩, fun fs hl => c4.trans (X2.ireturnOut hexec hret rfl (Or.inr (Or.inl rfl)) (hb hbytes d13) hl)⟩
  · have c4 : Steps p.tables e below (s₁.setTop (entryFrame m #[.ref x] 1)) (T2.setTop (mkF m 13 #[.val (.ref x)] [.int 0])) := c3.trans (by
      refine XS.ifYes X2.here hexec rfl (pc0 := 5) rfl (hb hbytes d5) rfl (i0_ne_t (nz32 v31 (by omega))) (by decide) rfl ?_
      refine iconstV X2.here hexec rfl 0 (hb hbytes d12) (by decide) ?_
      exact Steps.refl _)
    exact ⟨T2, some (.int 0), _, _, _, X2, rfl, rfl, rfl, (fun h => by cases h), ⟨by rw [if_neg h0], hh2⟩, fun fs hl => c4.trans (X2.ireturnOut hexec hret rfl (Or.inr (Or.inl rfl)) (hb hbytes d13) hl)⟩
theorem pays {l : Launch} {R : Room} {p : Program} {e : Env} {below : List Frame} {s : State} {sargs : Array Value} {len W : Nat} (x t : Addr) (V : Cell) (cd : Int32) (n : Nat) (f : Nat → Int32) (htab : tab.before sargs s = true) (hfr : 1 ≤ R.frames) (hlo : W + 12 ≤ R.locals) :
    Back l R p e below s sargs yN len W (fun A₁ a₁ => A₁.cells + 0 ≤ R.cells ∧ A₁.slots + 0 ≤ R.slots ∧ P x t V cd n f a₁ A₁.U) (fun A₁ _ v₁ B₁ => E n v₁ A₁.U B₁.U ∧ B₁.locs = A₁.locs ++ [] ∧ B₁.cells = A₁.cells + 0 ∧ B₁.slots = A₁.slots + 0) :=
  (law l x t V cd n f).pays htab hfr (by omega)
end Emp
end StrChars
namespace StrChars.Road
open Jvm Sem ClassFile Op Lib Jvm.Stand Jvm.Free Jvm.Free.XT
open Jvm.Lib.Cold (StaticIs)
/-- the words of String.isEmpty() -/
abbrev wordsEmp : List Jvm.Cond := [.code Emp.yN Emp.yB 1 (some .boolean), .initialized ST, .fieldLink ST 9 ST "value" "[B"]
theorem tabEmp_of {a : Array Value} {s : State} (h : ∀ w ∈ wordsEmp, w.before a s = true) : Emp.tab.before a s = true := unparts (wk h (.code Emp.yN Emp.yB 1 (some .boolean))) (wks h (.initialized Emp.yN.cls :: Emp.site))
theorem movedEmp {Z s : State} {a0 args : Array Value} (hZ : Z.Warmed39 s.vm) (hw : ∀ d ∈ wordsEmp, d.before a0 Z = true) : ∀ d ∈ wordsEmp, d.before args s = true := fun d hd => by
  have t : ∀ d ∈ wordsEmp, (d.onTables && d.keepsFace) = true := by decide +kernel
  exact RoadKit.mv hZ (hw d hd) (t d hd)
/-- the road's facts of a String, as the laws ask it -/
theorem txt_of {Z U : State} {a0 : Array Value} {kI : Nat} (wi : (Jvm.Cond.instantiable ST kI).before a0 Z = true) (al : Z.vm.Alike U.vm) {x t : Addr} {kb : ClassId} {cs : List Int32} {cd N2 : Int32} {vs : List Value} (E : RoadKit.Exa Z U.heap x ST) (V : RoadKit.Fld Z U.heap x ST "value" "[B" (.ref t)) (C : RoadKit.Fld Z U.heap x ST "coder" "B" (.int cd)) (K : RoadKit.Arv Z U.heap t kb .byte N2 vs (.int 0)) (hc : CodA cs cd N2 vs) (hb : ∀ c ∈ cs, ¬ c < 0 ∧ ¬ (65535 : Int32) < c) (l2 : cs.length ≤ 4000) :
    ∃ A, Txt x t A cd cs.length (fun j => cs.getD j 0) U := by
  obtain ⟨A, K1, K2, K3, K4, K5, K6⟩ := K
  have hcod := hc.cod (by omega) K3 K5
  obtain ⟨D, fV, fC, hB, F1, F2, g1, g2, -, -⟩ := strObj wi al E V C
  exact ⟨A, ⟨_, hB.2.2.1, D, hB.1, rfl, by cases q : D.vm <;> first | rfl | exact absurd q (hB.2.1.2 _)⟩, Has.of hB F1 g1, Has.of hB F2 g2, ⟨K1.1, State.isArrayOf_alike al K1.2.1, K1.2.2, by rcases hcod with ⟨-, q, -⟩ | ⟨-, q, -⟩ <;> omega⟩, hcod, fun j hj => by
    have e : cs.getD j 0 = cs[j] := by simp [List.getD_eq_getElem?_getD, hj]
    show ¬ cs.getD j 0 < 0 ∧ ¬ 65535 < cs.getD j 0
    rw [e]; exact hb _ (List.getElem_mem _)⟩
/-- **isEmpty() OF SUCH A STRING** -/
theorem empW {p : Program} {l : Launch} {e : Env} {R : Room} {s : State} {args : Array Value} {below : List Frame} {len W : Nat} {Z : State} {a0 : Array Value} {h : Heap} (hZ : Z.Warmed39 s.vm) (hw : ∀ d ∈ wordsEmp, d.before a0 Z = true) {kI : Nat} (wi : (Jvm.Cond.instantiable ST kI).before a0 Z = true)
    {x t : Addr} {kb : ClassId} {cs : List Int32} {cd N2 : Int32} {vs : List Value} (E : RoadKit.Exa Z h x ST) (V : RoadKit.Fld Z h x ST "value" "[B" (.ref t)) (C : RoadKit.Fld Z h x ST "coder" "B" (.int cd)) (K : RoadKit.Arv Z h t kb .byte N2 vs (.int 0)) (hc : CodA cs cd N2 vs) (hb : ∀ c ∈ cs, ¬ c < 0 ∧ ¬ (65535 : Int32) < c) (l2 : cs.length ≤ 4000) (hfr : 1 ≤ R.frames) (hlo : W + 12 ≤ R.locals) :
    Back l R p e below s args (⟨"java/lang/String", "isEmpty", "()Z"⟩ : MethodName) len W (fun P a => a = #[.ref x] ∧ P.U.heap = h ∧ P.cells + 0 ≤ R.cells ∧ P.slots + 0 ≤ R.slots)
      (fun P _ v B => ∃ L, (v = some (.int (if cs.length = 0 then 1 else 0)) ∧ L = [] ∧ B.U.heap = h) ∧ B.locs = P.locs ++ L ∧ B.cells = P.cells + 0 ∧ B.slots = P.slots + 0) := by
  intro m meth c P g ig mk a X hg hsize hdg hW hn hp'
  obtain ⟨rfl, rfl, r1, r2⟩ := hp'
  have al : Z.vm.Alike P.U.vm := hZ.alike.trans X.warmed.alike
  obtain ⟨A, hx⟩ := txt_of wi al E V C K hc hb l2
  obtain ⟨v, B, X', ⟨⟨hv, hh⟩, hl, hk, hs⟩, st⟩ := Emp.pays x t A cd cs.length (fun j => cs.getD j 0) (tabEmp_of (movedEmp hZ hw)) hfr hlo m meth c P g ig mk _ X hg hsize hdg hW hn ⟨r1, r2, rfl, hx⟩
  exact ⟨v, B, X', ⟨[], ⟨hv, rfl, hh⟩, hl, hk, hs⟩, st⟩
end StrChars.Road
namespace StrChars
open Jvm Sem ClassFile Op Lib Jvm.Stand Jvm.Free.XT Jvm.Free.ALB Jvm.Free.JM Jvm.Free
open Jvm.Lib.Cold (StaticIs)
namespace ChN
def yN : MethodName := ⟨"java/lang/String", "charAt", "(I)C"⟩
abbrev yB : ByteArray := jdk_42_method_56_code
theorem d0 : decode yB 0 = .ok (.aload_n 0, 1) := by decide +kernel
theorem d1 : decode yB 1 = .ok (.invokevirtual 492, 3) := by decide +kernel
theorem d4 : decode yB 4 = .ok (.ifCond (.eq) 12, 3) := by decide +kernel
theorem d7 : decode yB 7 = .ok (.aload_n 0, 1) := by decide +kernel
theorem d8 : decode yB 8 = .ok (.getfield 9, 3) := by decide +kernel
theorem d11 : decode yB 11 = .ok (.iload_n 1, 1) := by decide +kernel
theorem d12 : decode yB 12 = .ok (.invokestatic 495, 3) := by decide +kernel
theorem d15 : decode yB 15 = .ok (.ireturn, 1) := by decide +kernel
def site : List Cond := [.fieldLink "java/lang/String" 9 "java/lang/String" "value" "[B", IsL.tab, LChA.tab] ++ virtW "java/lang/String" 492 "java/lang/String" IsL.yN IsL.yN ++ staticW "java/lang/String" 495 LChA.yN
def tab : Cond := tabOf yN yB 2 (some .char) site
def P (x t : Addr) (V : Cell) (n : Nat) (f : Nat → Int32) (z : Int32) (fm : Value) (i : Nat) (args : Array Value) (s : State) : Prop := args = #[.ref x, .int (Int32.ofNat i)] ∧ Txt x t V 0 n f s ∧ i < n ∧ StaticIs s "java/lang/String" "COMPACT_STRINGS" "Z" (.int z) ∧ ¬ z = 0 ∧ StaticIs s "jdk/internal/util/Preconditions" "SIOOBE_FORMATTER" "Ljava/util/function/BiFunction;" fm ∧ fm.isRef = true
def E (f : Nat → Int32) (i : Nat) (r : Option Value) (s u : State) : Prop := XT.PureE (some (.int (f i))) r s u
/-- charAt(i) of a Latin-1 String of n chars, i < n: f i -/
theorem law (l : Launch) (x t : Addr) (V : Cell) (n : Nat) (f : Nat → Int32) (z : Int32) (fm : Value) (i : Nat) : Law l yN 2 1 3 40 yB 2 (some .char) site (P x t V n f z fm i) (E f i) [] 0 0 := by
  refine Law.of_walk (plainFor_of_name (by decide +kernel)) (by decide +kernel) (by decide +kernel) (by decide) (fun _ _ h => by rw [h.1]; rfl) (fun _ U U' hal hh h => ⟨h.1, h.2.1.mv hal hh, h.2.2.1, h.2.2.2.1.there hal hh, h.2.2.2.2.1, h.2.2.2.2.2.1.there hal hh, h.2.2.2.2.2.2⟩) (fun r U U' V V' h1 hal h2 h => XT.PureE.mv r U U' V V' h1 hal h2 h) ?_
  intro p e s m args below meth c s₁ X0 hexec hbytes hml hret hlk hnm hown hh0 W hP
  obtain ⟨rfl, hx, hi, s1, hz, s3, rf⟩ := hP
  have v31 := hx.2.2.2.1.2.2.2
  have hr := hx.2.2.2.2.2 i hi
  have hx0 := hx.mv X0.warmed.alike hh0
  have c1 : Steps p.tables e below (s₁.setTop (entryFrame m #[.ref x, .int (Int32.ofNat i)] 2)) (s₁.setTop (mkF m 1 #[.val (.ref x), .val (.int (Int32.ofNat i))] [.ref x])) := Steps.trans (entry rfl) (by
    show Steps p.tables e below (s₁.setTop (mkF m 0 #[.val (.ref x), .val (.int (Int32.ofNat i))] [])) _
    refine XS.aloadN X0.here hexec rfl (hb hbytes d0) rfl rfl ?_
    exact Steps.refl _)
  obtain ⟨v2, T2, X2, E2, g2⟩ := X0.callV hexec (IsL.law l x 0 z) hown (wks W (virtW "java/lang/String" 492 "java/lang/String" IsL.yN IsL.yN)) rfl (by decide) (wk W IsL.tab) (W := 0) (Nat.le_of_ble_eq_true rfl) (Nat.le_of_ble_eq_true rfl) (Nat.le_refl _) (Nat.le_refl _) (hx0.1.fc X0.warmed.alike) hx0.1.is (g := (mkF m 1 #[.val (.ref x), .val (.int (Int32.ofNat i))] [.ref x])) rfl (by rw [hml]; rfl) c1 (argsL := []) (rest := []) rfl rfl (by show 2 * 0 + 0 ≤ _; decide) (hb hbytes d1) (⟨rfl, hx0.2.2.1, hx.2.2.2.2.1.cd, s1.there X0.warmed.alike hh0, hz⟩)
  obtain ⟨rfl, q2⟩ := E2
  have hh2 := q2.trans hh0
  have hx2 := hx.mv X2.warmed.alike hh2
  obtain ⟨-, k1, k2⟩ | ⟨k0, -⟩ := hx.2.2.2.2.1
  · have c3 : Steps p.tables e below (s₁.setTop (entryFrame m #[.ref x, .int (Int32.ofNat i)] 2)) (T2.setTop (mkF m 8 #[.val (.ref x), .val (.int (Int32.ofNat i))] [.ref x])) := Steps.trans g2 (by
      refine XS.ifNo X2.here hexec rfl (hb hbytes d4) rfl (i0_eq_f (by decide)) ?_
      refine XS.aloadN X2.here hexec rfl (hb hbytes d7) rfl rfl ?_
      exact Steps.refl _)
    obtain ⟨T4, X4, q4, st4⟩ := X2.hget hexec hown (wk W (.fieldLink "java/lang/String" 9 "java/lang/String" "value" "[B")) hx2.2.1 (g := (mkF m 8 #[.val (.ref x), .val (.int (Int32.ofNat i))] [.ref x])) rfl (rest := []) rfl (hb hbytes d8)
    have hh4 := q4.trans hh2
    have c5 : Steps p.tables e below (s₁.setTop (entryFrame m #[.ref x, .int (Int32.ofNat i)] 2)) (T4.setTop (mkF m 12 #[.val (.ref x), .val (.int (Int32.ofNat i))] [.int (Int32.ofNat i), .ref t])) := (c3.trans (st4 _ (Steps.refl _))).trans (by
      refine XS.iloadN X4.here hexec rfl (hb hbytes d11) rfl ?_
      exact Steps.refl _)
    obtain ⟨v6, T6, X6, E6, g6⟩ := X4.callS hexec (LChA.law l t V i (lo8 (f i)) fm) hown (wks W (staticW "java/lang/String" 495 LChA.yN)) (wk W LChA.tab) (W := 0) (Nat.le_of_ble_eq_true rfl) (Nat.le_of_ble_eq_true rfl) (Nat.le_refl _) (Nat.le_refl _) (g := (mkF m 12 #[.val (.ref x), .val (.int (Int32.ofNat i))] [.int (Int32.ofNat i), .ref t])) rfl (by rw [hml]; rfl) c5 (argsL := [.ref t, .int (Int32.ofNat i)]) (rest := []) rfl rfl (by show 2 * 0 + 0 ≤ _; decide) (hb hbytes d12) (⟨rfl, hx.2.2.2.1.mv X4.warmed.alike hh4, (k2 i hi).1, s3.there X4.warmed.alike hh4, rf⟩)
    obtain ⟨rfl, q6⟩ := E6
    rw [chr8_lo8 hr.1 (k2 i hi).2] at g6
    exact ⟨T6, some (.int (f i)), _, _, _, X6, rfl, rfl, rfl, (fun h => by cases h), ⟨rfl, q6.trans hh4⟩, fun fs hl => Steps.trans g6 (X6.ireturnOut hexec hret (narrow_ch hr.1 hr.2) (Or.inr (Or.inr (Or.inr (Or.inl rfl)))) (hb hbytes d15) hl)⟩
  · exact absurd k0 (by decide)
theorem pays {l : Launch} {R : Room} {p : Program} {e : Env} {below : List Frame} {s : State} {sargs : Array Value} {len W : Nat} (x t : Addr) (V : Cell) (n : Nat) (f : Nat → Int32) (z : Int32) (fm : Value) (i : Nat) (htab : tab.before sargs s = true) (hfr : 4 ≤ R.frames) (hlo : W + 53 ≤ R.locals) :
    Back l R p e below s sargs yN len W (fun A₁ a₁ => A₁.cells + 0 ≤ R.cells ∧ A₁.slots + 0 ≤ R.slots ∧ P x t V n f z fm i a₁ A₁.U) (fun A₁ _ v₁ B₁ => E f i v₁ A₁.U B₁.U ∧ B₁.locs = A₁.locs ++ [] ∧ B₁.cells = A₁.cells + 0 ∧ B₁.slots = A₁.slots + 0) :=
  (law l x t V n f z fm i).pays htab hfr (by omega)
end ChN
end StrChars
namespace StrChars.Road
open Jvm Sem ClassFile Op Lib Jvm.Stand Jvm.Free Jvm.Free.XT
open Jvm.Lib.Cold (StaticIs)
/-- the words of String.charAt(int), the Latin-1 road alone -/
abbrev wordsChN : List Jvm.Cond := [.code ChN.yN ChN.yB 2 (some .char), .initialized ST, .fieldLink ST 9 ST "value" "[B", .fieldLink ST 38 ST "COMPACT_STRINGS" "Z", .fieldLink ST 15 ST "coder" "B", .code IsL.yN IsL.yB 1 (some .boolean), .methodLink ST 492 IsL.yN, .declares IsL.yN, .selects ST IsL.yN IsL.yN, .instanceMethod IsL.yN,
  .methodLink ST 495 LChA.yN, .static LChA.yN, .code LChA.yN LChA.yB 2 (some .char), .initialized "java/lang/StringLatin1", .methodLink "java/lang/StringLatin1" 9 JO.Str_checkIndex.yN, .static JO.Str_checkIndex.yN, .code JO.Str_checkIndex.yN JO.Str_checkIndex.yB 2 none,
  .fieldLink ST 1053 "jdk/internal/util/Preconditions" "SIOOBE_FORMATTER" "Ljava/util/function/BiFunction;", .methodLink ST 1059 JC.PreCheck.yN, .static JC.PreCheck.yN, .code JC.PreCheck.yN JC.PreCheck.yB 3 (some .int), .initialized "jdk/internal/util/Preconditions"]
theorem tabChN_of {a : Array Value} {s : State} (h : ∀ w ∈ wordsChN, w.before a s = true) : ChN.tab.before a s = true := by
  have hp : JC.PreCheck.tab.before a s = true := unparts (wk h (.code JC.PreCheck.yN JC.PreCheck.yB 3 (some .int))) (wks h (.initialized JC.PreCheck.yN.cls :: JC.PreCheck.site))
  have qk := consq hp h
  have hk : JO.Str_checkIndex.tab.before a s = true := unparts (wk qk (.code JO.Str_checkIndex.yN JO.Str_checkIndex.yB 2 none)) (wks qk (.initialized JO.Str_checkIndex.yN.cls :: JO.Str_checkIndex.site))
  have ql := consq hk h
  have hl : LChA.tab.before a s = true := unparts (wk ql (.code LChA.yN LChA.yB 2 (some .char))) (wks ql (.initialized LChA.yN.cls :: LChA.site))
  have hi : IsL.tab.before a s = true := unparts (wk h (.code IsL.yN IsL.yB 1 (some .boolean))) (wks h (.initialized IsL.yN.cls :: IsL.site))
  have q := consq hi (consq hl h)
  exact unparts (wk q (.code ChN.yN ChN.yB 2 (some .char))) (wks q (.initialized ChN.yN.cls :: ChN.site))
theorem movedChN {Z s : State} {a0 args : Array Value} (hZ : Z.Warmed39 s.vm) (hw : ∀ d ∈ wordsChN, d.before a0 Z = true) : ∀ d ∈ wordsChN, d.before args s = true := fun d hd => by
  have t : ∀ d ∈ wordsChN, (d.onTables && d.keepsFace) = true := by decide +kernel
  exact RoadKit.mv hZ (hw d hd) (t d hd)
/-- **charAt(i) OF A LATIN-1 STRING**, i < n: the char -/
theorem chN {p : Program} {l : Launch} {e : Env} {R : Room} {s : State} {args : Array Value} {below : List Frame} {len W : Nat} {Z : State} {a0 : Array Value} {h : Heap} (hZ : Z.Warmed39 s.vm) (hw : ∀ d ∈ wordsChN, d.before a0 Z = true) {kI : Nat} (wi : (Jvm.Cond.instantiable ST kI).before a0 Z = true)
    {x t : Addr} {kb : ClassId} {cs : List Int32} {N2 z : Int32} {vs : List Value} {fm : Value} {i : Nat} {j : Int32} (E : RoadKit.Exa Z h x ST) (V : RoadKit.Fld Z h x ST "value" "[B" (.ref t)) (C : RoadKit.Fld Z h x ST "coder" "B" (.int 0)) (K : RoadKit.Arv Z h t kb .byte N2 vs (.int 0)) (hc : CodA cs 0 N2 vs) (hb : ∀ c ∈ cs, ¬ c < 0 ∧ ¬ (65535 : Int32) < c)
    (S : RoadKit.Sta Z h ST "COMPACT_STRINGS" "Z" (.int z)) (hz : ¬ z = 0) (F : RoadKit.Sta Z h "jdk/internal/util/Preconditions" "SIOOBE_FORMATTER" "Ljava/util/function/BiFunction;" fm) (rf : fm.isRef = true) (l2 : cs.length ≤ 4000) (hi : i < cs.length) (hj : j = Int32.ofNat i) (hfr : 4 ≤ R.frames) (hlo : W + 53 ≤ R.locals) :
    Back l R p e below s args (⟨"java/lang/String", "charAt", "(I)C"⟩ : MethodName) len W (fun P a => a = #[.ref x, .int j] ∧ P.U.heap = h ∧ P.cells + 0 ≤ R.cells ∧ P.slots + 0 ≤ R.slots)
      (fun P _ v B => ∃ L, (v = some (.int (cs.getD i 0)) ∧ L = [] ∧ B.U.heap = h) ∧ B.locs = P.locs ++ L ∧ B.cells = P.cells + 0 ∧ B.slots = P.slots + 0) := by
  subst hj
  intro m meth c P g ig mk a X hg hsize hdg hW hn hp'
  obtain ⟨rfl, rfl, r1, r2⟩ := hp'
  have al : Z.vm.Alike P.U.vm := hZ.alike.trans X.warmed.alike
  obtain ⟨A, hx⟩ := txt_of wi al E V C K hc hb l2
  obtain ⟨v, B, X', ⟨⟨hv, hh⟩, hl, hk, hs⟩, st⟩ := ChN.pays x t A cs.length (fun j => cs.getD j 0) z fm i (tabChN_of (movedChN hZ hw)) hfr hlo m meth c P g ig mk _ X hg hsize hdg hW hn ⟨r1, r2, rfl, hx, hi, sta_is al S, hz, sta_is al F, rf⟩
  exact ⟨v, B, X', ⟨[], ⟨hv, rfl, hh⟩, hl, hk, hs⟩, st⟩
/-- what backV says of its String, as the contracts of this text ask it: cs's low bytes, coder 0 -/
theorem codOf {cs : List Int32} {n : Nat} (hn : cs.length = n) (hb : ∀ c ∈ cs, ¬ 255 < c) : CodA cs 0 (Int32.ofNat n) ((cs.map lo8).map Value.int) := Or.inl ⟨rfl, by rw [hn], by simp [List.map_map, Function.comp_def], hb⟩
end StrChars.Road
end Jvm.Pilot.@@N@@


namespace Jvm.Pilot.@@N@@
open Jvm Jvm.ClassFile Sem Op Lib Jvm.Free Jvm.Stand Jvm.LawKit Jvm.RoadKit Bundle Jvm.Pilot.@@N@@.Jvm.D
def own_Go (tb : Tables) (e : Env) (below : List Frame) (P : Outcome → State → Prop) (U : State) : Prop := ∃ s₂ o, Steps tb e below U s₂ ∧ s₂.status = .running ∧ Ended s₂ below o ∧ P o s₂
theorem own_Go.st {tb : Tables} {e : Env} {below : List Frame} {P : Outcome → State → Prop} {U U' : State} (h : ∀ t, Steps tb e below U' t → Steps tb e below U t) (k : own_Go tb e below P U') : own_Go tb e below P U := by
  obtain ⟨t, o, a, r⟩ := k
  exact ⟨t, o, h t a, r⟩
theorem own_Go.tr {tb : Tables} {e : Env} {below : List Frame} {P : Outcome → State → Prop} {U U' : State} (h : Steps tb e below U U') (k : own_Go tb e below P U') : own_Go tb e below P U := own_Go.st (fun _ a => h.trans a) k
section OwnRet
variable {p : Program} {l : Launch} {e : Env} {R : Room} {s : State} {m : MethodId} {args : Array Value} {below : List Frame} {meth : Method} {c : Code} {T : State} {locs : List Loc} {cells slots : Nat}
theorem own_retI (X : Stand p l e R s m args below meth c T locs cells slots) (hx : p.tables.exec = Jvm.exec) {pc : Nat} {Ls : Array Slot} {z : Int32} {rest : List Value} (hret : meth.sig.returnType = some .int) (hd : decode c.code pc = .ok (.ireturn, 1)) {fs : List Frame}
    (hl : ∀ (f : JFrame) (acts : List Action), f.method = m → f.locked = none → f.entered = [] → (doReturn e (T.setTop f) acts (some (.int z))).1 = T.setFrames fs) : Steps p.tables e below (T.setTop (mkF m pc Ls (.int z :: rest))) (T.setFrames fs) :=
  retOut X hx hret rfl (Or.inl ⟨rfl, Or.inl rfl, z, rfl⟩) hd hl
theorem own_retL (X : Stand p l e R s m args below meth c T locs cells slots) (hx : p.tables.exec = Jvm.exec) {pc : Nat} {Ls : Array Slot} {z : Int64} {rest : List Value} (hret : meth.sig.returnType = some .long) (hd : decode c.code pc = .ok (.lreturn, 1)) {fs : List Frame}
    (hl : ∀ (f : JFrame) (acts : List Action), f.method = m → f.locked = none → f.entered = [] → (doReturn e (T.setTop f) acts (some (.long z))).1 = T.setFrames fs) : Steps p.tables e below (T.setTop (mkF m pc Ls (.long z :: rest))) (T.setFrames fs) :=
  retOut X hx hret rfl (Or.inr (Or.inl ⟨rfl, rfl, z, rfl⟩)) hd hl
theorem own_narRef {t : FieldType} {w : Value} (ht : t.isReference = true) (hw : w.isRef = true) : narrow t w = w := by
  cases t <;> first | rfl | (simp [FieldType.isReference] at ht; done) | (cases w <;> first | rfl | simp [Value.isRef] at hw)
theorem own_retA (X : Stand p l e R s m args below meth c T locs cells slots) (hx : p.tables.exec = Jvm.exec) {pc : Nat} {Ls : Array Slot} {w : Value} {t : FieldType} {rest : List Value} (hret : meth.sig.returnType = some t) (ht : t.isReference = true) (hw : w.isRef = true) (hd : decode c.code pc = .ok (.areturn, 1)) {fs : List Frame}
    (hl : ∀ (f : JFrame) (acts : List Action), f.method = m → f.locked = none → f.entered = [] → (doReturn e (T.setTop f) acts (some w)).1 = T.setFrames fs) : Steps p.tables e below (T.setTop (mkF m pc Ls (w :: rest))) (T.setFrames fs) :=
  retOut X hx hret (own_narRef ht hw) (Or.inr (Or.inr (Or.inr (Or.inr ⟨rfl, ht, hw⟩)))) hd hl
end OwnRet
theorem own_selP {s : State} {args : Array Value} {C : String} {y : MethodName} (h : (Jvm.Cond.selects C y y).before args s = true) (hp : s.PrivateAt y) (hi : (Jvm.Cond.instanceMethod y).before args s = true) (hy : y.cls ≠ "java/lang/invoke/MethodHandle" ∧ y.cls ≠ "java/lang/invoke/VarHandle") : (Jvm.Cond.selects y.cls y y).before args s = true := by
  obtain ⟨c, r, m, -, -, q3, -, mk, k1, k2⟩ := Cond.selects_spec h
  exact Jvm.Stand.selects_self_of_private (findClass_of_methodNamed q3) k1 k2 hp hi hy
theorem own_nf {s : State} {args : Array Value} {C : String} {y y2 : MethodName} (h : (Jvm.Cond.selects C y2 y2).before args s = true) (he : y2.cls = y.cls) : NotFace s y := fun r0 h0 => by
  obtain ⟨c, r, m, -, -, q3, -, mk, k1, k2⟩ := Cond.selects_spec h
  have e1 := findClass_of_methodNamed q3
  have e2 := findClass_of_methodNamed h0
  rw [he] at e1
  have e3 : m.cls = r0.cls := Option.some.inj (e1.symm.trans e2)
  exact ⟨mk, e3 ▸ k1, k2⟩
theorem own_sameP {s : State} {args : Array Value} {C : String} {y y2 : MethodName} (hd : (Jvm.Cond.declares y).before args s = true) (h : (Jvm.Cond.selects C y2 y2).before args s = true) (he : y2.cls = y.cls) (hy : y.cls ≠ "java/lang/invoke/MethodHandle" ∧ y.cls ≠ "java/lang/invoke/VarHandle") : (Jvm.Cond.sameMethod y.cls y.cls y.name y.desc).before args s = true := by
  obtain ⟨c, r, m, -, -, q3, -, mk, k1, k2⟩ := Cond.selects_spec h
  have e1 := findClass_of_methodNamed q3
  rw [he] at e1
  cases hm : s.methodNamed? y with
  | none => simp [Cond.before, Cond.holds, Cond.value, hm] at hd
  | some mm =>
    have hf : s.methodFound? y.cls y.name y.desc = some mm := State.methodFound?_of_named hm hy
    have hm' : s.methodNamed? ⟨y.cls, y.name, y.desc⟩ = some mm := hm
    simp [Cond.before, Cond.holds, Cond.value, e1, hf, hm', k1, k2]
theorem own_nar {x : Int32} (h : ¬ x < 0 ∧ ¬ (65535 : Int32) < x) : nar .char x = x := by
  have q := c_i2c x
  have h1 := h.1; have h2 := h.2
  rw [Int32.lt_iff_toInt_lt] at h1 h2
  have e1 : (0 : Int32).toInt = 0 := by decide
  have e2 : (65535 : Int32).toInt = 65535 := by decide
  rw [e1] at h1; rw [e2] at h2
  show x.toUInt32.toUInt16.toUInt32.toInt32 = x
  apply Int32.toInt_inj.mp
  omega
theorem own_up {x : Int32} (h : ¬ x < 0 ∧ ¬ (255 : Int32) < x) : ¬ x < 0 ∧ ¬ (65535 : Int32) < x := by
  refine ⟨h.1, fun q => h.2 ?_⟩
  rw [Int32.lt_iff_toInt_lt] at q ⊢
  have e1 : (255 : Int32).toInt = 255 := by decide
  have e2 : (65535 : Int32).toInt = 65535 := by decide
  omega
theorem own_arvTy {Z : State} {h : Heap} {a b : Addr} {k k' : ClassId} {ty ty' : FieldType} {n n' : Int32} {vs vs' : List Value} {d d' : Value} (A : Arv Z h a k ty n vs d) (B : Arv Z h b k' ty' n' vs' d') (ht : ty ≠ ty') : a ≠ b := fun q => by
  subst q
  obtain ⟨c, C, -⟩ := A
  obtain ⟨c', C', -⟩ := B
  cases C.1.symm.trans C'.1
  obtain ⟨-, k1, j1, cp1, j2⟩ := C.2.1
  obtain ⟨-, k2, i1, cp2, i2⟩ := C'.2.1
  cases j1.symm.trans i1
  rw [j2] at i2
  cases i2
  exact ht rfl


def own_Str (Z : State) (h : Heap) (x t : Addr) (cs : List Int32) : Prop := ∃ (kb : ClassId) (cd N2 : Int32) (vs : List Value), Exa Z h x "java/lang/String" ∧ Fld Z h x "java/lang/String" "value" "[B" (.ref t) ∧ Fld Z h x "java/lang/String" "coder" "B" (.int cd) ∧ Arv Z h t kb .byte N2 vs (.int 0) ∧ StrChars.Road.CodA cs cd N2 vs ∧ (∀ c ∈ cs, ¬ c < 0 ∧ ¬ (65535 : Int32) < c) ∧ cs.length ≤ 4000
section OwnStr
variable {Z : State} {h h' : Heap} {x t a : Addr} {cs : List Int32} {sl : Nat} {v : Value} {ws : List Addr}
theorem own_Str.ext (F : own_Str Z h x t cs) (E : Ext h h') : own_Str Z h' x t cs := by
  obtain ⟨kb, cd, N2, vs, h1, h2, h3, h4, r⟩ := F
  exact ⟨kb, cd, N2, vs, h1.ext E, h2.ext E, h3.ext E, h4.ext E, r⟩
theorem own_Str.other (F : own_Str Z h x t cs) (W : Wr h h' a sl v) (n1 : x ≠ a) (n2 : t ≠ a) : own_Str Z h' x t cs := by
  obtain ⟨kb, cd, N2, vs, h1, h2, h3, h4, r⟩ := F
  exact ⟨kb, cd, N2, vs, h1.wr W, h2.other W (Or.inl n1), h3.other W (Or.inl n1), h4.other W n2, r⟩
theorem own_Str.keep (F : own_Str Z h x t cs) (K : Keep h h' ws) (n1 : x ∉ ws) (n2 : t ∉ ws) : own_Str Z h' x t cs := by
  obtain ⟨kb, cd, N2, vs, h1, h2, h3, h4, r⟩ := F
  exact ⟨kb, cd, N2, vs, h1.keep K, h2.keep K n1, h3.keep K n1, h4.keep K n2, r⟩
theorem own_Str.exa (F : own_Str Z h x t cs) : Exa Z h x "java/lang/String" := by obtain ⟨kb, cd, N2, vs, h1, -⟩ := F; exact h1
theorem own_Str.lt (F : own_Str Z h x t cs) : x < h.size := F.exa.lt
theorem own_Str.ltv (F : own_Str Z h x t cs) : t < h.size := by obtain ⟨kb, cd, N2, vs, -, -, -, h4, -⟩ := F; exact h4.lt
theorem own_Str.le (F : own_Str Z h x t cs) : cs.length ≤ 4000 := by obtain ⟨kb, cd, N2, vs, -, -, -, -, -, -, h⟩ := F; exact h
theorem own_Str.rng (F : own_Str Z h x t cs) : ∀ c ∈ cs, ¬ c < 0 ∧ ¬ (65535 : Int32) < c := by obtain ⟨kb, cd, N2, vs, -, -, -, -, -, h, -⟩ := F; exact h
theorem own_Str.neArv {b : Addr} {k : ClassId} {ty : FieldType} {n : Int32} {us : List Value} {d : Value} {a0 : Array Value} {kI : Nat} (F : own_Str Z h x t cs) (B : Arv Z h b k ty n us d) (wi : (Jvm.Cond.instantiable "java/lang/String" kI).before a0 Z = true) : x ≠ b := F.exa.neArv B wi
theorem own_Str.neV {b : Addr} {C : String} {a0 : Array Value} {kI : Nat} (F : own_Str Z h x t cs) (E : Exa Z h b C) (wi : (Jvm.Cond.instantiable C kI).before a0 Z = true) : b ≠ t := by
  obtain ⟨kb, cd, N2, vs, -, -, -, h4, -⟩ := F
  exact E.neArv h4 wi
theorem own_Str.neTy {b : Addr} {k : ClassId} {ty : FieldType} {n : Int32} {us : List Value} {d : Value} (F : own_Str Z h x t cs) (B : Arv Z h b k ty n us d) (ht : .byte ≠ ty) : t ≠ b := by
  obtain ⟨kb, cd, N2, vs, -, -, -, h4, -⟩ := F
  exact own_arvTy h4 B ht
end OwnStr


theorem own_a0 {P : Int32 → Prop} : ∀ c ∈ ([] : List Int32), P c := fun _ q => nomatch q
theorem own_aS {P : Int32 → Prop} {x : Int32} {L : List Int32} (h : P x) (r : ∀ c ∈ L, P c) : ∀ c ∈ x :: L, P c := fun c q => (List.mem_cons.mp q).elim (fun u => u ▸ h) (r c)
theorem own_upL {cs : List Int32} (h : ∀ c ∈ cs, ¬ c < 0 ∧ ¬ (255 : Int32) < c) : ∀ c ∈ cs, ¬ c < 0 ∧ ¬ (65535 : Int32) < c := fun c q => own_up (h c q)


theorem own_Str.lat {Z : State} {h : Heap} {x t : Addr} {cs : List Int32} (F : own_Str Z h x t cs) (hl : ∀ c ∈ cs, ¬ (255 : Int32) < c) : ∃ (kb : ClassId) (N2 : Int32) (vs : List Value), Exa Z h x "java/lang/String" ∧ Fld Z h x "java/lang/String" "value" "[B" (.ref t) ∧ Fld Z h x "java/lang/String" "coder" "B" (.int 0) ∧ Arv Z h t kb .byte N2 vs (.int 0) ∧ StrChars.Road.CodA cs 0 N2 vs := by
  obtain ⟨kb, cd, N2, vs, h1, h2, h3, h4, h5, -⟩ := F
  rcases h5 with ⟨rfl, a, b, c⟩ | ⟨-, -, -, c, hc, q⟩
  · exact ⟨kb, N2, vs, h1, h2, h3, h4, Or.inl ⟨rfl, a, b, c⟩⟩
  · exact absurd q (hl c hc)


theorem own_eqv {v : Option Value} {A : Prop} (h : (v = some (.int 1) ∧ A) ∨ (v = some (.int 0) ∧ ¬ A)) : ∃ r : Int32, v = some (.int r) ∧ ((r = 1 ∧ A) ∨ (r = 0 ∧ ¬ A)) := by
  rcases h with ⟨a, b⟩ | ⟨a, b⟩
  · exact ⟨1, a, Or.inl ⟨rfl, b⟩⟩
  · exact ⟨0, a, Or.inr ⟨rfl, b⟩⟩

theorem own_hws {a0 : Array Value} {Z : State} (hw : ∀ d ∈ tables_1, d.before a0 Z = true) : ∀ d ∈ StrChars.Road.words, d.before a0 Z = true := fun d hd => hw d ((by decide +kernel : ∀ d ∈ StrChars.Road.words, d ∈ tables_1) d hd)
theorem own_hln {a0 : Array Value} {Z : State} (hw : ∀ d ∈ tables_1, d.before a0 Z = true) : ∀ d ∈ StrChars.Road.wordsLen, d.before a0 Z = true := fun d hd => hw d ((by decide +kernel : ∀ d ∈ StrChars.Road.wordsLen, d ∈ tables_1) d hd)
theorem own_hch {a0 : Array Value} {Z : State} (hw : ∀ d ∈ tables_1, d.before a0 Z = true) : ∀ d ∈ StrChars.Road.wordsChN, d.before a0 Z = true := fun d hd => hw d ((by decide +kernel : ∀ d ∈ StrChars.Road.wordsChN, d ∈ tables_1) d hd)
theorem own_hem {a0 : Array Value} {Z : State} (hw : ∀ d ∈ tables_1, d.before a0 Z = true) : ∀ d ∈ StrChars.Road.wordsEmp, d.before a0 Z = true := fun d hd => hw d ((by decide +kernel : ∀ d ∈ StrChars.Road.wordsEmp, d ∈ tables_1) d hd)

theorem own_wS {a0 : Array Value} {Z : State} (hw : ∀ d ∈ tables_1, d.before a0 Z = true) : ∀ d ∈ Bundle.stringAtoms, d.before a0 Z = true := fun d hd => hw d ((by decide +kernel : ∀ d ∈ Bundle.stringAtoms, d ∈ tables_1) d hd)
theorem own_safeNull {Z : State} {EL : List (String × Nat)} {vm : Vm} {h : Heap} {x : Addr} (hal : Z.vm.Alike vm) (E : Exa Z h x "java/lang/String") (F : Fld Z h x "java/lang/String" "value" "[B" .null) : Safe Z EL vm h x := fun B => by
  obtain ⟨p, -, u, a, -, q, -, G, hx | hx⟩ := B
  · obtain ⟨cS, ⟨S1, -, -⟩, -⟩ := G
    obtain ⟨g1, -, -, ⟨c', k', i', g2, -⟩, -, -, -, g3, -⟩ := S1
    obtain ⟨cell, cf, k, i, f, e1, e2, -, -, -, -, e3⟩ := F
    obtain ⟨k2, g4⟩ := ff_back (U := Wst Z vm h) hal g2
    rw [hx] at e1
    have e4 : cell = q.sC := Option.some.inj (e1.symm.trans g1)
    have e5 : f = q.fSV := by
      have e6 := Option.some.inj (e2.symm.trans g4)
      simp only [Prod.mk.injEq] at e6
      exact e6.2.2.2
    rw [e4, e5, g3] at e3
    cases e3
  · have hd := G.hd
    obtain ⟨cS, -, -, f, -⟩ := G
    obtain ⟨cell, k, e1, e2, -⟩ := E
    rw [hx] at e1
    have e4 : cell = q.SA := Option.some.inj (e1.symm.trans hd)
    have f' : Z.vm.findClass "[B" = some q.SA.cls := by rw [← hal.findClass]; exact f
    rw [e4] at e2
    obtain ⟨k1, q1, q2⟩ := Vm.findClass_spec f'
    obtain ⟨k2, q3, q4⟩ := Vm.findClass_spec e2
    cases q1.symm.trans q3
    exact absurd (q2.symm.trans q4) (by decide)


theorem own_of {i : Nat} (h : i < 2147483648) : (Int32.ofNat i).toInt = i := Int32.toInt_ofNat_small h
theorem own_ofn {i : Nat} (h : i < 2147483648) : (Int32.ofNat i).toNatClampNeg = i := by
  have := own_of h
  simp only [Int32.toNatClampNeg, this]
  omega
theorem own_of0 {i : Nat} (h : i < 2147483648) : ¬ (Int32.ofNat i) < 0 := by
  have := own_of h
  have e0 : (0 : Int32).toInt = 0 := by decide
  rw [Int32.lt_iff_toInt_lt, this, e0]
  omega
theorem own_oflt {i j : Nat} (hi : i < 2147483648) (hj : j < 2147483648) : (Int32.ofNat i) < (Int32.ofNat j) ↔ i < j := by
  rw [Int32.lt_iff_toInt_lt, own_of hi, own_of hj]
  omega
theorem own_ofS {i : Nat} (h : i < 1073741823) : Int32.ofNat i + (1 : Int32) = Int32.ofNat (i + 1) := by
  apply Int32.toInt_inj.mp
  have a := c_iadd (Int32.ofNat i) 1
  have b := own_of (i := i) (by omega)
  have c := own_of (i := i + 1) (by omega)
  have r := rng32 (Int32.ofNat i + 1)
  have e1 : (1 : Int32).toInt = 1 := by decide
  omega
theorem own_getD {cs : List Int32} {i : Nat} (hi : i < cs.length) (hl : cs.length ≤ 4000) (d : Value) : (cs.map Value.int).getD (Int32.ofNat i).toNatClampNeg d = .int (cs.getD i 0) := by
  rw [own_ofn (by omega)]
  simp [List.getD_eq_getElem?_getD, hi]
theorem own_arvAny {Z : State} {h h' : Heap} {a : Addr} {k : ClassId} {ty : FieldType} {n j : Int32} {vs : List Value} {d v : Value} (F : Arv Z h a k ty n vs d) (hv : fits ty v = true) (hj : ¬ j < 0 ∧ j < n) (W : Wr h h' a j.toNatClampNeg v) : ∃ vs', Arv Z h' a k ty n vs' d := by
  have F' := F.pad (pad_rep vs d (j.toNatClampNeg + 1))
  obtain ⟨c, A, q1, S, q3, H, G⟩ := F'
  exact ⟨_, Arv.set A q1 S q3 H G hv W j.toNatClampNeg rfl (by simp only [List.length_append, List.length_replicate]; omega)⟩


theorem own_Str.latF {Z : State} {h : Heap} {x t : Addr} {cs : List Int32} (F : own_Str Z h x t cs) (hl : ∀ c ∈ cs, ¬ (255 : Int32) < c) : ∃ (kb : ClassId), Exa Z h x "java/lang/String" ∧ Fld Z h x "java/lang/String" "value" "[B" (.ref t) ∧ Fld Z h x "java/lang/String" "coder" "B" (.int (0 : Int32)) ∧ Arv Z h t kb .byte (Int32.ofNat cs.length) (cs.map fun c => Value.int (StrChars.lo8 c)) (.int (0 : Int32)) := by
  obtain ⟨kb, N2, vs, h1, h2, h3, h4, h5⟩ := F.lat hl
  rcases h5 with ⟨-, hN, hv, -⟩ | ⟨q, -⟩
  · subst hN hv; exact ⟨kb, h1, h2, h3, h4⟩
  · exact absurd q (by decide)
theorem own_Str.mkL {Z : State} {h : Heap} {x t : Addr} {cs : List Int32} {kb : ClassId} (h1 : Exa Z h x "java/lang/String") (h2 : Fld Z h x "java/lang/String" "value" "[B" (.ref t)) (h3 : Fld Z h x "java/lang/String" "coder" "B" (.int (0 : Int32))) (h4 : Arv Z h t kb .byte (Int32.ofNat cs.length) (cs.map fun c => Value.int (StrChars.lo8 c)) (.int (0 : Int32))) (hl : ∀ c ∈ cs, ¬ c < 0 ∧ ¬ (255 : Int32) < c) (hn : cs.length ≤ 4000) : own_Str Z h x t cs :=
  ⟨kb, 0, _, _, h1, h2, h3, h4, Or.inl ⟨rfl, rfl, rfl, fun c q => (hl c q).2⟩, own_upL hl, hn⟩
theorem own_shl0 (x : Int32) : x <<< ((0 : Int32) &&& 31) = x := by
  apply Int32.toInt_inj.mp
  have a := c_ishl x 0 0 (by decide)
  have r := rng32 x
  have r2 := rng32 (x <<< ((0 : Int32) &&& 31))
  omega
theorem own_shr0 (x : Int32) : x >>> ((0 : Int32) &&& 31) = x := by
  apply Int32.toInt_inj.mp
  have a := c_ishr x 0 0 (by decide)
  omega
theorem own_ofA {i j : Nat} (h : i + j < 1073741823) : Int32.ofNat i + Int32.ofNat j = Int32.ofNat (i + j) := by
  apply Int32.toInt_inj.mp
  have a := c_iadd (Int32.ofNat i) (Int32.ofNat j)
  have b := own_of (i := i) (by omega)
  have c := own_of (i := j) (by omega)
  have d := own_of (i := i + j) (by omega)
  have r := rng32 (Int32.ofNat i + Int32.ofNat j)
  omega
theorem own_ofB {i j : Nat} (h : i < 1073741823) (hj : j ≤ i) : Int32.ofNat i - Int32.ofNat j = Int32.ofNat (i - j) := by
  apply Int32.toInt_inj.mp
  have a := c_isub (Int32.ofNat i) (Int32.ofNat j)
  have b := own_of (i := i) (by omega)
  have c := own_of (i := j) (by omega)
  have d := own_of (i := i - j) (by omega)
  have r := rng32 (Int32.ofNat i - Int32.ofNat j)
  omega
theorem own_ofBle {i j : Nat} (h : i < 1073741823) (hj : j < 1073741823) : (0 : Int32) < Int32.ofNat i - Int32.ofNat j ↔ j < i := by
  have a := c_isub (Int32.ofNat i) (Int32.ofNat j)
  have b := own_of (i := i) (by omega)
  have c := own_of (i := j) (by omega)
  have r := rng32 (Int32.ofNat i - Int32.ofNat j)
  have e0 : (0 : Int32).toInt = 0 := by decide
  rw [Int32.lt_iff_toInt_lt, e0]
  omega
theorem own_ofE {i j : Nat} (hi : i < 2147483648) (hj : j < 2147483648) : Int32.ofNat i = Int32.ofNat j ↔ i = j := ⟨fun q => by
    have q2 := congrArg Int32.toInt q
    rw [own_of hi, own_of hj] at q2
    omega, fun q => by rw [q]⟩
abbrev own_low (cs : List Int32) : List Value := cs.map fun c => Value.int (StrChars.lo8 c)
theorem own_lowG (cs : List Int32) (i : Nat) (d : Value) : (own_low cs).getD i d = if i < cs.length then .int (StrChars.lo8 (cs.getD i 0)) else d := by
  by_cases h : i < cs.length
  · simp [own_low, List.getD_eq_getElem?_getD, h]
  · simp [own_low, List.getD_eq_getElem?_getD, h, List.getElem?_eq_none (Nat.le_of_not_lt h)]
theorem own_appG (cs ds : List Int32) (i : Nat) : (cs ++ ds).getD i 0 = if i < cs.length then cs.getD i 0 else ds.getD (i - cs.length) 0 := by
  by_cases h : i < cs.length
  · rw [if_pos h]; simp [List.getD_eq_getElem?_getD, List.getElem?_append_left h]
  · rw [if_neg h]; simp [List.getD_eq_getElem?_getD, List.getElem?_append_right (Nat.le_of_not_lt h)]
theorem own_us (ds : List Int32) (hn : ds.length < 2147483648) : own_low ds = (List.range (Int32.ofNat ds.length).toNatClampNeg).map fun i => (own_low ds).getD ((0 : Int32).toNatClampNeg + i) (.int (0 : Int32)) := by
  rw [own_ofn hn]
  have e0 : (0 : Int32).toNatClampNeg = 0 := by decide
  rw [e0]
  apply List.ext_getElem
  · simp [own_low]
  · intro i h1 h2
    simp [own_low, List.getD_eq_getElem?_getD] at h1 ⊢
    simp [h1]
theorem own_appV {Z : State} {h : Heap} {a : Addr} {k : ClassId} {n : Int32} {cs ds : List Int32} {m : Nat} (F : Arv Z h a k .byte n (((own_low cs ++ List.replicate m (Value.int (0 : Int32))).take (Int32.ofNat cs.length).toNatClampNeg) ++ own_low ds ++ ((own_low cs ++ List.replicate m (Value.int (0 : Int32))).drop ((Int32.ofNat cs.length).toNatClampNeg + (Int32.ofNat ds.length).toNatClampNeg))) (.int (0 : Int32))) (h1 : cs.length < 100000) (h2 : ds.length < 100000) : Arv Z h a k .byte n (own_low (cs ++ ds)) (.int (0 : Int32)) := by
  refine F.pad (fun i => ?_)
  rw [own_ofn (by omega), own_ofn (by omega)]
  have e1 : (own_low cs ++ List.replicate m (Value.int (0 : Int32))).take cs.length = own_low cs := by
    rw [List.take_append_of_le_length (by simp [own_low]), List.take_of_length_le (by simp [own_low])]
  have e2 : (own_low cs ++ List.replicate m (Value.int (0 : Int32))).drop (cs.length + ds.length) = List.replicate (m - ds.length) (Value.int (0 : Int32)) := by
    rw [List.drop_append, List.drop_of_length_le (by simp [own_low]), List.drop_replicate, List.nil_append]
    congr 1
    simp [own_low]
  rw [e1, e2, show own_low (cs ++ ds) = own_low cs ++ own_low ds by simp [own_low]]
  exact (pad_rep (own_low cs ++ own_low ds) _ _ i).symm
theorem own_latT {cs : List Int32} {i m : Nat} (h : ∀ c ∈ cs, ¬ c < 0 ∧ ¬ (255 : Int32) < c) : ∀ c ∈ (cs.drop i).take m, ¬ c < 0 ∧ ¬ (255 : Int32) < c := fun c hc => h c (List.mem_of_mem_drop (List.mem_of_mem_take hc))
theorem own_latA {a b : List Int32} (h1 : ∀ c ∈ a, ¬ c < 0 ∧ ¬ (255 : Int32) < c) (h2 : ∀ c ∈ b, ¬ c < 0 ∧ ¬ (255 : Int32) < c) : ∀ c ∈ a ++ b, ¬ c < 0 ∧ ¬ (255 : Int32) < c := fun c hc => (List.mem_append.mp hc).elim (h1 c) (h2 c)
theorem own_subl {cs : List Int32} {i m : Nat} (h : i + m ≤ cs.length) : ((cs.drop i).take m).length = m := by simp; omega

theorem pn_0 : plainName "java/lang/AbstractStringBuilder" = true := by first | (simp [plainName, overriddenIn]; done) | decide +kernel
theorem ef_1 (m : MethodId) (x0 : Nat) (x1 : Int32) : entryFrame m #[(.ref x0), (.int x1)] 2 = mkF m 0 #[.val (.ref x0), .val (.int x1)] [] := by first | (simp [entryFrame, mkF, argsToLocals, Value.category]; done) | rfl
theorem d_jdk_68_method_2_0 : decode jdk_68_method_2_code 0 = .ok (.aload_n 0, 1) := by decide +kernel
theorem d_jdk_68_method_2_1 : decode jdk_68_method_2_code 1 = .ok (.invokespecial 3, 3) := by decide +kernel
theorem d_jdk_68_method_2_4 : decode jdk_68_method_2_code 4 = .ok (.getstatic 18, 3) := by decide +kernel
theorem d_jdk_68_method_2_7 : decode jdk_68_method_2_code 7 = .ok (.ifCond .eq 18, 3) := by decide +kernel
theorem d_jdk_68_method_2_10 : decode jdk_68_method_2_code 10 = .ok (.aload_n 0, 1) := by decide +kernel
theorem d_jdk_68_method_2_11 : decode jdk_68_method_2_code 11 = .ok (.iload_n 1, 1) := by decide +kernel
theorem d_jdk_68_method_2_12 : decode jdk_68_method_2_code 12 = .ok (.newarray .byte, 2) := by decide +kernel
theorem d_jdk_68_method_2_14 : decode jdk_68_method_2_code 14 = .ok (.putfield 15, 3) := by decide +kernel
theorem d_jdk_68_method_2_17 : decode jdk_68_method_2_code 17 = .ok (.aload_n 0, 1) := by decide +kernel
theorem d_jdk_68_method_2_18 : decode jdk_68_method_2_code 18 = .ok (.iconst 0, 1) := by decide +kernel
theorem d_jdk_68_method_2_19 : decode jdk_68_method_2_code 19 = .ok (.putfield 22, 3) := by decide +kernel
theorem d_jdk_68_method_2_22 : decode jdk_68_method_2_code 22 = .ok (.goto 16, 3) := by decide +kernel
theorem d_jdk_68_method_2_38 : decode jdk_68_method_2_code 38 = .ok (.return_, 1) := by decide +kernel
def Q_asbinit (Z : State) (a1 : Nat) (zc : Int32) (h0 : Heap) (v : Option Value) (h : Heap) (L : List Loc) : Prop := ∃ (a3 : Nat), ∃ (k : ClassId), v = none ∧ Fr Z.heap.size L ∧ Keep h0 h [a1] ∧ Exa Z h a1 "java/lang/StringBuilder" ∧ Fld Z h a1 "java/lang/AbstractStringBuilder" "value" "[B" (.ref a3) ∧ Fld Z h a1 "java/lang/AbstractStringBuilder" "coder" "B" (.int (0 : Int32)) ∧ Fld Z h a1 "java/lang/AbstractStringBuilder" "count" "I" (.int (0 : Int32)) ∧ Arv Z h a3 k .byte (Int32.ofNat 16) (own_low ([] : List Int32)) (.int (0 : Int32)) ∧ (h0.size ≤ a3)
set_option maxRecDepth 65536 in
set_option maxHeartbeats 40000000 in
theorem rm_asbinit (l : Launch) (Z : State) (a0 : Array Value) (hw : ∀ d ∈ tables_1, d.before a0 Z = true) (ws : List Jvm.Cond) (a1 : Nat) (zc : Int32) (h0 : Heap) (OL : Old Z Z.heap.size h0) (p0_ : Exa Z h0 a1 "java/lang/StringBuilder") (p1_ : Fld Z h0 a1 "java/lang/AbstractStringBuilder" "value" "[B" .null) (p2_ : Fld Z h0 a1 "java/lang/AbstractStringBuilder" "coder" "B" (.int (0 : Int32))) (p3_ : Fld Z h0 a1 "java/lang/AbstractStringBuilder" "count" "I" (.int (0 : Int32))) (st_COMPACT_STRINGS : Sta Z Z.heap "java/lang/String" "COMPACT_STRINGS" "Z" (.int zc)) (hzc : ¬ zc = 0) (hn0 : Z.heap.size ≤ a1) :
    MetFree l (⟨"java/lang/AbstractStringBuilder", "<init>", "(I)V"⟩ : MethodName) (head1 (Jvm.Cond.code (⟨"java/lang/AbstractStringBuilder", "<init>", "(I)V"⟩ : MethodName) jdk_68_method_2_code 2 none :: ws) ({ frames := 1, cells := 1, slots := 16, locals := 12 } : Room)) (fun a U => a = #[(.ref a1), (.int (16 : Int32))] ∧ Z.Warmed39 U.vm ∧ U.heap = h0) (fun _ _ _ _ _ => True) (fun _ U o U' => ∃ v L, o = .returned v ∧ Q_asbinit Z a1 zc h0 v U'.heap L ∧ FrameEnd U o U' L ({ frames := 1, cells := 1, slots := 16, locals := 12 } : Room).cells ({ frames := 1, cells := 1, slots := 16, locals := 12 } : Room).slots) := by
  refine MetFree.of_bodySF (plainFor_of_name pn_0) hisR ?_
  intro p e s m args below meth c s₁ Bd hml0 hP hK
  obtain ⟨rfl, hZ, hh⟩ := hP
  have hx := Bd.exec
  have hby := Bd.bytes
  have hml : c.maxLocals = 2 := hml0
  have hown : s.vm.findClass "java/lang/AbstractStringBuilder" = some m.cls := findClass_of_methodNamed Bd.named
  have hnm := (name_of_methodNamed Bd.named Bd.method).1
  have X0 : Stand p l e ({ frames := 1, cells := 1, slots := 16, locals := 12 } : Room) s m #[(.ref a1), (.int (16 : Int32))] below meth c s₁ [] 0 0 := Stand.of_body Bd
  have e0 : s₁.heap = h0 := by rw [← hh, Bd.state]; rfl
  have N0 := Fr.nil Z.heap.size
  have Z0 : Z.heap.size ≤ h0.size := OL.2.1
  have lt_0 : @LT.lt Nat _ a1 h0.size := p0_.lt
  have lt_1 : @LT.lt Nat _ a1 h0.size := p1_.lt
  have lt_2 : @LT.lt Nat _ a1 h0.size := p2_.lt
  have lt_3 : @LT.lt Nat _ a1 h0.size := p3_.lt
  obtain ⟨PP, hPP⟩ : ∃ PP : Outcome → State → Prop, PP = (fun o tE => ∃ v L, o = .returned v ∧ Q_asbinit Z a1 zc h0 v tE.heap L ∧ FrameEnd s o tE L ({ frames := 1, cells := 1, slots := 16, locals := 12 } : Room).cells ({ frames := 1, cells := 1, slots := 16, locals := 12 } : Room).slots) := ⟨_, rfl⟩
  show own_Go p.tables e below (fun o tE => ∃ v L, o = .returned v ∧ Q_asbinit Z a1 zc h0 v tE.heap L ∧ FrameEnd s o tE L ({ frames := 1, cells := 1, slots := 16, locals := 12 } : Room).cells ({ frames := 1, cells := 1, slots := 16, locals := 12 } : Room).slots) (s₁.setTop (entryFrame m #[(.ref a1), (.int (16 : Int32))] 2))
  rw [← hPP]
  refine own_Go.st (fun t k => castTop (ef_1 m a1 (16 : Int32)) k) ?_
  show own_Go _ _ _ _ (s₁.setTop (mkF m 0 #[.val (.ref a1), .val (.int (16 : Int32))] []))
  refine own_Go.st (fun _ k => XS.aloadN X0.here hx rfl (hb hby d_jdk_68_method_2_0) rfl rfl k) ?_
  show own_Go _ _ _ _ (s₁.setTop (mkF m 1 #[.val (.ref a1), .val (.int (16 : Int32))] [(.ref a1)]))
  obtain ⟨T101, X101, e101, st101⟩ := initO X0 hx hZ hown (hw _ (List.mem_of_getElem? (i := 29) rfl)) (hw _ (List.mem_of_getElem? (i := 30) rfl)) (hw _ (List.mem_of_getElem? (i := 31) rfl)) e0 (g := (mkF m 1 #[.val (.ref a1), .val (.int (16 : Int32))] [(.ref a1)])) rfl (by rw [hml]; rfl) rfl (hb hby d_jdk_68_method_2_1) (by decide) (W := 0) (by show 2 * 0 + _ ≤ _; exact Nat.le_of_eq rfl) (by decide)
  refine own_Go.st st101 ?_
  show own_Go _ _ _ _ (T101.setTop (mkF m 4 #[.val (.ref a1), .val (.int (16 : Int32))] []))
  obtain ⟨T102, X102, e102, st102⟩ := getS2 X101 hx hZ hown (host := "") (Or.inl (hw _ (List.mem_of_getElem? (i := 32) rfl))) Via.refl e101 (st_COMPACT_STRINGS.ext OL.2) (g := (mkF m 4 #[.val (.ref a1), .val (.int (16 : Int32))] [])) rfl (hb hby d_jdk_68_method_2_4)
  refine own_Go.st st102 ?_
  show own_Go _ _ _ _ (T102.setTop (mkF m 7 #[.val (.ref a1), .val (.int (16 : Int32))] [(.int zc)]))
  have hc103 : ¬ (zc = (0 : Int32)) := hzc
  refine own_Go.st (fun _ k => XS.ifNo X102.here hx rfl (hb hby d_jdk_68_method_2_7) rfl ((if0 _ _).trans (feq hc103).1) k) ?_
  show own_Go _ _ _ _ (T102.setTop (mkF m 10 #[.val (.ref a1), .val (.int (16 : Int32))] []))
  refine own_Go.st (fun _ k => XS.aloadN X102.here hx rfl (hb hby d_jdk_68_method_2_10) rfl rfl k) ?_
  show own_Go _ _ _ _ (T102.setTop (mkF m 11 #[.val (.ref a1), .val (.int (16 : Int32))] [(.ref a1)]))
  refine own_Go.st (fun _ k => XS.iloadN X102.here hx rfl (hb hby d_jdk_68_method_2_11) rfl k) ?_
  show own_Go _ _ _ _ (T102.setTop (mkF m 12 #[.val (.ref a1), .val (.int (16 : Int32))] [(.int (16 : Int32)), (.ref a1)]))
  obtain ⟨T104, h104, k104, X104, e104, E104, A104, st104⟩ := newP X102 hx hZ (hw _ (List.mem_of_getElem? (i := 7) rfl)) e102 (g := (mkF m 12 #[.val (.ref a1), .val (.int (16 : Int32))] [(.int (16 : Int32)), (.ref a1)])) rfl (hb hby d_jdk_68_method_2_12) rfl (by decide) (cap := 16) (by decide) (by decide) (by decide) (by decide)
  obtain ⟨b104, g104⟩ : ∃ z, z = h0.size := ⟨_, rfl⟩
  rw [← g104] at A104 st104
  refine own_Go.st st104 ?_
  have z104 : h0.size ≤ h104.size := E104.1
  have f105 : Arv Z h104 b104 k104 .byte (16 : Int32) [] (.int (0 : Int32)) := Arv.new A104 (by decide)
  have lt_b104 : @LT.lt Nat _ b104 h104.size := f105.lt
  show own_Go _ _ _ _ (T104.setTop (mkF m 14 #[.val (.ref a1), .val (.int (16 : Int32))] [(.ref b104), (.ref a1)]))
  have f106 : Fld Z h104 a1 "java/lang/AbstractStringBuilder" "value" "[B" .null := p1_.ext E104
  have f107 : Exa Z h104 a1 "java/lang/StringBuilder" := p0_.ext E104
  obtain ⟨T108, h108, X108, e108, W108, st108⟩ := putF X104 hx hZ hown (host := "") (Or.inl (hw _ (List.mem_of_getElem? (i := 33) rfl))) Via.refl e104 f106 f107 (Or.inl (hw _ (List.mem_of_getElem? (i := 34) rfl))) (hw _ (List.mem_of_getElem? (i := 18) rfl)) (ty := (.array .byte)) (by decide) rfl rfl (g := (mkF m 14 #[.val (.ref a1), .val (.int (16 : Int32))] [(.ref b104), (.ref a1)])) rfl rfl (hb hby d_jdk_68_method_2_14)
  refine own_Go.st st108 ?_
  have N108 := Fr.snoc X108 N0 (by omega)
  have z108 : h104.size ≤ h108.size := Nat.le_of_eq W108.size.symm
  have f109 : Fld Z h108 a1 "java/lang/AbstractStringBuilder" "value" "[B" (.ref b104) := f106.same W108
  show own_Go _ _ _ _ (T108.setTop (mkF m 17 #[.val (.ref a1), .val (.int (16 : Int32))] []))
  refine own_Go.st (fun _ k => XS.aloadN X108.here hx rfl (hb hby d_jdk_68_method_2_17) rfl rfl k) ?_
  show own_Go _ _ _ _ (T108.setTop (mkF m 18 #[.val (.ref a1), .val (.int (16 : Int32))] [(.ref a1)]))
  refine own_Go.st (fun _ k => XS.iconst X108.here hx rfl (hb hby d_jdk_68_method_2_18) k) ?_
  show own_Go _ _ _ _ (T108.setTop (mkF m 19 #[.val (.ref a1), .val (.int (16 : Int32))] [(.int (0 : Int32)), (.ref a1)]))
  have f110 : Fld Z h104 a1 "java/lang/AbstractStringBuilder" "coder" "B" (.int (0 : Int32)) := p2_.ext E104
  have f111 : Fld Z h108 a1 "java/lang/AbstractStringBuilder" "coder" "B" (.int (0 : Int32)) := f110.other W108 (Or.inr (slot_ne (Or.inl (hw _ (List.mem_of_getElem? (i := 36) rfl))) (Or.inl (hw _ (List.mem_of_getElem? (i := 34) rfl))) (by decide) (t := .byte) (t' := (.array .byte)) (by decide) (by decide)))
  have f112 : Exa Z h108 a1 "java/lang/StringBuilder" := f107.wr W108
  obtain ⟨T113, h113, X113, e113, W113, st113⟩ := putF X108 hx hZ hown (host := "") (Or.inl (hw _ (List.mem_of_getElem? (i := 35) rfl))) Via.refl e108 f111 f112 (Or.inl (hw _ (List.mem_of_getElem? (i := 36) rfl))) (hw _ (List.mem_of_getElem? (i := 18) rfl)) (ty := .byte) (by decide) rfl (by decide) (g := (mkF m 19 #[.val (.ref a1), .val (.int (16 : Int32))] [(.int (0 : Int32)), (.ref a1)])) rfl rfl (hb hby d_jdk_68_method_2_19)
  refine own_Go.st st113 ?_
  have N113 := Fr.snoc X113 N108 (by omega)
  have z113 : h108.size ≤ h113.size := Nat.le_of_eq W113.size.symm
  have f114 : Fld Z h113 a1 "java/lang/AbstractStringBuilder" "coder" "B" (.int (0 : Int32)) := f111.same W113
  show own_Go _ _ _ _ (T113.setTop (mkF m 22 #[.val (.ref a1), .val (.int (16 : Int32))] []))
  refine own_Go.st (fun _ k => XS.goto X113.here hx rfl (pc0 := 22) (pc' := 38) rfl (hb hby d_jdk_68_method_2_22) (by decide) (by decide) k) ?_
  show own_Go _ _ _ _ (T113.setTop (mkF m 38 #[.val (.ref a1), .val (.int (16 : Int32))] []))
  obtain ⟨fs115, hr115, hrun115, hend115, hW115, hsm115⟩ := X113.leave (v := none) (fun _ => rfl)
  have f116 : Fld Z h113 a1 "java/lang/AbstractStringBuilder" "value" "[B" (.ref b104) := f109.other W113 (Or.inr (slot_ne (Or.inl (hw _ (List.mem_of_getElem? (i := 34) rfl))) (Or.inl (hw _ (List.mem_of_getElem? (i := 36) rfl))) (by decide) (t := (.array .byte)) (t' := .byte) (by decide) (by decide)))
  have f117 : Fld Z h104 a1 "java/lang/AbstractStringBuilder" "count" "I" (.int (0 : Int32)) := p3_.ext E104
  have f118 : Fld Z h108 a1 "java/lang/AbstractStringBuilder" "count" "I" (.int (0 : Int32)) := f117.other W108 (Or.inr (slot_ne (Or.inl (hw _ (List.mem_of_getElem? (i := 61) rfl))) (Or.inl (hw _ (List.mem_of_getElem? (i := 34) rfl))) (by decide) (t := .int) (t' := (.array .byte)) (by decide) (by decide)))
  have f119 : Fld Z h113 a1 "java/lang/AbstractStringBuilder" "count" "I" (.int (0 : Int32)) := f118.other W113 (Or.inr (slot_ne (Or.inl (hw _ (List.mem_of_getElem? (i := 61) rfl))) (Or.inl (hw _ (List.mem_of_getElem? (i := 36) rfl))) (by decide) (t := .int) (t' := .byte) (by decide) (by decide)))
  have ne120 : @Ne Nat a1 b104 := Exa.neArv f107 f105 (hw _ (List.mem_of_getElem? (i := 18) rfl))
  have f121 : Arv Z h108 b104 k104 .byte (16 : Int32) [] (.int (0 : Int32)) := f105.other W108 (Ne.symm ne120)
  have f122 : Arv Z h113 b104 k104 .byte (16 : Int32) [] (.int (0 : Int32)) := f121.other W113 (Ne.symm ne120)
  have K123 : Keep h0 h104 [a1] := (Keep.refl h0 [a1]).ext E104
  have K124 : Keep h0 h108 [a1] := K123.wr W108 (Or.inl (List.mem_of_getElem? (i := 0) rfl))
  have K125 : Keep h0 h113 [a1] := K124.wr W113 (Or.inl (List.mem_of_getElem? (i := 0) rfl))
  have f126 : Exa Z h113 a1 "java/lang/StringBuilder" := f112.wr W113
  subst hPP
  refine ⟨_, _, X113.returnOut hx Bd.returns (hb hby d_jdk_68_method_2_38) hr115, hrun115, hend115, _, _, rfl, ?_, ⟨_, rfl⟩, hW115, hsm115.mono (by decide) (by decide)⟩
  · show Q_asbinit Z _ _ h0 _ T113.heap _
    rw [e113]
    exact ⟨b104, k104, rfl, N113, K125, f126, f116, f114, f119, f122, (by omega)⟩
theorem pn_15 : plainName "java/lang/StringBuilder" = true := by first | (simp [plainName, overriddenIn]; done) | decide +kernel
theorem ef_16 (m : MethodId) (x0 : Nat) : entryFrame m #[(.ref x0)] 1 = mkF m 0 #[.val (.ref x0)] [] := by first | (simp [entryFrame, mkF, argsToLocals, Value.category]; done) | rfl
theorem d_jdk_67_method_1_0 : decode jdk_67_method_1_code 0 = .ok (.aload_n 0, 1) := by decide +kernel
theorem d_jdk_67_method_1_1 : decode jdk_67_method_1_code 1 = .ok (.bipush 16, 2) := by decide +kernel
theorem pd_19 : parseMethodDescriptor "(I)V" = some ⟨[.int], none⟩ := by decide +kernel
theorem d_jdk_67_method_1_3 : decode jdk_67_method_1_code 3 = .ok (.invokespecial 1, 3) := by decide +kernel
theorem d_jdk_67_method_1_6 : decode jdk_67_method_1_code 6 = .ok (.return_, 1) := by decide +kernel
def Q_sbinit (Z : State) (a1 : Nat) (zc : Int32) (h0 : Heap) (v : Option Value) (h : Heap) (L : List Loc) : Prop := ∃ (a3 : Nat), ∃ (k : ClassId), v = none ∧ Fr Z.heap.size L ∧ Keep h0 h [a1] ∧ Exa Z h a1 "java/lang/StringBuilder" ∧ Fld Z h a1 "java/lang/AbstractStringBuilder" "value" "[B" (.ref a3) ∧ Fld Z h a1 "java/lang/AbstractStringBuilder" "coder" "B" (.int (0 : Int32)) ∧ Fld Z h a1 "java/lang/AbstractStringBuilder" "count" "I" (.int (0 : Int32)) ∧ Arv Z h a3 k .byte (Int32.ofNat 16) (own_low ([] : List Int32)) (.int (0 : Int32)) ∧ (h0.size ≤ a3)
set_option maxRecDepth 65536 in
set_option maxHeartbeats 40000000 in
theorem rm_sbinit (l : Launch) (Z : State) (a0 : Array Value) (hw : ∀ d ∈ tables_1, d.before a0 Z = true) (ws : List Jvm.Cond) (a1 : Nat) (zc : Int32) (h0 : Heap) (OL : Old Z Z.heap.size h0) (p0_ : Exa Z h0 a1 "java/lang/StringBuilder") (p1_ : Fld Z h0 a1 "java/lang/AbstractStringBuilder" "value" "[B" .null) (p2_ : Fld Z h0 a1 "java/lang/AbstractStringBuilder" "coder" "B" (.int (0 : Int32))) (p3_ : Fld Z h0 a1 "java/lang/AbstractStringBuilder" "count" "I" (.int (0 : Int32))) (st_COMPACT_STRINGS : Sta Z Z.heap "java/lang/String" "COMPACT_STRINGS" "Z" (.int zc)) (hzc : ¬ zc = 0) (hn0 : Z.heap.size ≤ a1) :
    MetFree l (⟨"java/lang/StringBuilder", "<init>", "()V"⟩ : MethodName) (head1 (Jvm.Cond.code (⟨"java/lang/StringBuilder", "<init>", "()V"⟩ : MethodName) jdk_67_method_1_code 1 none :: ws) ({ frames := 2, cells := 1, slots := 16, locals := 27 } : Room)) (fun a U => a = #[(.ref a1)] ∧ Z.Warmed39 U.vm ∧ U.heap = h0) (fun _ _ _ _ _ => True) (fun _ U o U' => ∃ v L, o = .returned v ∧ Q_sbinit Z a1 zc h0 v U'.heap L ∧ FrameEnd U o U' L ({ frames := 2, cells := 1, slots := 16, locals := 27 } : Room).cells ({ frames := 2, cells := 1, slots := 16, locals := 27 } : Room).slots) := by
  refine MetFree.of_bodySF (plainFor_of_name pn_15) hisR ?_
  intro p e s m args below meth c s₁ Bd hml0 hP hK
  obtain ⟨rfl, hZ, hh⟩ := hP
  have hx := Bd.exec
  have hby := Bd.bytes
  have hml : c.maxLocals = 1 := hml0
  have hown : s.vm.findClass "java/lang/StringBuilder" = some m.cls := findClass_of_methodNamed Bd.named
  have hnm := (name_of_methodNamed Bd.named Bd.method).1
  have X0 : Stand p l e ({ frames := 2, cells := 1, slots := 16, locals := 27 } : Room) s m #[(.ref a1)] below meth c s₁ [] 0 0 := Stand.of_body Bd
  have e0 : s₁.heap = h0 := by rw [← hh, Bd.state]; rfl
  have N0 := Fr.nil Z.heap.size
  have Z0 : Z.heap.size ≤ h0.size := OL.2.1
  have lt_0 : @LT.lt Nat _ a1 h0.size := p0_.lt
  have lt_1 : @LT.lt Nat _ a1 h0.size := p1_.lt
  have lt_2 : @LT.lt Nat _ a1 h0.size := p2_.lt
  have lt_3 : @LT.lt Nat _ a1 h0.size := p3_.lt
  obtain ⟨PP, hPP⟩ : ∃ PP : Outcome → State → Prop, PP = (fun o tE => ∃ v L, o = .returned v ∧ Q_sbinit Z a1 zc h0 v tE.heap L ∧ FrameEnd s o tE L ({ frames := 2, cells := 1, slots := 16, locals := 27 } : Room).cells ({ frames := 2, cells := 1, slots := 16, locals := 27 } : Room).slots) := ⟨_, rfl⟩
  show own_Go p.tables e below (fun o tE => ∃ v L, o = .returned v ∧ Q_sbinit Z a1 zc h0 v tE.heap L ∧ FrameEnd s o tE L ({ frames := 2, cells := 1, slots := 16, locals := 27 } : Room).cells ({ frames := 2, cells := 1, slots := 16, locals := 27 } : Room).slots) (s₁.setTop (entryFrame m #[(.ref a1)] 1))
  rw [← hPP]
  refine own_Go.st (fun t k => castTop (ef_16 m a1) k) ?_
  show own_Go _ _ _ _ (s₁.setTop (mkF m 0 #[.val (.ref a1)] []))
  refine own_Go.st (fun _ k => XS.aloadN X0.here hx rfl (hb hby d_jdk_67_method_1_0) rfl rfl k) ?_
  show own_Go _ _ _ _ (s₁.setTop (mkF m 1 #[.val (.ref a1)] [(.ref a1)]))
  refine own_Go.st (fun _ k => XS.bipush X0.here hx rfl (hb hby d_jdk_67_method_1_1) k) ?_
  show own_Go _ _ _ _ (s₁.setTop (mkF m 3 #[.val (.ref a1)] [(.int (16 : Int32)), (.ref a1)]))
  obtain ⟨_, _, ⟨T127, L127, k127, n127⟩, -, X127, ⟨Lc127, hQ127, l127, y127, z127⟩, st127⟩ := X0.specialBack hx (y := (⟨"java/lang/AbstractStringBuilder", "<init>", "(I)V"⟩ : MethodName)) rfl hown (mvT hZ (hw _ (List.mem_of_getElem? (i := 23) rfl))) (mvT hZ (hw _ (List.mem_of_getElem? (i := 24) rfl))) (mvT hZ (hw _ (List.mem_of_getElem? (i := 28) rfl))) (by decide) (backOf (W := 0) (rm_asbinit l Z a0 hw [] a1 zc h0 OL p0_ p1_ p2_ p3_ st_COMPACT_STRINGS (by first | assumption | decide) (by first | assumption | decide)) hZ (hw _ (List.mem_of_getElem? (i := 28) rfl)) (hw _ (List.mem_of_getElem? (i := 27) rfl)) (by decide) (by decide)) (g := (mkF m 3 #[.val (.ref a1)] [(.int (16 : Int32)), (.ref a1)])) rfl (by rw [hml]; rfl) (Steps.refl _) (a := a1) (argsL := [(.int (16 : Int32))]) (rest := []) (lenOf pd_19 rfl) rfl (by show 2 * 0 + _ ≤ _; exact Nat.le_of_eq rfl) (hb hby d_jdk_67_method_1_3) (fun _ _ => ⟨rfl, e0, (by decide : 0 + 1 ≤ _), (by decide : 0 + 16 ≤ _)⟩)
  dsimp only [Pt.U, Pt.locs, Pt.cells, Pt.slots] at X127 l127 y127 z127 st127 hQ127
  subst l127 y127 z127
  obtain ⟨a3_127, k_127, rfl, N127q, K127, f127_0, f127_1, f127_2, f127_3, f127_4, pr127_0⟩ := hQ127
  have N127 := Fr.app N0 N127q
  have z127 : h0.size ≤ T127.heap.size := K127.1
  have lt127_0 : @LT.lt Nat _ a1 T127.heap.size := f127_0.lt
  have lt127_1 : @LT.lt Nat _ a1 T127.heap.size := f127_1.lt
  have lt127_2 : @LT.lt Nat _ a1 T127.heap.size := f127_2.lt
  have lt127_3 : @LT.lt Nat _ a1 T127.heap.size := f127_3.lt
  have lt127_4 : @LT.lt Nat _ a3_127 T127.heap.size := f127_4.lt
  refine own_Go.tr st127 ?_
  show own_Go _ _ _ _ (T127.setTop (mkF m 6 #[.val (.ref a1)] []))
  obtain ⟨fs128, hr128, hrun128, hend128, hW128, hsm128⟩ := X127.leave (v := none) (fun _ => rfl)
  have K129 : Keep h0 T127.heap [a1] := (Keep.refl h0 [a1]).trans K127 (allS (Or.inl (List.mem_of_getElem? (i := 0) rfl)) all0)
  subst hPP
  refine ⟨_, _, X127.returnOut hx Bd.returns (hb hby d_jdk_67_method_1_6) hr128, hrun128, hend128, _, _, rfl, ?_, ⟨_, rfl⟩, hW128, hsm128.mono (by decide) (by decide)⟩
  · show Q_sbinit Z _ _ h0 _ T127.heap _
    exact ⟨a3_127, k_127, rfl, N127, K129, f127_0, f127_1, f127_2, f127_3, f127_4, (by omega)⟩
theorem pn_22 : plainName "java/lang/String" = true := by first | (simp [plainName, overriddenIn]; done) | decide +kernel
theorem d_jdk_42_method_152_0 : decode jdk_42_method_152_code 0 = .ok (.getstatic 38, 3) := by decide +kernel
theorem d_jdk_42_method_152_3 : decode jdk_42_method_152_code 3 = .ok (.ifCond .eq 10, 3) := by decide +kernel
theorem d_jdk_42_method_152_6 : decode jdk_42_method_152_code 6 = .ok (.aload_n 0, 1) := by decide +kernel
theorem d_jdk_42_method_152_7 : decode jdk_42_method_152_code 7 = .ok (.getfield 15, 3) := by decide +kernel
theorem d_jdk_42_method_152_10 : decode jdk_42_method_152_code 10 = .ok (.goto 4, 3) := by decide +kernel
theorem d_jdk_42_method_152_14 : decode jdk_42_method_152_code 14 = .ok (.ireturn, 1) := by decide +kernel
def Q_scoder (Z : State) (a1 : Nat) (zc : Int32) (h0 : Heap) (v : Option Value) (h : Heap) (L : List Loc) : Prop := v = some (.int (0 : Int32)) ∧ Fr Z.heap.size L ∧ h = h0
set_option maxRecDepth 65536 in
set_option maxHeartbeats 40000000 in
theorem rm_scoder (l : Launch) (Z : State) (a0 : Array Value) (hw : ∀ d ∈ tables_1, d.before a0 Z = true) (ws : List Jvm.Cond) (a1 : Nat) (zc : Int32) (h0 : Heap) (OL : Old Z Z.heap.size h0) (p0_ : Fld Z h0 a1 "java/lang/String" "coder" "B" (.int (0 : Int32))) (st_COMPACT_STRINGS : Sta Z Z.heap "java/lang/String" "COMPACT_STRINGS" "Z" (.int zc)) (hzc : ¬ zc = 0) :
    MetFree l (⟨"java/lang/String", "coder", "()B"⟩ : MethodName) (head1 (Jvm.Cond.code (⟨"java/lang/String", "coder", "()B"⟩ : MethodName) jdk_42_method_152_code 1 (some .byte) :: ws) ({ frames := 0, cells := 0, slots := 0, locals := 0 } : Room)) (fun a U => a = #[(.ref a1)] ∧ Z.Warmed39 U.vm ∧ U.heap = h0) (fun _ _ _ _ _ => True) (fun _ U o U' => ∃ v L, o = .returned v ∧ Q_scoder Z a1 zc h0 v U'.heap L ∧ FrameEnd U o U' L ({ frames := 0, cells := 0, slots := 0, locals := 0 } : Room).cells ({ frames := 0, cells := 0, slots := 0, locals := 0 } : Room).slots) := by
  refine MetFree.of_bodySF (plainFor_of_name pn_22) hisR ?_
  intro p e s m args below meth c s₁ Bd hml0 hP hK
  obtain ⟨rfl, hZ, hh⟩ := hP
  have hx := Bd.exec
  have hby := Bd.bytes
  have hml : c.maxLocals = 1 := hml0
  have hown : s.vm.findClass "java/lang/String" = some m.cls := findClass_of_methodNamed Bd.named
  have hnm := (name_of_methodNamed Bd.named Bd.method).1
  have X0 : Stand p l e ({ frames := 0, cells := 0, slots := 0, locals := 0 } : Room) s m #[(.ref a1)] below meth c s₁ [] 0 0 := Stand.of_body Bd
  have e0 : s₁.heap = h0 := by rw [← hh, Bd.state]; rfl
  have N0 := Fr.nil Z.heap.size
  have Z0 : Z.heap.size ≤ h0.size := OL.2.1
  have lt_0 : @LT.lt Nat _ a1 h0.size := p0_.lt
  obtain ⟨PP, hPP⟩ : ∃ PP : Outcome → State → Prop, PP = (fun o tE => ∃ v L, o = .returned v ∧ Q_scoder Z a1 zc h0 v tE.heap L ∧ FrameEnd s o tE L ({ frames := 0, cells := 0, slots := 0, locals := 0 } : Room).cells ({ frames := 0, cells := 0, slots := 0, locals := 0 } : Room).slots) := ⟨_, rfl⟩
  show own_Go p.tables e below (fun o tE => ∃ v L, o = .returned v ∧ Q_scoder Z a1 zc h0 v tE.heap L ∧ FrameEnd s o tE L ({ frames := 0, cells := 0, slots := 0, locals := 0 } : Room).cells ({ frames := 0, cells := 0, slots := 0, locals := 0 } : Room).slots) (s₁.setTop (entryFrame m #[(.ref a1)] 1))
  rw [← hPP]
  refine own_Go.st (fun t k => castTop (ef_16 m a1) k) ?_
  show own_Go _ _ _ _ (s₁.setTop (mkF m 0 #[.val (.ref a1)] []))
  obtain ⟨T130, X130, e130, st130⟩ := getS2 X0 hx hZ hown (host := "") (Or.inl (hw _ (List.mem_of_getElem? (i := 58) rfl))) Via.refl e0 (st_COMPACT_STRINGS.ext OL.2) (g := (mkF m 0 #[.val (.ref a1)] [])) rfl (hb hby d_jdk_42_method_152_0)
  refine own_Go.st st130 ?_
  show own_Go _ _ _ _ (T130.setTop (mkF m 3 #[.val (.ref a1)] [(.int zc)]))
  have hc131 : ¬ (zc = (0 : Int32)) := hzc
  refine own_Go.st (fun _ k => XS.ifNo X130.here hx rfl (hb hby d_jdk_42_method_152_3) rfl ((if0 _ _).trans (feq hc131).1) k) ?_
  show own_Go _ _ _ _ (T130.setTop (mkF m 6 #[.val (.ref a1)] []))
  refine own_Go.st (fun _ k => XS.aloadN X130.here hx rfl (hb hby d_jdk_42_method_152_6) rfl rfl k) ?_
  show own_Go _ _ _ _ (T130.setTop (mkF m 7 #[.val (.ref a1)] [(.ref a1)]))
  obtain ⟨T132, X132, e132, st132⟩ := getF X130 hx hZ hown (host := "") (Or.inl (hw _ (List.mem_of_getElem? (i := 59) rfl))) Via.refl e130 p0_ (g := (mkF m 7 #[.val (.ref a1)] [(.ref a1)])) rfl rfl (hb hby d_jdk_42_method_152_7)
  refine own_Go.st st132 ?_
  show own_Go _ _ _ _ (T132.setTop (mkF m 10 #[.val (.ref a1)] [(.int (0 : Int32))]))
  refine own_Go.st (fun _ k => XS.goto X132.here hx rfl (pc0 := 10) (pc' := 14) rfl (hb hby d_jdk_42_method_152_10) (by decide) (by decide) k) ?_
  show own_Go _ _ _ _ (T132.setTop (mkF m 14 #[.val (.ref a1)] [(.int (0 : Int32))]))
  obtain ⟨fs133, hr133, hrun133, hend133, hW133, hsm133⟩ := X132.leave (v := some (.int (nar .byte (0 : Int32)))) (fun h => by rw [Bd.returns] at h; cases h)
  subst hPP
  refine ⟨_, _, retN X132 hx (t := .byte) Bd.returns (by simp) (hb hby d_jdk_42_method_152_14) hr133, hrun133, hend133, _, _, rfl, ?_, ⟨_, rfl⟩, hW133, hsm133.mono (by decide) (by decide)⟩
  · show Q_scoder Z _ _ h0 _ T132.heap _
    rw [e132]
    exact ⟨rfl, N0, rfl⟩
theorem ef_29 (m : MethodId) (x0 : Nat) (x1 : Nat) : entryFrame m #[(.ref x0), (.ref x1)] 2 = mkF m 0 #[.val (.ref x0), .val (.ref x1)] [] := by first | (simp [entryFrame, mkF, argsToLocals, Value.category]; done) | rfl
theorem d_jdk_68_method_71_0 : decode jdk_68_method_71_code 0 = .ok (.getstatic 18, 3) := by decide +kernel
theorem d_jdk_68_method_71_3 : decode jdk_68_method_71_code 3 = .ok (.ifCond .eq 18, 3) := by decide +kernel
theorem d_jdk_68_method_71_6 : decode jdk_68_method_71_code 6 = .ok (.aload_n 0, 1) := by decide +kernel
theorem d_jdk_68_method_71_7 : decode jdk_68_method_71_code 7 = .ok (.getfield 22, 3) := by decide +kernel
theorem d_jdk_68_method_71_10 : decode jdk_68_method_71_code 10 = .ok (.aload_n 1, 1) := by decide +kernel
theorem pd_35 : parseMethodDescriptor "()B" = some ⟨[], some .byte⟩ := by decide +kernel
theorem d_jdk_68_method_71_11 : decode jdk_68_method_71_code 11 = .ok (.invokevirtual 40, 3) := by decide +kernel
theorem d_jdk_68_method_71_14 : decode jdk_68_method_71_code 14 = .ok (.if_icmp .eq 7, 3) := by decide +kernel
theorem d_jdk_68_method_71_21 : decode jdk_68_method_71_code 21 = .ok (.return_, 1) := by decide +kernel
def Q_inflate (Z : State) (a1 : Nat) (a2 : Nat) (zc : Int32) (h0 : Heap) (v : Option Value) (h : Heap) (L : List Loc) : Prop := v = none ∧ Fr Z.heap.size L ∧ h = h0
set_option maxRecDepth 65536 in
set_option maxHeartbeats 40000000 in
theorem rm_inflate (l : Launch) (Z : State) (a0 : Array Value) (hw : ∀ d ∈ tables_1, d.before a0 Z = true) (ws : List Jvm.Cond) (a1 : Nat) (a2 : Nat) (zc : Int32) (h0 : Heap) (OL : Old Z Z.heap.size h0) (p0_ : Fld Z h0 a1 "java/lang/AbstractStringBuilder" "coder" "B" (.int (0 : Int32))) (p1_ : Exa Z h0 a2 "java/lang/String") (p2_ : Fld Z h0 a2 "java/lang/String" "coder" "B" (.int (0 : Int32))) (st_COMPACT_STRINGS : Sta Z Z.heap "java/lang/String" "COMPACT_STRINGS" "Z" (.int zc)) (hzc : ¬ zc = 0) :
    MetFree l (⟨"java/lang/AbstractStringBuilder", "inflateIfNeededFor", "(Ljava/lang/String;)V"⟩ : MethodName) (head1 (Jvm.Cond.code (⟨"java/lang/AbstractStringBuilder", "inflateIfNeededFor", "(Ljava/lang/String;)V"⟩ : MethodName) jdk_68_method_71_code 2 none :: ws) ({ frames := 1, cells := 0, slots := 0, locals := 13 } : Room)) (fun a U => a = #[(.ref a1), (.ref a2)] ∧ Z.Warmed39 U.vm ∧ U.heap = h0) (fun _ _ _ _ _ => True) (fun _ U o U' => ∃ v L, o = .returned v ∧ Q_inflate Z a1 a2 zc h0 v U'.heap L ∧ FrameEnd U o U' L ({ frames := 1, cells := 0, slots := 0, locals := 13 } : Room).cells ({ frames := 1, cells := 0, slots := 0, locals := 13 } : Room).slots) := by
  refine MetFree.of_bodySF (plainFor_of_name pn_0) hisR ?_
  intro p e s m args below meth c s₁ Bd hml0 hP hK
  obtain ⟨rfl, hZ, hh⟩ := hP
  have hx := Bd.exec
  have hby := Bd.bytes
  have hml : c.maxLocals = 2 := hml0
  have hown : s.vm.findClass "java/lang/AbstractStringBuilder" = some m.cls := findClass_of_methodNamed Bd.named
  have hnm := (name_of_methodNamed Bd.named Bd.method).1
  have X0 : Stand p l e ({ frames := 1, cells := 0, slots := 0, locals := 13 } : Room) s m #[(.ref a1), (.ref a2)] below meth c s₁ [] 0 0 := Stand.of_body Bd
  have e0 : s₁.heap = h0 := by rw [← hh, Bd.state]; rfl
  have N0 := Fr.nil Z.heap.size
  have Z0 : Z.heap.size ≤ h0.size := OL.2.1
  have lt_0 : @LT.lt Nat _ a1 h0.size := p0_.lt
  have lt_1 : @LT.lt Nat _ a2 h0.size := p1_.lt
  have lt_2 : @LT.lt Nat _ a2 h0.size := p2_.lt
  obtain ⟨PP, hPP⟩ : ∃ PP : Outcome → State → Prop, PP = (fun o tE => ∃ v L, o = .returned v ∧ Q_inflate Z a1 a2 zc h0 v tE.heap L ∧ FrameEnd s o tE L ({ frames := 1, cells := 0, slots := 0, locals := 13 } : Room).cells ({ frames := 1, cells := 0, slots := 0, locals := 13 } : Room).slots) := ⟨_, rfl⟩
  show own_Go p.tables e below (fun o tE => ∃ v L, o = .returned v ∧ Q_inflate Z a1 a2 zc h0 v tE.heap L ∧ FrameEnd s o tE L ({ frames := 1, cells := 0, slots := 0, locals := 13 } : Room).cells ({ frames := 1, cells := 0, slots := 0, locals := 13 } : Room).slots) (s₁.setTop (entryFrame m #[(.ref a1), (.ref a2)] 2))
  rw [← hPP]
  refine own_Go.st (fun t k => castTop (ef_29 m a1 a2) k) ?_
  show own_Go _ _ _ _ (s₁.setTop (mkF m 0 #[.val (.ref a1), .val (.ref a2)] []))
  obtain ⟨T134, X134, e134, st134⟩ := getS2 X0 hx hZ hown (host := "") (Or.inl (hw _ (List.mem_of_getElem? (i := 32) rfl))) Via.refl e0 (st_COMPACT_STRINGS.ext OL.2) (g := (mkF m 0 #[.val (.ref a1), .val (.ref a2)] [])) rfl (hb hby d_jdk_68_method_71_0)
  refine own_Go.st st134 ?_
  show own_Go _ _ _ _ (T134.setTop (mkF m 3 #[.val (.ref a1), .val (.ref a2)] [(.int zc)]))
  have hc135 : ¬ (zc = (0 : Int32)) := hzc
  refine own_Go.st (fun _ k => XS.ifNo X134.here hx rfl (hb hby d_jdk_68_method_71_3) rfl ((if0 _ _).trans (feq hc135).1) k) ?_
  show own_Go _ _ _ _ (T134.setTop (mkF m 6 #[.val (.ref a1), .val (.ref a2)] []))
  refine own_Go.st (fun _ k => XS.aloadN X134.here hx rfl (hb hby d_jdk_68_method_71_6) rfl rfl k) ?_
  show own_Go _ _ _ _ (T134.setTop (mkF m 7 #[.val (.ref a1), .val (.ref a2)] [(.ref a1)]))
  obtain ⟨T136, X136, e136, st136⟩ := getF X134 hx hZ hown (host := "") (Or.inl (hw _ (List.mem_of_getElem? (i := 35) rfl))) Via.refl e134 p0_ (g := (mkF m 7 #[.val (.ref a1), .val (.ref a2)] [(.ref a1)])) rfl rfl (hb hby d_jdk_68_method_71_7)
  refine own_Go.st st136 ?_
  show own_Go _ _ _ _ (T136.setTop (mkF m 10 #[.val (.ref a1), .val (.ref a2)] [(.int (0 : Int32))]))
  refine own_Go.st (fun _ k => XS.aloadN X136.here hx rfl (hb hby d_jdk_68_method_71_10) rfl rfl k) ?_
  show own_Go _ _ _ _ (T136.setTop (mkF m 11 #[.val (.ref a1), .val (.ref a2)] [(.ref a2), (.int (0 : Int32))]))
  obtain ⟨cq137, kq137, q137a, q137b, q137c⟩ := isOf hZ e136 p1_
  obtain ⟨_, _, ⟨T137, L137, k137, n137⟩, -, X137, ⟨Lc137, hQ137, l137, y137, z137⟩, st137⟩ := X136.virtualBack hx (y := (⟨"java/lang/String", "coder", "()B"⟩ : MethodName)) (z := (⟨"java/lang/String", "coder", "()B"⟩ : MethodName)) hown (mvT hZ (hw _ (List.mem_of_getElem? (i := 77) rfl))) (mvT hZ (hw _ (List.mem_of_getElem? (i := 54) rfl))) (notFace_of_selects (args := #[]) (mvT hZ (hw _ (List.mem_of_getElem? (i := 56) rfl)))) (mvT hZ (hw _ (List.mem_of_getElem? (i := 56) rfl))) (mvT hZ (hw _ (List.mem_of_getElem? (i := 55) rfl))) (by decide) (backOf (W := 1) (rm_scoder l Z a0 hw [] a2 zc h0 OL p2_ st_COMPACT_STRINGS (by first | assumption | decide)) hZ (hw _ (List.mem_of_getElem? (i := 57) rfl)) (hw _ (List.mem_of_getElem? (i := 5) rfl)) (by decide) (by decide)) q137a q137c (g := (mkF m 11 #[.val (.ref a1), .val (.ref a2)] [(.ref a2), (.int (0 : Int32))])) rfl (by rw [hml]; rfl) (Steps.refl _) (argsL := []) (rest := [(.int (0 : Int32))]) (lenOf pd_35 rfl) rfl (by show 2 * 0 + _ ≤ _; exact Nat.le_of_eq rfl) (hb hby d_jdk_68_method_71_11) (fun _ _ => ⟨rfl, e136, (by decide : 0 + 0 ≤ _), (by decide : 0 + 0 ≤ _)⟩)
  dsimp only [Pt.U, Pt.locs, Pt.cells, Pt.slots] at X137 l137 y137 z137 st137 hQ137
  subst l137 y137 z137
  obtain ⟨rfl, N137q, K137⟩ := hQ137
  have N137 := Fr.app N0 N137q
  refine own_Go.tr st137 ?_
  show own_Go _ _ _ _ (T137.setTop (mkF m 14 #[.val (.ref a1), .val (.ref a2)] [(.int (0 : Int32)), (.int (0 : Int32))]))
  refine own_Go.st (fun _ k => XS.icmpYes X137.here hx rfl (pc0 := 14) (pc' := 21) rfl (hb hby d_jdk_68_method_71_14) rfl (teq (rfl : (0 : Int32) = (0 : Int32))).1 (by decide) (by decide) k) ?_
  show own_Go _ _ _ _ (T137.setTop (mkF m 21 #[.val (.ref a1), .val (.ref a2)] []))
  obtain ⟨fs138, hr138, hrun138, hend138, hW138, hsm138⟩ := X137.leave (v := none) (fun _ => rfl)
  subst hPP
  refine ⟨_, _, X137.returnOut hx Bd.returns (hb hby d_jdk_68_method_71_21) hr138, hrun138, hend138, _, _, rfl, ?_, ⟨_, rfl⟩, hW138, hsm138.mono (by decide) (by decide)⟩
  · show Q_inflate Z _ _ _ h0 _ T137.heap _
    rw [K137]
    exact ⟨rfl, N137, rfl⟩
theorem ef_39 (m : MethodId) (x0 : Nat) (x1 : Nat) (x2 : Int32) (x3 : Int32) : entryFrame m #[(.ref x0), (.ref x1), (.int x2), (.int x3)] 4 = mkF m 0 #[.val (.ref x0), .val (.ref x1), .val (.int x2), .val (.int x3)] [] := by first | (simp [entryFrame, mkF, argsToLocals, Value.category]; done) | rfl
theorem d_jdk_42_method_147_0 : decode jdk_42_method_147_code 0 = .ok (.aload_n 0, 1) := by decide +kernel
theorem d_jdk_42_method_147_1 : decode jdk_42_method_147_code 1 = .ok (.invokevirtual 335, 3) := by decide +kernel
theorem d_jdk_42_method_147_4 : decode jdk_42_method_147_code 4 = .ok (.iload_n 3, 1) := by decide +kernel
theorem d_jdk_42_method_147_5 : decode jdk_42_method_147_code 5 = .ok (.if_icmp .ne 23, 3) := by decide +kernel
theorem d_jdk_42_method_147_8 : decode jdk_42_method_147_code 8 = .ok (.aload_n 0, 1) := by decide +kernel
theorem d_jdk_42_method_147_9 : decode jdk_42_method_147_code 9 = .ok (.getfield 9, 3) := by decide +kernel
theorem d_jdk_42_method_147_12 : decode jdk_42_method_147_code 12 = .ok (.iconst 0, 1) := by decide +kernel
theorem d_jdk_42_method_147_13 : decode jdk_42_method_147_code 13 = .ok (.aload_n 1, 1) := by decide +kernel
theorem d_jdk_42_method_147_14 : decode jdk_42_method_147_code 14 = .ok (.iload_n 2, 1) := by decide +kernel
theorem d_jdk_42_method_147_15 : decode jdk_42_method_147_code 15 = .ok (.iload_n 3, 1) := by decide +kernel
theorem d_jdk_42_method_147_16 : decode jdk_42_method_147_code 16 = .ok (.ishl, 1) := by decide +kernel
theorem d_jdk_42_method_147_17 : decode jdk_42_method_147_code 17 = .ok (.aload_n 0, 1) := by decide +kernel
theorem d_jdk_42_method_147_18 : decode jdk_42_method_147_code 18 = .ok (.getfield 9, 3) := by decide +kernel
theorem d_jdk_42_method_147_21 : decode jdk_42_method_147_code 21 = .ok (.arraylength, 1) := by decide +kernel
theorem d_jdk_42_method_147_22 : decode jdk_42_method_147_code 22 = .ok (.invokestatic 212, 3) := by decide +kernel
theorem d_jdk_42_method_147_25 : decode jdk_42_method_147_code 25 = .ok (.goto 18, 3) := by decide +kernel
theorem d_jdk_42_method_147_43 : decode jdk_42_method_147_code 43 = .ok (.return_, 1) := by decide +kernel
def Q_getBytes (Z : State) (a1 : Nat) (a2 : Nat) (p3 : Int32) (t : Nat) (cs : List Int32) (ds : List Int32) (cap : Nat) (k : ClassId) (kt : ClassId) (zc : Int32) (h0 : Heap) (v : Option Value) (h : Heap) (L : List Loc) : Prop := v = none ∧ Fr Z.heap.size L ∧ Keep h0 h [a2] ∧ Arv Z h a2 k .byte (Int32.ofNat cap) (own_low (cs ++ ds)) (.int (0 : Int32))
set_option maxRecDepth 65536 in
set_option maxHeartbeats 40000000 in
theorem rm_getBytes (l : Launch) (Z : State) (a0 : Array Value) (hw : ∀ d ∈ tables_1, d.before a0 Z = true) (ws : List Jvm.Cond) (a1 : Nat) (a2 : Nat) (p3 : Int32) (t : Nat) (cs : List Int32) (ds : List Int32) (cap : Nat) (k : ClassId) (kt : ClassId) (zc : Int32) (h0 : Heap) (OL : Old Z Z.heap.size h0) (p0_ : Exa Z h0 a1 "java/lang/String") (p1_ : Fld Z h0 a1 "java/lang/String" "value" "[B" (.ref t)) (p2_ : Fld Z h0 a1 "java/lang/String" "coder" "B" (.int (0 : Int32))) (p3_ : Arv Z h0 t kt .byte (Int32.ofNat ds.length) (own_low ds) (.int (0 : Int32))) (p4_ : Arv Z h0 a2 k .byte (Int32.ofNat cap) (own_low cs) (.int (0 : Int32))) (st_COMPACT_STRINGS : Sta Z Z.heap "java/lang/String" "COMPACT_STRINGS" "Z" (.int zc)) (hzc : ¬ zc = 0) (hp3 : p3 = Int32.ofNat cs.length) (hfit : cs.length + ds.length ≤ cap) (hcap : cap ≤ 100) (hne : @Ne Nat t a2) (hn0 : Z.heap.size ≤ a2) :
    MetFree l (⟨"java/lang/String", "getBytes", "([BIB)V"⟩ : MethodName) (head1 (Jvm.Cond.code (⟨"java/lang/String", "getBytes", "([BIB)V"⟩ : MethodName) jdk_42_method_147_code 4 none :: ws) ({ frames := 1, cells := 0, slots := 0, locals := 40 } : Room)) (fun a U => a = #[(.ref a1), (.ref a2), (.int p3), (.int (0 : Int32))] ∧ Z.Warmed39 U.vm ∧ U.heap = h0) (fun _ _ _ _ _ => True) (fun _ U o U' => ∃ v L, o = .returned v ∧ Q_getBytes Z a1 a2 p3 t cs ds cap k kt zc h0 v U'.heap L ∧ FrameEnd U o U' L ({ frames := 1, cells := 0, slots := 0, locals := 40 } : Room).cells ({ frames := 1, cells := 0, slots := 0, locals := 40 } : Room).slots) := by
  refine MetFree.of_bodySF (plainFor_of_name pn_22) hisR ?_
  intro p e s m args below meth c s₁ Bd hml0 hP hK
  obtain ⟨rfl, hZ, hh⟩ := hP
  have hx := Bd.exec
  have hby := Bd.bytes
  have hml : c.maxLocals = 4 := hml0
  have hown : s.vm.findClass "java/lang/String" = some m.cls := findClass_of_methodNamed Bd.named
  have hnm := (name_of_methodNamed Bd.named Bd.method).1
  have X0 : Stand p l e ({ frames := 1, cells := 0, slots := 0, locals := 40 } : Room) s m #[(.ref a1), (.ref a2), (.int p3), (.int (0 : Int32))] below meth c s₁ [] 0 0 := Stand.of_body Bd
  have e0 : s₁.heap = h0 := by rw [← hh, Bd.state]; rfl
  have N0 := Fr.nil Z.heap.size
  have Z0 : Z.heap.size ≤ h0.size := OL.2.1
  have lt_0 : @LT.lt Nat _ a1 h0.size := p0_.lt
  have lt_1 : @LT.lt Nat _ a1 h0.size := p1_.lt
  have lt_2 : @LT.lt Nat _ a1 h0.size := p2_.lt
  have lt_3 : @LT.lt Nat _ t h0.size := p3_.lt
  have lt_4 : @LT.lt Nat _ a2 h0.size := p4_.lt
  obtain ⟨PP, hPP⟩ : ∃ PP : Outcome → State → Prop, PP = (fun o tE => ∃ v L, o = .returned v ∧ Q_getBytes Z a1 a2 p3 t cs ds cap k kt zc h0 v tE.heap L ∧ FrameEnd s o tE L ({ frames := 1, cells := 0, slots := 0, locals := 40 } : Room).cells ({ frames := 1, cells := 0, slots := 0, locals := 40 } : Room).slots) := ⟨_, rfl⟩
  show own_Go p.tables e below (fun o tE => ∃ v L, o = .returned v ∧ Q_getBytes Z a1 a2 p3 t cs ds cap k kt zc h0 v tE.heap L ∧ FrameEnd s o tE L ({ frames := 1, cells := 0, slots := 0, locals := 40 } : Room).cells ({ frames := 1, cells := 0, slots := 0, locals := 40 } : Room).slots) (s₁.setTop (entryFrame m #[(.ref a1), (.ref a2), (.int p3), (.int (0 : Int32))] 4))
  rw [← hPP]
  refine own_Go.st (fun t k => castTop (ef_39 m a1 a2 p3 (0 : Int32)) k) ?_
  subst hp3
  show own_Go _ _ _ _ (s₁.setTop (mkF m 0 #[.val (.ref a1), .val (.ref a2), .val (.int (Int32.ofNat cs.length)), .val (.int (0 : Int32))] []))
  refine own_Go.st (fun _ k => XS.aloadN X0.here hx rfl (hb hby d_jdk_42_method_147_0) rfl rfl k) ?_
  show own_Go _ _ _ _ (s₁.setTop (mkF m 1 #[.val (.ref a1), .val (.ref a2), .val (.int (Int32.ofNat cs.length)), .val (.int (0 : Int32))] [(.ref a1)]))
  obtain ⟨cq139, kq139, q139a, q139b, q139c⟩ := isOf hZ e0 p0_
  obtain ⟨_, _, ⟨T139, L139, k139, n139⟩, -, X139, ⟨Lc139, hQ139, l139, y139, z139⟩, st139⟩ := X0.virtualBack hx (y := (⟨"java/lang/String", "coder", "()B"⟩ : MethodName)) (z := (⟨"java/lang/String", "coder", "()B"⟩ : MethodName)) hown (mvT hZ (hw _ (List.mem_of_getElem? (i := 53) rfl))) (mvT hZ (hw _ (List.mem_of_getElem? (i := 54) rfl))) (notFace_of_selects (args := #[]) (mvT hZ (hw _ (List.mem_of_getElem? (i := 56) rfl)))) (mvT hZ (hw _ (List.mem_of_getElem? (i := 56) rfl))) (mvT hZ (hw _ (List.mem_of_getElem? (i := 55) rfl))) (by decide) (backOf (W := 0) (rm_scoder l Z a0 hw [] a1 zc h0 OL p2_ st_COMPACT_STRINGS (by first | assumption | decide)) hZ (hw _ (List.mem_of_getElem? (i := 57) rfl)) (hw _ (List.mem_of_getElem? (i := 5) rfl)) (by decide) (by decide)) q139a q139c (g := (mkF m 1 #[.val (.ref a1), .val (.ref a2), .val (.int (Int32.ofNat cs.length)), .val (.int (0 : Int32))] [(.ref a1)])) rfl (by rw [hml]; rfl) (Steps.refl _) (argsL := []) (rest := []) (lenOf pd_35 rfl) rfl (by show 2 * 0 + _ ≤ _; exact Nat.le_of_eq rfl) (hb hby d_jdk_42_method_147_1) (fun _ _ => ⟨rfl, e0, (by decide : 0 + 0 ≤ _), (by decide : 0 + 0 ≤ _)⟩)
  dsimp only [Pt.U, Pt.locs, Pt.cells, Pt.slots] at X139 l139 y139 z139 st139 hQ139
  subst l139 y139 z139
  obtain ⟨rfl, N139q, K139⟩ := hQ139
  have N139 := Fr.app N0 N139q
  refine own_Go.tr st139 ?_
  show own_Go _ _ _ _ (T139.setTop (mkF m 4 #[.val (.ref a1), .val (.ref a2), .val (.int (Int32.ofNat cs.length)), .val (.int (0 : Int32))] [(.int (0 : Int32))]))
  refine own_Go.st (fun _ k => XS.iloadN X139.here hx rfl (hb hby d_jdk_42_method_147_4) rfl k) ?_
  show own_Go _ _ _ _ (T139.setTop (mkF m 5 #[.val (.ref a1), .val (.ref a2), .val (.int (Int32.ofNat cs.length)), .val (.int (0 : Int32))] [(.int (0 : Int32)), (.int (0 : Int32))]))
  refine own_Go.st (fun _ k => XS.icmpNo X139.here hx rfl (hb hby d_jdk_42_method_147_5) rfl (teq (rfl : (0 : Int32) = (0 : Int32))).2 k) ?_
  show own_Go _ _ _ _ (T139.setTop (mkF m 8 #[.val (.ref a1), .val (.ref a2), .val (.int (Int32.ofNat cs.length)), .val (.int (0 : Int32))] []))
  refine own_Go.st (fun _ k => XS.aloadN X139.here hx rfl (hb hby d_jdk_42_method_147_8) rfl rfl k) ?_
  show own_Go _ _ _ _ (T139.setTop (mkF m 9 #[.val (.ref a1), .val (.ref a2), .val (.int (Int32.ofNat cs.length)), .val (.int (0 : Int32))] [(.ref a1)]))
  obtain ⟨T140, X140, e140, st140⟩ := getF X139 hx hZ hown (host := "") (Or.inl (hw _ (List.mem_of_getElem? (i := 52) rfl))) Via.refl K139 p1_ (g := (mkF m 9 #[.val (.ref a1), .val (.ref a2), .val (.int (Int32.ofNat cs.length)), .val (.int (0 : Int32))] [(.ref a1)])) rfl rfl (hb hby d_jdk_42_method_147_9)
  refine own_Go.st st140 ?_
  show own_Go _ _ _ _ (T140.setTop (mkF m 12 #[.val (.ref a1), .val (.ref a2), .val (.int (Int32.ofNat cs.length)), .val (.int (0 : Int32))] [(.ref t)]))
  refine own_Go.st (fun _ k => XS.iconst X140.here hx rfl (hb hby d_jdk_42_method_147_12) k) ?_
  show own_Go _ _ _ _ (T140.setTop (mkF m 13 #[.val (.ref a1), .val (.ref a2), .val (.int (Int32.ofNat cs.length)), .val (.int (0 : Int32))] [(.int (0 : Int32)), (.ref t)]))
  refine own_Go.st (fun _ k => XS.aloadN X140.here hx rfl (hb hby d_jdk_42_method_147_13) rfl rfl k) ?_
  show own_Go _ _ _ _ (T140.setTop (mkF m 14 #[.val (.ref a1), .val (.ref a2), .val (.int (Int32.ofNat cs.length)), .val (.int (0 : Int32))] [(.ref a2), (.int (0 : Int32)), (.ref t)]))
  refine own_Go.st (fun _ k => XS.iloadN X140.here hx rfl (hb hby d_jdk_42_method_147_14) rfl k) ?_
  show own_Go _ _ _ _ (T140.setTop (mkF m 15 #[.val (.ref a1), .val (.ref a2), .val (.int (Int32.ofNat cs.length)), .val (.int (0 : Int32))] [(.int (Int32.ofNat cs.length)), (.ref a2), (.int (0 : Int32)), (.ref t)]))
  refine own_Go.st (fun _ k => XS.iloadN X140.here hx rfl (hb hby d_jdk_42_method_147_15) rfl k) ?_
  show own_Go _ _ _ _ (T140.setTop (mkF m 16 #[.val (.ref a1), .val (.ref a2), .val (.int (Int32.ofNat cs.length)), .val (.int (0 : Int32))] [(.int (0 : Int32)), (.int (Int32.ofNat cs.length)), (.ref a2), (.int (0 : Int32)), (.ref t)]))
  refine own_Go.st (fun _ k => XS.ishl X140.here hx rfl (hb hby d_jdk_42_method_147_16) rfl k) ?_
  show own_Go _ _ _ _ (T140.setTop (mkF m 17 #[.val (.ref a1), .val (.ref a2), .val (.int (Int32.ofNat cs.length)), .val (.int (0 : Int32))] [(.int ((Int32.ofNat cs.length) <<< ((0 : Int32) &&& 31))), (.ref a2), (.int (0 : Int32)), (.ref t)]))
  rw [own_shl0]
  show own_Go _ _ _ _ (T140.setTop (mkF m 17 #[.val (.ref a1), .val (.ref a2), .val (.int (Int32.ofNat cs.length)), .val (.int (0 : Int32))] [(.int (Int32.ofNat cs.length)), (.ref a2), (.int (0 : Int32)), (.ref t)]))
  refine own_Go.st (fun _ k => XS.aloadN X140.here hx rfl (hb hby d_jdk_42_method_147_17) rfl rfl k) ?_
  show own_Go _ _ _ _ (T140.setTop (mkF m 18 #[.val (.ref a1), .val (.ref a2), .val (.int (Int32.ofNat cs.length)), .val (.int (0 : Int32))] [(.ref a1), (.int (Int32.ofNat cs.length)), (.ref a2), (.int (0 : Int32)), (.ref t)]))
  obtain ⟨T141, X141, e141, st141⟩ := getF X140 hx hZ hown (host := "") (Or.inl (hw _ (List.mem_of_getElem? (i := 52) rfl))) Via.refl e140 p1_ (g := (mkF m 18 #[.val (.ref a1), .val (.ref a2), .val (.int (Int32.ofNat cs.length)), .val (.int (0 : Int32))] [(.ref a1), (.int (Int32.ofNat cs.length)), (.ref a2), (.int (0 : Int32)), (.ref t)])) rfl rfl (hb hby d_jdk_42_method_147_18)
  refine own_Go.st st141 ?_
  show own_Go _ _ _ _ (T141.setTop (mkF m 21 #[.val (.ref a1), .val (.ref a2), .val (.int (Int32.ofNat cs.length)), .val (.int (0 : Int32))] [(.ref t), (.int (Int32.ofNat cs.length)), (.ref a2), (.int (0 : Int32)), (.ref t)]))
  obtain ⟨c142, Ar142, q142, S142, Nn142, H142, G142⟩ := id p3_
  refine own_Go.st (X141.arraylength hx (by rw [e141]; exact Ar142.1) (State.isArrayOf_alike hZ.alike Ar142.2.1) (g := (mkF m 21 #[.val (.ref a1), .val (.ref a2), .val (.int (Int32.ofNat cs.length)), .val (.int (0 : Int32))] [(.ref t), (.int (Int32.ofNat cs.length)), (.ref a2), (.int (0 : Int32)), (.ref t)])) rfl rfl (hb hby d_jdk_42_method_147_21)) ?_
  rw [len_of S142 Nn142]
  show own_Go _ _ _ _ (T141.setTop (mkF m 22 #[.val (.ref a1), .val (.ref a2), .val (.int (Int32.ofNat cs.length)), .val (.int (0 : Int32))] [(.int (Int32.ofNat ds.length)), (.int (Int32.ofNat cs.length)), (.ref a2), (.int (0 : Int32)), (.ref t)]))
  have f143 : Arv Z h0 a2 k .byte (Int32.ofNat cap) (own_low cs ++ List.replicate (cap - cs.length) (Value.int (0 : Int32))) (.int (0 : Int32)) := p4_.pad (pad_rep (own_low cs) _ _)
  obtain ⟨T144, h144, L144, X144, e144, N144, K144, V144, st144⟩ := cpA (us := (own_low ds)) X141 hx hZ hown (hw _ (List.mem_of_getElem? (i := 83) rfl)) (hw _ (List.mem_of_getElem? (i := 86) rfl)) (hw _ (List.mem_of_getElem? (i := 84) rfl)) (hw _ (List.mem_of_getElem? (i := 85) rfl)) e141 p3_ f143 (Or.inl ⟨rfl, rfl⟩) (by decide) (own_of0 (by omega)) (own_of0 (by omega)) (by rw [own_ofn (by omega)]; have : (0 : Int32).toNatClampNeg = 0 := (by decide); omega) (by rw [own_ofn (by omega), own_ofn (by omega), own_ofn (by omega)]; exact hfit) (own_us ds (by omega)) (by rw [own_ofn (by omega), own_ofn (by omega)]; simp only [List.length_append, List.length_replicate, own_low, List.length_map]; omega) N139 (by omega) (g := (mkF m 22 #[.val (.ref a1), .val (.ref a2), .val (.int (Int32.ofNat cs.length)), .val (.int (0 : Int32))] [(.int (Int32.ofNat ds.length)), (.int (Int32.ofNat cs.length)), (.ref a2), (.int (0 : Int32)), (.ref t)])) rfl (by rw [hml]; rfl) rfl (hb hby d_jdk_42_method_147_22) (by decide) (W := 0) (by show 2 * 0 + _ ≤ _; exact Nat.le_of_eq rfl) (by decide)
  refine own_Go.st st144 ?_
  have z144 : h0.size ≤ h144.size := K144.1
  have f145 : Arv Z h144 a2 k .byte (Int32.ofNat cap) (own_low (cs ++ ds)) (.int (0 : Int32)) := own_appV V144 (by omega) (by omega)
  show own_Go _ _ _ _ (T144.setTop (mkF m 25 #[.val (.ref a1), .val (.ref a2), .val (.int (Int32.ofNat cs.length)), .val (.int (0 : Int32))] []))
  refine own_Go.st (fun _ k => XS.goto X144.here hx rfl (pc0 := 25) (pc' := 43) rfl (hb hby d_jdk_42_method_147_25) (by decide) (by decide) k) ?_
  show own_Go _ _ _ _ (T144.setTop (mkF m 43 #[.val (.ref a1), .val (.ref a2), .val (.int (Int32.ofNat cs.length)), .val (.int (0 : Int32))] []))
  obtain ⟨fs146, hr146, hrun146, hend146, hW146, hsm146⟩ := X144.leave (v := none) (fun _ => rfl)
  have K147 : Keep h0 h144 [a2] := (Keep.refl h0 [a2]).trans K144 (allS (Or.inl (List.mem_of_getElem? (i := 0) rfl)) all0)
  subst hPP
  refine ⟨_, _, X144.returnOut hx Bd.returns (hb hby d_jdk_42_method_147_43) hr146, hrun146, hend146, _, _, rfl, ?_, ⟨_, rfl⟩, hW146, hsm146.mono (by decide) (by decide)⟩
  · show Q_getBytes Z _ _ _ _ _ _ _ _ _ _ h0 _ T144.heap _
    rw [e144]
    exact ⟨rfl, N144, K147, f145⟩
theorem ef_57 (m : MethodId) (x0 : Nat) (x1 : Int32) (x2 : Nat) : entryFrame m #[(.ref x0), (.int x1), (.ref x2)] 3 = mkF m 0 #[.val (.ref x0), .val (.int x1), .val (.ref x2)] [] := by first | (simp [entryFrame, mkF, argsToLocals, Value.category]; done) | rfl
theorem d_jdk_68_method_73_0 : decode jdk_68_method_73_code 0 = .ok (.aload_n 0, 1) := by decide +kernel
theorem d_jdk_68_method_73_1 : decode jdk_68_method_73_code 1 = .ok (.aload_n 2, 1) := by decide +kernel
theorem pd_60 : parseMethodDescriptor "(Ljava/lang/String;)V" = some ⟨[(.object "java/lang/String")], none⟩ := by decide +kernel
theorem d_jdk_68_method_73_2 : decode jdk_68_method_73_code 2 = .ok (.invokevirtual 397, 3) := by decide +kernel
theorem d_jdk_68_method_73_5 : decode jdk_68_method_73_code 5 = .ok (.aload_n 2, 1) := by decide +kernel
theorem d_jdk_68_method_73_6 : decode jdk_68_method_73_code 6 = .ok (.aload_n 0, 1) := by decide +kernel
theorem d_jdk_68_method_73_7 : decode jdk_68_method_73_code 7 = .ok (.getfield 15, 3) := by decide +kernel
theorem d_jdk_68_method_73_10 : decode jdk_68_method_73_code 10 = .ok (.iload_n 1, 1) := by decide +kernel
theorem d_jdk_68_method_73_11 : decode jdk_68_method_73_code 11 = .ok (.aload_n 0, 1) := by decide +kernel
theorem d_jdk_68_method_73_12 : decode jdk_68_method_73_code 12 = .ok (.getfield 22, 3) := by decide +kernel
theorem pd_68 : parseMethodDescriptor "([BIB)V" = some ⟨[(.array .byte), .int, .byte], none⟩ := by decide +kernel
theorem d_jdk_68_method_73_15 : decode jdk_68_method_73_code 15 = .ok (.invokevirtual 399, 3) := by decide +kernel
theorem d_jdk_68_method_73_18 : decode jdk_68_method_73_code 18 = .ok (.return_, 1) := by decide +kernel
def Q_putStringAt (Z : State) (a1 : Nat) (p2 : Int32) (a3 : Nat) (t : Nat) (cs : List Int32) (ds : List Int32) (cap : Nat) (k : ClassId) (zc : Int32) (a4 : Nat) (h0 : Heap) (v : Option Value) (h : Heap) (L : List Loc) : Prop := v = none ∧ Fr Z.heap.size L ∧ Keep h0 h [a4] ∧ Arv Z h a4 k .byte (Int32.ofNat cap) (own_low (cs ++ ds)) (.int (0 : Int32))
set_option maxRecDepth 65536 in
set_option maxHeartbeats 40000000 in
theorem rm_putStringAt (l : Launch) (Z : State) (a0 : Array Value) (hw : ∀ d ∈ tables_1, d.before a0 Z = true) (ws : List Jvm.Cond) (a1 : Nat) (p2 : Int32) (a3 : Nat) (t : Nat) (cs : List Int32) (ds : List Int32) (cap : Nat) (k : ClassId) (zc : Int32) (a4 : Nat) (h0 : Heap) (OL : Old Z Z.heap.size h0) (p0_ : Exa Z h0 a1 "java/lang/StringBuilder") (p1_ : Fld Z h0 a1 "java/lang/AbstractStringBuilder" "value" "[B" (.ref a4)) (p2_ : Fld Z h0 a1 "java/lang/AbstractStringBuilder" "coder" "B" (.int (0 : Int32))) (p3_ : own_Str Z h0 a3 t ds) (p4_ : Arv Z h0 a4 k .byte (Int32.ofNat cap) (own_low cs) (.int (0 : Int32))) (st_COMPACT_STRINGS : Sta Z Z.heap "java/lang/String" "COMPACT_STRINGS" "Z" (.int zc)) (hzc : ¬ zc = 0) (hp2 : p2 = Int32.ofNat cs.length) (hfit : cs.length + ds.length ≤ cap) (hcap : cap ≤ 100) (hne : @Ne Nat t a4) (hn0 : Z.heap.size ≤ a4) (hld : ∀ c ∈ ds, ¬ c < 0 ∧ ¬ (255 : Int32) < c) :
    MetFree l (⟨"java/lang/AbstractStringBuilder", "putStringAt", "(ILjava/lang/String;)V"⟩ : MethodName) (head1 (Jvm.Cond.code (⟨"java/lang/AbstractStringBuilder", "putStringAt", "(ILjava/lang/String;)V"⟩ : MethodName) jdk_68_method_73_code 3 none :: ws) ({ frames := 2, cells := 0, slots := 0, locals := 57 } : Room)) (fun a U => a = #[(.ref a1), (.int p2), (.ref a3)] ∧ Z.Warmed39 U.vm ∧ U.heap = h0) (fun _ _ _ _ _ => True) (fun _ U o U' => ∃ v L, o = .returned v ∧ Q_putStringAt Z a1 p2 a3 t cs ds cap k zc a4 h0 v U'.heap L ∧ FrameEnd U o U' L ({ frames := 2, cells := 0, slots := 0, locals := 57 } : Room).cells ({ frames := 2, cells := 0, slots := 0, locals := 57 } : Room).slots) := by
  refine MetFree.of_bodySF (plainFor_of_name pn_0) hisR ?_
  intro p e s m args below meth c s₁ Bd hml0 hP hK
  obtain ⟨rfl, hZ, hh⟩ := hP
  have hx := Bd.exec
  have hby := Bd.bytes
  have hml : c.maxLocals = 3 := hml0
  have hown : s.vm.findClass "java/lang/AbstractStringBuilder" = some m.cls := findClass_of_methodNamed Bd.named
  have hnm := (name_of_methodNamed Bd.named Bd.method).1
  have X0 : Stand p l e ({ frames := 2, cells := 0, slots := 0, locals := 57 } : Room) s m #[(.ref a1), (.int p2), (.ref a3)] below meth c s₁ [] 0 0 := Stand.of_body Bd
  have e0 : s₁.heap = h0 := by rw [← hh, Bd.state]; rfl
  have N0 := Fr.nil Z.heap.size
  have Z0 : Z.heap.size ≤ h0.size := OL.2.1
  have lt_0 : @LT.lt Nat _ a1 h0.size := p0_.lt
  have lt_1 : @LT.lt Nat _ a1 h0.size := p1_.lt
  have lt_2 : @LT.lt Nat _ a1 h0.size := p2_.lt
  have lt_3 : @LT.lt Nat _ a3 h0.size := p3_.lt
  have ltv_3 : @LT.lt Nat _ t h0.size := p3_.ltv
  have lt_4 : @LT.lt Nat _ a4 h0.size := p4_.lt
  obtain ⟨PP, hPP⟩ : ∃ PP : Outcome → State → Prop, PP = (fun o tE => ∃ v L, o = .returned v ∧ Q_putStringAt Z a1 p2 a3 t cs ds cap k zc a4 h0 v tE.heap L ∧ FrameEnd s o tE L ({ frames := 2, cells := 0, slots := 0, locals := 57 } : Room).cells ({ frames := 2, cells := 0, slots := 0, locals := 57 } : Room).slots) := ⟨_, rfl⟩
  show own_Go p.tables e below (fun o tE => ∃ v L, o = .returned v ∧ Q_putStringAt Z a1 p2 a3 t cs ds cap k zc a4 h0 v tE.heap L ∧ FrameEnd s o tE L ({ frames := 2, cells := 0, slots := 0, locals := 57 } : Room).cells ({ frames := 2, cells := 0, slots := 0, locals := 57 } : Room).slots) (s₁.setTop (entryFrame m #[(.ref a1), (.int p2), (.ref a3)] 3))
  rw [← hPP]
  refine own_Go.st (fun t k => castTop (ef_57 m a1 p2 a3) k) ?_
  obtain ⟨kb148, s1148, s2148, s3148, s4148⟩ := own_Str.latF p3_ (fun c q => (hld c q).2)
  show own_Go _ _ _ _ (s₁.setTop (mkF m 0 #[.val (.ref a1), .val (.int p2), .val (.ref a3)] []))
  refine own_Go.st (fun _ k => XS.aloadN X0.here hx rfl (hb hby d_jdk_68_method_73_0) rfl rfl k) ?_
  show own_Go _ _ _ _ (s₁.setTop (mkF m 1 #[.val (.ref a1), .val (.int p2), .val (.ref a3)] [(.ref a1)]))
  refine own_Go.st (fun _ k => XS.aloadN X0.here hx rfl (hb hby d_jdk_68_method_73_1) rfl rfl k) ?_
  show own_Go _ _ _ _ (s₁.setTop (mkF m 2 #[.val (.ref a1), .val (.int p2), .val (.ref a3)] [(.ref a3), (.ref a1)]))
  obtain ⟨cq149, q149, q149'⟩ := p0_.cell
  obtain ⟨_, _, ⟨T149, L149, k149, n149⟩, -, X149, ⟨Lc149, hQ149, l149, y149, z149⟩, st149⟩ := X0.privateBack hx (y := (⟨"java/lang/AbstractStringBuilder", "inflateIfNeededFor", "(Ljava/lang/String;)V"⟩ : MethodName)) hown (mvT hZ (hw _ (List.mem_of_getElem? (i := 72) rfl))) (mvT hZ (hw _ (List.mem_of_getElem? (i := 73) rfl))) (own_selP (mvT hZ (hw _ (List.mem_of_getElem? (i := 75) rfl))) (Cond.privateMethod_at (mvP hZ (hw _ (List.mem_of_getElem? (i := 74) rfl)) (args := #[]))) (mvT hZ (hw _ (List.mem_of_getElem? (i := 73) rfl))) (by decide)) (Cond.privateMethod_at (mvP hZ (hw _ (List.mem_of_getElem? (i := 74) rfl)) (args := #[]))) (mvT hZ (hw _ (List.mem_of_getElem? (i := 76) rfl))) (by decide) (backOf (W := 0) (rm_inflate l Z a0 hw [] a1 a3 zc h0 OL p2_ s1148 s3148 st_COMPACT_STRINGS (by first | assumption | decide)) hZ (hw _ (List.mem_of_getElem? (i := 76) rfl)) (hw _ (List.mem_of_getElem? (i := 27) rfl)) (by decide) (by decide)) (g := (mkF m 2 #[.val (.ref a1), .val (.int p2), .val (.ref a3)] [(.ref a3), (.ref a1)])) rfl (by rw [hml]; rfl) (Steps.refl _) (a := a1) (by rw [e0]; exact q149) q149' (argsL := [(.ref a3)]) (rest := []) (lenOf pd_60 rfl) rfl (by show 2 * 0 + _ ≤ _; exact Nat.le_of_eq rfl) (hb hby d_jdk_68_method_73_2) (fun _ _ => ⟨rfl, e0, (by decide : 0 + 0 ≤ _), (by decide : 0 + 0 ≤ _)⟩)
  dsimp only [Pt.U, Pt.locs, Pt.cells, Pt.slots] at X149 l149 y149 z149 st149 hQ149
  subst l149 y149 z149
  obtain ⟨rfl, N149q, K149⟩ := hQ149
  have N149 := Fr.app N0 N149q
  refine own_Go.tr st149 ?_
  show own_Go _ _ _ _ (T149.setTop (mkF m 5 #[.val (.ref a1), .val (.int p2), .val (.ref a3)] []))
  refine own_Go.st (fun _ k => XS.aloadN X149.here hx rfl (hb hby d_jdk_68_method_73_5) rfl rfl k) ?_
  show own_Go _ _ _ _ (T149.setTop (mkF m 6 #[.val (.ref a1), .val (.int p2), .val (.ref a3)] [(.ref a3)]))
  refine own_Go.st (fun _ k => XS.aloadN X149.here hx rfl (hb hby d_jdk_68_method_73_6) rfl rfl k) ?_
  show own_Go _ _ _ _ (T149.setTop (mkF m 7 #[.val (.ref a1), .val (.int p2), .val (.ref a3)] [(.ref a1), (.ref a3)]))
  obtain ⟨T150, X150, e150, st150⟩ := getF X149 hx hZ hown (host := "") (Or.inl (hw _ (List.mem_of_getElem? (i := 33) rfl))) Via.refl K149 p1_ (g := (mkF m 7 #[.val (.ref a1), .val (.int p2), .val (.ref a3)] [(.ref a1), (.ref a3)])) rfl rfl (hb hby d_jdk_68_method_73_7)
  refine own_Go.st st150 ?_
  show own_Go _ _ _ _ (T150.setTop (mkF m 10 #[.val (.ref a1), .val (.int p2), .val (.ref a3)] [(.ref a4), (.ref a3)]))
  refine own_Go.st (fun _ k => XS.iloadN X150.here hx rfl (hb hby d_jdk_68_method_73_10) rfl k) ?_
  show own_Go _ _ _ _ (T150.setTop (mkF m 11 #[.val (.ref a1), .val (.int p2), .val (.ref a3)] [(.int p2), (.ref a4), (.ref a3)]))
  refine own_Go.st (fun _ k => XS.aloadN X150.here hx rfl (hb hby d_jdk_68_method_73_11) rfl rfl k) ?_
  show own_Go _ _ _ _ (T150.setTop (mkF m 12 #[.val (.ref a1), .val (.int p2), .val (.ref a3)] [(.ref a1), (.int p2), (.ref a4), (.ref a3)]))
  obtain ⟨T151, X151, e151, st151⟩ := getF X150 hx hZ hown (host := "") (Or.inl (hw _ (List.mem_of_getElem? (i := 35) rfl))) Via.refl e150 p2_ (g := (mkF m 12 #[.val (.ref a1), .val (.int p2), .val (.ref a3)] [(.ref a1), (.int p2), (.ref a4), (.ref a3)])) rfl rfl (hb hby d_jdk_68_method_73_12)
  refine own_Go.st st151 ?_
  show own_Go _ _ _ _ (T151.setTop (mkF m 15 #[.val (.ref a1), .val (.int p2), .val (.ref a3)] [(.int (0 : Int32)), (.int p2), (.ref a4), (.ref a3)]))
  obtain ⟨cq152, kq152, q152a, q152b, q152c⟩ := isOf hZ e151 s1148
  obtain ⟨_, _, ⟨T152, L152, k152, n152⟩, -, X152, ⟨Lc152, hQ152, l152, y152, z152⟩, st152⟩ := X151.virtualBack hx (y := (⟨"java/lang/String", "getBytes", "([BIB)V"⟩ : MethodName)) (z := (⟨"java/lang/String", "getBytes", "([BIB)V"⟩ : MethodName)) hown (mvT hZ (hw _ (List.mem_of_getElem? (i := 78) rfl))) (mvT hZ (hw _ (List.mem_of_getElem? (i := 79) rfl))) (notFace_of_selects (args := #[]) (mvT hZ (hw _ (List.mem_of_getElem? (i := 81) rfl)))) (mvT hZ (hw _ (List.mem_of_getElem? (i := 81) rfl))) (mvT hZ (hw _ (List.mem_of_getElem? (i := 80) rfl))) (by decide) (backOf (W := 0) (rm_getBytes l Z a0 hw [] a3 a4 p2 t cs ds cap k kb148 zc h0 OL s1148 s2148 s3148 s4148 p4_ st_COMPACT_STRINGS (by first | assumption | decide) hp2 (by first | assumption | decide) (by first | assumption | decide) (by first | assumption | decide) (by first | assumption | decide)) hZ (hw _ (List.mem_of_getElem? (i := 82) rfl)) (hw _ (List.mem_of_getElem? (i := 5) rfl)) (by decide) (by decide)) q152a q152c (g := (mkF m 15 #[.val (.ref a1), .val (.int p2), .val (.ref a3)] [(.int (0 : Int32)), (.int p2), (.ref a4), (.ref a3)])) rfl (by rw [hml]; rfl) (Steps.refl _) (argsL := [(.ref a4), (.int p2), (.int (0 : Int32))]) (rest := []) (lenOf pd_68 rfl) rfl (by show 2 * 0 + _ ≤ _; exact Nat.le_of_eq rfl) (hb hby d_jdk_68_method_73_15) (fun _ _ => ⟨rfl, e151, (by decide : 0 + 0 ≤ _), (by decide : 0 + 0 ≤ _)⟩)
  dsimp only [Pt.U, Pt.locs, Pt.cells, Pt.slots] at X152 l152 y152 z152 st152 hQ152
  subst l152 y152 z152
  obtain ⟨rfl, N152q, K152, f152_0⟩ := hQ152
  have N152 := Fr.app N149 N152q
  have z152 : h0.size ≤ T152.heap.size := K152.1
  have lt152_0 : @LT.lt Nat _ a4 T152.heap.size := f152_0.lt
  refine own_Go.tr st152 ?_
  show own_Go _ _ _ _ (T152.setTop (mkF m 18 #[.val (.ref a1), .val (.int p2), .val (.ref a3)] []))
  obtain ⟨fs153, hr153, hrun153, hend153, hW153, hsm153⟩ := X152.leave (v := none) (fun _ => rfl)
  have K154 : Keep h0 T152.heap [a4] := (Keep.refl h0 [a4]).trans K152 (allS (Or.inl (List.mem_of_getElem? (i := 0) rfl)) all0)
  subst hPP
  refine ⟨_, _, X152.returnOut hx Bd.returns (hb hby d_jdk_68_method_73_18) hr153, hrun153, hend153, _, _, rfl, ?_, ⟨_, rfl⟩, hW153, hsm153.mono (by decide) (by decide)⟩
  · show Q_putStringAt Z _ _ _ _ _ _ _ _ _ _ h0 _ T152.heap _
    exact ⟨rfl, N152, K154, f152_0⟩
theorem ef_71 (m : MethodId) (x0 : Nat) (x1 : Int32) : entryFrame m #[(.ref x0), (.int x1)] 3 = mkF m 0 #[.val (.ref x0), .val (.int x1), .unset] [] := by first | (simp [entryFrame, mkF, argsToLocals, Value.category]; done) | rfl
theorem d_jdk_68_method_9_0 : decode jdk_68_method_9_code 0 = .ok (.aload_n 0, 1) := by decide +kernel
theorem d_jdk_68_method_9_1 : decode jdk_68_method_9_code 1 = .ok (.getfield 15, 3) := by decide +kernel
theorem d_jdk_68_method_9_4 : decode jdk_68_method_9_code 4 = .ok (.arraylength, 1) := by decide +kernel
theorem d_jdk_68_method_9_5 : decode jdk_68_method_9_code 5 = .ok (.aload_n 0, 1) := by decide +kernel
theorem d_jdk_68_method_9_6 : decode jdk_68_method_9_code 6 = .ok (.getfield 22, 3) := by decide +kernel
theorem d_jdk_68_method_9_9 : decode jdk_68_method_9_code 9 = .ok (.ishr, 1) := by decide +kernel
theorem d_jdk_68_method_9_10 : decode jdk_68_method_9_code 10 = .ok (.istore_n 2, 1) := by decide +kernel
theorem d_jdk_68_method_9_11 : decode jdk_68_method_9_code 11 = .ok (.iload_n 1, 1) := by decide +kernel
theorem d_jdk_68_method_9_12 : decode jdk_68_method_9_code 12 = .ok (.iload_n 2, 1) := by decide +kernel
theorem d_jdk_68_method_9_13 : decode jdk_68_method_9_code 13 = .ok (.isub, 1) := by decide +kernel
theorem d_jdk_68_method_9_14 : decode jdk_68_method_9_code 14 = .ok (.ifCond .le 24, 3) := by decide +kernel
theorem d_jdk_68_method_9_38 : decode jdk_68_method_9_code 38 = .ok (.return_, 1) := by decide +kernel
def Q_ensure0 (Z : State) (a1 : Nat) (p2 : Int32) (nn : Nat) (cap : Nat) (a4 : Nat) (k : ClassId) (vs : List Value) (h0 : Heap) (v : Option Value) (h : Heap) (L : List Loc) : Prop := v = none ∧ Fr Z.heap.size L ∧ h = h0
set_option maxRecDepth 65536 in
set_option maxHeartbeats 40000000 in
theorem rm_ensure0 (l : Launch) (Z : State) (a0 : Array Value) (hw : ∀ d ∈ tables_1, d.before a0 Z = true) (ws : List Jvm.Cond) (a1 : Nat) (p2 : Int32) (nn : Nat) (cap : Nat) (a4 : Nat) (k : ClassId) (vs : List Value) (h0 : Heap) (OL : Old Z Z.heap.size h0) (p0_ : Fld Z h0 a1 "java/lang/AbstractStringBuilder" "value" "[B" (.ref a4)) (p1_ : Fld Z h0 a1 "java/lang/AbstractStringBuilder" "coder" "B" (.int (0 : Int32))) (p2_ : Arv Z h0 a4 k .byte (Int32.ofNat cap) vs (.int (0 : Int32))) (hp2 : p2 = Int32.ofNat nn) (hle : nn ≤ cap) (hcap : cap ≤ 100) :
    MetFree l (⟨"java/lang/AbstractStringBuilder", "ensureCapacityInternal", "(I)V"⟩ : MethodName) (head1 (Jvm.Cond.code (⟨"java/lang/AbstractStringBuilder", "ensureCapacityInternal", "(I)V"⟩ : MethodName) jdk_68_method_9_code 3 none :: ws) ({ frames := 0, cells := 0, slots := 0, locals := 0 } : Room)) (fun a U => a = #[(.ref a1), (.int p2)] ∧ Z.Warmed39 U.vm ∧ U.heap = h0) (fun _ _ _ _ _ => True) (fun _ U o U' => ∃ v L, o = .returned v ∧ Q_ensure0 Z a1 p2 nn cap a4 k vs h0 v U'.heap L ∧ FrameEnd U o U' L ({ frames := 0, cells := 0, slots := 0, locals := 0 } : Room).cells ({ frames := 0, cells := 0, slots := 0, locals := 0 } : Room).slots) := by
  refine MetFree.of_bodySF (plainFor_of_name pn_0) hisR ?_
  intro p e s m args below meth c s₁ Bd hml0 hP hK
  obtain ⟨rfl, hZ, hh⟩ := hP
  have hx := Bd.exec
  have hby := Bd.bytes
  have hml : c.maxLocals = 3 := hml0
  have hown : s.vm.findClass "java/lang/AbstractStringBuilder" = some m.cls := findClass_of_methodNamed Bd.named
  have hnm := (name_of_methodNamed Bd.named Bd.method).1
  have X0 : Stand p l e ({ frames := 0, cells := 0, slots := 0, locals := 0 } : Room) s m #[(.ref a1), (.int p2)] below meth c s₁ [] 0 0 := Stand.of_body Bd
  have e0 : s₁.heap = h0 := by rw [← hh, Bd.state]; rfl
  have N0 := Fr.nil Z.heap.size
  have Z0 : Z.heap.size ≤ h0.size := OL.2.1
  have lt_0 : @LT.lt Nat _ a1 h0.size := p0_.lt
  have lt_1 : @LT.lt Nat _ a1 h0.size := p1_.lt
  have lt_2 : @LT.lt Nat _ a4 h0.size := p2_.lt
  obtain ⟨PP, hPP⟩ : ∃ PP : Outcome → State → Prop, PP = (fun o tE => ∃ v L, o = .returned v ∧ Q_ensure0 Z a1 p2 nn cap a4 k vs h0 v tE.heap L ∧ FrameEnd s o tE L ({ frames := 0, cells := 0, slots := 0, locals := 0 } : Room).cells ({ frames := 0, cells := 0, slots := 0, locals := 0 } : Room).slots) := ⟨_, rfl⟩
  show own_Go p.tables e below (fun o tE => ∃ v L, o = .returned v ∧ Q_ensure0 Z a1 p2 nn cap a4 k vs h0 v tE.heap L ∧ FrameEnd s o tE L ({ frames := 0, cells := 0, slots := 0, locals := 0 } : Room).cells ({ frames := 0, cells := 0, slots := 0, locals := 0 } : Room).slots) (s₁.setTop (entryFrame m #[(.ref a1), (.int p2)] 3))
  rw [← hPP]
  refine own_Go.st (fun t k => castTop (ef_71 m a1 p2) k) ?_
  show own_Go _ _ _ _ (s₁.setTop (mkF m 0 #[.val (.ref a1), .val (.int p2), .unset] []))
  refine own_Go.st (fun _ k => XS.aloadN X0.here hx rfl (hb hby d_jdk_68_method_9_0) rfl rfl k) ?_
  show own_Go _ _ _ _ (s₁.setTop (mkF m 1 #[.val (.ref a1), .val (.int p2), .unset] [(.ref a1)]))
  obtain ⟨T155, X155, e155, st155⟩ := getF X0 hx hZ hown (host := "") (Or.inl (hw _ (List.mem_of_getElem? (i := 33) rfl))) Via.refl e0 p0_ (g := (mkF m 1 #[.val (.ref a1), .val (.int p2), .unset] [(.ref a1)])) rfl rfl (hb hby d_jdk_68_method_9_1)
  refine own_Go.st st155 ?_
  show own_Go _ _ _ _ (T155.setTop (mkF m 4 #[.val (.ref a1), .val (.int p2), .unset] [(.ref a4)]))
  obtain ⟨c156, Ar156, q156, S156, Nn156, H156, G156⟩ := id p2_
  refine own_Go.st (X155.arraylength hx (by rw [e155]; exact Ar156.1) (State.isArrayOf_alike hZ.alike Ar156.2.1) (g := (mkF m 4 #[.val (.ref a1), .val (.int p2), .unset] [(.ref a4)])) rfl rfl (hb hby d_jdk_68_method_9_4)) ?_
  rw [len_of S156 Nn156]
  show own_Go _ _ _ _ (T155.setTop (mkF m 5 #[.val (.ref a1), .val (.int p2), .unset] [(.int (Int32.ofNat cap))]))
  refine own_Go.st (fun _ k => XS.aloadN X155.here hx rfl (hb hby d_jdk_68_method_9_5) rfl rfl k) ?_
  show own_Go _ _ _ _ (T155.setTop (mkF m 6 #[.val (.ref a1), .val (.int p2), .unset] [(.ref a1), (.int (Int32.ofNat cap))]))
  obtain ⟨T157, X157, e157, st157⟩ := getF X155 hx hZ hown (host := "") (Or.inl (hw _ (List.mem_of_getElem? (i := 35) rfl))) Via.refl e155 p1_ (g := (mkF m 6 #[.val (.ref a1), .val (.int p2), .unset] [(.ref a1), (.int (Int32.ofNat cap))])) rfl rfl (hb hby d_jdk_68_method_9_6)
  refine own_Go.st st157 ?_
  show own_Go _ _ _ _ (T157.setTop (mkF m 9 #[.val (.ref a1), .val (.int p2), .unset] [(.int (0 : Int32)), (.int (Int32.ofNat cap))]))
  refine own_Go.st (fun _ k => XS.ishr X157.here hx rfl (hb hby d_jdk_68_method_9_9) rfl k) ?_
  show own_Go _ _ _ _ (T157.setTop (mkF m 10 #[.val (.ref a1), .val (.int p2), .unset] [(.int ((Int32.ofNat cap) >>> ((0 : Int32) &&& 31)))]))
  rw [own_shr0]
  show own_Go _ _ _ _ (T157.setTop (mkF m 10 #[.val (.ref a1), .val (.int p2), .unset] [(.int (Int32.ofNat cap))]))
  refine own_Go.st (fun _ k => XS.istoreN X157.here hx rfl (hb hby d_jdk_68_method_9_10) rfl (l' := #[.val (.ref a1), .val (.int p2), .val (.int (Int32.ofNat cap))]) rfl k) ?_
  show own_Go _ _ _ _ (T157.setTop (mkF m 11 #[.val (.ref a1), .val (.int p2), .val (.int (Int32.ofNat cap))] []))
  refine own_Go.st (fun _ k => XS.iloadN X157.here hx rfl (hb hby d_jdk_68_method_9_11) rfl k) ?_
  show own_Go _ _ _ _ (T157.setTop (mkF m 12 #[.val (.ref a1), .val (.int p2), .val (.int (Int32.ofNat cap))] [(.int p2)]))
  refine own_Go.st (fun _ k => XS.iloadN X157.here hx rfl (hb hby d_jdk_68_method_9_12) rfl k) ?_
  show own_Go _ _ _ _ (T157.setTop (mkF m 13 #[.val (.ref a1), .val (.int p2), .val (.int (Int32.ofNat cap))] [(.int (Int32.ofNat cap)), (.int p2)]))
  refine own_Go.st (fun _ k => XS.isub X157.here hx rfl (hb hby d_jdk_68_method_9_13) rfl k) ?_
  show own_Go _ _ _ _ (T157.setTop (mkF m 14 #[.val (.ref a1), .val (.int p2), .val (.int (Int32.ofNat cap))] [(.int (p2 - (Int32.ofNat cap)))]))
  have hc158 : ¬ ((0 : Int32) < (p2 - (Int32.ofNat cap))) := by rw [hp2, own_ofBle (by omega) (by omega)]; omega
  refine own_Go.st (fun _ k => XS.ifYes X157.here hx rfl (pc0 := 14) (pc' := 38) rfl (hb hby d_jdk_68_method_9_14) rfl ((if0 _ _).trans (flt hc158).2.2.2) (by decide) (by decide) k) ?_
  show own_Go _ _ _ _ (T157.setTop (mkF m 38 #[.val (.ref a1), .val (.int p2), .val (.int (Int32.ofNat cap))] []))
  obtain ⟨fs159, hr159, hrun159, hend159, hW159, hsm159⟩ := X157.leave (v := none) (fun _ => rfl)
  subst hPP
  refine ⟨_, _, X157.returnOut hx Bd.returns (hb hby d_jdk_68_method_9_38) hr159, hrun159, hend159, _, _, rfl, ?_, ⟨_, rfl⟩, hW159, hsm159.mono (by decide) (by decide)⟩
  · show Q_ensure0 Z _ _ _ _ _ _ _ h0 _ T157.heap _
    rw [e157]
    exact ⟨rfl, N0, rfl⟩
theorem ef_84 (m : MethodId) (x0 : Nat) (x1 : Nat) : entryFrame m #[(.ref x0), (.ref x1)] 3 = mkF m 0 #[.val (.ref x0), .val (.ref x1), .unset] [] := by first | (simp [entryFrame, mkF, argsToLocals, Value.category]; done) | rfl
theorem d_jdk_68_method_22_0 : decode jdk_68_method_22_code 0 = .ok (.aload_n 1, 1) := by decide +kernel
theorem d_jdk_68_method_22_1 : decode jdk_68_method_22_code 1 = .ok (.ifnonnull 8, 3) := by decide +kernel
theorem d_jdk_68_method_22_9 : decode jdk_68_method_22_code 9 = .ok (.aload_n 1, 1) := by decide +kernel
theorem pd_88 : parseMethodDescriptor "()I" = some ⟨[], some .int⟩ := by decide +kernel
theorem d_jdk_68_method_22_10 : decode jdk_68_method_22_code 10 = .ok (.invokevirtual 32, 3) := by decide +kernel
theorem d_jdk_68_method_22_13 : decode jdk_68_method_22_code 13 = .ok (.istore_n 2, 1) := by decide +kernel
theorem d_jdk_68_method_22_14 : decode jdk_68_method_22_code 14 = .ok (.aload_n 0, 1) := by decide +kernel
theorem d_jdk_68_method_22_15 : decode jdk_68_method_22_code 15 = .ok (.aload_n 0, 1) := by decide +kernel
theorem d_jdk_68_method_22_16 : decode jdk_68_method_22_code 16 = .ok (.getfield 79, 3) := by decide +kernel
theorem d_jdk_68_method_22_19 : decode jdk_68_method_22_code 19 = .ok (.iload_n 2, 1) := by decide +kernel
theorem d_jdk_68_method_22_20 : decode jdk_68_method_22_code 20 = .ok (.iadd, 1) := by decide +kernel
theorem d_jdk_68_method_22_21 : decode jdk_68_method_22_code 21 = .ok (.invokevirtual 100, 3) := by decide +kernel
theorem d_jdk_68_method_22_24 : decode jdk_68_method_22_code 24 = .ok (.aload_n 0, 1) := by decide +kernel
theorem d_jdk_68_method_22_25 : decode jdk_68_method_22_code 25 = .ok (.aload_n 0, 1) := by decide +kernel
theorem d_jdk_68_method_22_26 : decode jdk_68_method_22_code 26 = .ok (.getfield 79, 3) := by decide +kernel
theorem d_jdk_68_method_22_29 : decode jdk_68_method_22_code 29 = .ok (.aload_n 1, 1) := by decide +kernel
theorem pd_101 : parseMethodDescriptor "(ILjava/lang/String;)V" = some ⟨[.int, (.object "java/lang/String")], none⟩ := by decide +kernel
theorem d_jdk_68_method_22_30 : decode jdk_68_method_22_code 30 = .ok (.invokevirtual 208, 3) := by decide +kernel
theorem d_jdk_68_method_22_33 : decode jdk_68_method_22_code 33 = .ok (.aload_n 0, 1) := by decide +kernel
theorem d_jdk_68_method_22_34 : decode jdk_68_method_22_code 34 = .ok (.dup, 1) := by decide +kernel
theorem d_jdk_68_method_22_35 : decode jdk_68_method_22_code 35 = .ok (.getfield 79, 3) := by decide +kernel
theorem d_jdk_68_method_22_38 : decode jdk_68_method_22_code 38 = .ok (.iload_n 2, 1) := by decide +kernel
theorem d_jdk_68_method_22_39 : decode jdk_68_method_22_code 39 = .ok (.iadd, 1) := by decide +kernel
theorem d_jdk_68_method_22_40 : decode jdk_68_method_22_code 40 = .ok (.putfield 79, 3) := by decide +kernel
theorem d_jdk_68_method_22_43 : decode jdk_68_method_22_code 43 = .ok (.aload_n 0, 1) := by decide +kernel
theorem d_jdk_68_method_22_44 : decode jdk_68_method_22_code 44 = .ok (.areturn, 1) := by decide +kernel
def Q_asbappend (Z : State) (a1 : Nat) (a2 : Nat) (t : Nat) (cs : List Int32) (ds : List Int32) (cap : Nat) (k : ClassId) (zc : Int32) (a4 : Nat) (h0 : Heap) (v : Option Value) (h : Heap) (L : List Loc) : Prop := v = some (.ref a1) ∧ Fr Z.heap.size L ∧ Keep h0 h [a1, a4] ∧ Exa Z h a1 "java/lang/StringBuilder" ∧ Fld Z h a1 "java/lang/AbstractStringBuilder" "value" "[B" (.ref a4) ∧ Fld Z h a1 "java/lang/AbstractStringBuilder" "coder" "B" (.int (0 : Int32)) ∧ Fld Z h a1 "java/lang/AbstractStringBuilder" "count" "I" (.int (Int32.ofNat (cs ++ ds).length)) ∧ Arv Z h a4 k .byte (Int32.ofNat cap) (own_low (cs ++ ds)) (.int (0 : Int32))
set_option maxRecDepth 65536 in
set_option maxHeartbeats 40000000 in
theorem rm_asbappend (l : Launch) (Z : State) (a0 : Array Value) (hw : ∀ d ∈ tables_1, d.before a0 Z = true) (ws : List Jvm.Cond) (a1 : Nat) (a2 : Nat) (t : Nat) (cs : List Int32) (ds : List Int32) (cap : Nat) (k : ClassId) (zc : Int32) (a4 : Nat) (h0 : Heap) (OL : Old Z Z.heap.size h0) (p0_ : Exa Z h0 a1 "java/lang/StringBuilder") (p1_ : Fld Z h0 a1 "java/lang/AbstractStringBuilder" "value" "[B" (.ref a4)) (p2_ : Fld Z h0 a1 "java/lang/AbstractStringBuilder" "coder" "B" (.int (0 : Int32))) (p3_ : Fld Z h0 a1 "java/lang/AbstractStringBuilder" "count" "I" (.int (Int32.ofNat cs.length))) (p4_ : own_Str Z h0 a2 t ds) (p5_ : Arv Z h0 a4 k .byte (Int32.ofNat cap) (own_low cs) (.int (0 : Int32))) (st_COMPACT_STRINGS : Sta Z Z.heap "java/lang/String" "COMPACT_STRINGS" "Z" (.int zc)) (hzc : ¬ zc = 0) (hfit : cs.length + ds.length ≤ cap) (hcap : cap ≤ 100) (hne : @Ne Nat t a4) (hn0 : Z.heap.size ≤ a1) (hn4 : Z.heap.size ≤ a4) (hld : ∀ c ∈ ds, ¬ c < 0 ∧ ¬ (255 : Int32) < c) :
    MetFree l (⟨"java/lang/AbstractStringBuilder", "append", "(Ljava/lang/String;)Ljava/lang/AbstractStringBuilder;"⟩ : MethodName) (head1 (Jvm.Cond.code (⟨"java/lang/AbstractStringBuilder", "append", "(Ljava/lang/String;)Ljava/lang/AbstractStringBuilder;"⟩ : MethodName) jdk_68_method_22_code 3 (some (.object "java/lang/AbstractStringBuilder")) :: ws) ({ frames := 3, cells := 0, slots := 0, locals := 73 } : Room)) (fun a U => a = #[(.ref a1), (.ref a2)] ∧ Z.Warmed39 U.vm ∧ U.heap = h0) (fun _ _ _ _ _ => True) (fun _ U o U' => ∃ v L, o = .returned v ∧ Q_asbappend Z a1 a2 t cs ds cap k zc a4 h0 v U'.heap L ∧ FrameEnd U o U' L ({ frames := 3, cells := 0, slots := 0, locals := 73 } : Room).cells ({ frames := 3, cells := 0, slots := 0, locals := 73 } : Room).slots) := by
  refine MetFree.of_bodySF (plainFor_of_name pn_0) hisR ?_
  intro p e s m args below meth c s₁ Bd hml0 hP hK
  obtain ⟨rfl, hZ, hh⟩ := hP
  have hx := Bd.exec
  have hby := Bd.bytes
  have hml : c.maxLocals = 3 := hml0
  have hown : s.vm.findClass "java/lang/AbstractStringBuilder" = some m.cls := findClass_of_methodNamed Bd.named
  have hnm := (name_of_methodNamed Bd.named Bd.method).1
  have X0 : Stand p l e ({ frames := 3, cells := 0, slots := 0, locals := 73 } : Room) s m #[(.ref a1), (.ref a2)] below meth c s₁ [] 0 0 := Stand.of_body Bd
  have e0 : s₁.heap = h0 := by rw [← hh, Bd.state]; rfl
  have N0 := Fr.nil Z.heap.size
  have Z0 : Z.heap.size ≤ h0.size := OL.2.1
  have lt_0 : @LT.lt Nat _ a1 h0.size := p0_.lt
  have lt_1 : @LT.lt Nat _ a1 h0.size := p1_.lt
  have lt_2 : @LT.lt Nat _ a1 h0.size := p2_.lt
  have lt_3 : @LT.lt Nat _ a1 h0.size := p3_.lt
  have lt_4 : @LT.lt Nat _ a2 h0.size := p4_.lt
  have ltv_4 : @LT.lt Nat _ t h0.size := p4_.ltv
  have lt_5 : @LT.lt Nat _ a4 h0.size := p5_.lt
  obtain ⟨PP, hPP⟩ : ∃ PP : Outcome → State → Prop, PP = (fun o tE => ∃ v L, o = .returned v ∧ Q_asbappend Z a1 a2 t cs ds cap k zc a4 h0 v tE.heap L ∧ FrameEnd s o tE L ({ frames := 3, cells := 0, slots := 0, locals := 73 } : Room).cells ({ frames := 3, cells := 0, slots := 0, locals := 73 } : Room).slots) := ⟨_, rfl⟩
  show own_Go p.tables e below (fun o tE => ∃ v L, o = .returned v ∧ Q_asbappend Z a1 a2 t cs ds cap k zc a4 h0 v tE.heap L ∧ FrameEnd s o tE L ({ frames := 3, cells := 0, slots := 0, locals := 73 } : Room).cells ({ frames := 3, cells := 0, slots := 0, locals := 73 } : Room).slots) (s₁.setTop (entryFrame m #[(.ref a1), (.ref a2)] 3))
  rw [← hPP]
  refine own_Go.st (fun t k => castTop (ef_84 m a1 a2) k) ?_
  show own_Go _ _ _ _ (s₁.setTop (mkF m 0 #[.val (.ref a1), .val (.ref a2), .unset] []))
  refine own_Go.st (fun _ k => XS.aloadN X0.here hx rfl (hb hby d_jdk_68_method_22_0) rfl rfl k) ?_
  show own_Go _ _ _ _ (s₁.setTop (mkF m 1 #[.val (.ref a1), .val (.ref a2), .unset] [(.ref a2)]))
  refine own_Go.st (fun _ k => XS.ifnonnullYes X0.here hx rfl (pc0 := 1) (pc' := 9) rfl (hb hby d_jdk_68_method_22_1) rfl (by decide) (by decide) k) ?_
  show own_Go _ _ _ _ (s₁.setTop (mkF m 9 #[.val (.ref a1), .val (.ref a2), .unset] []))
  refine own_Go.st (fun _ k => XS.aloadN X0.here hx rfl (hb hby d_jdk_68_method_22_9) rfl rfl k) ?_
  show own_Go _ _ _ _ (s₁.setTop (mkF m 10 #[.val (.ref a1), .val (.ref a2), .unset] [(.ref a2)]))
  obtain ⟨kb161, cd161, N161_, vs161, s1161, s2161, s3161, s4161, s5161, s6161, s7161⟩ := id p4_
  obtain ⟨cq160, kq160, q160a, q160b, q160c⟩ := isOf hZ e0 p4_.exa
  obtain ⟨_, _, ⟨T160, L160, k160, n160⟩, -, X160, ⟨Lc160, hQ160, l160, y160, z160⟩, st160⟩ := X0.virtualBack hx (y := (⟨"java/lang/String", "length", "()I"⟩ : MethodName)) (z := (⟨"java/lang/String", "length", "()I"⟩ : MethodName)) hown (mvT hZ (hw _ (List.mem_of_getElem? (i := 47) rfl))) (mvT hZ (hw _ (List.mem_of_getElem? (i := 48) rfl))) (notFace_of_selects (args := #[]) (mvT hZ (hw _ (List.mem_of_getElem? (i := 50) rfl)))) (mvT hZ (hw _ (List.mem_of_getElem? (i := 50) rfl))) (mvT hZ (hw _ (List.mem_of_getElem? (i := 49) rfl))) (by decide) (StrChars.Road.lenW (W := 0) hZ (own_hln hw) (kI := 4) (hw _ (List.mem_of_getElem? (i := 6) rfl)) s1161 s2161 s3161 s4161 s5161 s6161 (st_COMPACT_STRINGS.ext OL.2) hzc s7161 (by decide) (by decide)) q160a q160c (g := (mkF m 10 #[.val (.ref a1), .val (.ref a2), .unset] [(.ref a2)])) rfl (by rw [hml]; rfl) (Steps.refl _) (argsL := []) (rest := []) (lenOf pd_88 rfl) rfl (by show 2 * 0 + _ ≤ _; exact Nat.le_of_eq rfl) (hb hby d_jdk_68_method_22_10) (fun _ _ => ⟨rfl, e0, (by decide : 0 + 0 ≤ _), (by decide : 0 + 0 ≤ _)⟩)
  dsimp only [Pt.U, Pt.locs, Pt.cells, Pt.slots] at X160 l160 y160 z160 st160 hQ160
  subst l160 y160 z160
  obtain ⟨rfl, rfl, K160⟩ := hQ160
  have N160 := Fr.app N0 (Fr.nil Z.heap.size)
  refine own_Go.tr st160 ?_
  show own_Go _ _ _ _ (T160.setTop (mkF m 13 #[.val (.ref a1), .val (.ref a2), .unset] [(.int (Int32.ofNat ds.length))]))
  refine own_Go.st (fun _ k => XS.istoreN X160.here hx rfl (hb hby d_jdk_68_method_22_13) rfl (l' := #[.val (.ref a1), .val (.ref a2), .val (.int (Int32.ofNat ds.length))]) rfl k) ?_
  show own_Go _ _ _ _ (T160.setTop (mkF m 14 #[.val (.ref a1), .val (.ref a2), .val (.int (Int32.ofNat ds.length))] []))
  refine own_Go.st (fun _ k => XS.aloadN X160.here hx rfl (hb hby d_jdk_68_method_22_14) rfl rfl k) ?_
  show own_Go _ _ _ _ (T160.setTop (mkF m 15 #[.val (.ref a1), .val (.ref a2), .val (.int (Int32.ofNat ds.length))] [(.ref a1)]))
  refine own_Go.st (fun _ k => XS.aloadN X160.here hx rfl (hb hby d_jdk_68_method_22_15) rfl rfl k) ?_
  show own_Go _ _ _ _ (T160.setTop (mkF m 16 #[.val (.ref a1), .val (.ref a2), .val (.int (Int32.ofNat ds.length))] [(.ref a1), (.ref a1)]))
  obtain ⟨T162, X162, e162, st162⟩ := getF X160 hx hZ hown (host := "") (Or.inl (hw _ (List.mem_of_getElem? (i := 60) rfl))) Via.refl K160 p3_ (g := (mkF m 16 #[.val (.ref a1), .val (.ref a2), .val (.int (Int32.ofNat ds.length))] [(.ref a1), (.ref a1)])) rfl rfl (hb hby d_jdk_68_method_22_16)
  refine own_Go.st st162 ?_
  show own_Go _ _ _ _ (T162.setTop (mkF m 19 #[.val (.ref a1), .val (.ref a2), .val (.int (Int32.ofNat ds.length))] [(.int (Int32.ofNat cs.length)), (.ref a1)]))
  refine own_Go.st (fun _ k => XS.iloadN X162.here hx rfl (hb hby d_jdk_68_method_22_19) rfl k) ?_
  show own_Go _ _ _ _ (T162.setTop (mkF m 20 #[.val (.ref a1), .val (.ref a2), .val (.int (Int32.ofNat ds.length))] [(.int (Int32.ofNat ds.length)), (.int (Int32.ofNat cs.length)), (.ref a1)]))
  refine own_Go.st (fun _ k => XS.iadd X162.here hx rfl (hb hby d_jdk_68_method_22_20) rfl k) ?_
  show own_Go _ _ _ _ (T162.setTop (mkF m 21 #[.val (.ref a1), .val (.ref a2), .val (.int (Int32.ofNat ds.length))] [(.int ((Int32.ofNat cs.length) + (Int32.ofNat ds.length))), (.ref a1)]))
  rw [own_ofA (by omega)]
  show own_Go _ _ _ _ (T162.setTop (mkF m 21 #[.val (.ref a1), .val (.ref a2), .val (.int (Int32.ofNat ds.length))] [(.int (Int32.ofNat (cs.length + ds.length))), (.ref a1)]))
  obtain ⟨cq163, q163, q163'⟩ := p0_.cell
  obtain ⟨_, _, ⟨T163, L163, k163, n163⟩, -, X163, ⟨Lc163, hQ163, l163, y163, z163⟩, st163⟩ := X162.privateBack hx (y := (⟨"java/lang/AbstractStringBuilder", "ensureCapacityInternal", "(I)V"⟩ : MethodName)) hown (mvT hZ (hw _ (List.mem_of_getElem? (i := 62) rfl))) (mvT hZ (hw _ (List.mem_of_getElem? (i := 63) rfl))) (own_selP (mvT hZ (hw _ (List.mem_of_getElem? (i := 65) rfl))) (Cond.privateMethod_at (mvP hZ (hw _ (List.mem_of_getElem? (i := 64) rfl)) (args := #[]))) (mvT hZ (hw _ (List.mem_of_getElem? (i := 63) rfl))) (by decide)) (Cond.privateMethod_at (mvP hZ (hw _ (List.mem_of_getElem? (i := 64) rfl)) (args := #[]))) (mvT hZ (hw _ (List.mem_of_getElem? (i := 66) rfl))) (by decide) (backOf (W := 0) (rm_ensure0 l Z a0 hw [] a1 (Int32.ofNat (cs.length + ds.length)) (cs.length + ds.length) cap a4 k (own_low cs) h0 OL p1_ p2_ p5_ rfl hfit (by first | assumption | decide)) hZ (hw _ (List.mem_of_getElem? (i := 66) rfl)) (hw _ (List.mem_of_getElem? (i := 27) rfl)) (by decide) (by decide)) (g := (mkF m 21 #[.val (.ref a1), .val (.ref a2), .val (.int (Int32.ofNat ds.length))] [(.int (Int32.ofNat (cs.length + ds.length))), (.ref a1)])) rfl (by rw [hml]; rfl) (Steps.refl _) (a := a1) (by rw [e162]; exact q163) q163' (argsL := [(.int (Int32.ofNat (cs.length + ds.length)))]) (rest := []) (lenOf pd_19 rfl) rfl (by show 2 * 0 + _ ≤ _; exact Nat.le_of_eq rfl) (hb hby d_jdk_68_method_22_21) (fun _ _ => ⟨rfl, e162, (by decide : 0 + 0 ≤ _), (by decide : 0 + 0 ≤ _)⟩)
  dsimp only [Pt.U, Pt.locs, Pt.cells, Pt.slots] at X163 l163 y163 z163 st163 hQ163
  subst l163 y163 z163
  obtain ⟨rfl, N163q, K163⟩ := hQ163
  have N163 := Fr.app N160 N163q
  refine own_Go.tr st163 ?_
  show own_Go _ _ _ _ (T163.setTop (mkF m 24 #[.val (.ref a1), .val (.ref a2), .val (.int (Int32.ofNat ds.length))] []))
  refine own_Go.st (fun _ k => XS.aloadN X163.here hx rfl (hb hby d_jdk_68_method_22_24) rfl rfl k) ?_
  show own_Go _ _ _ _ (T163.setTop (mkF m 25 #[.val (.ref a1), .val (.ref a2), .val (.int (Int32.ofNat ds.length))] [(.ref a1)]))
  refine own_Go.st (fun _ k => XS.aloadN X163.here hx rfl (hb hby d_jdk_68_method_22_25) rfl rfl k) ?_
  show own_Go _ _ _ _ (T163.setTop (mkF m 26 #[.val (.ref a1), .val (.ref a2), .val (.int (Int32.ofNat ds.length))] [(.ref a1), (.ref a1)]))
  obtain ⟨T164, X164, e164, st164⟩ := getF X163 hx hZ hown (host := "") (Or.inl (hw _ (List.mem_of_getElem? (i := 60) rfl))) Via.refl K163 p3_ (g := (mkF m 26 #[.val (.ref a1), .val (.ref a2), .val (.int (Int32.ofNat ds.length))] [(.ref a1), (.ref a1)])) rfl rfl (hb hby d_jdk_68_method_22_26)
  refine own_Go.st st164 ?_
  show own_Go _ _ _ _ (T164.setTop (mkF m 29 #[.val (.ref a1), .val (.ref a2), .val (.int (Int32.ofNat ds.length))] [(.int (Int32.ofNat cs.length)), (.ref a1)]))
  refine own_Go.st (fun _ k => XS.aloadN X164.here hx rfl (hb hby d_jdk_68_method_22_29) rfl rfl k) ?_
  show own_Go _ _ _ _ (T164.setTop (mkF m 30 #[.val (.ref a1), .val (.ref a2), .val (.int (Int32.ofNat ds.length))] [(.ref a2), (.int (Int32.ofNat cs.length)), (.ref a1)]))
  obtain ⟨cq165, q165, q165'⟩ := p0_.cell
  obtain ⟨_, _, ⟨T165, L165, k165, n165⟩, -, X165, ⟨Lc165, hQ165, l165, y165, z165⟩, st165⟩ := X164.privateBack hx (y := (⟨"java/lang/AbstractStringBuilder", "putStringAt", "(ILjava/lang/String;)V"⟩ : MethodName)) hown (mvT hZ (hw _ (List.mem_of_getElem? (i := 67) rfl))) (mvT hZ (hw _ (List.mem_of_getElem? (i := 68) rfl))) (own_selP (mvT hZ (hw _ (List.mem_of_getElem? (i := 70) rfl))) (Cond.privateMethod_at (mvP hZ (hw _ (List.mem_of_getElem? (i := 69) rfl)) (args := #[]))) (mvT hZ (hw _ (List.mem_of_getElem? (i := 68) rfl))) (by decide)) (Cond.privateMethod_at (mvP hZ (hw _ (List.mem_of_getElem? (i := 69) rfl)) (args := #[]))) (mvT hZ (hw _ (List.mem_of_getElem? (i := 71) rfl))) (by decide) (backOf (W := 0) (rm_putStringAt l Z a0 hw [] a1 (Int32.ofNat cs.length) a2 t cs ds cap k zc a4 h0 OL p0_ p1_ p2_ p4_ p5_ st_COMPACT_STRINGS (by first | assumption | decide) rfl (by first | assumption | decide) (by first | assumption | decide) (by first | assumption | decide) hn4 (by first | assumption | decide)) hZ (hw _ (List.mem_of_getElem? (i := 71) rfl)) (hw _ (List.mem_of_getElem? (i := 27) rfl)) (by decide) (by decide)) (g := (mkF m 30 #[.val (.ref a1), .val (.ref a2), .val (.int (Int32.ofNat ds.length))] [(.ref a2), (.int (Int32.ofNat cs.length)), (.ref a1)])) rfl (by rw [hml]; rfl) (Steps.refl _) (a := a1) (by rw [e164]; exact q165) q165' (argsL := [(.int (Int32.ofNat cs.length)), (.ref a2)]) (rest := []) (lenOf pd_101 rfl) rfl (by show 2 * 0 + _ ≤ _; exact Nat.le_of_eq rfl) (hb hby d_jdk_68_method_22_30) (fun _ _ => ⟨rfl, e164, (by decide : 0 + 0 ≤ _), (by decide : 0 + 0 ≤ _)⟩)
  dsimp only [Pt.U, Pt.locs, Pt.cells, Pt.slots] at X165 l165 y165 z165 st165 hQ165
  subst l165 y165 z165
  obtain ⟨rfl, N165q, K165, f165_0⟩ := hQ165
  have N165 := Fr.app N163 N165q
  have z165 : h0.size ≤ T165.heap.size := K165.1
  have lt165_0 : @LT.lt Nat _ a4 T165.heap.size := f165_0.lt
  refine own_Go.tr st165 ?_
  show own_Go _ _ _ _ (T165.setTop (mkF m 33 #[.val (.ref a1), .val (.ref a2), .val (.int (Int32.ofNat ds.length))] []))
  refine own_Go.st (fun _ k => XS.aloadN X165.here hx rfl (hb hby d_jdk_68_method_22_33) rfl rfl k) ?_
  show own_Go _ _ _ _ (T165.setTop (mkF m 34 #[.val (.ref a1), .val (.ref a2), .val (.int (Int32.ofNat ds.length))] [(.ref a1)]))
  refine own_Go.st (fun _ k => XS.dup X165.here hx rfl (hb hby d_jdk_68_method_22_34) rfl rfl k) ?_
  show own_Go _ _ _ _ (T165.setTop (mkF m 35 #[.val (.ref a1), .val (.ref a2), .val (.int (Int32.ofNat ds.length))] [(.ref a1), (.ref a1)]))
  have ne166 : @Ne Nat a1 a4 := Exa.neArv p0_ p5_ (hw _ (List.mem_of_getElem? (i := 18) rfl))
  have f167 : Fld Z T165.heap a1 "java/lang/AbstractStringBuilder" "count" "I" (.int (Int32.ofNat cs.length)) := p3_.keep K165 (ninS ne166 nin0)
  obtain ⟨T168, X168, e168, st168⟩ := getF X165 hx hZ hown (host := "") (Or.inl (hw _ (List.mem_of_getElem? (i := 60) rfl))) Via.refl rfl f167 (g := (mkF m 35 #[.val (.ref a1), .val (.ref a2), .val (.int (Int32.ofNat ds.length))] [(.ref a1), (.ref a1)])) rfl rfl (hb hby d_jdk_68_method_22_35)
  refine own_Go.st st168 ?_
  show own_Go _ _ _ _ (T168.setTop (mkF m 38 #[.val (.ref a1), .val (.ref a2), .val (.int (Int32.ofNat ds.length))] [(.int (Int32.ofNat cs.length)), (.ref a1)]))
  refine own_Go.st (fun _ k => XS.iloadN X168.here hx rfl (hb hby d_jdk_68_method_22_38) rfl k) ?_
  show own_Go _ _ _ _ (T168.setTop (mkF m 39 #[.val (.ref a1), .val (.ref a2), .val (.int (Int32.ofNat ds.length))] [(.int (Int32.ofNat ds.length)), (.int (Int32.ofNat cs.length)), (.ref a1)]))
  refine own_Go.st (fun _ k => XS.iadd X168.here hx rfl (hb hby d_jdk_68_method_22_39) rfl k) ?_
  show own_Go _ _ _ _ (T168.setTop (mkF m 40 #[.val (.ref a1), .val (.ref a2), .val (.int (Int32.ofNat ds.length))] [(.int ((Int32.ofNat cs.length) + (Int32.ofNat ds.length))), (.ref a1)]))
  rw [own_ofA (by omega), ← List.length_append]
  show own_Go _ _ _ _ (T168.setTop (mkF m 40 #[.val (.ref a1), .val (.ref a2), .val (.int (Int32.ofNat ds.length))] [(.int (Int32.ofNat (cs ++ ds).length)), (.ref a1)]))
  have f169 : Exa Z T165.heap a1 "java/lang/StringBuilder" := p0_.keep K165
  obtain ⟨T170, h170, X170, e170, W170, st170⟩ := putF X168 hx hZ hown (host := "") (Or.inl (hw _ (List.mem_of_getElem? (i := 60) rfl))) Via.refl e168 f167 f169 (Or.inl (hw _ (List.mem_of_getElem? (i := 61) rfl))) (hw _ (List.mem_of_getElem? (i := 18) rfl)) (ty := .int) (by decide) rfl rfl (g := (mkF m 40 #[.val (.ref a1), .val (.ref a2), .val (.int (Int32.ofNat ds.length))] [(.int (Int32.ofNat (cs ++ ds).length)), (.ref a1)])) rfl rfl (hb hby d_jdk_68_method_22_40)
  refine own_Go.st st170 ?_
  have N170 := Fr.snoc X170 N165 (by omega)
  have z170 : T165.heap.size ≤ h170.size := Nat.le_of_eq W170.size.symm
  have f171 : Fld Z h170 a1 "java/lang/AbstractStringBuilder" "count" "I" (.int (Int32.ofNat (cs ++ ds).length)) := f167.same W170
  show own_Go _ _ _ _ (T170.setTop (mkF m 43 #[.val (.ref a1), .val (.ref a2), .val (.int (Int32.ofNat ds.length))] []))
  refine own_Go.st (fun _ k => XS.aloadN X170.here hx rfl (hb hby d_jdk_68_method_22_43) rfl rfl k) ?_
  show own_Go _ _ _ _ (T170.setTop (mkF m 44 #[.val (.ref a1), .val (.ref a2), .val (.int (Int32.ofNat ds.length))] [(.ref a1)]))
  obtain ⟨fs172, hr172, hrun172, hend172, hW172, hsm172⟩ := X170.leave (v := some (.ref a1)) (fun h => by rw [Bd.returns] at h; cases h)
  have K173 : Keep h0 T165.heap [a1, a4] := (Keep.refl h0 [a1, a4]).trans K165 (allS (Or.inl (List.mem_of_getElem? (i := 1) rfl)) all0)
  have K174 : Keep h0 h170 [a1, a4] := K173.wr W170 (Or.inl (List.mem_of_getElem? (i := 0) rfl))
  have f175 : Exa Z h170 a1 "java/lang/StringBuilder" := f169.wr W170
  have f176 : Fld Z T165.heap a1 "java/lang/AbstractStringBuilder" "value" "[B" (.ref a4) := p1_.keep K165 (ninS ne166 nin0)
  have f177 : Fld Z h170 a1 "java/lang/AbstractStringBuilder" "value" "[B" (.ref a4) := f176.other W170 (Or.inr (slot_ne (Or.inl (hw _ (List.mem_of_getElem? (i := 34) rfl))) (Or.inl (hw _ (List.mem_of_getElem? (i := 61) rfl))) (by decide) (t := (.array .byte)) (t' := .int) (by decide) (by decide)))
  have f178 : Fld Z T165.heap a1 "java/lang/AbstractStringBuilder" "coder" "B" (.int (0 : Int32)) := p2_.keep K165 (ninS ne166 nin0)
  have f179 : Fld Z h170 a1 "java/lang/AbstractStringBuilder" "coder" "B" (.int (0 : Int32)) := f178.other W170 (Or.inr (slot_ne (Or.inl (hw _ (List.mem_of_getElem? (i := 36) rfl))) (Or.inl (hw _ (List.mem_of_getElem? (i := 61) rfl))) (by decide) (t := .byte) (t' := .int) (by decide) (by decide)))
  have f180 : Arv Z h170 a4 k .byte (Int32.ofNat cap) (own_low (cs ++ ds)) (.int (0 : Int32)) := f165_0.other W170 (Ne.symm ne166)
  subst hPP
  refine ⟨_, _, own_retA X170 hx Bd.returns rfl rfl (hb hby d_jdk_68_method_22_44) hr172, hrun172, hend172, _, _, rfl, ?_, ⟨_, rfl⟩, hW172, hsm172.mono (by decide) (by decide)⟩
  · show Q_asbappend Z _ _ _ _ _ _ _ _ _ h0 _ T170.heap _
    rw [e170]
    exact ⟨rfl, N170, K174, f175, f177, f179, f171, f180⟩
theorem d_jdk_67_method_7_0 : decode jdk_67_method_7_code 0 = .ok (.aload_n 0, 1) := by decide +kernel
theorem d_jdk_67_method_7_1 : decode jdk_67_method_7_code 1 = .ok (.aload_n 1, 1) := by decide +kernel
theorem pd_113 : parseMethodDescriptor "(Ljava/lang/String;)Ljava/lang/AbstractStringBuilder;" = some ⟨[(.object "java/lang/String")], some (.object "java/lang/AbstractStringBuilder")⟩ := by decide +kernel
theorem d_jdk_67_method_7_2 : decode jdk_67_method_7_code 2 = .ok (.invokespecial 29, 3) := by decide +kernel
theorem d_jdk_67_method_7_5 : decode jdk_67_method_7_code 5 = .ok (.pop, 1) := by decide +kernel
theorem d_jdk_67_method_7_6 : decode jdk_67_method_7_code 6 = .ok (.aload_n 0, 1) := by decide +kernel
theorem d_jdk_67_method_7_7 : decode jdk_67_method_7_code 7 = .ok (.areturn, 1) := by decide +kernel
def Q_sbappend (Z : State) (a1 : Nat) (a2 : Nat) (t : Nat) (cs : List Int32) (ds : List Int32) (cap : Nat) (k : ClassId) (zc : Int32) (a4 : Nat) (h0 : Heap) (v : Option Value) (h : Heap) (L : List Loc) : Prop := v = some (.ref a1) ∧ Fr Z.heap.size L ∧ Keep h0 h [a1, a4] ∧ Exa Z h a1 "java/lang/StringBuilder" ∧ Fld Z h a1 "java/lang/AbstractStringBuilder" "value" "[B" (.ref a4) ∧ Fld Z h a1 "java/lang/AbstractStringBuilder" "coder" "B" (.int (0 : Int32)) ∧ Fld Z h a1 "java/lang/AbstractStringBuilder" "count" "I" (.int (Int32.ofNat (cs ++ ds).length)) ∧ Arv Z h a4 k .byte (Int32.ofNat cap) (own_low (cs ++ ds)) (.int (0 : Int32))
set_option maxRecDepth 65536 in
set_option maxHeartbeats 40000000 in
theorem rm_sbappend (l : Launch) (Z : State) (a0 : Array Value) (hw : ∀ d ∈ tables_1, d.before a0 Z = true) (ws : List Jvm.Cond) (a1 : Nat) (a2 : Nat) (t : Nat) (cs : List Int32) (ds : List Int32) (cap : Nat) (k : ClassId) (zc : Int32) (a4 : Nat) (h0 : Heap) (OL : Old Z Z.heap.size h0) (p0_ : Exa Z h0 a1 "java/lang/StringBuilder") (p1_ : Fld Z h0 a1 "java/lang/AbstractStringBuilder" "value" "[B" (.ref a4)) (p2_ : Fld Z h0 a1 "java/lang/AbstractStringBuilder" "coder" "B" (.int (0 : Int32))) (p3_ : Fld Z h0 a1 "java/lang/AbstractStringBuilder" "count" "I" (.int (Int32.ofNat cs.length))) (p4_ : own_Str Z h0 a2 t ds) (p5_ : Arv Z h0 a4 k .byte (Int32.ofNat cap) (own_low cs) (.int (0 : Int32))) (st_COMPACT_STRINGS : Sta Z Z.heap "java/lang/String" "COMPACT_STRINGS" "Z" (.int zc)) (hzc : ¬ zc = 0) (hfit : cs.length + ds.length ≤ cap) (hcap : cap ≤ 100) (hne : @Ne Nat t a4) (hn0 : Z.heap.size ≤ a1) (hn4 : Z.heap.size ≤ a4) (hld : ∀ c ∈ ds, ¬ c < 0 ∧ ¬ (255 : Int32) < c) :
    MetFree l (⟨"java/lang/StringBuilder", "append", "(Ljava/lang/String;)Ljava/lang/StringBuilder;"⟩ : MethodName) (head1 (Jvm.Cond.code (⟨"java/lang/StringBuilder", "append", "(Ljava/lang/String;)Ljava/lang/StringBuilder;"⟩ : MethodName) jdk_67_method_7_code 2 (some (.object "java/lang/StringBuilder")) :: ws) ({ frames := 4, cells := 0, slots := 0, locals := 90 } : Room)) (fun a U => a = #[(.ref a1), (.ref a2)] ∧ Z.Warmed39 U.vm ∧ U.heap = h0) (fun _ _ _ _ _ => True) (fun _ U o U' => ∃ v L, o = .returned v ∧ Q_sbappend Z a1 a2 t cs ds cap k zc a4 h0 v U'.heap L ∧ FrameEnd U o U' L ({ frames := 4, cells := 0, slots := 0, locals := 90 } : Room).cells ({ frames := 4, cells := 0, slots := 0, locals := 90 } : Room).slots) := by
  refine MetFree.of_bodySF (plainFor_of_name pn_15) hisR ?_
  intro p e s m args below meth c s₁ Bd hml0 hP hK
  obtain ⟨rfl, hZ, hh⟩ := hP
  have hx := Bd.exec
  have hby := Bd.bytes
  have hml : c.maxLocals = 2 := hml0
  have hown : s.vm.findClass "java/lang/StringBuilder" = some m.cls := findClass_of_methodNamed Bd.named
  have hnm := (name_of_methodNamed Bd.named Bd.method).1
  have X0 : Stand p l e ({ frames := 4, cells := 0, slots := 0, locals := 90 } : Room) s m #[(.ref a1), (.ref a2)] below meth c s₁ [] 0 0 := Stand.of_body Bd
  have e0 : s₁.heap = h0 := by rw [← hh, Bd.state]; rfl
  have N0 := Fr.nil Z.heap.size
  have Z0 : Z.heap.size ≤ h0.size := OL.2.1
  have lt_0 : @LT.lt Nat _ a1 h0.size := p0_.lt
  have lt_1 : @LT.lt Nat _ a1 h0.size := p1_.lt
  have lt_2 : @LT.lt Nat _ a1 h0.size := p2_.lt
  have lt_3 : @LT.lt Nat _ a1 h0.size := p3_.lt
  have lt_4 : @LT.lt Nat _ a2 h0.size := p4_.lt
  have ltv_4 : @LT.lt Nat _ t h0.size := p4_.ltv
  have lt_5 : @LT.lt Nat _ a4 h0.size := p5_.lt
  obtain ⟨PP, hPP⟩ : ∃ PP : Outcome → State → Prop, PP = (fun o tE => ∃ v L, o = .returned v ∧ Q_sbappend Z a1 a2 t cs ds cap k zc a4 h0 v tE.heap L ∧ FrameEnd s o tE L ({ frames := 4, cells := 0, slots := 0, locals := 90 } : Room).cells ({ frames := 4, cells := 0, slots := 0, locals := 90 } : Room).slots) := ⟨_, rfl⟩
  show own_Go p.tables e below (fun o tE => ∃ v L, o = .returned v ∧ Q_sbappend Z a1 a2 t cs ds cap k zc a4 h0 v tE.heap L ∧ FrameEnd s o tE L ({ frames := 4, cells := 0, slots := 0, locals := 90 } : Room).cells ({ frames := 4, cells := 0, slots := 0, locals := 90 } : Room).slots) (s₁.setTop (entryFrame m #[(.ref a1), (.ref a2)] 2))
  rw [← hPP]
  refine own_Go.st (fun t k => castTop (ef_29 m a1 a2) k) ?_
  show own_Go _ _ _ _ (s₁.setTop (mkF m 0 #[.val (.ref a1), .val (.ref a2)] []))
  refine own_Go.st (fun _ k => XS.aloadN X0.here hx rfl (hb hby d_jdk_67_method_7_0) rfl rfl k) ?_
  show own_Go _ _ _ _ (s₁.setTop (mkF m 1 #[.val (.ref a1), .val (.ref a2)] [(.ref a1)]))
  refine own_Go.st (fun _ k => XS.aloadN X0.here hx rfl (hb hby d_jdk_67_method_7_1) rfl rfl k) ?_
  show own_Go _ _ _ _ (s₁.setTop (mkF m 2 #[.val (.ref a1), .val (.ref a2)] [(.ref a2), (.ref a1)]))
  obtain ⟨_, _, ⟨T181, L181, k181, n181⟩, -, X181, ⟨Lc181, hQ181, l181, y181, z181⟩, st181⟩ := superBack X0 hx hZ (y := (⟨"java/lang/AbstractStringBuilder", "append", "(Ljava/lang/String;)Ljava/lang/AbstractStringBuilder;"⟩ : MethodName)) hown (hw _ (List.mem_of_getElem? (i := 42) rfl)) (own_sameP (hw _ (List.mem_of_getElem? (i := 45) rfl)) (hw _ (List.mem_of_getElem? (i := 65) rfl)) rfl (by decide)) (hw _ (List.mem_of_getElem? (i := 43) rfl)) (hw _ (List.mem_of_getElem? (i := 44) rfl)) (by decide) (backOf (W := 0) (rm_asbappend l Z a0 hw [] a1 a2 t cs ds cap k zc a4 h0 OL p0_ p1_ p2_ p3_ p4_ p5_ st_COMPACT_STRINGS (by first | assumption | decide) (by first | assumption | decide) (by first | assumption | decide) (by first | assumption | decide) (by first | assumption | decide) (by first | assumption | decide) (by first | assumption | decide)) hZ (hw _ (List.mem_of_getElem? (i := 46) rfl)) (hw _ (List.mem_of_getElem? (i := 27) rfl)) (by decide) (by decide)) e0 (Ins.self p0_) (g := (mkF m 2 #[.val (.ref a1), .val (.ref a2)] [(.ref a2), (.ref a1)])) rfl (by rw [hml]; rfl) (hw _ (List.mem_of_getElem? (i := 46) rfl)) (argsL := [(.ref a2)]) (rest := []) (lenOf pd_113 rfl) rfl (by show 2 * 0 + _ ≤ _; exact Nat.le_of_eq rfl) (hb hby d_jdk_67_method_7_2) (fun _ _ => ⟨rfl, e0, (by decide : 0 + 0 ≤ _), (by decide : 0 + 0 ≤ _)⟩)
  dsimp only [Pt.U, Pt.locs, Pt.cells, Pt.slots] at X181 l181 y181 z181 st181 hQ181
  subst l181 y181 z181
  obtain ⟨rfl, N181q, K181, f181_0, f181_1, f181_2, f181_3, f181_4⟩ := hQ181
  have N181 := Fr.app N0 N181q
  have z181 : h0.size ≤ T181.heap.size := K181.1
  have lt181_0 : @LT.lt Nat _ a1 T181.heap.size := f181_0.lt
  have lt181_1 : @LT.lt Nat _ a1 T181.heap.size := f181_1.lt
  have lt181_2 : @LT.lt Nat _ a1 T181.heap.size := f181_2.lt
  have lt181_3 : @LT.lt Nat _ a1 T181.heap.size := f181_3.lt
  have lt181_4 : @LT.lt Nat _ a4 T181.heap.size := f181_4.lt
  refine own_Go.tr st181 ?_
  show own_Go _ _ _ _ (T181.setTop (mkF m 5 #[.val (.ref a1), .val (.ref a2)] [(.ref a1)]))
  refine own_Go.st (fun _ k => XS.pop X181.here hx rfl (hb hby d_jdk_67_method_7_5) rfl rfl k) ?_
  show own_Go _ _ _ _ (T181.setTop (mkF m 6 #[.val (.ref a1), .val (.ref a2)] []))
  refine own_Go.st (fun _ k => XS.aloadN X181.here hx rfl (hb hby d_jdk_67_method_7_6) rfl rfl k) ?_
  show own_Go _ _ _ _ (T181.setTop (mkF m 7 #[.val (.ref a1), .val (.ref a2)] [(.ref a1)]))
  obtain ⟨fs182, hr182, hrun182, hend182, hW182, hsm182⟩ := X181.leave (v := some (.ref a1)) (fun h => by rw [Bd.returns] at h; cases h)
  have K183 : Keep h0 T181.heap [a1, a4] := (Keep.refl h0 [a1, a4]).trans K181 (allS (Or.inl (List.mem_of_getElem? (i := 0) rfl)) (allS (Or.inl (List.mem_of_getElem? (i := 1) rfl)) all0))
  subst hPP
  refine ⟨_, _, own_retA X181 hx Bd.returns rfl rfl (hb hby d_jdk_67_method_7_7) hr182, hrun182, hend182, _, _, rfl, ?_, ⟨_, rfl⟩, hW182, hsm182.mono (by decide) (by decide)⟩
  · show Q_sbappend Z _ _ _ _ _ _ _ _ _ h0 _ T181.heap _
    exact ⟨rfl, N181, K183, f181_0, f181_1, f181_2, f181_3, f181_4⟩
theorem d_jdk_68_method_64_0 : decode jdk_68_method_64_code 0 = .ok (.aload_n 0, 1) := by decide +kernel
theorem d_jdk_68_method_64_1 : decode jdk_68_method_64_code 1 = .ok (.getfield 15, 3) := by decide +kernel
theorem d_jdk_68_method_64_4 : decode jdk_68_method_64_code 4 = .ok (.areturn, 1) := by decide +kernel
def Q_getValue (Z : State) (a1 : Nat) (a4 : Nat) (h0 : Heap) (v : Option Value) (h : Heap) (L : List Loc) : Prop := v = some (.ref a4) ∧ Fr Z.heap.size L ∧ h = h0
set_option maxRecDepth 65536 in
set_option maxHeartbeats 40000000 in
theorem rm_getValue (l : Launch) (Z : State) (a0 : Array Value) (hw : ∀ d ∈ tables_1, d.before a0 Z = true) (ws : List Jvm.Cond) (a1 : Nat) (a4 : Nat) (h0 : Heap) (OL : Old Z Z.heap.size h0) (p0_ : Fld Z h0 a1 "java/lang/AbstractStringBuilder" "value" "[B" (.ref a4)) :
    MetFree l (⟨"java/lang/AbstractStringBuilder", "getValue", "()[B"⟩ : MethodName) (head1 (Jvm.Cond.code (⟨"java/lang/AbstractStringBuilder", "getValue", "()[B"⟩ : MethodName) jdk_68_method_64_code 1 (some (.array .byte)) :: ws) ({ frames := 0, cells := 0, slots := 0, locals := 0 } : Room)) (fun a U => a = #[(.ref a1)] ∧ Z.Warmed39 U.vm ∧ U.heap = h0) (fun _ _ _ _ _ => True) (fun _ U o U' => ∃ v L, o = .returned v ∧ Q_getValue Z a1 a4 h0 v U'.heap L ∧ FrameEnd U o U' L ({ frames := 0, cells := 0, slots := 0, locals := 0 } : Room).cells ({ frames := 0, cells := 0, slots := 0, locals := 0 } : Room).slots) := by
  refine MetFree.of_bodySF (plainFor_of_name pn_0) hisR ?_
  intro p e s m args below meth c s₁ Bd hml0 hP hK
  obtain ⟨rfl, hZ, hh⟩ := hP
  have hx := Bd.exec
  have hby := Bd.bytes
  have hml : c.maxLocals = 1 := hml0
  have hown : s.vm.findClass "java/lang/AbstractStringBuilder" = some m.cls := findClass_of_methodNamed Bd.named
  have hnm := (name_of_methodNamed Bd.named Bd.method).1
  have X0 : Stand p l e ({ frames := 0, cells := 0, slots := 0, locals := 0 } : Room) s m #[(.ref a1)] below meth c s₁ [] 0 0 := Stand.of_body Bd
  have e0 : s₁.heap = h0 := by rw [← hh, Bd.state]; rfl
  have N0 := Fr.nil Z.heap.size
  have Z0 : Z.heap.size ≤ h0.size := OL.2.1
  have lt_0 : @LT.lt Nat _ a1 h0.size := p0_.lt
  obtain ⟨PP, hPP⟩ : ∃ PP : Outcome → State → Prop, PP = (fun o tE => ∃ v L, o = .returned v ∧ Q_getValue Z a1 a4 h0 v tE.heap L ∧ FrameEnd s o tE L ({ frames := 0, cells := 0, slots := 0, locals := 0 } : Room).cells ({ frames := 0, cells := 0, slots := 0, locals := 0 } : Room).slots) := ⟨_, rfl⟩
  show own_Go p.tables e below (fun o tE => ∃ v L, o = .returned v ∧ Q_getValue Z a1 a4 h0 v tE.heap L ∧ FrameEnd s o tE L ({ frames := 0, cells := 0, slots := 0, locals := 0 } : Room).cells ({ frames := 0, cells := 0, slots := 0, locals := 0 } : Room).slots) (s₁.setTop (entryFrame m #[(.ref a1)] 1))
  rw [← hPP]
  refine own_Go.st (fun t k => castTop (ef_16 m a1) k) ?_
  show own_Go _ _ _ _ (s₁.setTop (mkF m 0 #[.val (.ref a1)] []))
  refine own_Go.st (fun _ k => XS.aloadN X0.here hx rfl (hb hby d_jdk_68_method_64_0) rfl rfl k) ?_
  show own_Go _ _ _ _ (s₁.setTop (mkF m 1 #[.val (.ref a1)] [(.ref a1)]))
  obtain ⟨T184, X184, e184, st184⟩ := getF X0 hx hZ hown (host := "") (Or.inl (hw _ (List.mem_of_getElem? (i := 33) rfl))) Via.refl e0 p0_ (g := (mkF m 1 #[.val (.ref a1)] [(.ref a1)])) rfl rfl (hb hby d_jdk_68_method_64_1)
  refine own_Go.st st184 ?_
  show own_Go _ _ _ _ (T184.setTop (mkF m 4 #[.val (.ref a1)] [(.ref a4)]))
  obtain ⟨fs185, hr185, hrun185, hend185, hW185, hsm185⟩ := X184.leave (v := some (.ref a4)) (fun h => by rw [Bd.returns] at h; cases h)
  subst hPP
  refine ⟨_, _, own_retA X184 hx Bd.returns rfl rfl (hb hby d_jdk_68_method_64_4) hr185, hrun185, hend185, _, _, rfl, ?_, ⟨_, rfl⟩, hW185, hsm185.mono (by decide) (by decide)⟩
  · show Q_getValue Z _ _ h0 _ T184.heap _
    rw [e184]
    exact ⟨rfl, N0, rfl⟩
theorem d_jdk_68_method_6_0 : decode jdk_68_method_6_code 0 = .ok (.aload_n 0, 1) := by decide +kernel
theorem d_jdk_68_method_6_1 : decode jdk_68_method_6_code 1 = .ok (.getfield 79, 3) := by decide +kernel
theorem d_jdk_68_method_6_4 : decode jdk_68_method_6_code 4 = .ok (.ireturn, 1) := by decide +kernel
def Q_asblen (Z : State) (a1 : Nat) (n1 : Int32) (h0 : Heap) (v : Option Value) (h : Heap) (L : List Loc) : Prop := v = some (.int n1) ∧ Fr Z.heap.size L ∧ h = h0
set_option maxRecDepth 65536 in
set_option maxHeartbeats 40000000 in
theorem rm_asblen (l : Launch) (Z : State) (a0 : Array Value) (hw : ∀ d ∈ tables_1, d.before a0 Z = true) (ws : List Jvm.Cond) (a1 : Nat) (n1 : Int32) (h0 : Heap) (OL : Old Z Z.heap.size h0) (p0_ : Fld Z h0 a1 "java/lang/AbstractStringBuilder" "count" "I" (.int n1)) :
    MetFree l (⟨"java/lang/AbstractStringBuilder", "length", "()I"⟩ : MethodName) (head1 (Jvm.Cond.code (⟨"java/lang/AbstractStringBuilder", "length", "()I"⟩ : MethodName) jdk_68_method_6_code 1 (some .int) :: ws) ({ frames := 0, cells := 0, slots := 0, locals := 0 } : Room)) (fun a U => a = #[(.ref a1)] ∧ Z.Warmed39 U.vm ∧ U.heap = h0) (fun _ _ _ _ _ => True) (fun _ U o U' => ∃ v L, o = .returned v ∧ Q_asblen Z a1 n1 h0 v U'.heap L ∧ FrameEnd U o U' L ({ frames := 0, cells := 0, slots := 0, locals := 0 } : Room).cells ({ frames := 0, cells := 0, slots := 0, locals := 0 } : Room).slots) := by
  refine MetFree.of_bodySF (plainFor_of_name pn_0) hisR ?_
  intro p e s m args below meth c s₁ Bd hml0 hP hK
  obtain ⟨rfl, hZ, hh⟩ := hP
  have hx := Bd.exec
  have hby := Bd.bytes
  have hml : c.maxLocals = 1 := hml0
  have hown : s.vm.findClass "java/lang/AbstractStringBuilder" = some m.cls := findClass_of_methodNamed Bd.named
  have hnm := (name_of_methodNamed Bd.named Bd.method).1
  have X0 : Stand p l e ({ frames := 0, cells := 0, slots := 0, locals := 0 } : Room) s m #[(.ref a1)] below meth c s₁ [] 0 0 := Stand.of_body Bd
  have e0 : s₁.heap = h0 := by rw [← hh, Bd.state]; rfl
  have N0 := Fr.nil Z.heap.size
  have Z0 : Z.heap.size ≤ h0.size := OL.2.1
  have lt_0 : @LT.lt Nat _ a1 h0.size := p0_.lt
  obtain ⟨PP, hPP⟩ : ∃ PP : Outcome → State → Prop, PP = (fun o tE => ∃ v L, o = .returned v ∧ Q_asblen Z a1 n1 h0 v tE.heap L ∧ FrameEnd s o tE L ({ frames := 0, cells := 0, slots := 0, locals := 0 } : Room).cells ({ frames := 0, cells := 0, slots := 0, locals := 0 } : Room).slots) := ⟨_, rfl⟩
  show own_Go p.tables e below (fun o tE => ∃ v L, o = .returned v ∧ Q_asblen Z a1 n1 h0 v tE.heap L ∧ FrameEnd s o tE L ({ frames := 0, cells := 0, slots := 0, locals := 0 } : Room).cells ({ frames := 0, cells := 0, slots := 0, locals := 0 } : Room).slots) (s₁.setTop (entryFrame m #[(.ref a1)] 1))
  rw [← hPP]
  refine own_Go.st (fun t k => castTop (ef_16 m a1) k) ?_
  show own_Go _ _ _ _ (s₁.setTop (mkF m 0 #[.val (.ref a1)] []))
  refine own_Go.st (fun _ k => XS.aloadN X0.here hx rfl (hb hby d_jdk_68_method_6_0) rfl rfl k) ?_
  show own_Go _ _ _ _ (s₁.setTop (mkF m 1 #[.val (.ref a1)] [(.ref a1)]))
  obtain ⟨T186, X186, e186, st186⟩ := getF X0 hx hZ hown (host := "") (Or.inl (hw _ (List.mem_of_getElem? (i := 60) rfl))) Via.refl e0 p0_ (g := (mkF m 1 #[.val (.ref a1)] [(.ref a1)])) rfl rfl (hb hby d_jdk_68_method_6_1)
  refine own_Go.st st186 ?_
  show own_Go _ _ _ _ (T186.setTop (mkF m 4 #[.val (.ref a1)] [(.int n1)]))
  obtain ⟨fs187, hr187, hrun187, hend187, hW187, hsm187⟩ := X186.leave (v := some (.int n1)) (fun h => by rw [Bd.returns] at h; cases h)
  subst hPP
  refine ⟨_, _, own_retI X186 hx Bd.returns (hb hby d_jdk_68_method_6_4) hr187, hrun187, hend187, _, _, rfl, ?_, ⟨_, rfl⟩, hW187, hsm187.mono (by decide) (by decide)⟩
  · show Q_asblen Z _ _ h0 _ T186.heap _
    rw [e186]
    exact ⟨rfl, N0, rfl⟩
theorem d_jdk_67_method_93_0 : decode jdk_67_method_93_code 0 = .ok (.aload_n 0, 1) := by decide +kernel
theorem d_jdk_67_method_93_1 : decode jdk_67_method_93_code 1 = .ok (.invokespecial 343, 3) := by decide +kernel
theorem d_jdk_67_method_93_4 : decode jdk_67_method_93_code 4 = .ok (.ireturn, 1) := by decide +kernel
def Q_sblen (Z : State) (a1 : Nat) (n1 : Int32) (h0 : Heap) (v : Option Value) (h : Heap) (L : List Loc) : Prop := v = some (.int n1) ∧ Fr Z.heap.size L ∧ h = h0
set_option maxRecDepth 65536 in
set_option maxHeartbeats 40000000 in
theorem rm_sblen (l : Launch) (Z : State) (a0 : Array Value) (hw : ∀ d ∈ tables_1, d.before a0 Z = true) (ws : List Jvm.Cond) (a1 : Nat) (n1 : Int32) (h0 : Heap) (OL : Old Z Z.heap.size h0) (p0_ : Exa Z h0 a1 "java/lang/StringBuilder") (p1_ : Fld Z h0 a1 "java/lang/AbstractStringBuilder" "count" "I" (.int n1)) :
    MetFree l (⟨"java/lang/StringBuilder", "length", "()I"⟩ : MethodName) (head1 (Jvm.Cond.code (⟨"java/lang/StringBuilder", "length", "()I"⟩ : MethodName) jdk_67_method_93_code 1 (some .int) :: ws) ({ frames := 1, cells := 0, slots := 0, locals := 12 } : Room)) (fun a U => a = #[(.ref a1)] ∧ Z.Warmed39 U.vm ∧ U.heap = h0) (fun _ _ _ _ _ => True) (fun _ U o U' => ∃ v L, o = .returned v ∧ Q_sblen Z a1 n1 h0 v U'.heap L ∧ FrameEnd U o U' L ({ frames := 1, cells := 0, slots := 0, locals := 12 } : Room).cells ({ frames := 1, cells := 0, slots := 0, locals := 12 } : Room).slots) := by
  refine MetFree.of_bodySF (plainFor_of_name pn_15) hisR ?_
  intro p e s m args below meth c s₁ Bd hml0 hP hK
  obtain ⟨rfl, hZ, hh⟩ := hP
  have hx := Bd.exec
  have hby := Bd.bytes
  have hml : c.maxLocals = 1 := hml0
  have hown : s.vm.findClass "java/lang/StringBuilder" = some m.cls := findClass_of_methodNamed Bd.named
  have hnm := (name_of_methodNamed Bd.named Bd.method).1
  have X0 : Stand p l e ({ frames := 1, cells := 0, slots := 0, locals := 12 } : Room) s m #[(.ref a1)] below meth c s₁ [] 0 0 := Stand.of_body Bd
  have e0 : s₁.heap = h0 := by rw [← hh, Bd.state]; rfl
  have N0 := Fr.nil Z.heap.size
  have Z0 : Z.heap.size ≤ h0.size := OL.2.1
  have lt_0 : @LT.lt Nat _ a1 h0.size := p0_.lt
  have lt_1 : @LT.lt Nat _ a1 h0.size := p1_.lt
  obtain ⟨PP, hPP⟩ : ∃ PP : Outcome → State → Prop, PP = (fun o tE => ∃ v L, o = .returned v ∧ Q_sblen Z a1 n1 h0 v tE.heap L ∧ FrameEnd s o tE L ({ frames := 1, cells := 0, slots := 0, locals := 12 } : Room).cells ({ frames := 1, cells := 0, slots := 0, locals := 12 } : Room).slots) := ⟨_, rfl⟩
  show own_Go p.tables e below (fun o tE => ∃ v L, o = .returned v ∧ Q_sblen Z a1 n1 h0 v tE.heap L ∧ FrameEnd s o tE L ({ frames := 1, cells := 0, slots := 0, locals := 12 } : Room).cells ({ frames := 1, cells := 0, slots := 0, locals := 12 } : Room).slots) (s₁.setTop (entryFrame m #[(.ref a1)] 1))
  rw [← hPP]
  refine own_Go.st (fun t k => castTop (ef_16 m a1) k) ?_
  show own_Go _ _ _ _ (s₁.setTop (mkF m 0 #[.val (.ref a1)] []))
  refine own_Go.st (fun _ k => XS.aloadN X0.here hx rfl (hb hby d_jdk_67_method_93_0) rfl rfl k) ?_
  show own_Go _ _ _ _ (s₁.setTop (mkF m 1 #[.val (.ref a1)] [(.ref a1)]))
  obtain ⟨_, _, ⟨T188, L188, k188, n188⟩, -, X188, ⟨Lc188, hQ188, l188, y188, z188⟩, st188⟩ := superBack X0 hx hZ (y := (⟨"java/lang/AbstractStringBuilder", "length", "()I"⟩ : MethodName)) hown (hw _ (List.mem_of_getElem? (i := 114) rfl)) (own_sameP (hw _ (List.mem_of_getElem? (i := 109) rfl)) (hw _ (List.mem_of_getElem? (i := 65) rfl)) rfl (by decide)) (hw _ (List.mem_of_getElem? (i := 110) rfl)) (hw _ (List.mem_of_getElem? (i := 44) rfl)) (by decide) (backOf (W := 0) (rm_asblen l Z a0 hw [] a1 n1 h0 OL p1_) hZ (hw _ (List.mem_of_getElem? (i := 115) rfl)) (hw _ (List.mem_of_getElem? (i := 27) rfl)) (by decide) (by decide)) e0 (Ins.self p0_) (g := (mkF m 1 #[.val (.ref a1)] [(.ref a1)])) rfl (by rw [hml]; rfl) (hw _ (List.mem_of_getElem? (i := 115) rfl)) (argsL := []) (rest := []) (lenOf pd_88 rfl) rfl (by show 2 * 0 + _ ≤ _; exact Nat.le_of_eq rfl) (hb hby d_jdk_67_method_93_1) (fun _ _ => ⟨rfl, e0, (by decide : 0 + 0 ≤ _), (by decide : 0 + 0 ≤ _)⟩)
  dsimp only [Pt.U, Pt.locs, Pt.cells, Pt.slots] at X188 l188 y188 z188 st188 hQ188
  subst l188 y188 z188
  obtain ⟨rfl, N188q, K188⟩ := hQ188
  have N188 := Fr.app N0 N188q
  refine own_Go.tr st188 ?_
  show own_Go _ _ _ _ (T188.setTop (mkF m 4 #[.val (.ref a1)] [(.int n1)]))
  obtain ⟨fs189, hr189, hrun189, hend189, hW189, hsm189⟩ := X188.leave (v := some (.int n1)) (fun h => by rw [Bd.returns] at h; cases h)
  subst hPP
  refine ⟨_, _, own_retI X188 hx Bd.returns (hb hby d_jdk_67_method_93_4) hr189, hrun189, hend189, _, _, rfl, ?_, ⟨_, rfl⟩, hW189, hsm189.mono (by decide) (by decide)⟩
  · show Q_sblen Z _ _ h0 _ T188.heap _
    rw [K188]
    exact ⟨rfl, N188, rfl⟩
theorem d_jdk_68_method_68_0 : decode jdk_68_method_68_code 0 = .ok (.getstatic 18, 3) := by decide +kernel
theorem d_jdk_68_method_68_3 : decode jdk_68_method_68_code 3 = .ok (.ifCond .eq 14, 3) := by decide +kernel
theorem d_jdk_68_method_68_6 : decode jdk_68_method_68_code 6 = .ok (.aload_n 0, 1) := by decide +kernel
theorem d_jdk_68_method_68_7 : decode jdk_68_method_68_code 7 = .ok (.getfield 22, 3) := by decide +kernel
theorem d_jdk_68_method_68_10 : decode jdk_68_method_68_code 10 = .ok (.ifCond .ne 7, 3) := by decide +kernel
theorem d_jdk_68_method_68_13 : decode jdk_68_method_68_code 13 = .ok (.iconst 1, 1) := by decide +kernel
theorem d_jdk_68_method_68_14 : decode jdk_68_method_68_code 14 = .ok (.goto 4, 3) := by decide +kernel
theorem d_jdk_68_method_68_18 : decode jdk_68_method_68_code 18 = .ok (.ireturn, 1) := by decide +kernel
def Q_asbl1 (Z : State) (a1 : Nat) (zc : Int32) (h0 : Heap) (v : Option Value) (h : Heap) (L : List Loc) : Prop := v = some (.int (1 : Int32)) ∧ Fr Z.heap.size L ∧ h = h0
set_option maxRecDepth 65536 in
set_option maxHeartbeats 40000000 in
theorem rm_asbl1 (l : Launch) (Z : State) (a0 : Array Value) (hw : ∀ d ∈ tables_1, d.before a0 Z = true) (ws : List Jvm.Cond) (a1 : Nat) (zc : Int32) (h0 : Heap) (OL : Old Z Z.heap.size h0) (p0_ : Fld Z h0 a1 "java/lang/AbstractStringBuilder" "coder" "B" (.int (0 : Int32))) (st_COMPACT_STRINGS : Sta Z Z.heap "java/lang/String" "COMPACT_STRINGS" "Z" (.int zc)) (hzc : ¬ zc = 0) :
    MetFree l (⟨"java/lang/AbstractStringBuilder", "isLatin1", "()Z"⟩ : MethodName) (head1 (Jvm.Cond.code (⟨"java/lang/AbstractStringBuilder", "isLatin1", "()Z"⟩ : MethodName) jdk_68_method_68_code 1 (some .boolean) :: ws) ({ frames := 0, cells := 0, slots := 0, locals := 0 } : Room)) (fun a U => a = #[(.ref a1)] ∧ Z.Warmed39 U.vm ∧ U.heap = h0) (fun _ _ _ _ _ => True) (fun _ U o U' => ∃ v L, o = .returned v ∧ Q_asbl1 Z a1 zc h0 v U'.heap L ∧ FrameEnd U o U' L ({ frames := 0, cells := 0, slots := 0, locals := 0 } : Room).cells ({ frames := 0, cells := 0, slots := 0, locals := 0 } : Room).slots) := by
  refine MetFree.of_bodySF (plainFor_of_name pn_0) hisR ?_
  intro p e s m args below meth c s₁ Bd hml0 hP hK
  obtain ⟨rfl, hZ, hh⟩ := hP
  have hx := Bd.exec
  have hby := Bd.bytes
  have hml : c.maxLocals = 1 := hml0
  have hown : s.vm.findClass "java/lang/AbstractStringBuilder" = some m.cls := findClass_of_methodNamed Bd.named
  have hnm := (name_of_methodNamed Bd.named Bd.method).1
  have X0 : Stand p l e ({ frames := 0, cells := 0, slots := 0, locals := 0 } : Room) s m #[(.ref a1)] below meth c s₁ [] 0 0 := Stand.of_body Bd
  have e0 : s₁.heap = h0 := by rw [← hh, Bd.state]; rfl
  have N0 := Fr.nil Z.heap.size
  have Z0 : Z.heap.size ≤ h0.size := OL.2.1
  have lt_0 : @LT.lt Nat _ a1 h0.size := p0_.lt
  obtain ⟨PP, hPP⟩ : ∃ PP : Outcome → State → Prop, PP = (fun o tE => ∃ v L, o = .returned v ∧ Q_asbl1 Z a1 zc h0 v tE.heap L ∧ FrameEnd s o tE L ({ frames := 0, cells := 0, slots := 0, locals := 0 } : Room).cells ({ frames := 0, cells := 0, slots := 0, locals := 0 } : Room).slots) := ⟨_, rfl⟩
  show own_Go p.tables e below (fun o tE => ∃ v L, o = .returned v ∧ Q_asbl1 Z a1 zc h0 v tE.heap L ∧ FrameEnd s o tE L ({ frames := 0, cells := 0, slots := 0, locals := 0 } : Room).cells ({ frames := 0, cells := 0, slots := 0, locals := 0 } : Room).slots) (s₁.setTop (entryFrame m #[(.ref a1)] 1))
  rw [← hPP]
  refine own_Go.st (fun t k => castTop (ef_16 m a1) k) ?_
  show own_Go _ _ _ _ (s₁.setTop (mkF m 0 #[.val (.ref a1)] []))
  obtain ⟨T190, X190, e190, st190⟩ := getS2 X0 hx hZ hown (host := "") (Or.inl (hw _ (List.mem_of_getElem? (i := 32) rfl))) Via.refl e0 (st_COMPACT_STRINGS.ext OL.2) (g := (mkF m 0 #[.val (.ref a1)] [])) rfl (hb hby d_jdk_68_method_68_0)
  refine own_Go.st st190 ?_
  show own_Go _ _ _ _ (T190.setTop (mkF m 3 #[.val (.ref a1)] [(.int zc)]))
  have hc191 : ¬ (zc = (0 : Int32)) := hzc
  refine own_Go.st (fun _ k => XS.ifNo X190.here hx rfl (hb hby d_jdk_68_method_68_3) rfl ((if0 _ _).trans (feq hc191).1) k) ?_
  show own_Go _ _ _ _ (T190.setTop (mkF m 6 #[.val (.ref a1)] []))
  refine own_Go.st (fun _ k => XS.aloadN X190.here hx rfl (hb hby d_jdk_68_method_68_6) rfl rfl k) ?_
  show own_Go _ _ _ _ (T190.setTop (mkF m 7 #[.val (.ref a1)] [(.ref a1)]))
  obtain ⟨T192, X192, e192, st192⟩ := getF X190 hx hZ hown (host := "") (Or.inl (hw _ (List.mem_of_getElem? (i := 35) rfl))) Via.refl e190 p0_ (g := (mkF m 7 #[.val (.ref a1)] [(.ref a1)])) rfl rfl (hb hby d_jdk_68_method_68_7)
  refine own_Go.st st192 ?_
  show own_Go _ _ _ _ (T192.setTop (mkF m 10 #[.val (.ref a1)] [(.int (0 : Int32))]))
  refine own_Go.st (fun _ k => XS.ifNo X192.here hx rfl (hb hby d_jdk_68_method_68_10) rfl ((if0 _ _).trans (teq (rfl : (0 : Int32) = (0 : Int32))).2) k) ?_
  show own_Go _ _ _ _ (T192.setTop (mkF m 13 #[.val (.ref a1)] []))
  refine own_Go.st (fun _ k => XS.iconst X192.here hx rfl (hb hby d_jdk_68_method_68_13) k) ?_
  show own_Go _ _ _ _ (T192.setTop (mkF m 14 #[.val (.ref a1)] [(.int (1 : Int32))]))
  refine own_Go.st (fun _ k => XS.goto X192.here hx rfl (pc0 := 14) (pc' := 18) rfl (hb hby d_jdk_68_method_68_14) (by decide) (by decide) k) ?_
  show own_Go _ _ _ _ (T192.setTop (mkF m 18 #[.val (.ref a1)] [(.int (1 : Int32))]))
  obtain ⟨fs193, hr193, hrun193, hend193, hW193, hsm193⟩ := X192.leave (v := some (.int (nar .boolean (1 : Int32)))) (fun h => by rw [Bd.returns] at h; cases h)
  subst hPP
  refine ⟨_, _, retN X192 hx (t := .boolean) Bd.returns (by simp) (hb hby d_jdk_68_method_68_18) hr193, hrun193, hend193, _, _, rfl, ?_, ⟨_, rfl⟩, hW193, hsm193.mono (by decide) (by decide)⟩
  · show Q_asbl1 Z _ _ h0 _ T192.heap _
    rw [e192]
    exact ⟨rfl, N0, rfl⟩
theorem ef_135 (m : MethodId) (x0 : Int32) (x1 : Int32) : entryFrame m #[(.int x0), (.int x1)] 2 = mkF m 0 #[.val (.int x0), .val (.int x1)] [] := by first | (simp [entryFrame, mkF, argsToLocals, Value.category]; done) | rfl
theorem d_jdk_29_method_69_0 : decode jdk_29_method_69_code 0 = .ok (.iload_n 0, 1) := by decide +kernel
theorem d_jdk_29_method_69_1 : decode jdk_29_method_69_code 1 = .ok (.iload_n 1, 1) := by decide +kernel
theorem d_jdk_29_method_69_2 : decode jdk_29_method_69_code 2 = .ok (.if_icmp .gt 7, 3) := by decide +kernel
theorem d_jdk_29_method_69_9 : decode jdk_29_method_69_code 9 = .ok (.iload_n 1, 1) := by decide +kernel
theorem d_jdk_29_method_69_10 : decode jdk_29_method_69_code 10 = .ok (.ireturn, 1) := by decide +kernel
theorem d_jdk_29_method_69_5 : decode jdk_29_method_69_code 5 = .ok (.iload_n 0, 1) := by decide +kernel
theorem d_jdk_29_method_69_6 : decode jdk_29_method_69_code 6 = .ok (.goto 4, 3) := by decide +kernel
def Q_mmin (Z : State) (p1 : Int32) (p2 : Int32) (h0 : Heap) (v : Option Value) (h : Heap) (L : List Loc) : Prop := v = some (.int (if p2 < p1 then p2 else p1)) ∧ Fr Z.heap.size L ∧ h = h0
set_option maxRecDepth 65536 in
set_option maxHeartbeats 40000000 in
theorem rm_mmin (l : Launch) (Z : State) (a0 : Array Value) (hw : ∀ d ∈ tables_1, d.before a0 Z = true) (ws : List Jvm.Cond) (p1 : Int32) (p2 : Int32) (h0 : Heap) (OL : Old Z Z.heap.size h0) :
    MetFree l (⟨"java/lang/Math", "min", "(II)I"⟩ : MethodName) (head1 (Jvm.Cond.code (⟨"java/lang/Math", "min", "(II)I"⟩ : MethodName) jdk_29_method_69_code 2 (some .int) :: ws) ({ frames := 0, cells := 0, slots := 0, locals := 0 } : Room)) (fun a U => a = #[(.int p1), (.int p2)] ∧ Z.Warmed39 U.vm ∧ U.heap = h0) (fun _ _ _ _ _ => True) (fun _ U o U' => ∃ v L, o = .returned v ∧ Q_mmin Z p1 p2 h0 v U'.heap L ∧ FrameEnd U o U' L ({ frames := 0, cells := 0, slots := 0, locals := 0 } : Room).cells ({ frames := 0, cells := 0, slots := 0, locals := 0 } : Room).slots) := by
  refine MetFree.of_bodySF (by decide +kernel) hisR ?_
  intro p e s m args below meth c s₁ Bd hml0 hP hK
  obtain ⟨rfl, hZ, hh⟩ := hP
  have hx := Bd.exec
  have hby := Bd.bytes
  have hml : c.maxLocals = 2 := hml0
  have hown : s.vm.findClass "java/lang/Math" = some m.cls := findClass_of_methodNamed Bd.named
  have hnm := (name_of_methodNamed Bd.named Bd.method).1
  have X0 : Stand p l e ({ frames := 0, cells := 0, slots := 0, locals := 0 } : Room) s m #[(.int p1), (.int p2)] below meth c s₁ [] 0 0 := Stand.of_body Bd
  have e0 : s₁.heap = h0 := by rw [← hh, Bd.state]; rfl
  have N0 := Fr.nil Z.heap.size
  have Z0 : Z.heap.size ≤ h0.size := OL.2.1
  obtain ⟨PP, hPP⟩ : ∃ PP : Outcome → State → Prop, PP = (fun o tE => ∃ v L, o = .returned v ∧ Q_mmin Z p1 p2 h0 v tE.heap L ∧ FrameEnd s o tE L ({ frames := 0, cells := 0, slots := 0, locals := 0 } : Room).cells ({ frames := 0, cells := 0, slots := 0, locals := 0 } : Room).slots) := ⟨_, rfl⟩
  show own_Go p.tables e below (fun o tE => ∃ v L, o = .returned v ∧ Q_mmin Z p1 p2 h0 v tE.heap L ∧ FrameEnd s o tE L ({ frames := 0, cells := 0, slots := 0, locals := 0 } : Room).cells ({ frames := 0, cells := 0, slots := 0, locals := 0 } : Room).slots) (s₁.setTop (entryFrame m #[(.int p1), (.int p2)] 2))
  rw [← hPP]
  refine own_Go.st (fun t k => castTop (ef_135 m p1 p2) k) ?_
  show own_Go _ _ _ _ (s₁.setTop (mkF m 0 #[.val (.int p1), .val (.int p2)] []))
  refine own_Go.st (fun _ k => XS.iloadN X0.here hx rfl (hb hby d_jdk_29_method_69_0) rfl k) ?_
  show own_Go _ _ _ _ (s₁.setTop (mkF m 1 #[.val (.int p1), .val (.int p2)] [(.int p1)]))
  refine own_Go.st (fun _ k => XS.iloadN X0.here hx rfl (hb hby d_jdk_29_method_69_1) rfl k) ?_
  show own_Go _ _ _ _ (s₁.setTop (mkF m 2 #[.val (.int p1), .val (.int p2)] [(.int p2), (.int p1)]))
  by_cases hc194 : p2 < p1
  ·
    refine own_Go.st (fun _ k => XS.icmpYes X0.here hx rfl (pc0 := 2) (pc' := 9) rfl (hb hby d_jdk_29_method_69_2) rfl (tlt hc194).2.2.1 (by decide) (by decide) k) ?_
    show own_Go _ _ _ _ (s₁.setTop (mkF m 9 #[.val (.int p1), .val (.int p2)] []))
    refine own_Go.st (fun _ k => XS.iloadN X0.here hx rfl (hb hby d_jdk_29_method_69_9) rfl k) ?_
    show own_Go _ _ _ _ (s₁.setTop (mkF m 10 #[.val (.int p1), .val (.int p2)] [(.int p2)]))
    obtain ⟨fs195, hr195, hrun195, hend195, hW195, hsm195⟩ := X0.leave (v := some (.int p2)) (fun h => by rw [Bd.returns] at h; cases h)
    subst hPP
    refine ⟨_, _, own_retI X0 hx Bd.returns (hb hby d_jdk_29_method_69_10) hr195, hrun195, hend195, _, _, rfl, ?_, ⟨_, rfl⟩, hW195, hsm195.mono (by decide) (by decide)⟩
    · show Q_mmin Z _ _ h0 _ s₁.heap _
      rw [e0]
      exact ⟨(by rw [if_pos hc194]), N0, rfl⟩
  ·
    refine own_Go.st (fun _ k => XS.icmpNo X0.here hx rfl (hb hby d_jdk_29_method_69_2) rfl (flt hc194).2.2.1 k) ?_
    show own_Go _ _ _ _ (s₁.setTop (mkF m 5 #[.val (.int p1), .val (.int p2)] []))
    refine own_Go.st (fun _ k => XS.iloadN X0.here hx rfl (hb hby d_jdk_29_method_69_5) rfl k) ?_
    show own_Go _ _ _ _ (s₁.setTop (mkF m 6 #[.val (.int p1), .val (.int p2)] [(.int p1)]))
    refine own_Go.st (fun _ k => XS.goto X0.here hx rfl (pc0 := 6) (pc' := 10) rfl (hb hby d_jdk_29_method_69_6) (by decide) (by decide) k) ?_
    show own_Go _ _ _ _ (s₁.setTop (mkF m 10 #[.val (.int p1), .val (.int p2)] [(.int p1)]))
    obtain ⟨fs196, hr196, hrun196, hend196, hW196, hsm196⟩ := X0.leave (v := some (.int p1)) (fun h => by rw [Bd.returns] at h; cases h)
    subst hPP
    refine ⟨_, _, own_retI X0 hx Bd.returns (hb hby d_jdk_29_method_69_10) hr196, hrun196, hend196, _, _, rfl, ?_, ⟨_, rfl⟩, hW196, hsm196.mono (by decide) (by decide)⟩
    · show Q_mmin Z _ _ h0 _ s₁.heap _
      rw [e0]
      exact ⟨(by rw [if_neg hc194]), N0, rfl⟩
theorem pn_143 : plainName "java/util/Arrays" = true := by first | (simp [plainName, overriddenIn]; done) | decide +kernel
theorem d_jdk_65_method_131_0 : decode jdk_65_method_131_code 0 = .ok (.iload_n 1, 1) := by decide +kernel
theorem d_jdk_65_method_131_1 : decode jdk_65_method_131_code 1 = .ok (.iload_n 0, 1) := by decide +kernel
theorem d_jdk_65_method_131_2 : decode jdk_65_method_131_code 2 = .ok (.if_icmp .ge 35, 3) := by decide +kernel
theorem d_jdk_65_method_131_37 : decode jdk_65_method_131_code 37 = .ok (.return_, 1) := by decide +kernel
def Q_cklen (Z : State) (p1 : Int32) (p2 : Int32) (h0 : Heap) (v : Option Value) (h : Heap) (L : List Loc) : Prop := v = none ∧ Fr Z.heap.size L ∧ h = h0
set_option maxRecDepth 65536 in
set_option maxHeartbeats 40000000 in
theorem rm_cklen (l : Launch) (Z : State) (a0 : Array Value) (hw : ∀ d ∈ tables_1, d.before a0 Z = true) (ws : List Jvm.Cond) (p1 : Int32) (p2 : Int32) (h0 : Heap) (OL : Old Z Z.heap.size h0) (h : ¬ p2 < p1) :
    MetFree l (⟨"java/util/Arrays", "checkLength", "(II)V"⟩ : MethodName) (head1 (Jvm.Cond.code (⟨"java/util/Arrays", "checkLength", "(II)V"⟩ : MethodName) jdk_65_method_131_code 2 none :: ws) ({ frames := 0, cells := 0, slots := 0, locals := 0 } : Room)) (fun a U => a = #[(.int p1), (.int p2)] ∧ Z.Warmed39 U.vm ∧ U.heap = h0) (fun _ _ _ _ _ => True) (fun _ U o U' => ∃ v L, o = .returned v ∧ Q_cklen Z p1 p2 h0 v U'.heap L ∧ FrameEnd U o U' L ({ frames := 0, cells := 0, slots := 0, locals := 0 } : Room).cells ({ frames := 0, cells := 0, slots := 0, locals := 0 } : Room).slots) := by
  refine MetFree.of_bodySF (plainFor_of_name pn_143) hisR ?_
  intro p e s m args below meth c s₁ Bd hml0 hP hK
  obtain ⟨rfl, hZ, hh⟩ := hP
  have hx := Bd.exec
  have hby := Bd.bytes
  have hml : c.maxLocals = 2 := hml0
  have hown : s.vm.findClass "java/util/Arrays" = some m.cls := findClass_of_methodNamed Bd.named
  have hnm := (name_of_methodNamed Bd.named Bd.method).1
  have X0 : Stand p l e ({ frames := 0, cells := 0, slots := 0, locals := 0 } : Room) s m #[(.int p1), (.int p2)] below meth c s₁ [] 0 0 := Stand.of_body Bd
  have e0 : s₁.heap = h0 := by rw [← hh, Bd.state]; rfl
  have N0 := Fr.nil Z.heap.size
  have Z0 : Z.heap.size ≤ h0.size := OL.2.1
  obtain ⟨PP, hPP⟩ : ∃ PP : Outcome → State → Prop, PP = (fun o tE => ∃ v L, o = .returned v ∧ Q_cklen Z p1 p2 h0 v tE.heap L ∧ FrameEnd s o tE L ({ frames := 0, cells := 0, slots := 0, locals := 0 } : Room).cells ({ frames := 0, cells := 0, slots := 0, locals := 0 } : Room).slots) := ⟨_, rfl⟩
  show own_Go p.tables e below (fun o tE => ∃ v L, o = .returned v ∧ Q_cklen Z p1 p2 h0 v tE.heap L ∧ FrameEnd s o tE L ({ frames := 0, cells := 0, slots := 0, locals := 0 } : Room).cells ({ frames := 0, cells := 0, slots := 0, locals := 0 } : Room).slots) (s₁.setTop (entryFrame m #[(.int p1), (.int p2)] 2))
  rw [← hPP]
  refine own_Go.st (fun t k => castTop (ef_135 m p1 p2) k) ?_
  show own_Go _ _ _ _ (s₁.setTop (mkF m 0 #[.val (.int p1), .val (.int p2)] []))
  refine own_Go.st (fun _ k => XS.iloadN X0.here hx rfl (hb hby d_jdk_65_method_131_0) rfl k) ?_
  show own_Go _ _ _ _ (s₁.setTop (mkF m 1 #[.val (.int p1), .val (.int p2)] [(.int p2)]))
  refine own_Go.st (fun _ k => XS.iloadN X0.here hx rfl (hb hby d_jdk_65_method_131_1) rfl k) ?_
  show own_Go _ _ _ _ (s₁.setTop (mkF m 2 #[.val (.int p1), .val (.int p2)] [(.int p1), (.int p2)]))
  have hc197 : ¬ (p2 < p1) := h
  refine own_Go.st (fun _ k => XS.icmpYes X0.here hx rfl (pc0 := 2) (pc' := 37) rfl (hb hby d_jdk_65_method_131_2) rfl (flt hc197).2.1 (by decide) (by decide) k) ?_
  show own_Go _ _ _ _ (s₁.setTop (mkF m 37 #[.val (.int p1), .val (.int p2)] []))
  obtain ⟨fs198, hr198, hrun198, hend198, hW198, hsm198⟩ := X0.leave (v := none) (fun _ => rfl)
  subst hPP
  refine ⟨_, _, X0.returnOut hx Bd.returns (hb hby d_jdk_65_method_131_37) hr198, hrun198, hend198, _, _, rfl, ?_, ⟨_, rfl⟩, hW198, hsm198.mono (by decide) (by decide)⟩
  · show Q_cklen Z _ _ h0 _ s₁.heap _
    rw [e0]
    exact ⟨rfl, N0, rfl⟩

theorem own_usR (cs : List Int32) {i j : Nat} (hij : i ≤ j) (hj : j ≤ cs.length) (hn : cs.length < 100000) : own_low ((cs.drop i).take (j - i)) = (List.range (Int32.ofNat (j - i)).toNatClampNeg).map fun x => (own_low cs).getD ((Int32.ofNat i).toNatClampNeg + x) (.int (0 : Int32)) := by
  rw [own_ofn (by omega), own_ofn (by omega)]
  apply List.ext_getElem
  · simp [own_low]; omega
  · intro x h1 h2
    have hx : i + x < cs.length := by simp [own_low] at h1; omega
    simp [own_low, List.getD_eq_getElem?_getD, hx]
theorem own_takeV {Z : State} {h : Heap} {a : Addr} {k : ClassId} {n : Int32} {us : List Value} {m : Nat} (F : Arv Z h a k .byte n ((List.replicate m (Value.int (0 : Int32))).take (0 : Int32).toNatClampNeg ++ us ++ (List.replicate m (Value.int (0 : Int32))).drop ((0 : Int32).toNatClampNeg + (Int32.ofNat m).toNatClampNeg)) (.int (0 : Int32))) (hm : m < 100000) : Arv Z h a k .byte n us (.int (0 : Int32)) := by
  have e0 : (0 : Int32).toNatClampNeg = 0 := by decide
  rw [e0, own_ofn (by omega)] at F
  simpa using F
theorem own_min {i j : Nat} (hi : i < 100000) (hj : j ≤ i) : (if Int32.ofNat j < Int32.ofNat i then Int32.ofNat j else Int32.ofNat i) = Int32.ofNat j := by
  by_cases q : Int32.ofNat j < Int32.ofNat i
  · rw [if_pos q]
  · rw [if_neg q]
    rw [own_oflt (by omega) (by omega)] at q
    rw [show i = j by omega]

theorem ef_148 (m : MethodId) (x0 : Nat) (x1 : Int32) (x2 : Int32) : entryFrame m #[(.ref x0), (.int x1), (.int x2)] 5 = mkF m 0 #[.val (.ref x0), .val (.int x1), .val (.int x2), .unset, .unset] [] := by first | (simp [entryFrame, mkF, argsToLocals, Value.category]; done) | rfl
theorem d_jdk_65_method_133_0 : decode jdk_65_method_133_code 0 = .ok (.iload_n 1, 1) := by decide +kernel
theorem d_jdk_65_method_133_1 : decode jdk_65_method_133_code 1 = .ok (.iload_n 2, 1) := by decide +kernel
theorem pd_151 : parseMethodDescriptor "(II)V" = some ⟨[.int, .int], none⟩ := by decide +kernel
theorem d_jdk_65_method_133_2 : decode jdk_65_method_133_code 2 = .ok (.invokestatic 343, 3) := by decide +kernel
theorem d_jdk_65_method_133_5 : decode jdk_65_method_133_code 5 = .ok (.iload_n 2, 1) := by decide +kernel
theorem d_jdk_65_method_133_6 : decode jdk_65_method_133_code 6 = .ok (.iload_n 1, 1) := by decide +kernel
theorem d_jdk_65_method_133_7 : decode jdk_65_method_133_code 7 = .ok (.isub, 1) := by decide +kernel
theorem d_jdk_65_method_133_8 : decode jdk_65_method_133_code 8 = .ok (.istore_n 3, 1) := by decide +kernel
theorem d_jdk_65_method_133_9 : decode jdk_65_method_133_code 9 = .ok (.iload_n 3, 1) := by decide +kernel
theorem d_jdk_65_method_133_10 : decode jdk_65_method_133_code 10 = .ok (.newarray .byte, 2) := by decide +kernel
theorem d_jdk_65_method_133_12 : decode jdk_65_method_133_code 12 = .ok (.astore 4, 2) := by decide +kernel
theorem d_jdk_65_method_133_14 : decode jdk_65_method_133_code 14 = .ok (.aload_n 0, 1) := by decide +kernel
theorem d_jdk_65_method_133_15 : decode jdk_65_method_133_code 15 = .ok (.iload_n 1, 1) := by decide +kernel
theorem d_jdk_65_method_133_16 : decode jdk_65_method_133_code 16 = .ok (.aload 4, 2) := by decide +kernel
theorem d_jdk_65_method_133_18 : decode jdk_65_method_133_code 18 = .ok (.iconst 0, 1) := by decide +kernel
theorem d_jdk_65_method_133_19 : decode jdk_65_method_133_code 19 = .ok (.aload_n 0, 1) := by decide +kernel
theorem d_jdk_65_method_133_20 : decode jdk_65_method_133_code 20 = .ok (.arraylength, 1) := by decide +kernel
theorem d_jdk_65_method_133_21 : decode jdk_65_method_133_code 21 = .ok (.iload_n 1, 1) := by decide +kernel
theorem d_jdk_65_method_133_22 : decode jdk_65_method_133_code 22 = .ok (.isub, 1) := by decide +kernel
theorem d_jdk_65_method_133_23 : decode jdk_65_method_133_code 23 = .ok (.iload_n 3, 1) := by decide +kernel
theorem pd_169 : parseMethodDescriptor "(II)I" = some ⟨[.int, .int], some .int⟩ := by decide +kernel
theorem d_jdk_65_method_133_24 : decode jdk_65_method_133_code 24 = .ok (.invokestatic 304, 3) := by decide +kernel
theorem d_jdk_65_method_133_27 : decode jdk_65_method_133_code 27 = .ok (.invokestatic 150, 3) := by decide +kernel
theorem d_jdk_65_method_133_30 : decode jdk_65_method_133_code 30 = .ok (.aload 4, 2) := by decide +kernel
theorem d_jdk_65_method_133_32 : decode jdk_65_method_133_code 32 = .ok (.areturn, 1) := by decide +kernel
def Q_corb (Z : State) (a1 : Nat) (p2 : Int32) (p3 : Int32) (i : Nat) (j : Nat) (cs : List Int32) (cap : Nat) (k : ClassId) (h0 : Heap) (v : Option Value) (h : Heap) (L : List Loc) : Prop := ∃ (x : Nat), ∃ (kx : ClassId), v = some (.ref x) ∧ Fr Z.heap.size L ∧ Keep h0 h [] ∧ Arv Z h x kx .byte (Int32.ofNat (j - i)) (own_low ((cs.drop i).take (j - i))) (.int (0 : Int32)) ∧ (h0.size ≤ x)
set_option maxRecDepth 65536 in
set_option maxHeartbeats 40000000 in
theorem rm_corb (l : Launch) (Z : State) (a0 : Array Value) (hw : ∀ d ∈ tables_1, d.before a0 Z = true) (ws : List Jvm.Cond) (a1 : Nat) (p2 : Int32) (p3 : Int32) (i : Nat) (j : Nat) (cs : List Int32) (cap : Nat) (k : ClassId) (h0 : Heap) (OL : Old Z Z.heap.size h0) (p0_ : Arv Z h0 a1 k .byte (Int32.ofNat cap) (own_low cs) (.int (0 : Int32))) (hp2 : p2 = Int32.ofNat i) (hp3 : p3 = Int32.ofNat j) (hij : i ≤ j) (hj : j ≤ cs.length) (hcs : cs.length ≤ cap) (hcap : cap ≤ 100) (hmx : j - i ≤ 16) :
    MetFree l (⟨"java/util/Arrays", "copyOfRangeByte", "([BII)[B"⟩ : MethodName) (head1 (Jvm.Cond.code (⟨"java/util/Arrays", "copyOfRangeByte", "([BII)[B"⟩ : MethodName) jdk_65_method_133_code 5 (some (.array .byte)) :: ws) ({ frames := 1, cells := 1, slots := 16, locals := 40 } : Room)) (fun a U => a = #[(.ref a1), (.int p2), (.int p3)] ∧ Z.Warmed39 U.vm ∧ U.heap = h0) (fun _ _ _ _ _ => True) (fun _ U o U' => ∃ v L, o = .returned v ∧ Q_corb Z a1 p2 p3 i j cs cap k h0 v U'.heap L ∧ FrameEnd U o U' L ({ frames := 1, cells := 1, slots := 16, locals := 40 } : Room).cells ({ frames := 1, cells := 1, slots := 16, locals := 40 } : Room).slots) := by
  refine MetFree.of_bodySF (plainFor_of_name pn_143) hisR ?_
  intro p e s m args below meth c s₁ Bd hml0 hP hK
  obtain ⟨rfl, hZ, hh⟩ := hP
  have hx := Bd.exec
  have hby := Bd.bytes
  have hml : c.maxLocals = 5 := hml0
  have hown : s.vm.findClass "java/util/Arrays" = some m.cls := findClass_of_methodNamed Bd.named
  have hnm := (name_of_methodNamed Bd.named Bd.method).1
  have X0 : Stand p l e ({ frames := 1, cells := 1, slots := 16, locals := 40 } : Room) s m #[(.ref a1), (.int p2), (.int p3)] below meth c s₁ [] 0 0 := Stand.of_body Bd
  have e0 : s₁.heap = h0 := by rw [← hh, Bd.state]; rfl
  have N0 := Fr.nil Z.heap.size
  have Z0 : Z.heap.size ≤ h0.size := OL.2.1
  have lt_0 : @LT.lt Nat _ a1 h0.size := p0_.lt
  obtain ⟨PP, hPP⟩ : ∃ PP : Outcome → State → Prop, PP = (fun o tE => ∃ v L, o = .returned v ∧ Q_corb Z a1 p2 p3 i j cs cap k h0 v tE.heap L ∧ FrameEnd s o tE L ({ frames := 1, cells := 1, slots := 16, locals := 40 } : Room).cells ({ frames := 1, cells := 1, slots := 16, locals := 40 } : Room).slots) := ⟨_, rfl⟩
  show own_Go p.tables e below (fun o tE => ∃ v L, o = .returned v ∧ Q_corb Z a1 p2 p3 i j cs cap k h0 v tE.heap L ∧ FrameEnd s o tE L ({ frames := 1, cells := 1, slots := 16, locals := 40 } : Room).cells ({ frames := 1, cells := 1, slots := 16, locals := 40 } : Room).slots) (s₁.setTop (entryFrame m #[(.ref a1), (.int p2), (.int p3)] 5))
  rw [← hPP]
  refine own_Go.st (fun t k => castTop (ef_148 m a1 p2 p3) k) ?_
  subst hp2 hp3
  show own_Go _ _ _ _ (s₁.setTop (mkF m 0 #[.val (.ref a1), .val (.int (Int32.ofNat i)), .val (.int (Int32.ofNat j)), .unset, .unset] []))
  refine own_Go.st (fun _ k => XS.iloadN X0.here hx rfl (hb hby d_jdk_65_method_133_0) rfl k) ?_
  show own_Go _ _ _ _ (s₁.setTop (mkF m 1 #[.val (.ref a1), .val (.int (Int32.ofNat i)), .val (.int (Int32.ofNat j)), .unset, .unset] [(.int (Int32.ofNat i))]))
  refine own_Go.st (fun _ k => XS.iloadN X0.here hx rfl (hb hby d_jdk_65_method_133_1) rfl k) ?_
  show own_Go _ _ _ _ (s₁.setTop (mkF m 2 #[.val (.ref a1), .val (.int (Int32.ofNat i)), .val (.int (Int32.ofNat j)), .unset, .unset] [(.int (Int32.ofNat j)), (.int (Int32.ofNat i))]))
  obtain ⟨_, _, ⟨T199, L199, k199, n199⟩, -, X199, ⟨Lc199, hQ199, l199, y199, z199⟩, st199⟩ := Jvm.LawKit.callS X0 hx (y := (⟨"java/util/Arrays", "checkLength", "(II)V"⟩ : MethodName)) hown (mvT hZ (hw _ (List.mem_of_getElem? (i := 128) rfl))) (mvT hZ (hw _ (List.mem_of_getElem? (i := 129) rfl))) (mvT hZ (hw _ (List.mem_of_getElem? (i := 123) rfl))) (mvT hZ (hw _ (List.mem_of_getElem? (i := 130) rfl))) (by decide) (backOf (W := 0) (rm_cklen l Z a0 hw [] (Int32.ofNat i) (Int32.ofNat j) h0 OL (by rw [own_oflt (by omega) (by omega)]; omega)) hZ (hw _ (List.mem_of_getElem? (i := 130) rfl)) (hw _ (List.mem_of_getElem? (i := 123) rfl)) (by decide) (by decide)) (g := (mkF m 2 #[.val (.ref a1), .val (.int (Int32.ofNat i)), .val (.int (Int32.ofNat j)), .unset, .unset] [(.int (Int32.ofNat j)), (.int (Int32.ofNat i))])) rfl (by rw [hml]; rfl) (argsL := [(.int (Int32.ofNat i)), (.int (Int32.ofNat j))]) (rest := []) (lenOf pd_151 rfl) rfl (by show 2 * 0 + _ ≤ _; exact Nat.le_of_eq rfl) (hb hby d_jdk_65_method_133_2) (fun _ _ => ⟨rfl, e0, (by decide : 0 + 0 ≤ _), (by decide : 0 + 0 ≤ _)⟩)
  dsimp only [Pt.U, Pt.locs, Pt.cells, Pt.slots] at X199 l199 y199 z199 st199 hQ199
  subst l199 y199 z199
  obtain ⟨rfl, N199q, K199⟩ := hQ199
  have N199 := Fr.app N0 N199q
  refine own_Go.st st199 ?_
  show own_Go _ _ _ _ (T199.setTop (mkF m 5 #[.val (.ref a1), .val (.int (Int32.ofNat i)), .val (.int (Int32.ofNat j)), .unset, .unset] []))
  refine own_Go.st (fun _ k => XS.iloadN X199.here hx rfl (hb hby d_jdk_65_method_133_5) rfl k) ?_
  show own_Go _ _ _ _ (T199.setTop (mkF m 6 #[.val (.ref a1), .val (.int (Int32.ofNat i)), .val (.int (Int32.ofNat j)), .unset, .unset] [(.int (Int32.ofNat j))]))
  refine own_Go.st (fun _ k => XS.iloadN X199.here hx rfl (hb hby d_jdk_65_method_133_6) rfl k) ?_
  show own_Go _ _ _ _ (T199.setTop (mkF m 7 #[.val (.ref a1), .val (.int (Int32.ofNat i)), .val (.int (Int32.ofNat j)), .unset, .unset] [(.int (Int32.ofNat i)), (.int (Int32.ofNat j))]))
  refine own_Go.st (fun _ k => XS.isub X199.here hx rfl (hb hby d_jdk_65_method_133_7) rfl k) ?_
  show own_Go _ _ _ _ (T199.setTop (mkF m 8 #[.val (.ref a1), .val (.int (Int32.ofNat i)), .val (.int (Int32.ofNat j)), .unset, .unset] [(.int ((Int32.ofNat j) - (Int32.ofNat i)))]))
  rw [own_ofB (by omega) hij]
  show own_Go _ _ _ _ (T199.setTop (mkF m 8 #[.val (.ref a1), .val (.int (Int32.ofNat i)), .val (.int (Int32.ofNat j)), .unset, .unset] [(.int (Int32.ofNat (j - i)))]))
  refine own_Go.st (fun _ k => XS.istoreN X199.here hx rfl (hb hby d_jdk_65_method_133_8) rfl (l' := #[.val (.ref a1), .val (.int (Int32.ofNat i)), .val (.int (Int32.ofNat j)), .val (.int (Int32.ofNat (j - i))), .unset]) rfl k) ?_
  show own_Go _ _ _ _ (T199.setTop (mkF m 9 #[.val (.ref a1), .val (.int (Int32.ofNat i)), .val (.int (Int32.ofNat j)), .val (.int (Int32.ofNat (j - i))), .unset] []))
  refine own_Go.st (fun _ k => XS.iloadN X199.here hx rfl (hb hby d_jdk_65_method_133_9) rfl k) ?_
  show own_Go _ _ _ _ (T199.setTop (mkF m 10 #[.val (.ref a1), .val (.int (Int32.ofNat i)), .val (.int (Int32.ofNat j)), .val (.int (Int32.ofNat (j - i))), .unset] [(.int (Int32.ofNat (j - i)))]))
  obtain ⟨T200, h200, k200, X200, e200, E200, A200, st200⟩ := newP X199 hx hZ (hw _ (List.mem_of_getElem? (i := 7) rfl)) K199 (g := (mkF m 10 #[.val (.ref a1), .val (.int (Int32.ofNat i)), .val (.int (Int32.ofNat j)), .val (.int (Int32.ofNat (j - i))), .unset] [(.int (Int32.ofNat (j - i)))])) rfl (hb hby d_jdk_65_method_133_10) rfl (own_of0 (by omega)) (cap := 16) (by rw [own_ofn (by omega)]; exact hmx) (by decide) (by decide) (by decide)
  obtain ⟨b200, g200⟩ : ∃ z, z = h0.size := ⟨_, rfl⟩
  rw [← g200] at A200 st200
  refine own_Go.st st200 ?_
  have z200 : h0.size ≤ h200.size := E200.1
  have f201 : Arv Z h200 b200 k200 .byte (Int32.ofNat (j - i)) [] (.int (0 : Int32)) := Arv.new A200 (own_of0 (by omega))
  have lt_b200 : @LT.lt Nat _ b200 h200.size := f201.lt
  show own_Go _ _ _ _ (T200.setTop (mkF m 12 #[.val (.ref a1), .val (.int (Int32.ofNat i)), .val (.int (Int32.ofNat j)), .val (.int (Int32.ofNat (j - i))), .unset] [(.ref b200)]))
  refine own_Go.st (fun _ k => XS.astore X200.here hx rfl (hb hby d_jdk_65_method_133_12) rfl rfl (l' := #[.val (.ref a1), .val (.int (Int32.ofNat i)), .val (.int (Int32.ofNat j)), .val (.int (Int32.ofNat (j - i))), .val (.ref b200)]) rfl k) ?_
  show own_Go _ _ _ _ (T200.setTop (mkF m 14 #[.val (.ref a1), .val (.int (Int32.ofNat i)), .val (.int (Int32.ofNat j)), .val (.int (Int32.ofNat (j - i))), .val (.ref b200)] []))
  refine own_Go.st (fun _ k => XS.aloadN X200.here hx rfl (hb hby d_jdk_65_method_133_14) rfl rfl k) ?_
  show own_Go _ _ _ _ (T200.setTop (mkF m 15 #[.val (.ref a1), .val (.int (Int32.ofNat i)), .val (.int (Int32.ofNat j)), .val (.int (Int32.ofNat (j - i))), .val (.ref b200)] [(.ref a1)]))
  refine own_Go.st (fun _ k => XS.iloadN X200.here hx rfl (hb hby d_jdk_65_method_133_15) rfl k) ?_
  show own_Go _ _ _ _ (T200.setTop (mkF m 16 #[.val (.ref a1), .val (.int (Int32.ofNat i)), .val (.int (Int32.ofNat j)), .val (.int (Int32.ofNat (j - i))), .val (.ref b200)] [(.int (Int32.ofNat i)), (.ref a1)]))
  refine own_Go.st (fun _ k => XS.aload X200.here hx rfl (hb hby d_jdk_65_method_133_16) rfl rfl k) ?_
  show own_Go _ _ _ _ (T200.setTop (mkF m 18 #[.val (.ref a1), .val (.int (Int32.ofNat i)), .val (.int (Int32.ofNat j)), .val (.int (Int32.ofNat (j - i))), .val (.ref b200)] [(.ref b200), (.int (Int32.ofNat i)), (.ref a1)]))
  refine own_Go.st (fun _ k => XS.iconst X200.here hx rfl (hb hby d_jdk_65_method_133_18) k) ?_
  show own_Go _ _ _ _ (T200.setTop (mkF m 19 #[.val (.ref a1), .val (.int (Int32.ofNat i)), .val (.int (Int32.ofNat j)), .val (.int (Int32.ofNat (j - i))), .val (.ref b200)] [(.int (0 : Int32)), (.ref b200), (.int (Int32.ofNat i)), (.ref a1)]))
  refine own_Go.st (fun _ k => XS.aloadN X200.here hx rfl (hb hby d_jdk_65_method_133_19) rfl rfl k) ?_
  show own_Go _ _ _ _ (T200.setTop (mkF m 20 #[.val (.ref a1), .val (.int (Int32.ofNat i)), .val (.int (Int32.ofNat j)), .val (.int (Int32.ofNat (j - i))), .val (.ref b200)] [(.ref a1), (.int (0 : Int32)), (.ref b200), (.int (Int32.ofNat i)), (.ref a1)]))
  have f202 : Arv Z h200 a1 k .byte (Int32.ofNat cap) (own_low cs) (.int (0 : Int32)) := p0_.ext E200
  obtain ⟨c203, Ar203, q203, S203, Nn203, H203, G203⟩ := id f202
  refine own_Go.st (X200.arraylength hx (by rw [e200]; exact Ar203.1) (State.isArrayOf_alike hZ.alike Ar203.2.1) (g := (mkF m 20 #[.val (.ref a1), .val (.int (Int32.ofNat i)), .val (.int (Int32.ofNat j)), .val (.int (Int32.ofNat (j - i))), .val (.ref b200)] [(.ref a1), (.int (0 : Int32)), (.ref b200), (.int (Int32.ofNat i)), (.ref a1)])) rfl rfl (hb hby d_jdk_65_method_133_20)) ?_
  rw [len_of S203 Nn203]
  show own_Go _ _ _ _ (T200.setTop (mkF m 21 #[.val (.ref a1), .val (.int (Int32.ofNat i)), .val (.int (Int32.ofNat j)), .val (.int (Int32.ofNat (j - i))), .val (.ref b200)] [(.int (Int32.ofNat cap)), (.int (0 : Int32)), (.ref b200), (.int (Int32.ofNat i)), (.ref a1)]))
  refine own_Go.st (fun _ k => XS.iloadN X200.here hx rfl (hb hby d_jdk_65_method_133_21) rfl k) ?_
  show own_Go _ _ _ _ (T200.setTop (mkF m 22 #[.val (.ref a1), .val (.int (Int32.ofNat i)), .val (.int (Int32.ofNat j)), .val (.int (Int32.ofNat (j - i))), .val (.ref b200)] [(.int (Int32.ofNat i)), (.int (Int32.ofNat cap)), (.int (0 : Int32)), (.ref b200), (.int (Int32.ofNat i)), (.ref a1)]))
  refine own_Go.st (fun _ k => XS.isub X200.here hx rfl (hb hby d_jdk_65_method_133_22) rfl k) ?_
  show own_Go _ _ _ _ (T200.setTop (mkF m 23 #[.val (.ref a1), .val (.int (Int32.ofNat i)), .val (.int (Int32.ofNat j)), .val (.int (Int32.ofNat (j - i))), .val (.ref b200)] [(.int ((Int32.ofNat cap) - (Int32.ofNat i))), (.int (0 : Int32)), (.ref b200), (.int (Int32.ofNat i)), (.ref a1)]))
  rw [own_ofB (by omega) (by omega)]
  show own_Go _ _ _ _ (T200.setTop (mkF m 23 #[.val (.ref a1), .val (.int (Int32.ofNat i)), .val (.int (Int32.ofNat j)), .val (.int (Int32.ofNat (j - i))), .val (.ref b200)] [(.int (Int32.ofNat (cap - i))), (.int (0 : Int32)), (.ref b200), (.int (Int32.ofNat i)), (.ref a1)]))
  refine own_Go.st (fun _ k => XS.iloadN X200.here hx rfl (hb hby d_jdk_65_method_133_23) rfl k) ?_
  show own_Go _ _ _ _ (T200.setTop (mkF m 24 #[.val (.ref a1), .val (.int (Int32.ofNat i)), .val (.int (Int32.ofNat j)), .val (.int (Int32.ofNat (j - i))), .val (.ref b200)] [(.int (Int32.ofNat (j - i))), (.int (Int32.ofNat (cap - i))), (.int (0 : Int32)), (.ref b200), (.int (Int32.ofNat i)), (.ref a1)]))
  have f205 : Old Z Z.heap.size h200 := OL.ext E200
  obtain ⟨_, _, ⟨T204, L204, k204, n204⟩, -, X204, ⟨Lc204, hQ204, l204, y204, z204⟩, st204⟩ := Jvm.LawKit.callS X200 hx (y := (⟨"java/lang/Math", "min", "(II)I"⟩ : MethodName)) hown (mvT hZ (hw _ (List.mem_of_getElem? (i := 131) rfl))) (mvT hZ (hw _ (List.mem_of_getElem? (i := 132) rfl))) (mvT hZ (hw _ (List.mem_of_getElem? (i := 133) rfl))) (mvT hZ (hw _ (List.mem_of_getElem? (i := 134) rfl))) (by decide) (backOf (W := 4) (rm_mmin l Z a0 hw [] (Int32.ofNat (cap - i)) (Int32.ofNat (j - i)) h200 f205 ) hZ (hw _ (List.mem_of_getElem? (i := 134) rfl)) (hw _ (List.mem_of_getElem? (i := 133) rfl)) (by decide) (by decide)) (g := (mkF m 24 #[.val (.ref a1), .val (.int (Int32.ofNat i)), .val (.int (Int32.ofNat j)), .val (.int (Int32.ofNat (j - i))), .val (.ref b200)] [(.int (Int32.ofNat (j - i))), (.int (Int32.ofNat (cap - i))), (.int (0 : Int32)), (.ref b200), (.int (Int32.ofNat i)), (.ref a1)])) rfl (by rw [hml]; rfl) (argsL := [(.int (Int32.ofNat (cap - i))), (.int (Int32.ofNat (j - i)))]) (rest := [(.int (0 : Int32)), (.ref b200), (.int (Int32.ofNat i)), (.ref a1)]) (lenOf pd_169 rfl) rfl (by show 2 * 0 + _ ≤ _; exact Nat.le_of_eq rfl) (hb hby d_jdk_65_method_133_24) (fun _ _ => ⟨rfl, e200, (by decide : 1 + 0 ≤ _), (by decide : 16 + 0 ≤ _)⟩)
  dsimp only [Pt.U, Pt.locs, Pt.cells, Pt.slots] at X204 l204 y204 z204 st204 hQ204
  subst l204 y204 z204
  obtain ⟨rfl, N204q, K204⟩ := hQ204
  have N204 := Fr.app N199 N204q
  refine own_Go.st st204 ?_
  show own_Go _ _ _ _ (T204.setTop (mkF m 27 #[.val (.ref a1), .val (.int (Int32.ofNat i)), .val (.int (Int32.ofNat j)), .val (.int (Int32.ofNat (j - i))), .val (.ref b200)] [(.int (if (Int32.ofNat (j - i)) < (Int32.ofNat (cap - i)) then (Int32.ofNat (j - i)) else (Int32.ofNat (cap - i)))), (.int (0 : Int32)), (.ref b200), (.int (Int32.ofNat i)), (.ref a1)]))
  rw [own_min (by omega) (by omega)]
  show own_Go _ _ _ _ (T204.setTop (mkF m 27 #[.val (.ref a1), .val (.int (Int32.ofNat i)), .val (.int (Int32.ofNat j)), .val (.int (Int32.ofNat (j - i))), .val (.ref b200)] [(.int (Int32.ofNat (j - i))), (.int (0 : Int32)), (.ref b200), (.int (Int32.ofNat i)), (.ref a1)]))
  have f206 : Arv Z h200 b200 k200 .byte (Int32.ofNat (j - i)) (List.replicate (j - i) (Value.int (0 : Int32))) (.int (0 : Int32)) := f201.pad (pad_rep [] _ _)
  obtain ⟨T207, h207, L207, X207, e207, N207, K207, V207, st207⟩ := cpA (us := (own_low ((cs.drop i).take (j - i)))) X204 hx hZ hown (hw _ (List.mem_of_getElem? (i := 135) rfl)) (hw _ (List.mem_of_getElem? (i := 86) rfl)) (hw _ (List.mem_of_getElem? (i := 84) rfl)) (hw _ (List.mem_of_getElem? (i := 85) rfl)) K204 f202 f206 (Or.inl ⟨rfl, rfl⟩) (own_of0 (by omega)) (by decide) (own_of0 (by omega)) (by rw [own_ofn (by omega), own_ofn (by omega), own_ofn (by omega)]; omega) (by rw [own_ofn (by omega)]; have : (0 : Int32).toNatClampNeg = 0 := (by decide); omega) (own_usR cs hij hj (by omega)) (by rw [own_ofn (by omega)]; have : (0 : Int32).toNatClampNeg = 0 := (by decide); rw [List.length_replicate]; omega) N204 (by omega) (g := (mkF m 27 #[.val (.ref a1), .val (.int (Int32.ofNat i)), .val (.int (Int32.ofNat j)), .val (.int (Int32.ofNat (j - i))), .val (.ref b200)] [(.int (Int32.ofNat (j - i))), (.int (0 : Int32)), (.ref b200), (.int (Int32.ofNat i)), (.ref a1)])) rfl (by rw [hml]; rfl) rfl (hb hby d_jdk_65_method_133_27) (by decide) (W := 0) (by show 2 * 0 + _ ≤ _; exact Nat.le_of_eq rfl) (by decide)
  refine own_Go.st st207 ?_
  have z207 : h200.size ≤ h207.size := K207.1
  have f208 : Arv Z h207 b200 k200 .byte (Int32.ofNat (j - i)) (own_low ((cs.drop i).take (j - i))) (.int (0 : Int32)) := own_takeV V207 (by omega)
  show own_Go _ _ _ _ (T207.setTop (mkF m 30 #[.val (.ref a1), .val (.int (Int32.ofNat i)), .val (.int (Int32.ofNat j)), .val (.int (Int32.ofNat (j - i))), .val (.ref b200)] []))
  refine own_Go.st (fun _ k => XS.aload X207.here hx rfl (hb hby d_jdk_65_method_133_30) rfl rfl k) ?_
  show own_Go _ _ _ _ (T207.setTop (mkF m 32 #[.val (.ref a1), .val (.int (Int32.ofNat i)), .val (.int (Int32.ofNat j)), .val (.int (Int32.ofNat (j - i))), .val (.ref b200)] [(.ref b200)]))
  obtain ⟨fs209, hr209, hrun209, hend209, hW209, hsm209⟩ := X207.leave (v := some (.ref b200)) (fun h => by rw [Bd.returns] at h; cases h)
  have K210 : Keep h0 h200 [] := (Keep.refl h0 []).ext E200
  have K211 : Keep h0 h207 [] := K210.trans K207 (allS (Or.inr (by omega)) all0)
  subst hPP
  refine ⟨_, _, own_retA X207 hx Bd.returns rfl rfl (hb hby d_jdk_65_method_133_32) hr209, hrun209, hend209, _, _, rfl, ?_, ⟨_, rfl⟩, hW209, hsm209.mono (by decide) (by decide)⟩
  · show Q_corb Z _ _ _ _ _ _ _ _ h0 _ T207.heap _
    rw [e207]
    exact ⟨b200, k200, rfl, N207, K211, f208, (by omega)⟩
theorem ef_174 (m : MethodId) (x0 : Nat) (x1 : Int32) (x2 : Int32) : entryFrame m #[(.ref x0), (.int x1), (.int x2)] 3 = mkF m 0 #[.val (.ref x0), .val (.int x1), .val (.int x2)] [] := by first | (simp [entryFrame, mkF, argsToLocals, Value.category]; done) | rfl
theorem d_jdk_65_method_132_0 : decode jdk_65_method_132_code 0 = .ok (.iload_n 1, 1) := by decide +kernel
theorem d_jdk_65_method_132_1 : decode jdk_65_method_132_code 1 = .ok (.ifCond .ne 9, 3) := by decide +kernel
theorem d_jdk_65_method_132_4 : decode jdk_65_method_132_code 4 = .ok (.iload_n 2, 1) := by decide +kernel
theorem d_jdk_65_method_132_5 : decode jdk_65_method_132_code 5 = .ok (.aload_n 0, 1) := by decide +kernel
theorem d_jdk_65_method_132_6 : decode jdk_65_method_132_code 6 = .ok (.arraylength, 1) := by decide +kernel
theorem d_jdk_65_method_132_7 : decode jdk_65_method_132_code 7 = .ok (.if_icmp .eq 10, 3) := by decide +kernel
theorem d_jdk_65_method_132_10 : decode jdk_65_method_132_code 10 = .ok (.aload_n 0, 1) := by decide +kernel
theorem d_jdk_65_method_132_11 : decode jdk_65_method_132_code 11 = .ok (.iload_n 1, 1) := by decide +kernel
theorem d_jdk_65_method_132_12 : decode jdk_65_method_132_code 12 = .ok (.iload_n 2, 1) := by decide +kernel
theorem pd_184 : parseMethodDescriptor "([BII)[B" = some ⟨[(.array .byte), .int, .int], some (.array .byte)⟩ := by decide +kernel
theorem d_jdk_65_method_132_13 : decode jdk_65_method_132_code 13 = .ok (.invokestatic 339, 3) := by decide +kernel
theorem d_jdk_65_method_132_16 : decode jdk_65_method_132_code 16 = .ok (.areturn, 1) := by decide +kernel
def Q_cor (Z : State) (a1 : Nat) (p2 : Int32) (p3 : Int32) (i : Nat) (j : Nat) (cs : List Int32) (cap : Nat) (k : ClassId) (h0 : Heap) (v : Option Value) (h : Heap) (L : List Loc) : Prop := ∃ (x : Nat), ∃ (kx : ClassId), v = some (.ref x) ∧ Fr Z.heap.size L ∧ Keep h0 h [] ∧ Arv Z h x kx .byte (Int32.ofNat (j - i)) (own_low ((cs.drop i).take (j - i))) (.int (0 : Int32)) ∧ (h0.size ≤ x)
set_option maxRecDepth 65536 in
set_option maxHeartbeats 40000000 in
theorem rm_cor (l : Launch) (Z : State) (a0 : Array Value) (hw : ∀ d ∈ tables_1, d.before a0 Z = true) (ws : List Jvm.Cond) (a1 : Nat) (p2 : Int32) (p3 : Int32) (i : Nat) (j : Nat) (cs : List Int32) (cap : Nat) (k : ClassId) (h0 : Heap) (OL : Old Z Z.heap.size h0) (p0_ : Arv Z h0 a1 k .byte (Int32.ofNat cap) (own_low cs) (.int (0 : Int32))) (hp2 : p2 = Int32.ofNat i) (hp3 : p3 = Int32.ofNat j) (hij : i ≤ j) (hj : j ≤ cs.length) (hcs : cs.length ≤ cap) (hcap : cap ≤ 100) (hmx : j - i ≤ 16) (hnw : ¬ (i = 0 ∧ j = cap)) :
    MetFree l (⟨"java/util/Arrays", "copyOfRange", "([BII)[B"⟩ : MethodName) (head1 (Jvm.Cond.code (⟨"java/util/Arrays", "copyOfRange", "([BII)[B"⟩ : MethodName) jdk_65_method_132_code 3 (some (.array .byte)) :: ws) ({ frames := 2, cells := 1, slots := 16, locals := 56 } : Room)) (fun a U => a = #[(.ref a1), (.int p2), (.int p3)] ∧ Z.Warmed39 U.vm ∧ U.heap = h0) (fun _ _ _ _ _ => True) (fun _ U o U' => ∃ v L, o = .returned v ∧ Q_cor Z a1 p2 p3 i j cs cap k h0 v U'.heap L ∧ FrameEnd U o U' L ({ frames := 2, cells := 1, slots := 16, locals := 56 } : Room).cells ({ frames := 2, cells := 1, slots := 16, locals := 56 } : Room).slots) := by
  refine MetFree.of_bodySF (plainFor_of_name pn_143) hisR ?_
  intro p e s m args below meth c s₁ Bd hml0 hP hK
  obtain ⟨rfl, hZ, hh⟩ := hP
  have hx := Bd.exec
  have hby := Bd.bytes
  have hml : c.maxLocals = 3 := hml0
  have hown : s.vm.findClass "java/util/Arrays" = some m.cls := findClass_of_methodNamed Bd.named
  have hnm := (name_of_methodNamed Bd.named Bd.method).1
  have X0 : Stand p l e ({ frames := 2, cells := 1, slots := 16, locals := 56 } : Room) s m #[(.ref a1), (.int p2), (.int p3)] below meth c s₁ [] 0 0 := Stand.of_body Bd
  have e0 : s₁.heap = h0 := by rw [← hh, Bd.state]; rfl
  have N0 := Fr.nil Z.heap.size
  have Z0 : Z.heap.size ≤ h0.size := OL.2.1
  have lt_0 : @LT.lt Nat _ a1 h0.size := p0_.lt
  obtain ⟨PP, hPP⟩ : ∃ PP : Outcome → State → Prop, PP = (fun o tE => ∃ v L, o = .returned v ∧ Q_cor Z a1 p2 p3 i j cs cap k h0 v tE.heap L ∧ FrameEnd s o tE L ({ frames := 2, cells := 1, slots := 16, locals := 56 } : Room).cells ({ frames := 2, cells := 1, slots := 16, locals := 56 } : Room).slots) := ⟨_, rfl⟩
  show own_Go p.tables e below (fun o tE => ∃ v L, o = .returned v ∧ Q_cor Z a1 p2 p3 i j cs cap k h0 v tE.heap L ∧ FrameEnd s o tE L ({ frames := 2, cells := 1, slots := 16, locals := 56 } : Room).cells ({ frames := 2, cells := 1, slots := 16, locals := 56 } : Room).slots) (s₁.setTop (entryFrame m #[(.ref a1), (.int p2), (.int p3)] 3))
  rw [← hPP]
  refine own_Go.st (fun t k => castTop (ef_174 m a1 p2 p3) k) ?_
  subst hp2 hp3
  show own_Go _ _ _ _ (s₁.setTop (mkF m 0 #[.val (.ref a1), .val (.int (Int32.ofNat i)), .val (.int (Int32.ofNat j))] []))
  refine own_Go.st (fun _ k => XS.iloadN X0.here hx rfl (hb hby d_jdk_65_method_132_0) rfl k) ?_
  show own_Go _ _ _ _ (s₁.setTop (mkF m 1 #[.val (.ref a1), .val (.int (Int32.ofNat i)), .val (.int (Int32.ofNat j))] [(.int (Int32.ofNat i))]))
  by_cases h1 : (Int32.ofNat i) = (0 : Int32)
  ·
    refine own_Go.st (fun _ k => XS.ifNo X0.here hx rfl (hb hby d_jdk_65_method_132_1) rfl ((if0 _ _).trans (teq h1).2) k) ?_
    show own_Go _ _ _ _ (s₁.setTop (mkF m 4 #[.val (.ref a1), .val (.int (Int32.ofNat i)), .val (.int (Int32.ofNat j))] []))
    refine own_Go.st (fun _ k => XS.iloadN X0.here hx rfl (hb hby d_jdk_65_method_132_4) rfl k) ?_
    show own_Go _ _ _ _ (s₁.setTop (mkF m 5 #[.val (.ref a1), .val (.int (Int32.ofNat i)), .val (.int (Int32.ofNat j))] [(.int (Int32.ofNat j))]))
    refine own_Go.st (fun _ k => XS.aloadN X0.here hx rfl (hb hby d_jdk_65_method_132_5) rfl rfl k) ?_
    show own_Go _ _ _ _ (s₁.setTop (mkF m 6 #[.val (.ref a1), .val (.int (Int32.ofNat i)), .val (.int (Int32.ofNat j))] [(.ref a1), (.int (Int32.ofNat j))]))
    obtain ⟨c212, Ar212, q212, S212, Nn212, H212, G212⟩ := id p0_
    refine own_Go.st (X0.arraylength hx (by rw [e0]; exact Ar212.1) (State.isArrayOf_alike hZ.alike Ar212.2.1) (g := (mkF m 6 #[.val (.ref a1), .val (.int (Int32.ofNat i)), .val (.int (Int32.ofNat j))] [(.ref a1), (.int (Int32.ofNat j))])) rfl rfl (hb hby d_jdk_65_method_132_6)) ?_
    rw [len_of S212 Nn212]
    show own_Go _ _ _ _ (s₁.setTop (mkF m 7 #[.val (.ref a1), .val (.int (Int32.ofNat i)), .val (.int (Int32.ofNat j))] [(.int (Int32.ofNat cap)), (.int (Int32.ofNat j))]))
    have hc213 : ¬ ((Int32.ofNat j) = (Int32.ofNat cap)) := fun q => hnw ⟨(own_ofE (by omega) (by omega)).mp h1, (own_ofE (by omega) (by omega)).mp q⟩
    refine own_Go.st (fun _ k => XS.icmpNo X0.here hx rfl (hb hby d_jdk_65_method_132_7) rfl (feq hc213).1 k) ?_
    show own_Go _ _ _ _ (s₁.setTop (mkF m 10 #[.val (.ref a1), .val (.int (Int32.ofNat i)), .val (.int (Int32.ofNat j))] []))
    refine own_Go.st (fun _ k => XS.aloadN X0.here hx rfl (hb hby d_jdk_65_method_132_10) rfl rfl k) ?_
    show own_Go _ _ _ _ (s₁.setTop (mkF m 11 #[.val (.ref a1), .val (.int (Int32.ofNat i)), .val (.int (Int32.ofNat j))] [(.ref a1)]))
    refine own_Go.st (fun _ k => XS.iloadN X0.here hx rfl (hb hby d_jdk_65_method_132_11) rfl k) ?_
    show own_Go _ _ _ _ (s₁.setTop (mkF m 12 #[.val (.ref a1), .val (.int (Int32.ofNat i)), .val (.int (Int32.ofNat j))] [(.int (Int32.ofNat i)), (.ref a1)]))
    refine own_Go.st (fun _ k => XS.iloadN X0.here hx rfl (hb hby d_jdk_65_method_132_12) rfl k) ?_
    show own_Go _ _ _ _ (s₁.setTop (mkF m 13 #[.val (.ref a1), .val (.int (Int32.ofNat i)), .val (.int (Int32.ofNat j))] [(.int (Int32.ofNat j)), (.int (Int32.ofNat i)), (.ref a1)]))
    obtain ⟨_, _, ⟨T214, L214, k214, n214⟩, -, X214, ⟨Lc214, hQ214, l214, y214, z214⟩, st214⟩ := Jvm.LawKit.callS X0 hx (y := (⟨"java/util/Arrays", "copyOfRangeByte", "([BII)[B"⟩ : MethodName)) hown (mvT hZ (hw _ (List.mem_of_getElem? (i := 125) rfl))) (mvT hZ (hw _ (List.mem_of_getElem? (i := 126) rfl))) (mvT hZ (hw _ (List.mem_of_getElem? (i := 123) rfl))) (mvT hZ (hw _ (List.mem_of_getElem? (i := 127) rfl))) (by decide) (backOf (W := 0) (rm_corb l Z a0 hw [] a1 (Int32.ofNat i) (Int32.ofNat j) i j cs cap k h0 OL p0_ rfl rfl (by first | assumption | decide) (by first | assumption | decide) (by first | assumption | decide) (by first | assumption | decide) (by first | assumption | decide)) hZ (hw _ (List.mem_of_getElem? (i := 127) rfl)) (hw _ (List.mem_of_getElem? (i := 123) rfl)) (by decide) (by decide)) (g := (mkF m 13 #[.val (.ref a1), .val (.int (Int32.ofNat i)), .val (.int (Int32.ofNat j))] [(.int (Int32.ofNat j)), (.int (Int32.ofNat i)), (.ref a1)])) rfl (by rw [hml]; rfl) (argsL := [(.ref a1), (.int (Int32.ofNat i)), (.int (Int32.ofNat j))]) (rest := []) (lenOf pd_184 rfl) rfl (by show 2 * 0 + _ ≤ _; exact Nat.le_of_eq rfl) (hb hby d_jdk_65_method_132_13) (fun _ _ => ⟨rfl, e0, (by decide : 0 + 1 ≤ _), (by decide : 0 + 16 ≤ _)⟩)
    dsimp only [Pt.U, Pt.locs, Pt.cells, Pt.slots] at X214 l214 y214 z214 st214 hQ214
    subst l214 y214 z214
    obtain ⟨x_214, kx_214, rfl, N214q, K214, f214_0, pr214_0⟩ := hQ214
    have N214 := Fr.app N0 N214q
    have z214 : h0.size ≤ T214.heap.size := K214.1
    have lt214_0 : @LT.lt Nat _ x_214 T214.heap.size := f214_0.lt
    refine own_Go.st st214 ?_
    show own_Go _ _ _ _ (T214.setTop (mkF m 16 #[.val (.ref a1), .val (.int (Int32.ofNat i)), .val (.int (Int32.ofNat j))] [(.ref x_214)]))
    obtain ⟨fs215, hr215, hrun215, hend215, hW215, hsm215⟩ := X214.leave (v := some (.ref x_214)) (fun h => by rw [Bd.returns] at h; cases h)
    have K216 : Keep h0 T214.heap [] := (Keep.refl h0 []).trans K214 all0
    subst hPP
    refine ⟨_, _, own_retA X214 hx Bd.returns rfl rfl (hb hby d_jdk_65_method_132_16) hr215, hrun215, hend215, _, _, rfl, ?_, ⟨_, rfl⟩, hW215, hsm215.mono (by decide) (by decide)⟩
    · show Q_cor Z _ _ _ _ _ _ _ _ h0 _ T214.heap _
      exact ⟨x_214, kx_214, rfl, N214, K216, f214_0, (by omega)⟩
  ·
    refine own_Go.st (fun _ k => XS.ifYes X0.here hx rfl (pc0 := 1) (pc' := 10) rfl (hb hby d_jdk_65_method_132_1) rfl ((if0 _ _).trans (feq h1).2) (by decide) (by decide) k) ?_
    show own_Go _ _ _ _ (s₁.setTop (mkF m 10 #[.val (.ref a1), .val (.int (Int32.ofNat i)), .val (.int (Int32.ofNat j))] []))
    refine own_Go.st (fun _ k => XS.aloadN X0.here hx rfl (hb hby d_jdk_65_method_132_10) rfl rfl k) ?_
    show own_Go _ _ _ _ (s₁.setTop (mkF m 11 #[.val (.ref a1), .val (.int (Int32.ofNat i)), .val (.int (Int32.ofNat j))] [(.ref a1)]))
    refine own_Go.st (fun _ k => XS.iloadN X0.here hx rfl (hb hby d_jdk_65_method_132_11) rfl k) ?_
    show own_Go _ _ _ _ (s₁.setTop (mkF m 12 #[.val (.ref a1), .val (.int (Int32.ofNat i)), .val (.int (Int32.ofNat j))] [(.int (Int32.ofNat i)), (.ref a1)]))
    refine own_Go.st (fun _ k => XS.iloadN X0.here hx rfl (hb hby d_jdk_65_method_132_12) rfl k) ?_
    show own_Go _ _ _ _ (s₁.setTop (mkF m 13 #[.val (.ref a1), .val (.int (Int32.ofNat i)), .val (.int (Int32.ofNat j))] [(.int (Int32.ofNat j)), (.int (Int32.ofNat i)), (.ref a1)]))
    obtain ⟨_, _, ⟨T217, L217, k217, n217⟩, -, X217, ⟨Lc217, hQ217, l217, y217, z217⟩, st217⟩ := Jvm.LawKit.callS X0 hx (y := (⟨"java/util/Arrays", "copyOfRangeByte", "([BII)[B"⟩ : MethodName)) hown (mvT hZ (hw _ (List.mem_of_getElem? (i := 125) rfl))) (mvT hZ (hw _ (List.mem_of_getElem? (i := 126) rfl))) (mvT hZ (hw _ (List.mem_of_getElem? (i := 123) rfl))) (mvT hZ (hw _ (List.mem_of_getElem? (i := 127) rfl))) (by decide) (backOf (W := 0) (rm_corb l Z a0 hw [] a1 (Int32.ofNat i) (Int32.ofNat j) i j cs cap k h0 OL p0_ rfl rfl (by first | assumption | decide) (by first | assumption | decide) (by first | assumption | decide) (by first | assumption | decide) (by first | assumption | decide)) hZ (hw _ (List.mem_of_getElem? (i := 127) rfl)) (hw _ (List.mem_of_getElem? (i := 123) rfl)) (by decide) (by decide)) (g := (mkF m 13 #[.val (.ref a1), .val (.int (Int32.ofNat i)), .val (.int (Int32.ofNat j))] [(.int (Int32.ofNat j)), (.int (Int32.ofNat i)), (.ref a1)])) rfl (by rw [hml]; rfl) (argsL := [(.ref a1), (.int (Int32.ofNat i)), (.int (Int32.ofNat j))]) (rest := []) (lenOf pd_184 rfl) rfl (by show 2 * 0 + _ ≤ _; exact Nat.le_of_eq rfl) (hb hby d_jdk_65_method_132_13) (fun _ _ => ⟨rfl, e0, (by decide : 0 + 1 ≤ _), (by decide : 0 + 16 ≤ _)⟩)
    dsimp only [Pt.U, Pt.locs, Pt.cells, Pt.slots] at X217 l217 y217 z217 st217 hQ217
    subst l217 y217 z217
    obtain ⟨x_217, kx_217, rfl, N217q, K217, f217_0, pr217_0⟩ := hQ217
    have N217 := Fr.app N0 N217q
    have z217 : h0.size ≤ T217.heap.size := K217.1
    have lt217_0 : @LT.lt Nat _ x_217 T217.heap.size := f217_0.lt
    refine own_Go.st st217 ?_
    show own_Go _ _ _ _ (T217.setTop (mkF m 16 #[.val (.ref a1), .val (.int (Int32.ofNat i)), .val (.int (Int32.ofNat j))] [(.ref x_217)]))
    obtain ⟨fs218, hr218, hrun218, hend218, hW218, hsm218⟩ := X217.leave (v := some (.ref x_217)) (fun h => by rw [Bd.returns] at h; cases h)
    have K219 : Keep h0 T217.heap [] := (Keep.refl h0 []).trans K217 all0
    subst hPP
    refine ⟨_, _, own_retA X217 hx Bd.returns rfl rfl (hb hby d_jdk_65_method_132_16) hr218, hrun218, hend218, _, _, rfl, ?_, ⟨_, rfl⟩, hW218, hsm218.mono (by decide) (by decide)⟩
    · show Q_cor Z _ _ _ _ _ _ _ _ h0 _ T217.heap _
      exact ⟨x_217, kx_217, rfl, N217, K219, f217_0, (by omega)⟩

theorem own_all (cs : List Int32) : (cs.drop 0).take (cs.length - 0) = cs := by simp

theorem ef_187 (m : MethodId) (x0 : Nat) (x1 : Nat) : entryFrame m #[(.ref x0), (.ref x1), .null] 5 = mkF m 0 #[.val (.ref x0), .val (.ref x1), .val .null, .unset, .unset] [] := by first | (simp [entryFrame, mkF, argsToLocals, Value.category]; done) | rfl
theorem d_jdk_42_method_150_0 : decode jdk_42_method_150_code 0 = .ok (.aload_n 0, 1) := by decide +kernel
theorem d_jdk_42_method_150_1 : decode jdk_42_method_150_code 1 = .ok (.invokespecial 1, 3) := by decide +kernel
theorem d_jdk_42_method_150_4 : decode jdk_42_method_150_code 4 = .ok (.aload_n 1, 1) := by decide +kernel
theorem pd_191 : parseMethodDescriptor "()[B" = some ⟨[], some (.array .byte)⟩ := by decide +kernel
theorem d_jdk_42_method_150_5 : decode jdk_42_method_150_code 5 = .ok (.invokevirtual 552, 3) := by decide +kernel
theorem d_jdk_42_method_150_8 : decode jdk_42_method_150_code 8 = .ok (.astore_n 3, 1) := by decide +kernel
theorem d_jdk_42_method_150_9 : decode jdk_42_method_150_code 9 = .ok (.aload_n 1, 1) := by decide +kernel
theorem d_jdk_42_method_150_10 : decode jdk_42_method_150_code 10 = .ok (.invokevirtual 549, 3) := by decide +kernel
theorem d_jdk_42_method_150_13 : decode jdk_42_method_150_code 13 = .ok (.istore 4, 2) := by decide +kernel
theorem d_jdk_42_method_150_15 : decode jdk_42_method_150_code 15 = .ok (.aload_n 1, 1) := by decide +kernel
theorem pd_198 : parseMethodDescriptor "()Z" = some ⟨[], some .boolean⟩ := by decide +kernel
theorem d_jdk_42_method_150_16 : decode jdk_42_method_150_code 16 = .ok (.invokevirtual 1047, 3) := by decide +kernel
theorem d_jdk_42_method_150_19 : decode jdk_42_method_150_code 19 = .ok (.ifCond .eq 22, 3) := by decide +kernel
theorem d_jdk_42_method_150_22 : decode jdk_42_method_150_code 22 = .ok (.aload_n 0, 1) := by decide +kernel
theorem d_jdk_42_method_150_23 : decode jdk_42_method_150_code 23 = .ok (.iconst 0, 1) := by decide +kernel
theorem d_jdk_42_method_150_24 : decode jdk_42_method_150_code 24 = .ok (.putfield 15, 3) := by decide +kernel
theorem d_jdk_42_method_150_27 : decode jdk_42_method_150_code 27 = .ok (.aload_n 0, 1) := by decide +kernel
theorem d_jdk_42_method_150_28 : decode jdk_42_method_150_code 28 = .ok (.aload_n 3, 1) := by decide +kernel
theorem d_jdk_42_method_150_29 : decode jdk_42_method_150_code 29 = .ok (.iconst 0, 1) := by decide +kernel
theorem d_jdk_42_method_150_30 : decode jdk_42_method_150_code 30 = .ok (.iload 4, 2) := by decide +kernel
theorem d_jdk_42_method_150_32 : decode jdk_42_method_150_code 32 = .ok (.invokestatic 54, 3) := by decide +kernel
theorem d_jdk_42_method_150_35 : decode jdk_42_method_150_code 35 = .ok (.putfield 9, 3) := by decide +kernel
theorem d_jdk_42_method_150_38 : decode jdk_42_method_150_code 38 = .ok (.goto 59, 3) := by decide +kernel
theorem d_jdk_42_method_150_97 : decode jdk_42_method_150_code 97 = .ok (.return_, 1) := by decide +kernel
def Q_sinit2 (Z : State) (a1 : Nat) (a2 : Nat) (cs : List Int32) (cap : Nat) (a4 : Nat) (k : ClassId) (zc : Int32) (h0 : Heap) (v : Option Value) (h : Heap) (L : List Loc) : Prop := ∃ (t : Nat), v = none ∧ Fr Z.heap.size L ∧ Keep h0 h [a1] ∧ own_Str Z h a1 t cs ∧ (h0.size ≤ t)
set_option maxRecDepth 65536 in
set_option maxHeartbeats 40000000 in
theorem rm_sinit2 (l : Launch) (Z : State) (a0 : Array Value) (hw : ∀ d ∈ tables_1, d.before a0 Z = true) (ws : List Jvm.Cond) (a1 : Nat) (a2 : Nat) (cs : List Int32) (cap : Nat) (a4 : Nat) (k : ClassId) (zc : Int32) (h0 : Heap) (OL : Old Z Z.heap.size h0) (p0_ : Exa Z h0 a1 "java/lang/String") (p1_ : Fld Z h0 a1 "java/lang/String" "value" "[B" .null) (p2_ : Fld Z h0 a1 "java/lang/String" "coder" "B" (.int (0 : Int32))) (p3_ : Exa Z h0 a2 "java/lang/StringBuilder") (p4_ : Fld Z h0 a2 "java/lang/AbstractStringBuilder" "value" "[B" (.ref a4)) (p5_ : Fld Z h0 a2 "java/lang/AbstractStringBuilder" "coder" "B" (.int (0 : Int32))) (p6_ : Fld Z h0 a2 "java/lang/AbstractStringBuilder" "count" "I" (.int (Int32.ofNat cs.length))) (p7_ : Arv Z h0 a4 k .byte (Int32.ofNat cap) (own_low cs) (.int (0 : Int32))) (st_COMPACT_STRINGS : Sta Z Z.heap "java/lang/String" "COMPACT_STRINGS" "Z" (.int zc)) (hzc : ¬ zc = 0) (hcs : cs.length < cap) (hcap : cap ≤ 100) (hmx : cs.length ≤ 16) (hlc : ∀ c ∈ cs, ¬ c < 0 ∧ ¬ (255 : Int32) < c) (hn0 : Z.heap.size ≤ a1) :
    MetFree l (⟨"java/lang/String", "<init>", "(Ljava/lang/AbstractStringBuilder;Ljava/lang/Void;)V"⟩ : MethodName) (head1 (Jvm.Cond.code (⟨"java/lang/String", "<init>", "(Ljava/lang/AbstractStringBuilder;Ljava/lang/Void;)V"⟩ : MethodName) jdk_42_method_150_code 5 none :: ws) ({ frames := 3, cells := 1, slots := 16, locals := 72 } : Room)) (fun a U => a = #[(.ref a1), (.ref a2), .null] ∧ Z.Warmed39 U.vm ∧ U.heap = h0) (fun _ _ _ _ _ => True) (fun _ U o U' => ∃ v L, o = .returned v ∧ Q_sinit2 Z a1 a2 cs cap a4 k zc h0 v U'.heap L ∧ FrameEnd U o U' L ({ frames := 3, cells := 1, slots := 16, locals := 72 } : Room).cells ({ frames := 3, cells := 1, slots := 16, locals := 72 } : Room).slots) := by
  refine MetFree.of_bodySF (plainFor_of_name pn_22) hisR ?_
  intro p e s m args below meth c s₁ Bd hml0 hP hK
  obtain ⟨rfl, hZ, hh⟩ := hP
  have hx := Bd.exec
  have hby := Bd.bytes
  have hml : c.maxLocals = 5 := hml0
  have hown : s.vm.findClass "java/lang/String" = some m.cls := findClass_of_methodNamed Bd.named
  have hnm := (name_of_methodNamed Bd.named Bd.method).1
  have X0 : Stand p l e ({ frames := 3, cells := 1, slots := 16, locals := 72 } : Room) s m #[(.ref a1), (.ref a2), .null] below meth c s₁ [] 0 0 := Stand.of_body Bd
  have e0 : s₁.heap = h0 := by rw [← hh, Bd.state]; rfl
  have N0 := Fr.nil Z.heap.size
  have Z0 : Z.heap.size ≤ h0.size := OL.2.1
  have lt_0 : @LT.lt Nat _ a1 h0.size := p0_.lt
  have lt_1 : @LT.lt Nat _ a1 h0.size := p1_.lt
  have lt_2 : @LT.lt Nat _ a1 h0.size := p2_.lt
  have lt_3 : @LT.lt Nat _ a2 h0.size := p3_.lt
  have lt_4 : @LT.lt Nat _ a2 h0.size := p4_.lt
  have lt_5 : @LT.lt Nat _ a2 h0.size := p5_.lt
  have lt_6 : @LT.lt Nat _ a2 h0.size := p6_.lt
  have lt_7 : @LT.lt Nat _ a4 h0.size := p7_.lt
  obtain ⟨PP, hPP⟩ : ∃ PP : Outcome → State → Prop, PP = (fun o tE => ∃ v L, o = .returned v ∧ Q_sinit2 Z a1 a2 cs cap a4 k zc h0 v tE.heap L ∧ FrameEnd s o tE L ({ frames := 3, cells := 1, slots := 16, locals := 72 } : Room).cells ({ frames := 3, cells := 1, slots := 16, locals := 72 } : Room).slots) := ⟨_, rfl⟩
  show own_Go p.tables e below (fun o tE => ∃ v L, o = .returned v ∧ Q_sinit2 Z a1 a2 cs cap a4 k zc h0 v tE.heap L ∧ FrameEnd s o tE L ({ frames := 3, cells := 1, slots := 16, locals := 72 } : Room).cells ({ frames := 3, cells := 1, slots := 16, locals := 72 } : Room).slots) (s₁.setTop (entryFrame m #[(.ref a1), (.ref a2), .null] 5))
  rw [← hPP]
  refine own_Go.st (fun t k => castTop (ef_187 m a1 a2) k) ?_
  show own_Go _ _ _ _ (s₁.setTop (mkF m 0 #[.val (.ref a1), .val (.ref a2), .val .null, .unset, .unset] []))
  refine own_Go.st (fun _ k => XS.aloadN X0.here hx rfl (hb hby d_jdk_42_method_150_0) rfl rfl k) ?_
  show own_Go _ _ _ _ (s₁.setTop (mkF m 1 #[.val (.ref a1), .val (.ref a2), .val .null, .unset, .unset] [(.ref a1)]))
  obtain ⟨T220, X220, e220, st220⟩ := initO X0 hx hZ hown (hw _ (List.mem_of_getElem? (i := 102) rfl)) (hw _ (List.mem_of_getElem? (i := 30) rfl)) (hw _ (List.mem_of_getElem? (i := 31) rfl)) e0 (g := (mkF m 1 #[.val (.ref a1), .val (.ref a2), .val .null, .unset, .unset] [(.ref a1)])) rfl (by rw [hml]; rfl) rfl (hb hby d_jdk_42_method_150_1) (by decide) (W := 0) (by show 2 * 0 + _ ≤ _; exact Nat.le_of_eq rfl) (by decide)
  refine own_Go.st st220 ?_
  show own_Go _ _ _ _ (T220.setTop (mkF m 4 #[.val (.ref a1), .val (.ref a2), .val .null, .unset, .unset] []))
  refine own_Go.st (fun _ k => XS.aloadN X220.here hx rfl (hb hby d_jdk_42_method_150_4) rfl rfl k) ?_
  show own_Go _ _ _ _ (T220.setTop (mkF m 5 #[.val (.ref a1), .val (.ref a2), .val .null, .unset, .unset] [(.ref a2)]))
  obtain ⟨cq221, kq221, q221a, q221b, q221c⟩ := isOf hZ e220 p3_
  obtain ⟨_, _, ⟨T221, L221, k221, n221⟩, -, X221, ⟨Lc221, hQ221, l221, y221, z221⟩, st221⟩ := X220.virtualBack hx (y := (⟨"java/lang/AbstractStringBuilder", "getValue", "()[B"⟩ : MethodName)) (z := (⟨"java/lang/AbstractStringBuilder", "getValue", "()[B"⟩ : MethodName)) hown (mvT hZ (hw _ (List.mem_of_getElem? (i := 103) rfl))) (mvT hZ (hw _ (List.mem_of_getElem? (i := 104) rfl))) (notFace_of_selects (args := #[]) (mvT hZ (hw _ (List.mem_of_getElem? (i := 106) rfl)))) (mvT hZ (hw _ (List.mem_of_getElem? (i := 106) rfl))) (mvT hZ (hw _ (List.mem_of_getElem? (i := 105) rfl))) (by decide) (backOf (W := 0) (rm_getValue l Z a0 hw [] a2 a4 h0 OL p4_) hZ (hw _ (List.mem_of_getElem? (i := 107) rfl)) (hw _ (List.mem_of_getElem? (i := 27) rfl)) (by decide) (by decide)) q221a q221c (g := (mkF m 5 #[.val (.ref a1), .val (.ref a2), .val .null, .unset, .unset] [(.ref a2)])) rfl (by rw [hml]; rfl) (Steps.refl _) (argsL := []) (rest := []) (lenOf pd_191 rfl) rfl (by show 2 * 0 + _ ≤ _; exact Nat.le_of_eq rfl) (hb hby d_jdk_42_method_150_5) (fun _ _ => ⟨rfl, e220, (by decide : 0 + 0 ≤ _), (by decide : 0 + 0 ≤ _)⟩)
  dsimp only [Pt.U, Pt.locs, Pt.cells, Pt.slots] at X221 l221 y221 z221 st221 hQ221
  subst l221 y221 z221
  obtain ⟨rfl, N221q, K221⟩ := hQ221
  have N221 := Fr.app N0 N221q
  refine own_Go.tr st221 ?_
  show own_Go _ _ _ _ (T221.setTop (mkF m 8 #[.val (.ref a1), .val (.ref a2), .val .null, .unset, .unset] [(.ref a4)]))
  refine own_Go.st (fun _ k => XS.astoreN X221.here hx rfl (hb hby d_jdk_42_method_150_8) rfl rfl (l' := #[.val (.ref a1), .val (.ref a2), .val .null, .val (.ref a4), .unset]) rfl k) ?_
  show own_Go _ _ _ _ (T221.setTop (mkF m 9 #[.val (.ref a1), .val (.ref a2), .val .null, .val (.ref a4), .unset] []))
  refine own_Go.st (fun _ k => XS.aloadN X221.here hx rfl (hb hby d_jdk_42_method_150_9) rfl rfl k) ?_
  show own_Go _ _ _ _ (T221.setTop (mkF m 10 #[.val (.ref a1), .val (.ref a2), .val .null, .val (.ref a4), .unset] [(.ref a2)]))
  obtain ⟨cq222, kq222, q222a, q222b, q222c⟩ := isOf hZ K221 p3_
  obtain ⟨_, _, ⟨T222, L222, k222, n222⟩, -, X222, ⟨Lc222, hQ222, l222, y222, z222⟩, st222⟩ := X221.virtualBack hx (y := (⟨"java/lang/AbstractStringBuilder", "length", "()I"⟩ : MethodName)) (z := (⟨"java/lang/StringBuilder", "length", "()I"⟩ : MethodName)) hown (mvT hZ (hw _ (List.mem_of_getElem? (i := 108) rfl))) (mvT hZ (hw _ (List.mem_of_getElem? (i := 109) rfl))) (own_nf (args := #[]) (mvT hZ (hw _ (List.mem_of_getElem? (i := 65) rfl))) rfl) (mvT hZ (hw _ (List.mem_of_getElem? (i := 111) rfl))) (mvT hZ (hw _ (List.mem_of_getElem? (i := 112) rfl))) (by decide) (backOf (W := 0) (rm_sblen l Z a0 hw [] a2 (Int32.ofNat cs.length) h0 OL p3_ p6_) hZ (hw _ (List.mem_of_getElem? (i := 113) rfl)) (hw _ (List.mem_of_getElem? (i := 19) rfl)) (by decide) (by decide)) q222a q222c (g := (mkF m 10 #[.val (.ref a1), .val (.ref a2), .val .null, .val (.ref a4), .unset] [(.ref a2)])) rfl (by rw [hml]; rfl) (Steps.refl _) (argsL := []) (rest := []) (lenOf pd_88 rfl) rfl (by show 2 * 0 + _ ≤ _; exact Nat.le_of_eq rfl) (hb hby d_jdk_42_method_150_10) (fun _ _ => ⟨rfl, K221, (by decide : 0 + 0 ≤ _), (by decide : 0 + 0 ≤ _)⟩)
  dsimp only [Pt.U, Pt.locs, Pt.cells, Pt.slots] at X222 l222 y222 z222 st222 hQ222
  subst l222 y222 z222
  obtain ⟨rfl, N222q, K222⟩ := hQ222
  have N222 := Fr.app N221 N222q
  refine own_Go.tr st222 ?_
  show own_Go _ _ _ _ (T222.setTop (mkF m 13 #[.val (.ref a1), .val (.ref a2), .val .null, .val (.ref a4), .unset] [(.int (Int32.ofNat cs.length))]))
  refine own_Go.st (fun _ k => XS.istore X222.here hx rfl (hb hby d_jdk_42_method_150_13) rfl (l' := #[.val (.ref a1), .val (.ref a2), .val .null, .val (.ref a4), .val (.int (Int32.ofNat cs.length))]) rfl k) ?_
  show own_Go _ _ _ _ (T222.setTop (mkF m 15 #[.val (.ref a1), .val (.ref a2), .val .null, .val (.ref a4), .val (.int (Int32.ofNat cs.length))] []))
  refine own_Go.st (fun _ k => XS.aloadN X222.here hx rfl (hb hby d_jdk_42_method_150_15) rfl rfl k) ?_
  show own_Go _ _ _ _ (T222.setTop (mkF m 16 #[.val (.ref a1), .val (.ref a2), .val .null, .val (.ref a4), .val (.int (Int32.ofNat cs.length))] [(.ref a2)]))
  obtain ⟨cq223, kq223, q223a, q223b, q223c⟩ := isOf hZ K222 p3_
  obtain ⟨_, _, ⟨T223, L223, k223, n223⟩, -, X223, ⟨Lc223, hQ223, l223, y223, z223⟩, st223⟩ := X222.virtualBack hx (y := (⟨"java/lang/AbstractStringBuilder", "isLatin1", "()Z"⟩ : MethodName)) (z := (⟨"java/lang/AbstractStringBuilder", "isLatin1", "()Z"⟩ : MethodName)) hown (mvT hZ (hw _ (List.mem_of_getElem? (i := 116) rfl))) (mvT hZ (hw _ (List.mem_of_getElem? (i := 117) rfl))) (notFace_of_selects (args := #[]) (mvT hZ (hw _ (List.mem_of_getElem? (i := 119) rfl)))) (mvT hZ (hw _ (List.mem_of_getElem? (i := 119) rfl))) (mvT hZ (hw _ (List.mem_of_getElem? (i := 118) rfl))) (by decide) (backOf (W := 0) (rm_asbl1 l Z a0 hw [] a2 zc h0 OL p5_ st_COMPACT_STRINGS (by first | assumption | decide)) hZ (hw _ (List.mem_of_getElem? (i := 120) rfl)) (hw _ (List.mem_of_getElem? (i := 27) rfl)) (by decide) (by decide)) q223a q223c (g := (mkF m 16 #[.val (.ref a1), .val (.ref a2), .val .null, .val (.ref a4), .val (.int (Int32.ofNat cs.length))] [(.ref a2)])) rfl (by rw [hml]; rfl) (Steps.refl _) (argsL := []) (rest := []) (lenOf pd_198 rfl) rfl (by show 2 * 0 + _ ≤ _; exact Nat.le_of_eq rfl) (hb hby d_jdk_42_method_150_16) (fun _ _ => ⟨rfl, K222, (by decide : 0 + 0 ≤ _), (by decide : 0 + 0 ≤ _)⟩)
  dsimp only [Pt.U, Pt.locs, Pt.cells, Pt.slots] at X223 l223 y223 z223 st223 hQ223
  subst l223 y223 z223
  obtain ⟨rfl, N223q, K223⟩ := hQ223
  have N223 := Fr.app N222 N223q
  refine own_Go.tr st223 ?_
  show own_Go _ _ _ _ (T223.setTop (mkF m 19 #[.val (.ref a1), .val (.ref a2), .val .null, .val (.ref a4), .val (.int (Int32.ofNat cs.length))] [(.int (1 : Int32))]))
  refine own_Go.st (fun _ k => XS.ifNo X223.here hx rfl (hb hby d_jdk_42_method_150_19) rfl ((if0 _ _).trans (feq (by decide : ¬ ((1 : Int32) = (0 : Int32)))).1) k) ?_
  show own_Go _ _ _ _ (T223.setTop (mkF m 22 #[.val (.ref a1), .val (.ref a2), .val .null, .val (.ref a4), .val (.int (Int32.ofNat cs.length))] []))
  refine own_Go.st (fun _ k => XS.aloadN X223.here hx rfl (hb hby d_jdk_42_method_150_22) rfl rfl k) ?_
  show own_Go _ _ _ _ (T223.setTop (mkF m 23 #[.val (.ref a1), .val (.ref a2), .val .null, .val (.ref a4), .val (.int (Int32.ofNat cs.length))] [(.ref a1)]))
  refine own_Go.st (fun _ k => XS.iconst X223.here hx rfl (hb hby d_jdk_42_method_150_23) k) ?_
  show own_Go _ _ _ _ (T223.setTop (mkF m 24 #[.val (.ref a1), .val (.ref a2), .val .null, .val (.ref a4), .val (.int (Int32.ofNat cs.length))] [(.int (0 : Int32)), (.ref a1)]))
  obtain ⟨T224, h224, X224, e224, W224, st224⟩ := putF X223 hx hZ hown (host := "") (Or.inl (hw _ (List.mem_of_getElem? (i := 59) rfl))) Via.refl K223 p2_ p0_ (Or.inr ⟨(hw _ (List.mem_of_getElem? (i := 9) rfl)), rfl, hnm⟩) (hw _ (List.mem_of_getElem? (i := 6) rfl)) (ty := .byte) (by decide) rfl (by decide) (g := (mkF m 24 #[.val (.ref a1), .val (.ref a2), .val .null, .val (.ref a4), .val (.int (Int32.ofNat cs.length))] [(.int (0 : Int32)), (.ref a1)])) rfl rfl (hb hby d_jdk_42_method_150_24)
  refine own_Go.st st224 ?_
  have N224 := Fr.snoc X224 N223 (by omega)
  have z224 : h0.size ≤ h224.size := Nat.le_of_eq W224.size.symm
  have f225 : Fld Z h224 a1 "java/lang/String" "coder" "B" (.int (0 : Int32)) := p2_.same W224
  show own_Go _ _ _ _ (T224.setTop (mkF m 27 #[.val (.ref a1), .val (.ref a2), .val .null, .val (.ref a4), .val (.int (Int32.ofNat cs.length))] []))
  refine own_Go.st (fun _ k => XS.aloadN X224.here hx rfl (hb hby d_jdk_42_method_150_27) rfl rfl k) ?_
  show own_Go _ _ _ _ (T224.setTop (mkF m 28 #[.val (.ref a1), .val (.ref a2), .val .null, .val (.ref a4), .val (.int (Int32.ofNat cs.length))] [(.ref a1)]))
  refine own_Go.st (fun _ k => XS.aloadN X224.here hx rfl (hb hby d_jdk_42_method_150_28) rfl rfl k) ?_
  show own_Go _ _ _ _ (T224.setTop (mkF m 29 #[.val (.ref a1), .val (.ref a2), .val .null, .val (.ref a4), .val (.int (Int32.ofNat cs.length))] [(.ref a4), (.ref a1)]))
  refine own_Go.st (fun _ k => XS.iconst X224.here hx rfl (hb hby d_jdk_42_method_150_29) k) ?_
  show own_Go _ _ _ _ (T224.setTop (mkF m 30 #[.val (.ref a1), .val (.ref a2), .val .null, .val (.ref a4), .val (.int (Int32.ofNat cs.length))] [(.int (0 : Int32)), (.ref a4), (.ref a1)]))
  refine own_Go.st (fun _ k => XS.iload X224.here hx rfl (hb hby d_jdk_42_method_150_30) rfl k) ?_
  show own_Go _ _ _ _ (T224.setTop (mkF m 32 #[.val (.ref a1), .val (.ref a2), .val .null, .val (.ref a4), .val (.int (Int32.ofNat cs.length))] [(.int (Int32.ofNat cs.length)), (.int (0 : Int32)), (.ref a4), (.ref a1)]))
  have ne227 : @Ne Nat a1 a4 := Exa.neArv p0_ p7_ (hw _ (List.mem_of_getElem? (i := 6) rfl))
  have f228 : Arv Z h224 a4 k .byte (Int32.ofNat cap) (own_low cs) (.int (0 : Int32)) := p7_.other W224 (Ne.symm ne227)
  have f229 : Old Z Z.heap.size h224 := OL.wr W224 (by omega)
  obtain ⟨_, _, ⟨T226, L226, k226, n226⟩, -, X226, ⟨Lc226, hQ226, l226, y226, z226⟩, st226⟩ := Jvm.LawKit.callS X224 hx (y := (⟨"java/util/Arrays", "copyOfRange", "([BII)[B"⟩ : MethodName)) hown (mvT hZ (hw _ (List.mem_of_getElem? (i := 121) rfl))) (mvT hZ (hw _ (List.mem_of_getElem? (i := 122) rfl))) (mvT hZ (hw _ (List.mem_of_getElem? (i := 123) rfl))) (mvT hZ (hw _ (List.mem_of_getElem? (i := 124) rfl))) (by decide) (backOf (W := 1) (rm_cor l Z a0 hw [] a4 (0 : Int32) (Int32.ofNat cs.length) 0 cs.length cs cap k h224 f229 f228 rfl rfl (Nat.zero_le _) (Nat.le_refl _) (by omega) (by first | assumption | decide) (by omega) (fun q => by omega)) hZ (hw _ (List.mem_of_getElem? (i := 124) rfl)) (hw _ (List.mem_of_getElem? (i := 123) rfl)) (by decide) (by decide)) (g := (mkF m 32 #[.val (.ref a1), .val (.ref a2), .val .null, .val (.ref a4), .val (.int (Int32.ofNat cs.length))] [(.int (Int32.ofNat cs.length)), (.int (0 : Int32)), (.ref a4), (.ref a1)])) rfl (by rw [hml]; rfl) (argsL := [(.ref a4), (.int (0 : Int32)), (.int (Int32.ofNat cs.length))]) (rest := [(.ref a1)]) (lenOf pd_184 rfl) rfl (by show 2 * 0 + _ ≤ _; exact Nat.le_of_eq rfl) (hb hby d_jdk_42_method_150_32) (fun _ _ => ⟨rfl, e224, (by decide : 0 + 1 ≤ _), (by decide : 0 + 16 ≤ _)⟩)
  dsimp only [Pt.U, Pt.locs, Pt.cells, Pt.slots] at X226 l226 y226 z226 st226 hQ226
  subst l226 y226 z226
  obtain ⟨x_226, kx_226, rfl, N226q, K226, f226_0, pr226_0⟩ := hQ226
  have N226 := Fr.app N224 N226q
  have z226 : h224.size ≤ T226.heap.size := K226.1
  have lt226_0 : @LT.lt Nat _ x_226 T226.heap.size := f226_0.lt
  have f230 : Arv Z T226.heap x_226 kx_226 .byte (Int32.ofNat cs.length) (own_low cs) (.int (0 : Int32)) := by
    have q := f226_0
    rw [own_all, Nat.sub_zero] at q
    exact q
  refine own_Go.st st226 ?_
  show own_Go _ _ _ _ (T226.setTop (mkF m 35 #[.val (.ref a1), .val (.ref a2), .val .null, .val (.ref a4), .val (.int (Int32.ofNat cs.length))] [(.ref x_226), (.ref a1)]))
  have f231 : Fld Z h224 a1 "java/lang/String" "value" "[B" .null := p1_.other W224 (Or.inr (slot_ne (Or.inr (hw _ (List.mem_of_getElem? (i := 8) rfl))) (Or.inr (hw _ (List.mem_of_getElem? (i := 9) rfl))) (by decide) (t := (.array .byte)) (t' := .byte) (by decide) (by decide)))
  have f232 : Fld Z T226.heap a1 "java/lang/String" "value" "[B" .null := f231.keep K226 nin0
  have f233 : Exa Z h224 a1 "java/lang/String" := p0_.wr W224
  have f234 : Exa Z T226.heap a1 "java/lang/String" := f233.keep K226
  obtain ⟨T235, h235, X235, e235, W235, st235⟩ := putF X226 hx hZ hown (host := "") (Or.inl (hw _ (List.mem_of_getElem? (i := 52) rfl))) Via.refl rfl f232 f234 (Or.inr ⟨(hw _ (List.mem_of_getElem? (i := 8) rfl)), rfl, hnm⟩) (hw _ (List.mem_of_getElem? (i := 6) rfl)) (ty := (.array .byte)) (by decide) rfl rfl (g := (mkF m 35 #[.val (.ref a1), .val (.ref a2), .val .null, .val (.ref a4), .val (.int (Int32.ofNat cs.length))] [(.ref x_226), (.ref a1)])) rfl rfl (hb hby d_jdk_42_method_150_35)
  refine own_Go.st st235 ?_
  have N235 := Fr.snoc X235 N226 (by omega)
  have z235 : T226.heap.size ≤ h235.size := Nat.le_of_eq W235.size.symm
  have f236 : Fld Z h235 a1 "java/lang/String" "value" "[B" (.ref x_226) := f232.same W235
  show own_Go _ _ _ _ (T235.setTop (mkF m 38 #[.val (.ref a1), .val (.ref a2), .val .null, .val (.ref a4), .val (.int (Int32.ofNat cs.length))] []))
  refine own_Go.st (fun _ k => XS.goto X235.here hx rfl (pc0 := 38) (pc' := 97) rfl (hb hby d_jdk_42_method_150_38) (by decide) (by decide) k) ?_
  show own_Go _ _ _ _ (T235.setTop (mkF m 97 #[.val (.ref a1), .val (.ref a2), .val .null, .val (.ref a4), .val (.int (Int32.ofNat cs.length))] []))
  obtain ⟨fs237, hr237, hrun237, hend237, hW237, hsm237⟩ := X235.leave (v := none) (fun _ => rfl)
  have f238 : Exa Z h235 a1 "java/lang/String" := f234.wr W235
  have f239 : Fld Z T226.heap a1 "java/lang/String" "coder" "B" (.int (0 : Int32)) := f225.keep K226 nin0
  have f240 : Fld Z h235 a1 "java/lang/String" "coder" "B" (.int (0 : Int32)) := f239.other W235 (Or.inr (slot_ne (Or.inr (hw _ (List.mem_of_getElem? (i := 9) rfl))) (Or.inr (hw _ (List.mem_of_getElem? (i := 8) rfl))) (by decide) (t := .byte) (t' := (.array .byte)) (by decide) (by decide)))
  have ne241 : @Ne Nat a1 x_226 := Exa.neArv f234 f230 (hw _ (List.mem_of_getElem? (i := 6) rfl))
  have f242 : Arv Z h235 x_226 kx_226 .byte (Int32.ofNat cs.length) (own_low cs) (.int (0 : Int32)) := f230.other W235 (Ne.symm ne241)
  have K243 : Keep h0 h224 [a1] := (Keep.refl h0 [a1]).wr W224 (Or.inl (List.mem_of_getElem? (i := 0) rfl))
  have K244 : Keep h0 T226.heap [a1] := K243.trans K226 all0
  have K245 : Keep h0 h235 [a1] := K244.wr W235 (Or.inl (List.mem_of_getElem? (i := 0) rfl))
  subst hPP
  refine ⟨_, _, X235.returnOut hx Bd.returns (hb hby d_jdk_42_method_150_97) hr237, hrun237, hend237, _, _, rfl, ?_, ⟨_, rfl⟩, hW237, hsm237.mono (by decide) (by decide)⟩
  · show Q_sinit2 Z _ _ _ _ _ _ _ h0 _ T235.heap _
    rw [e235]
    exact ⟨x_226, rfl, N235, K245, (own_Str.mkL f238 f236 f240 f242 hlc (by omega)), (by omega)⟩
theorem d_jdk_42_method_53_0 : decode jdk_42_method_53_code 0 = .ok (.aload_n 0, 1) := by decide +kernel
theorem d_jdk_42_method_53_1 : decode jdk_42_method_53_code 1 = .ok (.aload_n 1, 1) := by decide +kernel
theorem d_jdk_42_method_53_2 : decode jdk_42_method_53_code 2 = .ok (.aconst_null, 1) := by decide +kernel
theorem pd_215 : parseMethodDescriptor "(Ljava/lang/AbstractStringBuilder;Ljava/lang/Void;)V" = some ⟨[(.object "java/lang/AbstractStringBuilder"), (.object "java/lang/Void")], none⟩ := by decide +kernel
theorem d_jdk_42_method_53_3 : decode jdk_42_method_53_code 3 = .ok (.invokespecial 489, 3) := by decide +kernel
theorem d_jdk_42_method_53_6 : decode jdk_42_method_53_code 6 = .ok (.return_, 1) := by decide +kernel
def Q_sinit1 (Z : State) (a1 : Nat) (a2 : Nat) (cs : List Int32) (cap : Nat) (a4 : Nat) (k : ClassId) (zc : Int32) (h0 : Heap) (v : Option Value) (h : Heap) (L : List Loc) : Prop := ∃ (t : Nat), v = none ∧ Fr Z.heap.size L ∧ Keep h0 h [a1] ∧ own_Str Z h a1 t cs ∧ (h0.size ≤ t)
set_option maxRecDepth 65536 in
set_option maxHeartbeats 40000000 in
theorem rm_sinit1 (l : Launch) (Z : State) (a0 : Array Value) (hw : ∀ d ∈ tables_1, d.before a0 Z = true) (ws : List Jvm.Cond) (a1 : Nat) (a2 : Nat) (cs : List Int32) (cap : Nat) (a4 : Nat) (k : ClassId) (zc : Int32) (h0 : Heap) (OL : Old Z Z.heap.size h0) (p0_ : Exa Z h0 a1 "java/lang/String") (p1_ : Fld Z h0 a1 "java/lang/String" "value" "[B" .null) (p2_ : Fld Z h0 a1 "java/lang/String" "coder" "B" (.int (0 : Int32))) (p3_ : Exa Z h0 a2 "java/lang/StringBuilder") (p4_ : Fld Z h0 a2 "java/lang/AbstractStringBuilder" "value" "[B" (.ref a4)) (p5_ : Fld Z h0 a2 "java/lang/AbstractStringBuilder" "coder" "B" (.int (0 : Int32))) (p6_ : Fld Z h0 a2 "java/lang/AbstractStringBuilder" "count" "I" (.int (Int32.ofNat cs.length))) (p7_ : Arv Z h0 a4 k .byte (Int32.ofNat cap) (own_low cs) (.int (0 : Int32))) (st_COMPACT_STRINGS : Sta Z Z.heap "java/lang/String" "COMPACT_STRINGS" "Z" (.int zc)) (hzc : ¬ zc = 0) (hcs : cs.length < cap) (hcap : cap ≤ 100) (hmx : cs.length ≤ 16) (hlc : ∀ c ∈ cs, ¬ c < 0 ∧ ¬ (255 : Int32) < c) (hn0 : Z.heap.size ≤ a1) :
    MetFree l (⟨"java/lang/String", "<init>", "(Ljava/lang/StringBuilder;)V"⟩ : MethodName) (head1 (Jvm.Cond.code (⟨"java/lang/String", "<init>", "(Ljava/lang/StringBuilder;)V"⟩ : MethodName) jdk_42_method_53_code 2 none :: ws) ({ frames := 4, cells := 1, slots := 16, locals := 90 } : Room)) (fun a U => a = #[(.ref a1), (.ref a2)] ∧ Z.Warmed39 U.vm ∧ U.heap = h0) (fun _ _ _ _ _ => True) (fun _ U o U' => ∃ v L, o = .returned v ∧ Q_sinit1 Z a1 a2 cs cap a4 k zc h0 v U'.heap L ∧ FrameEnd U o U' L ({ frames := 4, cells := 1, slots := 16, locals := 90 } : Room).cells ({ frames := 4, cells := 1, slots := 16, locals := 90 } : Room).slots) := by
  refine MetFree.of_bodySF (plainFor_of_name pn_22) hisR ?_
  intro p e s m args below meth c s₁ Bd hml0 hP hK
  obtain ⟨rfl, hZ, hh⟩ := hP
  have hx := Bd.exec
  have hby := Bd.bytes
  have hml : c.maxLocals = 2 := hml0
  have hown : s.vm.findClass "java/lang/String" = some m.cls := findClass_of_methodNamed Bd.named
  have hnm := (name_of_methodNamed Bd.named Bd.method).1
  have X0 : Stand p l e ({ frames := 4, cells := 1, slots := 16, locals := 90 } : Room) s m #[(.ref a1), (.ref a2)] below meth c s₁ [] 0 0 := Stand.of_body Bd
  have e0 : s₁.heap = h0 := by rw [← hh, Bd.state]; rfl
  have N0 := Fr.nil Z.heap.size
  have Z0 : Z.heap.size ≤ h0.size := OL.2.1
  have lt_0 : @LT.lt Nat _ a1 h0.size := p0_.lt
  have lt_1 : @LT.lt Nat _ a1 h0.size := p1_.lt
  have lt_2 : @LT.lt Nat _ a1 h0.size := p2_.lt
  have lt_3 : @LT.lt Nat _ a2 h0.size := p3_.lt
  have lt_4 : @LT.lt Nat _ a2 h0.size := p4_.lt
  have lt_5 : @LT.lt Nat _ a2 h0.size := p5_.lt
  have lt_6 : @LT.lt Nat _ a2 h0.size := p6_.lt
  have lt_7 : @LT.lt Nat _ a4 h0.size := p7_.lt
  obtain ⟨PP, hPP⟩ : ∃ PP : Outcome → State → Prop, PP = (fun o tE => ∃ v L, o = .returned v ∧ Q_sinit1 Z a1 a2 cs cap a4 k zc h0 v tE.heap L ∧ FrameEnd s o tE L ({ frames := 4, cells := 1, slots := 16, locals := 90 } : Room).cells ({ frames := 4, cells := 1, slots := 16, locals := 90 } : Room).slots) := ⟨_, rfl⟩
  show own_Go p.tables e below (fun o tE => ∃ v L, o = .returned v ∧ Q_sinit1 Z a1 a2 cs cap a4 k zc h0 v tE.heap L ∧ FrameEnd s o tE L ({ frames := 4, cells := 1, slots := 16, locals := 90 } : Room).cells ({ frames := 4, cells := 1, slots := 16, locals := 90 } : Room).slots) (s₁.setTop (entryFrame m #[(.ref a1), (.ref a2)] 2))
  rw [← hPP]
  refine own_Go.st (fun t k => castTop (ef_29 m a1 a2) k) ?_
  show own_Go _ _ _ _ (s₁.setTop (mkF m 0 #[.val (.ref a1), .val (.ref a2)] []))
  refine own_Go.st (fun _ k => XS.aloadN X0.here hx rfl (hb hby d_jdk_42_method_53_0) rfl rfl k) ?_
  show own_Go _ _ _ _ (s₁.setTop (mkF m 1 #[.val (.ref a1), .val (.ref a2)] [(.ref a1)]))
  refine own_Go.st (fun _ k => XS.aloadN X0.here hx rfl (hb hby d_jdk_42_method_53_1) rfl rfl k) ?_
  show own_Go _ _ _ _ (s₁.setTop (mkF m 2 #[.val (.ref a1), .val (.ref a2)] [(.ref a2), (.ref a1)]))
  refine own_Go.st (fun _ k => XS.aconstNull X0.here hx rfl (hb hby d_jdk_42_method_53_2) k) ?_
  show own_Go _ _ _ _ (s₁.setTop (mkF m 3 #[.val (.ref a1), .val (.ref a2)] [.null, (.ref a2), (.ref a1)]))
  obtain ⟨_, _, ⟨T246, L246, k246, n246⟩, -, X246, ⟨Lc246, hQ246, l246, y246, z246⟩, st246⟩ := X0.specialBack hx (y := (⟨"java/lang/String", "<init>", "(Ljava/lang/AbstractStringBuilder;Ljava/lang/Void;)V"⟩ : MethodName)) rfl hown (mvT hZ (hw _ (List.mem_of_getElem? (i := 99) rfl))) (mvT hZ (hw _ (List.mem_of_getElem? (i := 100) rfl))) (mvT hZ (hw _ (List.mem_of_getElem? (i := 101) rfl))) (by decide) (backOf (W := 0) (rm_sinit2 l Z a0 hw [] a1 a2 cs cap a4 k zc h0 OL p0_ p1_ p2_ p3_ p4_ p5_ p6_ p7_ st_COMPACT_STRINGS (by first | assumption | decide) (by first | assumption | decide) (by first | assumption | decide) (by first | assumption | decide) (by first | assumption | decide) (by first | assumption | decide)) hZ (hw _ (List.mem_of_getElem? (i := 101) rfl)) (hw _ (List.mem_of_getElem? (i := 5) rfl)) (by decide) (by decide)) (g := (mkF m 3 #[.val (.ref a1), .val (.ref a2)] [.null, (.ref a2), (.ref a1)])) rfl (by rw [hml]; rfl) (Steps.refl _) (a := a1) (argsL := [(.ref a2), .null]) (rest := []) (lenOf pd_215 rfl) rfl (by show 2 * 0 + _ ≤ _; exact Nat.le_of_eq rfl) (hb hby d_jdk_42_method_53_3) (fun _ _ => ⟨rfl, e0, (by decide : 0 + 1 ≤ _), (by decide : 0 + 16 ≤ _)⟩)
  dsimp only [Pt.U, Pt.locs, Pt.cells, Pt.slots] at X246 l246 y246 z246 st246 hQ246
  subst l246 y246 z246
  obtain ⟨t_246, rfl, N246q, K246, f246_0, pr246_0⟩ := hQ246
  have N246 := Fr.app N0 N246q
  have z246 : h0.size ≤ T246.heap.size := K246.1
  have lt246_0 : @LT.lt Nat _ a1 T246.heap.size := f246_0.lt
  have ltv246_0 : @LT.lt Nat _ t_246 T246.heap.size := f246_0.ltv
  refine own_Go.tr st246 ?_
  show own_Go _ _ _ _ (T246.setTop (mkF m 6 #[.val (.ref a1), .val (.ref a2)] []))
  obtain ⟨fs247, hr247, hrun247, hend247, hW247, hsm247⟩ := X246.leave (v := none) (fun _ => rfl)
  have K248 : Keep h0 T246.heap [a1] := (Keep.refl h0 [a1]).trans K246 (allS (Or.inl (List.mem_of_getElem? (i := 0) rfl)) all0)
  subst hPP
  refine ⟨_, _, X246.returnOut hx Bd.returns (hb hby d_jdk_42_method_53_6) hr247, hrun247, hend247, _, _, rfl, ?_, ⟨_, rfl⟩, hW247, hsm247.mono (by decide) (by decide)⟩
  · show Q_sinit1 Z _ _ _ _ _ _ _ h0 _ T246.heap _
    exact ⟨t_246, rfl, N246, K248, f246_0, (by omega)⟩
theorem d_jdk_67_method_42_0 : decode jdk_67_method_42_code 0 = .ok (.new 18, 3) := by decide +kernel
theorem d_jdk_67_method_42_3 : decode jdk_67_method_42_code 3 = .ok (.dup, 1) := by decide +kernel
theorem d_jdk_67_method_42_4 : decode jdk_67_method_42_code 4 = .ok (.aload_n 0, 1) := by decide +kernel
theorem pd_221 : parseMethodDescriptor "(Ljava/lang/StringBuilder;)V" = some ⟨[(.object "java/lang/StringBuilder")], none⟩ := by decide +kernel
theorem d_jdk_67_method_42_5 : decode jdk_67_method_42_code 5 = .ok (.invokespecial 137, 3) := by decide +kernel
theorem d_jdk_67_method_42_8 : decode jdk_67_method_42_code 8 = .ok (.areturn, 1) := by decide +kernel
def Q_tostr (Z : State) (a1 : Nat) (cs : List Int32) (cap : Nat) (a4 : Nat) (k : ClassId) (zc : Int32) (h0 : Heap) (v : Option Value) (h : Heap) (L : List Loc) : Prop := ∃ (x : Nat), ∃ (t : Nat), v = some (.ref x) ∧ Fr Z.heap.size L ∧ Keep h0 h [] ∧ own_Str Z h x t cs ∧ (h0.size ≤ x) ∧ (h0.size ≤ t)
set_option maxRecDepth 65536 in
set_option maxHeartbeats 40000000 in
theorem rm_tostr (l : Launch) (Z : State) (a0 : Array Value) (hw : ∀ d ∈ tables_1, d.before a0 Z = true) (ws : List Jvm.Cond) (a1 : Nat) (cs : List Int32) (cap : Nat) (a4 : Nat) (k : ClassId) (zc : Int32) (h0 : Heap) (OL : Old Z Z.heap.size h0) (p0_ : Exa Z h0 a1 "java/lang/StringBuilder") (p1_ : Fld Z h0 a1 "java/lang/AbstractStringBuilder" "value" "[B" (.ref a4)) (p2_ : Fld Z h0 a1 "java/lang/AbstractStringBuilder" "coder" "B" (.int (0 : Int32))) (p3_ : Fld Z h0 a1 "java/lang/AbstractStringBuilder" "count" "I" (.int (Int32.ofNat cs.length))) (p4_ : Arv Z h0 a4 k .byte (Int32.ofNat cap) (own_low cs) (.int (0 : Int32))) (st_COMPACT_STRINGS : Sta Z Z.heap "java/lang/String" "COMPACT_STRINGS" "Z" (.int zc)) (hzc : ¬ zc = 0) (hcs : cs.length < cap) (hcap : cap ≤ 100) (hmx : cs.length ≤ 16) (hlc : ∀ c ∈ cs, ¬ c < 0 ∧ ¬ (255 : Int32) < c) :
    MetFree l (⟨"java/lang/StringBuilder", "toString", "()Ljava/lang/String;"⟩ : MethodName) (head1 (Jvm.Cond.code (⟨"java/lang/StringBuilder", "toString", "()Ljava/lang/String;"⟩ : MethodName) jdk_67_method_42_code 1 (some (.object "java/lang/String")) :: ws) ({ frames := 5, cells := 2, slots := 20, locals := 105 } : Room)) (fun a U => a = #[(.ref a1)] ∧ Z.Warmed39 U.vm ∧ U.heap = h0) (fun _ _ _ _ _ => True) (fun _ U o U' => ∃ v L, o = .returned v ∧ Q_tostr Z a1 cs cap a4 k zc h0 v U'.heap L ∧ FrameEnd U o U' L ({ frames := 5, cells := 2, slots := 20, locals := 105 } : Room).cells ({ frames := 5, cells := 2, slots := 20, locals := 105 } : Room).slots) := by
  refine MetFree.of_bodySF (plainFor_of_name pn_15) hisR ?_
  intro p e s m args below meth c s₁ Bd hml0 hP hK
  obtain ⟨rfl, hZ, hh⟩ := hP
  have hx := Bd.exec
  have hby := Bd.bytes
  have hml : c.maxLocals = 1 := hml0
  have hown : s.vm.findClass "java/lang/StringBuilder" = some m.cls := findClass_of_methodNamed Bd.named
  have hnm := (name_of_methodNamed Bd.named Bd.method).1
  have X0 : Stand p l e ({ frames := 5, cells := 2, slots := 20, locals := 105 } : Room) s m #[(.ref a1)] below meth c s₁ [] 0 0 := Stand.of_body Bd
  have e0 : s₁.heap = h0 := by rw [← hh, Bd.state]; rfl
  have N0 := Fr.nil Z.heap.size
  have Z0 : Z.heap.size ≤ h0.size := OL.2.1
  have lt_0 : @LT.lt Nat _ a1 h0.size := p0_.lt
  have lt_1 : @LT.lt Nat _ a1 h0.size := p1_.lt
  have lt_2 : @LT.lt Nat _ a1 h0.size := p2_.lt
  have lt_3 : @LT.lt Nat _ a1 h0.size := p3_.lt
  have lt_4 : @LT.lt Nat _ a4 h0.size := p4_.lt
  obtain ⟨PP, hPP⟩ : ∃ PP : Outcome → State → Prop, PP = (fun o tE => ∃ v L, o = .returned v ∧ Q_tostr Z a1 cs cap a4 k zc h0 v tE.heap L ∧ FrameEnd s o tE L ({ frames := 5, cells := 2, slots := 20, locals := 105 } : Room).cells ({ frames := 5, cells := 2, slots := 20, locals := 105 } : Room).slots) := ⟨_, rfl⟩
  show own_Go p.tables e below (fun o tE => ∃ v L, o = .returned v ∧ Q_tostr Z a1 cs cap a4 k zc h0 v tE.heap L ∧ FrameEnd s o tE L ({ frames := 5, cells := 2, slots := 20, locals := 105 } : Room).cells ({ frames := 5, cells := 2, slots := 20, locals := 105 } : Room).slots) (s₁.setTop (entryFrame m #[(.ref a1)] 1))
  rw [← hPP]
  refine own_Go.st (fun t k => castTop (ef_16 m a1) k) ?_
  show own_Go _ _ _ _ (s₁.setTop (mkF m 0 #[.val (.ref a1)] []))
  obtain ⟨T249, h249, X249, e249, E249, A249, D249, U249, st249⟩ := newO X0 hx hZ hown (hw _ (List.mem_of_getElem? (i := 94) rfl)) (hw _ (List.mem_of_getElem? (i := 6) rfl)) (hw _ (List.mem_of_getElem? (i := 5) rfl)) e0 (g := (mkF m 0 #[.val (.ref a1)] [])) rfl (hb hby d_jdk_67_method_42_0) (by decide) (by decide)
  obtain ⟨b249, g249⟩ : ∃ z, z = h0.size := ⟨_, rfl⟩
  rw [← g249] at A249 D249 U249 st249
  refine own_Go.st st249 ?_
  have z249 : h0.size ≤ h249.size := E249.1
  have lt_b249 : @LT.lt Nat _ b249 h249.size := A249.lt
  have f250 : Fld Z h249 b249 "java/lang/String" "value" "[B" .null := D249 (Or.inr (hw _ (List.mem_of_getElem? (i := 8) rfl))) (ty := (.array .byte)) (by decide)
  have f251 : Fld Z h249 b249 "java/lang/String" "coder" "B" (.int (0 : Int32)) := D249 (Or.inr (hw _ (List.mem_of_getElem? (i := 9) rfl))) (ty := .byte) (by decide)
  show own_Go _ _ _ _ (T249.setTop (mkF m 3 #[.val (.ref a1)] [(.ref b249)]))
  refine own_Go.st (fun _ k => XS.dup X249.here hx rfl (hb hby d_jdk_67_method_42_3) rfl rfl k) ?_
  show own_Go _ _ _ _ (T249.setTop (mkF m 4 #[.val (.ref a1)] [(.ref b249), (.ref b249)]))
  refine own_Go.st (fun _ k => XS.aloadN X249.here hx rfl (hb hby d_jdk_67_method_42_4) rfl rfl k) ?_
  show own_Go _ _ _ _ (T249.setTop (mkF m 5 #[.val (.ref a1)] [(.ref a1), (.ref b249), (.ref b249)]))
  have f253 : Exa Z h249 a1 "java/lang/StringBuilder" := p0_.ext E249
  have f254 : Fld Z h249 a1 "java/lang/AbstractStringBuilder" "value" "[B" (.ref a4) := p1_.ext E249
  have f255 : Fld Z h249 a1 "java/lang/AbstractStringBuilder" "coder" "B" (.int (0 : Int32)) := p2_.ext E249
  have f256 : Fld Z h249 a1 "java/lang/AbstractStringBuilder" "count" "I" (.int (Int32.ofNat cs.length)) := p3_.ext E249
  have f257 : Arv Z h249 a4 k .byte (Int32.ofNat cap) (own_low cs) (.int (0 : Int32)) := p4_.ext E249
  have f258 : Old Z Z.heap.size h249 := OL.ext E249
  obtain ⟨_, _, ⟨T252, L252, k252, n252⟩, -, X252, ⟨Lc252, hQ252, l252, y252, z252⟩, st252⟩ := X249.specialBack hx (y := (⟨"java/lang/String", "<init>", "(Ljava/lang/StringBuilder;)V"⟩ : MethodName)) rfl hown (mvT hZ (hw _ (List.mem_of_getElem? (i := 95) rfl))) (mvT hZ (hw _ (List.mem_of_getElem? (i := 96) rfl))) (mvT hZ (hw _ (List.mem_of_getElem? (i := 98) rfl))) (by decide) (backOf (W := 1) (rm_sinit1 l Z a0 hw [] b249 a1 cs cap a4 k zc h249 f258 A249 f250 f251 f253 f254 f255 f256 f257 st_COMPACT_STRINGS (by first | assumption | decide) (by first | assumption | decide) (by first | assumption | decide) (by first | assumption | decide) (by first | assumption | decide) (by omega)) hZ (hw _ (List.mem_of_getElem? (i := 98) rfl)) (hw _ (List.mem_of_getElem? (i := 5) rfl)) (by decide) (by decide)) (g := (mkF m 5 #[.val (.ref a1)] [(.ref a1), (.ref b249), (.ref b249)])) rfl (by rw [hml]; rfl) (Steps.refl _) (a := b249) (argsL := [(.ref a1)]) (rest := [(.ref b249)]) (lenOf pd_221 rfl) rfl (by show 2 * 0 + _ ≤ _; exact Nat.le_of_eq rfl) (hb hby d_jdk_67_method_42_5) (fun _ _ => ⟨rfl, e249, (by decide : 1 + 1 ≤ _), (by decide : 4 + 16 ≤ _)⟩)
  dsimp only [Pt.U, Pt.locs, Pt.cells, Pt.slots] at X252 l252 y252 z252 st252 hQ252
  subst l252 y252 z252
  obtain ⟨t_252, rfl, N252q, K252, f252_0, pr252_0⟩ := hQ252
  have N252 := Fr.app N0 N252q
  have z252 : h249.size ≤ T252.heap.size := K252.1
  have lt252_0 : @LT.lt Nat _ b249 T252.heap.size := f252_0.lt
  have ltv252_0 : @LT.lt Nat _ t_252 T252.heap.size := f252_0.ltv
  refine own_Go.tr st252 ?_
  show own_Go _ _ _ _ (T252.setTop (mkF m 8 #[.val (.ref a1)] [(.ref b249)]))
  obtain ⟨fs259, hr259, hrun259, hend259, hW259, hsm259⟩ := X252.leave (v := some (.ref b249)) (fun h => by rw [Bd.returns] at h; cases h)
  have K260 : Keep h0 h249 [] := (Keep.refl h0 []).ext E249
  have K261 : Keep h0 T252.heap [] := K260.trans K252 (allS (Or.inr (by omega)) all0)
  subst hPP
  refine ⟨_, _, own_retA X252 hx Bd.returns rfl rfl (hb hby d_jdk_67_method_42_8) hr259, hrun259, hend259, _, _, rfl, ?_, ⟨_, rfl⟩, hW259, hsm259.mono (by decide) (by decide)⟩
  · show Q_tostr Z _ _ _ _ _ _ h0 _ T252.heap _
    exact ⟨b249, t_252, rfl, N252, K261, f252_0, (by omega), (by omega)⟩
theorem ef_224 (m : MethodId) (x0 : Nat) (x1 : Nat) (x2 : Int32) : entryFrame m #[(.ref x0), (.ref x1), (.int x2)] 3 = mkF m 0 #[.val (.ref x0), .val (.ref x1), .val (.int x2)] [] := by first | (simp [entryFrame, mkF, argsToLocals, Value.category]; done) | rfl
theorem d_jdk_42_method_151_0 : decode jdk_42_method_151_code 0 = .ok (.aload_n 0, 1) := by decide +kernel
theorem d_jdk_42_method_151_1 : decode jdk_42_method_151_code 1 = .ok (.invokespecial 1, 3) := by decide +kernel
theorem d_jdk_42_method_151_4 : decode jdk_42_method_151_code 4 = .ok (.aload_n 0, 1) := by decide +kernel
theorem d_jdk_42_method_151_5 : decode jdk_42_method_151_code 5 = .ok (.aload_n 1, 1) := by decide +kernel
theorem d_jdk_42_method_151_6 : decode jdk_42_method_151_code 6 = .ok (.putfield 9, 3) := by decide +kernel
theorem d_jdk_42_method_151_9 : decode jdk_42_method_151_code 9 = .ok (.aload_n 0, 1) := by decide +kernel
theorem d_jdk_42_method_151_10 : decode jdk_42_method_151_code 10 = .ok (.iload_n 2, 1) := by decide +kernel
theorem d_jdk_42_method_151_11 : decode jdk_42_method_151_code 11 = .ok (.putfield 15, 3) := by decide +kernel
theorem d_jdk_42_method_151_14 : decode jdk_42_method_151_code 14 = .ok (.return_, 1) := by decide +kernel
def Q_sinitBB (Z : State) (a1 : Nat) (a2 : Nat) (h0 : Heap) (v : Option Value) (h : Heap) (L : List Loc) : Prop := v = none ∧ Fr Z.heap.size L ∧ Keep h0 h [a1] ∧ Exa Z h a1 "java/lang/String" ∧ Fld Z h a1 "java/lang/String" "value" "[B" (.ref a2) ∧ Fld Z h a1 "java/lang/String" "coder" "B" (.int (0 : Int32))
set_option maxRecDepth 65536 in
set_option maxHeartbeats 40000000 in
theorem rm_sinitBB (l : Launch) (Z : State) (a0 : Array Value) (hw : ∀ d ∈ tables_1, d.before a0 Z = true) (ws : List Jvm.Cond) (a1 : Nat) (a2 : Nat) (h0 : Heap) (OL : Old Z Z.heap.size h0) (p0_ : Exa Z h0 a1 "java/lang/String") (p1_ : Fld Z h0 a1 "java/lang/String" "value" "[B" .null) (p2_ : Fld Z h0 a1 "java/lang/String" "coder" "B" (.int (0 : Int32))) (hn0 : Z.heap.size ≤ a1) :
    MetFree l (⟨"java/lang/String", "<init>", "([BB)V"⟩ : MethodName) (head1 (Jvm.Cond.code (⟨"java/lang/String", "<init>", "([BB)V"⟩ : MethodName) jdk_42_method_151_code 3 none :: ws) ({ frames := 1, cells := 0, slots := 0, locals := 12 } : Room)) (fun a U => a = #[(.ref a1), (.ref a2), (.int (0 : Int32))] ∧ Z.Warmed39 U.vm ∧ U.heap = h0) (fun _ _ _ _ _ => True) (fun _ U o U' => ∃ v L, o = .returned v ∧ Q_sinitBB Z a1 a2 h0 v U'.heap L ∧ FrameEnd U o U' L ({ frames := 1, cells := 0, slots := 0, locals := 12 } : Room).cells ({ frames := 1, cells := 0, slots := 0, locals := 12 } : Room).slots) := by
  refine MetFree.of_bodySF (plainFor_of_name pn_22) hisR ?_
  intro p e s m args below meth c s₁ Bd hml0 hP hK
  obtain ⟨rfl, hZ, hh⟩ := hP
  have hx := Bd.exec
  have hby := Bd.bytes
  have hml : c.maxLocals = 3 := hml0
  have hown : s.vm.findClass "java/lang/String" = some m.cls := findClass_of_methodNamed Bd.named
  have hnm := (name_of_methodNamed Bd.named Bd.method).1
  have X0 : Stand p l e ({ frames := 1, cells := 0, slots := 0, locals := 12 } : Room) s m #[(.ref a1), (.ref a2), (.int (0 : Int32))] below meth c s₁ [] 0 0 := Stand.of_body Bd
  have e0 : s₁.heap = h0 := by rw [← hh, Bd.state]; rfl
  have N0 := Fr.nil Z.heap.size
  have Z0 : Z.heap.size ≤ h0.size := OL.2.1
  have lt_0 : @LT.lt Nat _ a1 h0.size := p0_.lt
  have lt_1 : @LT.lt Nat _ a1 h0.size := p1_.lt
  have lt_2 : @LT.lt Nat _ a1 h0.size := p2_.lt
  obtain ⟨PP, hPP⟩ : ∃ PP : Outcome → State → Prop, PP = (fun o tE => ∃ v L, o = .returned v ∧ Q_sinitBB Z a1 a2 h0 v tE.heap L ∧ FrameEnd s o tE L ({ frames := 1, cells := 0, slots := 0, locals := 12 } : Room).cells ({ frames := 1, cells := 0, slots := 0, locals := 12 } : Room).slots) := ⟨_, rfl⟩
  show own_Go p.tables e below (fun o tE => ∃ v L, o = .returned v ∧ Q_sinitBB Z a1 a2 h0 v tE.heap L ∧ FrameEnd s o tE L ({ frames := 1, cells := 0, slots := 0, locals := 12 } : Room).cells ({ frames := 1, cells := 0, slots := 0, locals := 12 } : Room).slots) (s₁.setTop (entryFrame m #[(.ref a1), (.ref a2), (.int (0 : Int32))] 3))
  rw [← hPP]
  refine own_Go.st (fun t k => castTop (ef_224 m a1 a2 (0 : Int32)) k) ?_
  show own_Go _ _ _ _ (s₁.setTop (mkF m 0 #[.val (.ref a1), .val (.ref a2), .val (.int (0 : Int32))] []))
  refine own_Go.st (fun _ k => XS.aloadN X0.here hx rfl (hb hby d_jdk_42_method_151_0) rfl rfl k) ?_
  show own_Go _ _ _ _ (s₁.setTop (mkF m 1 #[.val (.ref a1), .val (.ref a2), .val (.int (0 : Int32))] [(.ref a1)]))
  obtain ⟨T262, X262, e262, st262⟩ := initO X0 hx hZ hown (hw _ (List.mem_of_getElem? (i := 102) rfl)) (hw _ (List.mem_of_getElem? (i := 30) rfl)) (hw _ (List.mem_of_getElem? (i := 31) rfl)) e0 (g := (mkF m 1 #[.val (.ref a1), .val (.ref a2), .val (.int (0 : Int32))] [(.ref a1)])) rfl (by rw [hml]; rfl) rfl (hb hby d_jdk_42_method_151_1) (by decide) (W := 0) (by show 2 * 0 + _ ≤ _; exact Nat.le_of_eq rfl) (by decide)
  refine own_Go.st st262 ?_
  show own_Go _ _ _ _ (T262.setTop (mkF m 4 #[.val (.ref a1), .val (.ref a2), .val (.int (0 : Int32))] []))
  refine own_Go.st (fun _ k => XS.aloadN X262.here hx rfl (hb hby d_jdk_42_method_151_4) rfl rfl k) ?_
  show own_Go _ _ _ _ (T262.setTop (mkF m 5 #[.val (.ref a1), .val (.ref a2), .val (.int (0 : Int32))] [(.ref a1)]))
  refine own_Go.st (fun _ k => XS.aloadN X262.here hx rfl (hb hby d_jdk_42_method_151_5) rfl rfl k) ?_
  show own_Go _ _ _ _ (T262.setTop (mkF m 6 #[.val (.ref a1), .val (.ref a2), .val (.int (0 : Int32))] [(.ref a2), (.ref a1)]))
  obtain ⟨T263, h263, X263, e263, W263, st263⟩ := putF X262 hx hZ hown (host := "") (Or.inl (hw _ (List.mem_of_getElem? (i := 52) rfl))) Via.refl e262 p1_ p0_ (Or.inr ⟨(hw _ (List.mem_of_getElem? (i := 8) rfl)), rfl, hnm⟩) (hw _ (List.mem_of_getElem? (i := 6) rfl)) (ty := (.array .byte)) (by decide) rfl rfl (g := (mkF m 6 #[.val (.ref a1), .val (.ref a2), .val (.int (0 : Int32))] [(.ref a2), (.ref a1)])) rfl rfl (hb hby d_jdk_42_method_151_6)
  refine own_Go.st st263 ?_
  have N263 := Fr.snoc X263 N0 (by omega)
  have z263 : h0.size ≤ h263.size := Nat.le_of_eq W263.size.symm
  have f264 : Fld Z h263 a1 "java/lang/String" "value" "[B" (.ref a2) := p1_.same W263
  show own_Go _ _ _ _ (T263.setTop (mkF m 9 #[.val (.ref a1), .val (.ref a2), .val (.int (0 : Int32))] []))
  refine own_Go.st (fun _ k => XS.aloadN X263.here hx rfl (hb hby d_jdk_42_method_151_9) rfl rfl k) ?_
  show own_Go _ _ _ _ (T263.setTop (mkF m 10 #[.val (.ref a1), .val (.ref a2), .val (.int (0 : Int32))] [(.ref a1)]))
  refine own_Go.st (fun _ k => XS.iloadN X263.here hx rfl (hb hby d_jdk_42_method_151_10) rfl k) ?_
  show own_Go _ _ _ _ (T263.setTop (mkF m 11 #[.val (.ref a1), .val (.ref a2), .val (.int (0 : Int32))] [(.int (0 : Int32)), (.ref a1)]))
  have f265 : Fld Z h263 a1 "java/lang/String" "coder" "B" (.int (0 : Int32)) := p2_.other W263 (Or.inr (slot_ne (Or.inr (hw _ (List.mem_of_getElem? (i := 9) rfl))) (Or.inr (hw _ (List.mem_of_getElem? (i := 8) rfl))) (by decide) (t := .byte) (t' := (.array .byte)) (by decide) (by decide)))
  have f266 : Exa Z h263 a1 "java/lang/String" := p0_.wr W263
  obtain ⟨T267, h267, X267, e267, W267, st267⟩ := putF X263 hx hZ hown (host := "") (Or.inl (hw _ (List.mem_of_getElem? (i := 59) rfl))) Via.refl e263 f265 f266 (Or.inr ⟨(hw _ (List.mem_of_getElem? (i := 9) rfl)), rfl, hnm⟩) (hw _ (List.mem_of_getElem? (i := 6) rfl)) (ty := .byte) (by decide) rfl (by decide) (g := (mkF m 11 #[.val (.ref a1), .val (.ref a2), .val (.int (0 : Int32))] [(.int (0 : Int32)), (.ref a1)])) rfl rfl (hb hby d_jdk_42_method_151_11)
  refine own_Go.st st267 ?_
  have N267 := Fr.snoc X267 N263 (by omega)
  have z267 : h263.size ≤ h267.size := Nat.le_of_eq W267.size.symm
  have f268 : Fld Z h267 a1 "java/lang/String" "coder" "B" (.int (0 : Int32)) := f265.same W267
  show own_Go _ _ _ _ (T267.setTop (mkF m 14 #[.val (.ref a1), .val (.ref a2), .val (.int (0 : Int32))] []))
  obtain ⟨fs269, hr269, hrun269, hend269, hW269, hsm269⟩ := X267.leave (v := none) (fun _ => rfl)
  have K270 : Keep h0 h263 [a1] := (Keep.refl h0 [a1]).wr W263 (Or.inl (List.mem_of_getElem? (i := 0) rfl))
  have K271 : Keep h0 h267 [a1] := K270.wr W267 (Or.inl (List.mem_of_getElem? (i := 0) rfl))
  have f272 : Exa Z h267 a1 "java/lang/String" := f266.wr W267
  have f273 : Fld Z h267 a1 "java/lang/String" "value" "[B" (.ref a2) := f264.other W267 (Or.inr (slot_ne (Or.inr (hw _ (List.mem_of_getElem? (i := 8) rfl))) (Or.inr (hw _ (List.mem_of_getElem? (i := 9) rfl))) (by decide) (t := (.array .byte)) (t' := .byte) (by decide) (by decide)))
  subst hPP
  refine ⟨_, _, X267.returnOut hx Bd.returns (hb hby d_jdk_42_method_151_14) hr269, hrun269, hend269, _, _, rfl, ?_, ⟨_, rfl⟩, hW269, hsm269.mono (by decide) (by decide)⟩
  · show Q_sinitBB Z _ _ h0 _ T267.heap _
    rw [e267]
    exact ⟨rfl, N267, K271, f272, f273, f268⟩

theorem own_narB (x : Int32) : nar .byte (x.toInt8.toInt32) = StrChars.lo8 x := by
  show (x.toInt8.toInt32).toInt8.toInt32 = x.toInt8.toInt32
  simp
theorem own_lat0 : ∀ c ∈ ([] : List Int32), ¬ c < 0 ∧ ¬ (255 : Int32) < c := own_a0
theorem own_ch255 (x : Int32) : ¬ ((x &&& (255 : Int32)).toUInt32.toUInt16.toUInt32.toInt32) < 0 ∧ ¬ (255 : Int32) < ((x &&& (255 : Int32)).toUInt32.toUInt16.toUInt32.toInt32) := by
  have h1 := c_mask x 255 8 (by decide) (by decide)
  have h4 := c_i2c (x &&& 255)
  have e2 : (255 : Int32).toInt = 255 := by decide
  have e3 : (0 : Int32).toInt = 0 := by decide
  simp only [Int32.lt_iff_toInt_lt, e2, e3]
  omega
theorem own_n3 (x : Int32) : ((x &&& (255 : Int32)) % (3 : Int32)) = 0 ∨ ((x &&& (255 : Int32)) % (3 : Int32)) = 1 ∨ ((x &&& (255 : Int32)) % (3 : Int32)) = 2 := by
  have h1 := c_mask x 255 8 (by decide) (by decide)
  have h2 := (c_irem (x &&& (255 : Int32)) 3 3 (by decide)).1 (by omega)
  generalize (x &&& (255 : Int32)) % (3 : Int32) = y at h2 ⊢
  generalize (x &&& (255 : Int32)) = z at h1 h2
  have e0 : (0 : Int32).toInt = 0 := by decide
  have e1 : (1 : Int32).toInt = 1 := by decide
  have e2 : (2 : Int32).toInt = 2 := by decide
  simp only [← Int32.toInt_inj, e0, e1, e2]
  omega
def own_wl (L N V : List Int32) : List Int32 := if L.length = 0 then N ++ [(61 : Int32), 34] ++ V ++ [(34 : Int32)] else L ++ [(44 : Int32)] ++ (N ++ [(61 : Int32), 34] ++ V ++ [(34 : Int32)])
def own_w1 (L : List Int32) : List Int32 := if L.length = 0 then [] else L ++ [(44 : Int32)]
theorem own_wl1 (L N V : List Int32) : own_wl L N V = own_w1 L ++ N ++ [(61 : Int32), 34] ++ V ++ [(34 : Int32)] := by
  unfold own_wl own_w1
  split <;> simp
theorem own_wlLat {L N V : List Int32} (h1 : ∀ c ∈ L, ¬ c < 0 ∧ ¬ (255 : Int32) < c) (h2 : ∀ c ∈ N, ¬ c < 0 ∧ ¬ (255 : Int32) < c) (h3 : ∀ c ∈ V, ¬ c < 0 ∧ ¬ (255 : Int32) < c) : ∀ c ∈ own_wl L N V, ¬ c < 0 ∧ ¬ (255 : Int32) < c := by
  have k : ∀ c ∈ N ++ [(61 : Int32), 34] ++ V ++ [(34 : Int32)], ¬ c < 0 ∧ ¬ (255 : Int32) < c := own_latA (own_latA (own_latA h2 (by decide)) h3) (by decide)
  unfold own_wl
  split
  · exact k
  · exact own_latA (own_latA h1 (by decide)) k
theorem own_l2 {a b : Int32} {n : Nat} (ha : ¬ a < 0 ∧ ¬ (255 : Int32) < a) (hb : ¬ b < 0 ∧ ¬ (255 : Int32) < b) : ∀ c ∈ [a, b].take n, ¬ c < 0 ∧ ¬ (255 : Int32) < c := fun c hc => (own_aS (P := fun c => ¬ c < 0 ∧ ¬ (255 : Int32) < c) ha (own_aS hb own_a0)) c (List.mem_of_mem_take hc)
theorem own_len2 {a b : Int32} {n : Nat} : ([a, b].take n).length ≤ 2 := by simp [List.length_take]; omega
theorem own_push {Z : State} {h h' : Heap} {a : Addr} {k : ClassId} {z : Int32} {es : List Int32} {j v : Int32} (F : Arv Z h a k .char z (es.map Value.int) (.int (0 : Int32))) (W : Wr h h' a j.toNatClampNeg (.int (nar .char v))) (hj : j = Int32.ofNat es.length) (hl : es.length < 1000) (hv : ¬ v < 0 ∧ ¬ (65535 : Int32) < v) : Arv Z h' a k .char z ((es ++ [v]).map Value.int) (.int (0 : Int32)) := by
  have F2 := F.pad (vs' := es.map Value.int ++ List.replicate 1 (Value.int (0 : Int32))) (fun i => pad_rep _ _ 1 i)
  obtain ⟨c, A, q1, S, q3, H, G⟩ := F2
  have F3 := Arv.set A q1 S q3 H G (fits_nar_char _) W es.length (by rw [hj, own_ofn (by omega)]) (by simp)
  rw [own_nar hv, List.set_append_right _ _ (by simp)] at F3
  simpa using F3
theorem own_pl1 {es : List Int32} {c : Int32} (h : es.length < 1000) : Int32.ofNat es.length + (1 : Int32) = Int32.ofNat (es ++ [c]).length := by
  rw [List.length_append]
  exact own_ofA (i := es.length) (j := 1) (by omega)

theorem pn_234 : plainName "java/lang/StringLatin1" = true := by first | (simp [plainName, overriddenIn]; done) | decide +kernel
theorem ef_235 (m : MethodId) (x0 : Int32) : entryFrame m #[(.int x0)] 1 = mkF m 0 #[.val (.int x0)] [] := by first | (simp [entryFrame, mkF, argsToLocals, Value.category]; done) | rfl
theorem d_jdk_43_method_3_0 : decode jdk_43_method_3_code 0 = .ok (.iload_n 0, 1) := by decide +kernel
theorem d_jdk_43_method_3_1 : decode jdk_43_method_3_code 1 = .ok (.sipush 255, 3) := by decide +kernel
theorem d_jdk_43_method_3_4 : decode jdk_43_method_3_code 4 = .ok (.if_icmp .gt 7, 3) := by decide +kernel
theorem d_jdk_43_method_3_7 : decode jdk_43_method_3_code 7 = .ok (.iconst 1, 1) := by decide +kernel
theorem d_jdk_43_method_3_8 : decode jdk_43_method_3_code 8 = .ok (.goto 4, 3) := by decide +kernel
theorem d_jdk_43_method_3_12 : decode jdk_43_method_3_code 12 = .ok (.ireturn, 1) := by decide +kernel
def Q_canEnc (Z : State) (p1 : Int32) (h0 : Heap) (v : Option Value) (h : Heap) (L : List Loc) : Prop := v = some (.int (1 : Int32)) ∧ Fr Z.heap.size L ∧ h = h0
set_option maxRecDepth 65536 in
set_option maxHeartbeats 40000000 in
theorem rm_canEnc (l : Launch) (Z : State) (a0 : Array Value) (hw : ∀ d ∈ tables_1, d.before a0 Z = true) (ws : List Jvm.Cond) (p1 : Int32) (h0 : Heap) (OL : Old Z Z.heap.size h0) (h : ¬ (255 : Int32) < p1) :
    MetFree l (⟨"java/lang/StringLatin1", "canEncode", "(C)Z"⟩ : MethodName) (head1 (Jvm.Cond.code (⟨"java/lang/StringLatin1", "canEncode", "(C)Z"⟩ : MethodName) jdk_43_method_3_code 1 (some .boolean) :: ws) ({ frames := 0, cells := 0, slots := 0, locals := 0 } : Room)) (fun a U => a = #[(.int p1)] ∧ Z.Warmed39 U.vm ∧ U.heap = h0) (fun _ _ _ _ _ => True) (fun _ U o U' => ∃ v L, o = .returned v ∧ Q_canEnc Z p1 h0 v U'.heap L ∧ FrameEnd U o U' L ({ frames := 0, cells := 0, slots := 0, locals := 0 } : Room).cells ({ frames := 0, cells := 0, slots := 0, locals := 0 } : Room).slots) := by
  refine MetFree.of_bodySF (plainFor_of_name pn_234) hisR ?_
  intro p e s m args below meth c s₁ Bd hml0 hP hK
  obtain ⟨rfl, hZ, hh⟩ := hP
  have hx := Bd.exec
  have hby := Bd.bytes
  have hml : c.maxLocals = 1 := hml0
  have hown : s.vm.findClass "java/lang/StringLatin1" = some m.cls := findClass_of_methodNamed Bd.named
  have hnm := (name_of_methodNamed Bd.named Bd.method).1
  have X0 : Stand p l e ({ frames := 0, cells := 0, slots := 0, locals := 0 } : Room) s m #[(.int p1)] below meth c s₁ [] 0 0 := Stand.of_body Bd
  have e0 : s₁.heap = h0 := by rw [← hh, Bd.state]; rfl
  have N0 := Fr.nil Z.heap.size
  have Z0 : Z.heap.size ≤ h0.size := OL.2.1
  obtain ⟨PP, hPP⟩ : ∃ PP : Outcome → State → Prop, PP = (fun o tE => ∃ v L, o = .returned v ∧ Q_canEnc Z p1 h0 v tE.heap L ∧ FrameEnd s o tE L ({ frames := 0, cells := 0, slots := 0, locals := 0 } : Room).cells ({ frames := 0, cells := 0, slots := 0, locals := 0 } : Room).slots) := ⟨_, rfl⟩
  show own_Go p.tables e below (fun o tE => ∃ v L, o = .returned v ∧ Q_canEnc Z p1 h0 v tE.heap L ∧ FrameEnd s o tE L ({ frames := 0, cells := 0, slots := 0, locals := 0 } : Room).cells ({ frames := 0, cells := 0, slots := 0, locals := 0 } : Room).slots) (s₁.setTop (entryFrame m #[(.int p1)] 1))
  rw [← hPP]
  refine own_Go.st (fun t k => castTop (ef_235 m p1) k) ?_
  show own_Go _ _ _ _ (s₁.setTop (mkF m 0 #[.val (.int p1)] []))
  refine own_Go.st (fun _ k => XS.iloadN X0.here hx rfl (hb hby d_jdk_43_method_3_0) rfl k) ?_
  show own_Go _ _ _ _ (s₁.setTop (mkF m 1 #[.val (.int p1)] [(.int p1)]))
  refine own_Go.st (fun _ k => XS.sipush X0.here hx rfl (hb hby d_jdk_43_method_3_1) k) ?_
  show own_Go _ _ _ _ (s₁.setTop (mkF m 4 #[.val (.int p1)] [(.int (255 : Int32)), (.int p1)]))
  have hc274 : ¬ ((255 : Int32) < p1) := h
  refine own_Go.st (fun _ k => XS.icmpNo X0.here hx rfl (hb hby d_jdk_43_method_3_4) rfl (flt hc274).2.2.1 k) ?_
  show own_Go _ _ _ _ (s₁.setTop (mkF m 7 #[.val (.int p1)] []))
  refine own_Go.st (fun _ k => XS.iconst X0.here hx rfl (hb hby d_jdk_43_method_3_7) k) ?_
  show own_Go _ _ _ _ (s₁.setTop (mkF m 8 #[.val (.int p1)] [(.int (1 : Int32))]))
  refine own_Go.st (fun _ k => XS.goto X0.here hx rfl (pc0 := 8) (pc' := 12) rfl (hb hby d_jdk_43_method_3_8) (by decide) (by decide) k) ?_
  show own_Go _ _ _ _ (s₁.setTop (mkF m 12 #[.val (.int p1)] [(.int (1 : Int32))]))
  obtain ⟨fs275, hr275, hrun275, hend275, hW275, hsm275⟩ := X0.leave (v := some (.int (nar .boolean (1 : Int32)))) (fun h => by rw [Bd.returns] at h; cases h)
  subst hPP
  refine ⟨_, _, retN X0 hx (t := .boolean) Bd.returns (by simp) (hb hby d_jdk_43_method_3_12) hr275, hrun275, hend275, _, _, rfl, ?_, ⟨_, rfl⟩, hW275, hsm275.mono (by decide) (by decide)⟩
  · show Q_canEnc Z _ h0 _ s₁.heap _
    rw [e0]
    exact ⟨rfl, N0, rfl⟩
theorem d_jdk_43_method_46_0 : decode jdk_43_method_46_code 0 = .ok (.iconst 1, 1) := by decide +kernel
theorem d_jdk_43_method_46_1 : decode jdk_43_method_46_code 1 = .ok (.newarray .byte, 2) := by decide +kernel
theorem d_jdk_43_method_46_3 : decode jdk_43_method_46_code 3 = .ok (.dup, 1) := by decide +kernel
theorem d_jdk_43_method_46_4 : decode jdk_43_method_46_code 4 = .ok (.iconst 0, 1) := by decide +kernel
theorem d_jdk_43_method_46_5 : decode jdk_43_method_46_code 5 = .ok (.iload_n 0, 1) := by decide +kernel
theorem d_jdk_43_method_46_6 : decode jdk_43_method_46_code 6 = .ok (.i2b, 1) := by decide +kernel
theorem d_jdk_43_method_46_7 : decode jdk_43_method_46_code 7 = .ok (.bastore, 1) := by decide +kernel
theorem d_jdk_43_method_46_8 : decode jdk_43_method_46_code 8 = .ok (.areturn, 1) := by decide +kernel
def Q_toBytes1 (Z : State) (p1 : Int32) (h0 : Heap) (v : Option Value) (h : Heap) (L : List Loc) : Prop := ∃ (x : Nat), ∃ (k : ClassId), v = some (.ref x) ∧ Fr Z.heap.size L ∧ Keep h0 h [] ∧ Arv Z h x k .byte (Int32.ofNat ([p1] : List Int32).length) (own_low [p1]) (.int (0 : Int32)) ∧ (h0.size ≤ x)
set_option maxRecDepth 65536 in
set_option maxHeartbeats 40000000 in
theorem rm_toBytes1 (l : Launch) (Z : State) (a0 : Array Value) (hw : ∀ d ∈ tables_1, d.before a0 Z = true) (ws : List Jvm.Cond) (p1 : Int32) (h0 : Heap) (OL : Old Z Z.heap.size h0) :
    MetFree l (⟨"java/lang/StringLatin1", "toBytes", "(C)[B"⟩ : MethodName) (head1 (Jvm.Cond.code (⟨"java/lang/StringLatin1", "toBytes", "(C)[B"⟩ : MethodName) jdk_43_method_46_code 1 (some (.array .byte)) :: ws) ({ frames := 0, cells := 1, slots := 1, locals := 0 } : Room)) (fun a U => a = #[(.int p1)] ∧ Z.Warmed39 U.vm ∧ U.heap = h0) (fun _ _ _ _ _ => True) (fun _ U o U' => ∃ v L, o = .returned v ∧ Q_toBytes1 Z p1 h0 v U'.heap L ∧ FrameEnd U o U' L ({ frames := 0, cells := 1, slots := 1, locals := 0 } : Room).cells ({ frames := 0, cells := 1, slots := 1, locals := 0 } : Room).slots) := by
  refine MetFree.of_bodySF (plainFor_of_name pn_234) hisR ?_
  intro p e s m args below meth c s₁ Bd hml0 hP hK
  obtain ⟨rfl, hZ, hh⟩ := hP
  have hx := Bd.exec
  have hby := Bd.bytes
  have hml : c.maxLocals = 1 := hml0
  have hown : s.vm.findClass "java/lang/StringLatin1" = some m.cls := findClass_of_methodNamed Bd.named
  have hnm := (name_of_methodNamed Bd.named Bd.method).1
  have X0 : Stand p l e ({ frames := 0, cells := 1, slots := 1, locals := 0 } : Room) s m #[(.int p1)] below meth c s₁ [] 0 0 := Stand.of_body Bd
  have e0 : s₁.heap = h0 := by rw [← hh, Bd.state]; rfl
  have N0 := Fr.nil Z.heap.size
  have Z0 : Z.heap.size ≤ h0.size := OL.2.1
  obtain ⟨PP, hPP⟩ : ∃ PP : Outcome → State → Prop, PP = (fun o tE => ∃ v L, o = .returned v ∧ Q_toBytes1 Z p1 h0 v tE.heap L ∧ FrameEnd s o tE L ({ frames := 0, cells := 1, slots := 1, locals := 0 } : Room).cells ({ frames := 0, cells := 1, slots := 1, locals := 0 } : Room).slots) := ⟨_, rfl⟩
  show own_Go p.tables e below (fun o tE => ∃ v L, o = .returned v ∧ Q_toBytes1 Z p1 h0 v tE.heap L ∧ FrameEnd s o tE L ({ frames := 0, cells := 1, slots := 1, locals := 0 } : Room).cells ({ frames := 0, cells := 1, slots := 1, locals := 0 } : Room).slots) (s₁.setTop (entryFrame m #[(.int p1)] 1))
  rw [← hPP]
  refine own_Go.st (fun t k => castTop (ef_235 m p1) k) ?_
  show own_Go _ _ _ _ (s₁.setTop (mkF m 0 #[.val (.int p1)] []))
  refine own_Go.st (fun _ k => XS.iconst X0.here hx rfl (hb hby d_jdk_43_method_46_0) k) ?_
  show own_Go _ _ _ _ (s₁.setTop (mkF m 1 #[.val (.int p1)] [(.int (1 : Int32))]))
  obtain ⟨T276, h276, k276, X276, e276, E276, A276, st276⟩ := newP X0 hx hZ (hw _ (List.mem_of_getElem? (i := 7) rfl)) e0 (g := (mkF m 1 #[.val (.int p1)] [(.int (1 : Int32))])) rfl (hb hby d_jdk_43_method_46_1) rfl (by decide) (cap := 1) (by decide) (by decide) (by decide) (by decide)
  obtain ⟨b276, g276⟩ : ∃ z, z = h0.size := ⟨_, rfl⟩
  rw [← g276] at A276 st276
  refine own_Go.st st276 ?_
  have z276 : h0.size ≤ h276.size := E276.1
  have f277 : Arv Z h276 b276 k276 .byte (1 : Int32) [(.int (0 : Int32))] (.int (0 : Int32)) := (Arv.new A276 (by decide)).pad (pad_rep [] (.int (0 : Int32)) 1)
  have lt_b276 : @LT.lt Nat _ b276 h276.size := f277.lt
  show own_Go _ _ _ _ (T276.setTop (mkF m 3 #[.val (.int p1)] [(.ref b276)]))
  refine own_Go.st (fun _ k => XS.dup X276.here hx rfl (hb hby d_jdk_43_method_46_3) rfl rfl k) ?_
  show own_Go _ _ _ _ (T276.setTop (mkF m 4 #[.val (.int p1)] [(.ref b276), (.ref b276)]))
  refine own_Go.st (fun _ k => XS.iconst X276.here hx rfl (hb hby d_jdk_43_method_46_4) k) ?_
  show own_Go _ _ _ _ (T276.setTop (mkF m 5 #[.val (.int p1)] [(.int (0 : Int32)), (.ref b276), (.ref b276)]))
  refine own_Go.st (fun _ k => XS.iloadN X276.here hx rfl (hb hby d_jdk_43_method_46_5) rfl k) ?_
  show own_Go _ _ _ _ (T276.setTop (mkF m 6 #[.val (.int p1)] [(.int p1), (.int (0 : Int32)), (.ref b276), (.ref b276)]))
  refine own_Go.st (fun _ k => XS.i2b X276.here hx rfl (hb hby d_jdk_43_method_46_6) rfl k) ?_
  show own_Go _ _ _ _ (T276.setTop (mkF m 7 #[.val (.int p1)] [(.int (p1.toInt8.toInt32)), (.int (0 : Int32)), (.ref b276), (.ref b276)]))
  obtain ⟨c278, Ar278, q278, S278, Nn278, H278, G278⟩ := id f277
  have hin278 : ¬ ((0 : Int32) < 0 ∨ c278.slots.size ≤ ((0 : Int32)).toNatClampNeg) := inb_of S278 ⟨by decide, by decide⟩
  obtain ⟨T278, h278, X278, e278, W278, st278⟩ := stB X276 hx hZ e276 Ar278 (j := (0 : Int32)) hin278 (g := (mkF m 7 #[.val (.int p1)] [(.int (p1.toInt8.toInt32)), (.int (0 : Int32)), (.ref b276), (.ref b276)])) rfl rfl (hb hby d_jdk_43_method_46_7)
  refine own_Go.st st278 ?_
  have N278 := Fr.snoc X278 N0 (by omega)
  have z278 : h276.size ≤ h278.size := Nat.le_of_eq W278.size.symm
  have f279 := Arv.set Ar278 q278 S278 Nn278 H278 G278 (fits_nar_byte _) W278 0 rfl (Nat.le_of_ble_eq_true rfl)
  have f280 : Arv Z h278 b276 k276 .byte (1 : Int32) [(.int (nar .byte (p1.toInt8.toInt32)))] (.int (0 : Int32)) := f279
  show own_Go _ _ _ _ (T278.setTop (mkF m 8 #[.val (.int p1)] [(.ref b276)]))
  obtain ⟨fs281, hr281, hrun281, hend281, hW281, hsm281⟩ := X278.leave (v := some (.ref b276)) (fun h => by rw [Bd.returns] at h; cases h)
  have f282 : Arv Z h278 b276 k276 .byte (Int32.ofNat ([p1] : List Int32).length) (own_low [p1]) (.int (0 : Int32)) := by
    have q := f280
    rw [own_narB] at q
    exact q
  have K283 : Keep h0 h276 [] := (Keep.refl h0 []).ext E276
  have K284 : Keep h0 h278 [] := K283.wr W278 (Or.inr (by omega))
  subst hPP
  refine ⟨_, _, own_retA X278 hx Bd.returns rfl rfl (hb hby d_jdk_43_method_46_8) hr281, hrun281, hend281, _, _, rfl, ?_, ⟨_, rfl⟩, hW281, hsm281.mono (by decide) (by decide)⟩
  · show Q_toBytes1 Z _ h0 _ T278.heap _
    rw [e278]
    exact ⟨b276, k276, rfl, N278, K284, f282, (by omega)⟩
theorem d_jdk_42_method_139_0 : decode jdk_42_method_139_code 0 = .ok (.getstatic 38, 3) := by decide +kernel
theorem d_jdk_42_method_139_3 : decode jdk_42_method_139_code 3 = .ok (.ifCond .eq 23, 3) := by decide +kernel
theorem d_jdk_42_method_139_6 : decode jdk_42_method_139_code 6 = .ok (.iload_n 0, 1) := by decide +kernel
theorem pd_253 : parseMethodDescriptor "(C)Z" = some ⟨[.char], some .boolean⟩ := by decide +kernel
theorem d_jdk_42_method_139_7 : decode jdk_42_method_139_code 7 = .ok (.invokestatic 1015, 3) := by decide +kernel
theorem d_jdk_42_method_139_10 : decode jdk_42_method_139_code 10 = .ok (.ifCond .eq 16, 3) := by decide +kernel
theorem d_jdk_42_method_139_13 : decode jdk_42_method_139_code 13 = .ok (.new 10, 3) := by decide +kernel
theorem d_jdk_42_method_139_16 : decode jdk_42_method_139_code 16 = .ok (.dup, 1) := by decide +kernel
theorem d_jdk_42_method_139_17 : decode jdk_42_method_139_code 17 = .ok (.iload_n 0, 1) := by decide +kernel
theorem pd_259 : parseMethodDescriptor "(C)[B" = some ⟨[.char], some (.array .byte)⟩ := by decide +kernel
theorem d_jdk_42_method_139_18 : decode jdk_42_method_139_code 18 = .ok (.invokestatic 1018, 3) := by decide +kernel
theorem d_jdk_42_method_139_21 : decode jdk_42_method_139_code 21 = .ok (.iconst 0, 1) := by decide +kernel
theorem pd_262 : parseMethodDescriptor "([BB)V" = some ⟨[(.array .byte), .byte], none⟩ := by decide +kernel
theorem d_jdk_42_method_139_22 : decode jdk_42_method_139_code 22 = .ok (.invokespecial 209, 3) := by decide +kernel
theorem d_jdk_42_method_139_25 : decode jdk_42_method_139_code 25 = .ok (.areturn, 1) := by decide +kernel
def Q_valueOfC (Z : State) (p1 : Int32) (zc : Int32) (h0 : Heap) (v : Option Value) (h : Heap) (L : List Loc) : Prop := ∃ (x : Nat), ∃ (t : Nat), v = some (.ref x) ∧ Fr Z.heap.size L ∧ Keep h0 h [] ∧ own_Str Z h x t [p1] ∧ (h0.size ≤ x) ∧ (h0.size ≤ t)
set_option maxRecDepth 65536 in
set_option maxHeartbeats 40000000 in
theorem rm_valueOfC (l : Launch) (Z : State) (a0 : Array Value) (hw : ∀ d ∈ tables_1, d.before a0 Z = true) (ws : List Jvm.Cond) (p1 : Int32) (zc : Int32) (h0 : Heap) (OL : Old Z Z.heap.size h0) (st_COMPACT_STRINGS : Sta Z Z.heap "java/lang/String" "COMPACT_STRINGS" "Z" (.int zc)) (hzc : ¬ zc = 0) (h : ¬ p1 < 0 ∧ ¬ (255 : Int32) < p1) :
    MetFree l (⟨"java/lang/String", "valueOf", "(C)Ljava/lang/String;"⟩ : MethodName) (head1 (Jvm.Cond.code (⟨"java/lang/String", "valueOf", "(C)Ljava/lang/String;"⟩ : MethodName) jdk_42_method_139_code 1 (some (.object "java/lang/String")) :: ws) ({ frames := 2, cells := 2, slots := 5, locals := 30 } : Room)) (fun a U => a = #[(.int p1)] ∧ Z.Warmed39 U.vm ∧ U.heap = h0) (fun _ _ _ _ _ => True) (fun _ U o U' => ∃ v L, o = .returned v ∧ Q_valueOfC Z p1 zc h0 v U'.heap L ∧ FrameEnd U o U' L ({ frames := 2, cells := 2, slots := 5, locals := 30 } : Room).cells ({ frames := 2, cells := 2, slots := 5, locals := 30 } : Room).slots) := by
  refine MetFree.of_bodySF (plainFor_of_name pn_22) hisR ?_
  intro p e s m args below meth c s₁ Bd hml0 hP hK
  obtain ⟨rfl, hZ, hh⟩ := hP
  have hx := Bd.exec
  have hby := Bd.bytes
  have hml : c.maxLocals = 1 := hml0
  have hown : s.vm.findClass "java/lang/String" = some m.cls := findClass_of_methodNamed Bd.named
  have hnm := (name_of_methodNamed Bd.named Bd.method).1
  have X0 : Stand p l e ({ frames := 2, cells := 2, slots := 5, locals := 30 } : Room) s m #[(.int p1)] below meth c s₁ [] 0 0 := Stand.of_body Bd
  have e0 : s₁.heap = h0 := by rw [← hh, Bd.state]; rfl
  have N0 := Fr.nil Z.heap.size
  have Z0 : Z.heap.size ≤ h0.size := OL.2.1
  obtain ⟨PP, hPP⟩ : ∃ PP : Outcome → State → Prop, PP = (fun o tE => ∃ v L, o = .returned v ∧ Q_valueOfC Z p1 zc h0 v tE.heap L ∧ FrameEnd s o tE L ({ frames := 2, cells := 2, slots := 5, locals := 30 } : Room).cells ({ frames := 2, cells := 2, slots := 5, locals := 30 } : Room).slots) := ⟨_, rfl⟩
  show own_Go p.tables e below (fun o tE => ∃ v L, o = .returned v ∧ Q_valueOfC Z p1 zc h0 v tE.heap L ∧ FrameEnd s o tE L ({ frames := 2, cells := 2, slots := 5, locals := 30 } : Room).cells ({ frames := 2, cells := 2, slots := 5, locals := 30 } : Room).slots) (s₁.setTop (entryFrame m #[(.int p1)] 1))
  rw [← hPP]
  refine own_Go.st (fun t k => castTop (ef_235 m p1) k) ?_
  show own_Go _ _ _ _ (s₁.setTop (mkF m 0 #[.val (.int p1)] []))
  obtain ⟨T285, X285, e285, st285⟩ := getS2 X0 hx hZ hown (host := "") (Or.inl (hw _ (List.mem_of_getElem? (i := 58) rfl))) Via.refl e0 (st_COMPACT_STRINGS.ext OL.2) (g := (mkF m 0 #[.val (.int p1)] [])) rfl (hb hby d_jdk_42_method_139_0)
  refine own_Go.st st285 ?_
  show own_Go _ _ _ _ (T285.setTop (mkF m 3 #[.val (.int p1)] [(.int zc)]))
  have hc286 : ¬ (zc = (0 : Int32)) := hzc
  refine own_Go.st (fun _ k => XS.ifNo X285.here hx rfl (hb hby d_jdk_42_method_139_3) rfl ((if0 _ _).trans (feq hc286).1) k) ?_
  show own_Go _ _ _ _ (T285.setTop (mkF m 6 #[.val (.int p1)] []))
  refine own_Go.st (fun _ k => XS.iloadN X285.here hx rfl (hb hby d_jdk_42_method_139_6) rfl k) ?_
  show own_Go _ _ _ _ (T285.setTop (mkF m 7 #[.val (.int p1)] [(.int p1)]))
  obtain ⟨_, _, ⟨T287, L287, k287, n287⟩, -, X287, ⟨Lc287, hQ287, l287, y287, z287⟩, st287⟩ := Jvm.LawKit.callS X285 hx (y := (⟨"java/lang/StringLatin1", "canEncode", "(C)Z"⟩ : MethodName)) hown (mvT hZ (hw _ (List.mem_of_getElem? (i := 170) rfl))) (mvT hZ (hw _ (List.mem_of_getElem? (i := 171) rfl))) (mvT hZ (hw _ (List.mem_of_getElem? (i := 157) rfl))) (mvT hZ (hw _ (List.mem_of_getElem? (i := 172) rfl))) (by decide) (backOf (W := 0) (rm_canEnc l Z a0 hw [] p1 h0 OL h.2) hZ (hw _ (List.mem_of_getElem? (i := 172) rfl)) (hw _ (List.mem_of_getElem? (i := 157) rfl)) (by decide) (by decide)) (g := (mkF m 7 #[.val (.int p1)] [(.int p1)])) rfl (by rw [hml]; rfl) (argsL := [(.int p1)]) (rest := []) (lenOf pd_253 rfl) rfl (by show 2 * 0 + _ ≤ _; exact Nat.le_of_eq rfl) (hb hby d_jdk_42_method_139_7) (fun _ _ => ⟨rfl, e285, (by decide : 0 + 0 ≤ _), (by decide : 0 + 0 ≤ _)⟩)
  dsimp only [Pt.U, Pt.locs, Pt.cells, Pt.slots] at X287 l287 y287 z287 st287 hQ287
  subst l287 y287 z287
  obtain ⟨rfl, N287q, K287⟩ := hQ287
  have N287 := Fr.app N0 N287q
  refine own_Go.st st287 ?_
  show own_Go _ _ _ _ (T287.setTop (mkF m 10 #[.val (.int p1)] [(.int (1 : Int32))]))
  have hc288 : ¬ ((1 : Int32) = (0 : Int32)) := by decide
  refine own_Go.st (fun _ k => XS.ifNo X287.here hx rfl (hb hby d_jdk_42_method_139_10) rfl ((if0 _ _).trans (feq hc288).1) k) ?_
  show own_Go _ _ _ _ (T287.setTop (mkF m 13 #[.val (.int p1)] []))
  obtain ⟨T289, h289, X289, e289, E289, A289, D289, U289, st289⟩ := newO X287 hx hZ hown (hw _ (List.mem_of_getElem? (i := 173) rfl)) (hw _ (List.mem_of_getElem? (i := 6) rfl)) (hw _ (List.mem_of_getElem? (i := 5) rfl)) K287 (g := (mkF m 13 #[.val (.int p1)] [])) rfl (hb hby d_jdk_42_method_139_13) (by decide) (by decide)
  obtain ⟨b289, g289⟩ : ∃ z, z = h0.size := ⟨_, rfl⟩
  rw [← g289] at A289 D289 U289 st289
  refine own_Go.st st289 ?_
  have z289 : h0.size ≤ h289.size := E289.1
  have lt_b289 : @LT.lt Nat _ b289 h289.size := A289.lt
  have f290 : Fld Z h289 b289 "java/lang/String" "value" "[B" .null := D289 (Or.inr (hw _ (List.mem_of_getElem? (i := 8) rfl))) (ty := (.array .byte)) (by decide)
  have f291 : Fld Z h289 b289 "java/lang/String" "coder" "B" (.int (0 : Int32)) := D289 (Or.inr (hw _ (List.mem_of_getElem? (i := 9) rfl))) (ty := .byte) (by decide)
  show own_Go _ _ _ _ (T289.setTop (mkF m 16 #[.val (.int p1)] [(.ref b289)]))
  refine own_Go.st (fun _ k => XS.dup X289.here hx rfl (hb hby d_jdk_42_method_139_16) rfl rfl k) ?_
  show own_Go _ _ _ _ (T289.setTop (mkF m 17 #[.val (.int p1)] [(.ref b289), (.ref b289)]))
  refine own_Go.st (fun _ k => XS.iloadN X289.here hx rfl (hb hby d_jdk_42_method_139_17) rfl k) ?_
  show own_Go _ _ _ _ (T289.setTop (mkF m 18 #[.val (.int p1)] [(.int p1), (.ref b289), (.ref b289)]))
  have f293 : Old Z Z.heap.size h289 := OL.ext E289
  obtain ⟨_, _, ⟨T292, L292, k292, n292⟩, -, X292, ⟨Lc292, hQ292, l292, y292, z292⟩, st292⟩ := Jvm.LawKit.callS X289 hx (y := (⟨"java/lang/StringLatin1", "toBytes", "(C)[B"⟩ : MethodName)) hown (mvT hZ (hw _ (List.mem_of_getElem? (i := 174) rfl))) (mvT hZ (hw _ (List.mem_of_getElem? (i := 175) rfl))) (mvT hZ (hw _ (List.mem_of_getElem? (i := 157) rfl))) (mvT hZ (hw _ (List.mem_of_getElem? (i := 176) rfl))) (by decide) (backOf (W := 2) (rm_toBytes1 l Z a0 hw [] p1 h289 f293 ) hZ (hw _ (List.mem_of_getElem? (i := 176) rfl)) (hw _ (List.mem_of_getElem? (i := 157) rfl)) (by decide) (by decide)) (g := (mkF m 18 #[.val (.int p1)] [(.int p1), (.ref b289), (.ref b289)])) rfl (by rw [hml]; rfl) (argsL := [(.int p1)]) (rest := [(.ref b289), (.ref b289)]) (lenOf pd_259 rfl) rfl (by show 2 * 0 + _ ≤ _; exact Nat.le_of_eq rfl) (hb hby d_jdk_42_method_139_18) (fun _ _ => ⟨rfl, e289, (by decide : 1 + 1 ≤ _), (by decide : 4 + 1 ≤ _)⟩)
  dsimp only [Pt.U, Pt.locs, Pt.cells, Pt.slots] at X292 l292 y292 z292 st292 hQ292
  subst l292 y292 z292
  obtain ⟨x_292, k_292, rfl, N292q, K292, f292_0, pr292_0⟩ := hQ292
  have N292 := Fr.app N287 N292q
  have z292 : h289.size ≤ T292.heap.size := K292.1
  have lt292_0 : @LT.lt Nat _ x_292 T292.heap.size := f292_0.lt
  refine own_Go.st st292 ?_
  show own_Go _ _ _ _ (T292.setTop (mkF m 21 #[.val (.int p1)] [(.ref x_292), (.ref b289), (.ref b289)]))
  refine own_Go.st (fun _ k => XS.iconst X292.here hx rfl (hb hby d_jdk_42_method_139_21) k) ?_
  show own_Go _ _ _ _ (T292.setTop (mkF m 22 #[.val (.int p1)] [(.int (0 : Int32)), (.ref x_292), (.ref b289), (.ref b289)]))
  have f295 : Exa Z T292.heap b289 "java/lang/String" := A289.keep K292
  have f296 : Fld Z T292.heap b289 "java/lang/String" "value" "[B" .null := f290.keep K292 nin0
  have f297 : Fld Z T292.heap b289 "java/lang/String" "coder" "B" (.int (0 : Int32)) := f291.keep K292 nin0
  have f298 : Old Z Z.heap.size T292.heap := f293.keep K292 all0
  obtain ⟨_, _, ⟨T294, L294, k294, n294⟩, -, X294, ⟨Lc294, hQ294, l294, y294, z294⟩, st294⟩ := X292.specialBack hx (y := (⟨"java/lang/String", "<init>", "([BB)V"⟩ : MethodName)) rfl hown (mvT hZ (hw _ (List.mem_of_getElem? (i := 177) rfl))) (mvT hZ (hw _ (List.mem_of_getElem? (i := 178) rfl))) (mvT hZ (hw _ (List.mem_of_getElem? (i := 179) rfl))) (by decide) (backOf (W := 1) (rm_sinitBB l Z a0 hw [] b289 x_292 T292.heap f298 f295 f296 f297 (by omega)) hZ (hw _ (List.mem_of_getElem? (i := 179) rfl)) (hw _ (List.mem_of_getElem? (i := 5) rfl)) (by decide) (by decide)) (g := (mkF m 22 #[.val (.int p1)] [(.int (0 : Int32)), (.ref x_292), (.ref b289), (.ref b289)])) rfl (by rw [hml]; rfl) (Steps.refl _) (a := b289) (argsL := [(.ref x_292), (.int (0 : Int32))]) (rest := [(.ref b289)]) (lenOf pd_262 rfl) rfl (by show 2 * 0 + _ ≤ _; exact Nat.le_of_eq rfl) (hb hby d_jdk_42_method_139_22) (fun _ _ => ⟨rfl, rfl, (by decide : 2 + 0 ≤ _), (by decide : 5 + 0 ≤ _)⟩)
  dsimp only [Pt.U, Pt.locs, Pt.cells, Pt.slots] at X294 l294 y294 z294 st294 hQ294
  subst l294 y294 z294
  obtain ⟨rfl, N294q, K294, f294_0, f294_1, f294_2⟩ := hQ294
  have N294 := Fr.app N292 N294q
  have z294 : T292.heap.size ≤ T294.heap.size := K294.1
  have lt294_0 : @LT.lt Nat _ b289 T294.heap.size := f294_0.lt
  have lt294_1 : @LT.lt Nat _ b289 T294.heap.size := f294_1.lt
  have lt294_2 : @LT.lt Nat _ b289 T294.heap.size := f294_2.lt
  refine own_Go.tr st294 ?_
  show own_Go _ _ _ _ (T294.setTop (mkF m 25 #[.val (.int p1)] [(.ref b289)]))
  obtain ⟨fs299, hr299, hrun299, hend299, hW299, hsm299⟩ := X294.leave (v := some (.ref b289)) (fun h => by rw [Bd.returns] at h; cases h)
  have ne300 : @Ne Nat b289 x_292 := Exa.neArv f295 f292_0 (hw _ (List.mem_of_getElem? (i := 6) rfl))
  have f301 : Arv Z T294.heap x_292 k_292 .byte (Int32.ofNat ([p1] : List Int32).length) (own_low [p1]) (.int (0 : Int32)) := f292_0.keep K294 (ninS (Ne.symm ne300) nin0)
  have K302 : Keep h0 h289 [] := (Keep.refl h0 []).ext E289
  have K303 : Keep h0 T292.heap [] := K302.trans K292 all0
  have K304 : Keep h0 T294.heap [] := K303.trans K294 (allS (Or.inr (by omega)) all0)
  subst hPP
  refine ⟨_, _, own_retA X294 hx Bd.returns rfl rfl (hb hby d_jdk_42_method_139_25) hr299, hrun299, hend299, _, _, rfl, ?_, ⟨_, rfl⟩, hW299, hsm299.mono (by decide) (by decide)⟩
  · show Q_valueOfC Z _ _ h0 _ T294.heap _
    exact ⟨b289, x_292, rfl, N294, K304, (own_Str.mkL f294_0 f294_1 f294_2 f301 (own_aS h own_a0) (Nat.le_of_ble_eq_true rfl)), (by omega), (by omega)⟩
theorem pn_265 : plainName "com/example/net30/net30/metrics/FamilyWithLabelPinLaw" = true := by first | (simp [plainName, overriddenIn]; done) | decide +kernel
theorem ef_266 (m : MethodId) (x0 : Int32) (x1 : Int32) (x2 : Int32) : entryFrame m #[(.int x0), (.int x1), (.int x2)] 3 = mkF m 0 #[.val (.int x0), .val (.int x1), .val (.int x2)] [] := by first | (simp [entryFrame, mkF, argsToLocals, Value.category]; done) | rfl
theorem d_method_4_0 : decode method_4_code 0 = .ok (.iload_n 2, 1) := by decide +kernel
theorem d_method_4_1 : decode method_4_code 1 = .ok (.ifCond .ne 6, 3) := by decide +kernel
theorem d_method_4_4 : decode method_4_code 4 = .ok (.ldc 33, 2) := by decide +kernel
theorem d_method_4_6 : decode method_4_code 6 = .ok (.areturn, 1) := by decide +kernel
theorem d_method_4_7 : decode method_4_code 7 = .ok (.iload_n 2, 1) := by decide +kernel
theorem d_method_4_8 : decode method_4_code 8 = .ok (.iconst 1, 1) := by decide +kernel
theorem d_method_4_9 : decode method_4_code 9 = .ok (.if_icmp .ne 8, 3) := by decide +kernel
theorem d_method_4_12 : decode method_4_code 12 = .ok (.iload_n 0, 1) := by decide +kernel
theorem pd_275 : parseMethodDescriptor "(C)Ljava/lang/String;" = some ⟨[.char], some (.object "java/lang/String")⟩ := by decide +kernel
theorem d_method_4_13 : decode method_4_code 13 = .ok (.invokestatic 35, 3) := by decide +kernel
theorem d_method_4_16 : decode method_4_code 16 = .ok (.areturn, 1) := by decide +kernel
theorem d_method_4_17 : decode method_4_code 17 = .ok (.new 20, 3) := by decide +kernel
theorem d_method_4_20 : decode method_4_code 20 = .ok (.dup, 1) := by decide +kernel
theorem d_method_4_21 : decode method_4_code 21 = .ok (.iconst 2, 1) := by decide +kernel
theorem d_method_4_22 : decode method_4_code 22 = .ok (.newarray .char, 2) := by decide +kernel
theorem d_method_4_24 : decode method_4_code 24 = .ok (.dup, 1) := by decide +kernel
theorem d_method_4_25 : decode method_4_code 25 = .ok (.iconst 0, 1) := by decide +kernel
theorem d_method_4_26 : decode method_4_code 26 = .ok (.iload_n 0, 1) := by decide +kernel
theorem d_method_4_27 : decode method_4_code 27 = .ok (.castore, 1) := by decide +kernel
theorem d_method_4_28 : decode method_4_code 28 = .ok (.dup, 1) := by decide +kernel
theorem d_method_4_29 : decode method_4_code 29 = .ok (.iconst 1, 1) := by decide +kernel
theorem d_method_4_30 : decode method_4_code 30 = .ok (.iload_n 1, 1) := by decide +kernel
theorem d_method_4_31 : decode method_4_code 31 = .ok (.castore, 1) := by decide +kernel
theorem pd_290 : parseMethodDescriptor "([C)V" = some ⟨[(.array .char)], none⟩ := by decide +kernel
theorem d_method_4_32 : decode method_4_code 32 = .ok (.invokespecial 39, 3) := by decide +kernel
theorem d_method_4_35 : decode method_4_code 35 = .ok (.areturn, 1) := by decide +kernel
def Q_str (Z : State) (p1 : Int32) (p2 : Int32) (p3 : Int32) (zc : Int32) (h0 : Heap) (v : Option Value) (h : Heap) (L : List Loc) : Prop := ∃ (x : Nat), ∃ (t : Nat), v = some (.ref x) ∧ Fr Z.heap.size L ∧ Keep h0 h [] ∧ own_Str Z h x t ([p1, p2].take p3.toNatClampNeg)
set_option maxRecDepth 65536 in
set_option maxHeartbeats 40000000 in
theorem rm_str (l : Launch) (Z : State) (a0 : Array Value) (hw : ∀ d ∈ tables_1, d.before a0 Z = true) (ws : List Jvm.Cond) (p1 : Int32) (p2 : Int32) (p3 : Int32) (zc : Int32) (h0 : Heap) (hEL : EW Z a0 consts_1) (OL : Old Z Z.heap.size h0) (st_COMPACT_STRINGS : Sta Z Z.heap "java/lang/String" "COMPACT_STRINGS" "Z" (.int zc)) (hzc : ¬ zc = 0) (h1 : ¬ p1 < 0 ∧ ¬ (255 : Int32) < p1) (h2 : ¬ p2 < 0 ∧ ¬ (255 : Int32) < p2) (h3 : p3 = 0 ∨ p3 = 1 ∨ p3 = 2) :
    MetFree l (⟨"com/example/net30/net30/metrics/FamilyWithLabelPinLaw", "str", "(CCI)Ljava/lang/String;"⟩ : MethodName) (head1 (Jvm.Cond.code (⟨"com/example/net30/net30/metrics/FamilyWithLabelPinLaw", "str", "(CCI)Ljava/lang/String;"⟩ : MethodName) method_4_code 3 (some (.object "java/lang/String")) :: ws) ({ frames := 5, cells := 4, slots := 30, locals := 80 } : Room)) (fun a U => a = #[(.int p1), (.int p2), (.int p3)] ∧ Z.Warmed39 U.vm ∧ U.heap = h0 ∧ CHv Z consts_1 U.vm h0) (fun _ _ _ _ _ => True) (fun _ U o U' => ∃ v L, o = .returned v ∧ Q_str Z p1 p2 p3 zc h0 v U'.heap L ∧ CHr Z consts_1 U.vm U.heap U'.vm U'.heap ∧ ReturnedEndW U o U' L ({ frames := 5, cells := 4, slots := 30, locals := 80 } : Room).cells ({ frames := 5, cells := 4, slots := 30, locals := 80 } : Room).slots) := by
  refine MetFree.of_bodySF (plainFor_of_name pn_265) hisR ?_
  intro p e s m args below meth c s₁ Bd hml0 hP hK
  obtain ⟨rfl, hZ, hh, hC0⟩ := hP
  have hx := Bd.exec
  have hby := Bd.bytes
  have hml : c.maxLocals = 3 := hml0
  have hown : s.vm.findClass "com/example/net30/net30/metrics/FamilyWithLabelPinLaw" = some m.cls := findClass_of_methodNamed Bd.named
  have hnm := (name_of_methodNamed Bd.named Bd.method).1
  have X0 : Stand p l e ({ frames := 5, cells := 4, slots := 30, locals := 80 } : Room) (s.setVm s.vm) m #[(.int p1), (.int p2), (.int p3)] below meth c s₁ [] 0 0 := Stand.of_body Bd
  have e0 : s₁.heap = h0 := by rw [← hh, Bd.state]; rfl
  have N0 := Fr.nil Z.heap.size
  have Z0 : Z.heap.size ≤ h0.size := OL.2.1
  have hS0 : s.Since s.vm h0.size := (State.WarmedH.refl s).since _
  have wS := own_wS hw
  have R0 : CHr Z consts_1 s.vm h0 s.vm h0 := CHr.refl hC0
  obtain ⟨PP, hPP⟩ : ∃ PP : Outcome → State → Prop, PP = (fun o tE => ∃ v L, o = .returned v ∧ Q_str Z p1 p2 p3 zc h0 v tE.heap L ∧ CHr Z consts_1 s.vm s.heap tE.vm tE.heap ∧ ReturnedEndW s o tE L ({ frames := 5, cells := 4, slots := 30, locals := 80 } : Room).cells ({ frames := 5, cells := 4, slots := 30, locals := 80 } : Room).slots) := ⟨_, rfl⟩
  show own_Go p.tables e below (fun o tE => ∃ v L, o = .returned v ∧ Q_str Z p1 p2 p3 zc h0 v tE.heap L ∧ CHr Z consts_1 s.vm s.heap tE.vm tE.heap ∧ ReturnedEndW s o tE L ({ frames := 5, cells := 4, slots := 30, locals := 80 } : Room).cells ({ frames := 5, cells := 4, slots := 30, locals := 80 } : Room).slots) (s₁.setTop (entryFrame m #[(.int p1), (.int p2), (.int p3)] 3))
  rw [← hPP]
  refine own_Go.st (fun t k => castTop (ef_266 m p1 p2 p3) k) ?_
  show own_Go _ _ _ _ (s₁.setTop (mkF m 0 #[.val (.int p1), .val (.int p2), .val (.int p3)] []))
  rcases h3 with rfl | rfl | rfl
  ·
    show own_Go _ _ _ _ (s₁.setTop (mkF m 0 #[.val (.int p1), .val (.int p2), .val (.int (0 : Int32))] []))
    refine own_Go.st (fun _ k => XS.iloadN X0.here hx rfl (hb hby d_method_4_0) rfl k) ?_
    show own_Go _ _ _ _ (s₁.setTop (mkF m 1 #[.val (.int p1), .val (.int p2), .val (.int (0 : Int32))] [(.int (0 : Int32))]))
    refine own_Go.st (fun _ k => XS.ifNo X0.here hx rfl (hb hby d_method_4_1) rfl ((if0 _ _).trans (teq (rfl : (0 : Int32) = (0 : Int32))).2) k) ?_
    show own_Go _ _ _ _ (s₁.setTop (mkF m 4 #[.val (.int p1), .val (.int p2), .val (.int (0 : Int32))] []))
    obtain ⟨a305, T305, h305, kk305, t305, kb305, X305, e305, E305, hS305, hk305, hZ305, hown305, A305, C305, V305, B305, la305, lb305, ch305, Li305, sf305, st305⟩ := ldcCH X0 hx hZ hown (hw _ (List.mem_of_getElem? (i := 4) rfl)) wS e0 hS0 (by omega) hEL (by decide) R0.1 (vs := []) (z := (0 : Int32)) (by decide) (by decide) (by decide) (g := (mkF m 4 #[.val (.int p1), .val (.int p2), .val (.int (0 : Int32))] [])) rfl (hb hby d_method_4_4) (n := 0) (by decide) (by decide) (by decide) (by decide)
    refine own_Go.st st305 ?_
    have z305 : h0.size ≤ h305.size := E305.1
    have la305' : @LT.lt Nat _ a305 h305.size := la305
    have lb305' : @LT.lt Nat _ t305 h305.size := lb305
    have R305 : CHr Z consts_1 s.vm h0 T305.vm h305 := R0.trans ch305
    have fT305 : own_Str Z h305 a305 t305 ([] : List Int32) := ⟨kb305, 0, (0 : Int32), [], A305, V305, C305, B305, Or.inl ⟨rfl, rfl, rfl, (by decide)⟩, (by decide), (by decide)⟩
    show own_Go _ _ _ _ (T305.setTop (mkF m 6 #[.val (.int p1), .val (.int p2), .val (.int (0 : Int32))] [(.ref a305)]))
    obtain ⟨fs306, hr306, hrun306, hend306, hret306⟩ := X305.leaveW hS305 (by rw [e305]; exact (by omega)) (v := some (.ref a305)) (fun h => by rw [Bd.returns] at h; cases h)
    have K307 : Keep h0 h305 [] := (Keep.refl h0 []).ext E305
    subst hPP
    refine ⟨_, _, own_retA X305 hx Bd.returns rfl rfl (hb hby d_method_4_6) hr306, hrun306, hend306, _, _, rfl, ?_, ?_, hret306.1, hret306.2.1, hret306.2.2.1, hret306.2.2.2.mono (by decide) (by decide)⟩
    · show Q_str Z _ _ _ _ h0 _ T305.heap _
      rw [e305]
      exact ⟨a305, t305, rfl, N0, K307, fT305⟩
    · have hfin := R305.trans (CHv.at X305 hZ305 hEL R305.1)
      rw [← hh] at hfin
      show CHr Z consts_1 s.vm s.heap T305.vm T305.heap
      rw [e305]
      exact hfin
  ·
    show own_Go _ _ _ _ (s₁.setTop (mkF m 0 #[.val (.int p1), .val (.int p2), .val (.int (1 : Int32))] []))
    refine own_Go.st (fun _ k => XS.iloadN X0.here hx rfl (hb hby d_method_4_0) rfl k) ?_
    show own_Go _ _ _ _ (s₁.setTop (mkF m 1 #[.val (.int p1), .val (.int p2), .val (.int (1 : Int32))] [(.int (1 : Int32))]))
    refine own_Go.st (fun _ k => XS.ifYes X0.here hx rfl (pc0 := 1) (pc' := 7) rfl (hb hby d_method_4_1) rfl ((if0 _ _).trans (feq (by decide : ¬ ((1 : Int32) = (0 : Int32)))).2) (by decide) (by decide) k) ?_
    show own_Go _ _ _ _ (s₁.setTop (mkF m 7 #[.val (.int p1), .val (.int p2), .val (.int (1 : Int32))] []))
    refine own_Go.st (fun _ k => XS.iloadN X0.here hx rfl (hb hby d_method_4_7) rfl k) ?_
    show own_Go _ _ _ _ (s₁.setTop (mkF m 8 #[.val (.int p1), .val (.int p2), .val (.int (1 : Int32))] [(.int (1 : Int32))]))
    refine own_Go.st (fun _ k => XS.iconst X0.here hx rfl (hb hby d_method_4_8) k) ?_
    show own_Go _ _ _ _ (s₁.setTop (mkF m 9 #[.val (.int p1), .val (.int p2), .val (.int (1 : Int32))] [(.int (1 : Int32)), (.int (1 : Int32))]))
    refine own_Go.st (fun _ k => XS.icmpNo X0.here hx rfl (hb hby d_method_4_9) rfl (teq (rfl : (1 : Int32) = (1 : Int32))).2 k) ?_
    show own_Go _ _ _ _ (s₁.setTop (mkF m 12 #[.val (.int p1), .val (.int p2), .val (.int (1 : Int32))] []))
    refine own_Go.st (fun _ k => XS.iloadN X0.here hx rfl (hb hby d_method_4_12) rfl k) ?_
    show own_Go _ _ _ _ (s₁.setTop (mkF m 13 #[.val (.int p1), .val (.int p2), .val (.int (1 : Int32))] [(.int p1)]))
    obtain ⟨_, _, ⟨T308, L308, k308, n308⟩, -, X308, ⟨Lc308, hQ308, l308, y308, z308⟩, st308⟩ := Jvm.LawKit.callS X0 hx (y := (⟨"java/lang/String", "valueOf", "(C)Ljava/lang/String;"⟩ : MethodName)) hown (mvT hZ (hw _ (List.mem_of_getElem? (i := 167) rfl))) (mvT hZ (hw _ (List.mem_of_getElem? (i := 168) rfl))) (mvT hZ (hw _ (List.mem_of_getElem? (i := 5) rfl))) (mvT hZ (hw _ (List.mem_of_getElem? (i := 169) rfl))) (by decide) (backOf (W := 0) (rm_valueOfC l Z a0 hw [] p1 zc h0 OL st_COMPACT_STRINGS (by first | assumption | decide) h1) hZ (hw _ (List.mem_of_getElem? (i := 169) rfl)) (hw _ (List.mem_of_getElem? (i := 5) rfl)) (by decide) (by decide)) (g := (mkF m 13 #[.val (.int p1), .val (.int p2), .val (.int (1 : Int32))] [(.int p1)])) rfl (by rw [hml]; rfl) (argsL := [(.int p1)]) (rest := []) (lenOf pd_275 rfl) rfl (by show 2 * 0 + _ ≤ _; exact Nat.le_of_eq rfl) (hb hby d_method_4_13) (fun _ _ => ⟨rfl, e0, (by decide : 0 + 2 ≤ _), (by decide : 0 + 5 ≤ _)⟩)
    dsimp only [Pt.U, Pt.locs, Pt.cells, Pt.slots] at X308 l308 y308 z308 st308 hQ308
    subst l308 y308 z308
    obtain ⟨x_308, t_308, rfl, N308q, K308, f308_0, pr308_0, pr308_1⟩ := hQ308
    have N308 := Fr.app N0 N308q
    have z308 : h0.size ≤ T308.heap.size := K308.1
    have R308 : CHr Z consts_1 s.vm h0 s.vm T308.heap := R0.trans (CHr.keep K308 sf0 R0.1)
    have lt308_0 : @LT.lt Nat _ x_308 T308.heap.size := f308_0.lt
    have ltv308_0 : @LT.lt Nat _ t_308 T308.heap.size := f308_0.ltv
    refine own_Go.st st308 ?_
    show own_Go _ _ _ _ (T308.setTop (mkF m 16 #[.val (.int p1), .val (.int p2), .val (.int (1 : Int32))] [(.ref x_308)]))
    obtain ⟨fs309, hr309, hrun309, hend309, hret309⟩ := X308.leaveW hS0 (by omega) (v := some (.ref x_308)) (fun h => by rw [Bd.returns] at h; cases h)
    have K310 : Keep h0 T308.heap [] := (Keep.refl h0 []).trans K308 all0
    subst hPP
    refine ⟨_, _, own_retA X308 hx Bd.returns rfl rfl (hb hby d_method_4_16) hr309, hrun309, hend309, _, _, rfl, ?_, ?_, hret309.1, hret309.2.1, hret309.2.2.1, hret309.2.2.2.mono (by decide) (by decide)⟩
    · show Q_str Z _ _ _ _ h0 _ T308.heap _
      exact ⟨x_308, t_308, rfl, N308, K310, f308_0⟩
    · have hfin := R308.trans (CHv.at X308 hZ hEL R308.1)
      rw [← hh] at hfin
      show CHr Z consts_1 s.vm s.heap T308.vm T308.heap
      exact hfin
  ·
    show own_Go _ _ _ _ (s₁.setTop (mkF m 0 #[.val (.int p1), .val (.int p2), .val (.int (2 : Int32))] []))
    refine own_Go.st (fun _ k => XS.iloadN X0.here hx rfl (hb hby d_method_4_0) rfl k) ?_
    show own_Go _ _ _ _ (s₁.setTop (mkF m 1 #[.val (.int p1), .val (.int p2), .val (.int (2 : Int32))] [(.int (2 : Int32))]))
    refine own_Go.st (fun _ k => XS.ifYes X0.here hx rfl (pc0 := 1) (pc' := 7) rfl (hb hby d_method_4_1) rfl ((if0 _ _).trans (feq (by decide : ¬ ((2 : Int32) = (0 : Int32)))).2) (by decide) (by decide) k) ?_
    show own_Go _ _ _ _ (s₁.setTop (mkF m 7 #[.val (.int p1), .val (.int p2), .val (.int (2 : Int32))] []))
    refine own_Go.st (fun _ k => XS.iloadN X0.here hx rfl (hb hby d_method_4_7) rfl k) ?_
    show own_Go _ _ _ _ (s₁.setTop (mkF m 8 #[.val (.int p1), .val (.int p2), .val (.int (2 : Int32))] [(.int (2 : Int32))]))
    refine own_Go.st (fun _ k => XS.iconst X0.here hx rfl (hb hby d_method_4_8) k) ?_
    show own_Go _ _ _ _ (s₁.setTop (mkF m 9 #[.val (.int p1), .val (.int p2), .val (.int (2 : Int32))] [(.int (1 : Int32)), (.int (2 : Int32))]))
    refine own_Go.st (fun _ k => XS.icmpYes X0.here hx rfl (pc0 := 9) (pc' := 17) rfl (hb hby d_method_4_9) rfl (feq (by decide : ¬ ((2 : Int32) = (1 : Int32)))).2 (by decide) (by decide) k) ?_
    show own_Go _ _ _ _ (s₁.setTop (mkF m 17 #[.val (.int p1), .val (.int p2), .val (.int (2 : Int32))] []))
    obtain ⟨T311, h311, X311, e311, E311, A311, D311, U311, st311⟩ := newO X0 hx hZ hown (hw _ (List.mem_of_getElem? (i := 181) rfl)) (hw _ (List.mem_of_getElem? (i := 6) rfl)) (hw _ (List.mem_of_getElem? (i := 5) rfl)) e0 (g := (mkF m 17 #[.val (.int p1), .val (.int p2), .val (.int (2 : Int32))] [])) rfl (hb hby d_method_4_17) (by decide) (by decide)
    obtain ⟨b311, g311⟩ : ∃ z, z = h0.size := ⟨_, rfl⟩
    rw [← g311] at A311 D311 U311 st311
    refine own_Go.st st311 ?_
    have z311 : h0.size ≤ h311.size := E311.1
    have lt_b311 : @LT.lt Nat _ b311 h311.size := A311.lt
    have f312 : Fld Z h311 b311 "java/lang/String" "value" "[B" .null := D311 (Or.inr (hw _ (List.mem_of_getElem? (i := 8) rfl))) (ty := (.array .byte)) (by decide)
    have f313 : Fld Z h311 b311 "java/lang/String" "coder" "B" (.int (0 : Int32)) := D311 (Or.inr (hw _ (List.mem_of_getElem? (i := 9) rfl))) (ty := .byte) (by decide)
    have R311 : CHr Z consts_1 s.vm h0 s.vm h311 := R0.trans (CHr.ext E311 R0.1)
    have Sf311 : Safe Z consts_1 s.vm h311 b311 := (Safe.new (Nat.le_of_eq g311.symm)).ext E311 R0.1
    show own_Go _ _ _ _ (T311.setTop (mkF m 20 #[.val (.int p1), .val (.int p2), .val (.int (2 : Int32))] [(.ref b311)]))
    refine own_Go.st (fun _ k => XS.dup X311.here hx rfl (hb hby d_method_4_20) rfl rfl k) ?_
    show own_Go _ _ _ _ (T311.setTop (mkF m 21 #[.val (.int p1), .val (.int p2), .val (.int (2 : Int32))] [(.ref b311), (.ref b311)]))
    refine own_Go.st (fun _ k => XS.iconst X311.here hx rfl (hb hby d_method_4_21) k) ?_
    show own_Go _ _ _ _ (T311.setTop (mkF m 22 #[.val (.int p1), .val (.int p2), .val (.int (2 : Int32))] [(.int (2 : Int32)), (.ref b311), (.ref b311)]))
    obtain ⟨T314, h314, k314, X314, e314, E314, A314, st314⟩ := newP X311 hx hZ (hw _ (List.mem_of_getElem? (i := 12) rfl)) e311 (g := (mkF m 22 #[.val (.int p1), .val (.int p2), .val (.int (2 : Int32))] [(.int (2 : Int32)), (.ref b311), (.ref b311)])) rfl (hb hby d_method_4_22) rfl (by decide) (cap := 2) (by decide) (by decide) (by decide) (by decide)
    obtain ⟨b314, g314⟩ : ∃ z, z = h311.size := ⟨_, rfl⟩
    rw [← g314] at A314 st314
    refine own_Go.st st314 ?_
    have z314 : h311.size ≤ h314.size := E314.1
    have f315 : Arv Z h314 b314 k314 .char (2 : Int32) [(.int (0 : Int32)), (.int (0 : Int32))] (.int (0 : Int32)) := (Arv.new A314 (by decide)).pad (pad_rep [] (.int (0 : Int32)) 2)
    have lt_b314 : @LT.lt Nat _ b314 h314.size := f315.lt
    have R314 : CHr Z consts_1 s.vm h0 s.vm h314 := R311.trans (CHr.ext E314 R311.1)
    have Sf316 : Safe Z consts_1 s.vm h314 b311 := Safe.ext E314 R311.1 Sf311
    show own_Go _ _ _ _ (T314.setTop (mkF m 24 #[.val (.int p1), .val (.int p2), .val (.int (2 : Int32))] [(.ref b314), (.ref b311), (.ref b311)]))
    refine own_Go.st (fun _ k => XS.dup X314.here hx rfl (hb hby d_method_4_24) rfl rfl k) ?_
    show own_Go _ _ _ _ (T314.setTop (mkF m 25 #[.val (.int p1), .val (.int p2), .val (.int (2 : Int32))] [(.ref b314), (.ref b314), (.ref b311), (.ref b311)]))
    refine own_Go.st (fun _ k => XS.iconst X314.here hx rfl (hb hby d_method_4_25) k) ?_
    show own_Go _ _ _ _ (T314.setTop (mkF m 26 #[.val (.int p1), .val (.int p2), .val (.int (2 : Int32))] [(.int (0 : Int32)), (.ref b314), (.ref b314), (.ref b311), (.ref b311)]))
    refine own_Go.st (fun _ k => XS.iloadN X314.here hx rfl (hb hby d_method_4_26) rfl k) ?_
    show own_Go _ _ _ _ (T314.setTop (mkF m 27 #[.val (.int p1), .val (.int p2), .val (.int (2 : Int32))] [(.int p1), (.int (0 : Int32)), (.ref b314), (.ref b314), (.ref b311), (.ref b311)]))
    obtain ⟨c317, Ar317, q317, S317, Nn317, H317, G317⟩ := id f315
    have hin317 : ¬ ((0 : Int32) < 0 ∨ c317.slots.size ≤ ((0 : Int32)).toNatClampNeg) := inb_of S317 ⟨by decide, by decide⟩
    obtain ⟨T317, h317, X317, e317, W317, st317⟩ := stC X314 hx hZ e314 Ar317 (j := (0 : Int32)) hin317 (g := (mkF m 27 #[.val (.int p1), .val (.int p2), .val (.int (2 : Int32))] [(.int p1), (.int (0 : Int32)), (.ref b314), (.ref b314), (.ref b311), (.ref b311)])) rfl rfl (hb hby d_method_4_27)
    refine own_Go.st st317 ?_
    have N317 := Fr.snoc X317 N0 (by omega)
    have Sf319 : Safe Z consts_1 s.vm h314 b314 := Safe.arv hZ.alike f315 (by decide)
    have z317 : h314.size ≤ h317.size := Nat.le_of_eq W317.size.symm
    have f318 := Arv.set Ar317 q317 S317 Nn317 H317 G317 (fits_nar_char _) W317 0 rfl (Nat.le_of_ble_eq_true rfl)
    rw [own_nar (own_up h1)] at f318
    have f320 : Arv Z h317 b314 k314 .char (2 : Int32) [(.int p1), (.int (0 : Int32))] (.int (0 : Int32)) := f318
    have R317 : CHr Z consts_1 s.vm h0 s.vm h317 := R314.trans (CHr.wr W317 Sf319 R314.1)
    have Sf321 : Safe Z consts_1 s.vm h317 b311 := Safe.wr W317 Sf319 R314.1 Sf316
    show own_Go _ _ _ _ (T317.setTop (mkF m 28 #[.val (.int p1), .val (.int p2), .val (.int (2 : Int32))] [(.ref b314), (.ref b311), (.ref b311)]))
    refine own_Go.st (fun _ k => XS.dup X317.here hx rfl (hb hby d_method_4_28) rfl rfl k) ?_
    show own_Go _ _ _ _ (T317.setTop (mkF m 29 #[.val (.int p1), .val (.int p2), .val (.int (2 : Int32))] [(.ref b314), (.ref b314), (.ref b311), (.ref b311)]))
    refine own_Go.st (fun _ k => XS.iconst X317.here hx rfl (hb hby d_method_4_29) k) ?_
    show own_Go _ _ _ _ (T317.setTop (mkF m 30 #[.val (.int p1), .val (.int p2), .val (.int (2 : Int32))] [(.int (1 : Int32)), (.ref b314), (.ref b314), (.ref b311), (.ref b311)]))
    refine own_Go.st (fun _ k => XS.iloadN X317.here hx rfl (hb hby d_method_4_30) rfl k) ?_
    show own_Go _ _ _ _ (T317.setTop (mkF m 31 #[.val (.int p1), .val (.int p2), .val (.int (2 : Int32))] [(.int p2), (.int (1 : Int32)), (.ref b314), (.ref b314), (.ref b311), (.ref b311)]))
    obtain ⟨c322, Ar322, q322, S322, Nn322, H322, G322⟩ := id f320
    have hin322 : ¬ ((1 : Int32) < 0 ∨ c322.slots.size ≤ ((1 : Int32)).toNatClampNeg) := inb_of S322 ⟨by decide, by decide⟩
    obtain ⟨T322, h322, X322, e322, W322, st322⟩ := stC X317 hx hZ e317 Ar322 (j := (1 : Int32)) hin322 (g := (mkF m 31 #[.val (.int p1), .val (.int p2), .val (.int (2 : Int32))] [(.int p2), (.int (1 : Int32)), (.ref b314), (.ref b314), (.ref b311), (.ref b311)])) rfl rfl (hb hby d_method_4_31)
    refine own_Go.st st322 ?_
    have N322 := Fr.snoc X322 N317 (by omega)
    have Sf324 : Safe Z consts_1 s.vm h317 b314 := Safe.arv hZ.alike f320 (by decide)
    have z322 : h317.size ≤ h322.size := Nat.le_of_eq W322.size.symm
    have f323 := Arv.set Ar322 q322 S322 Nn322 H322 G322 (fits_nar_char _) W322 1 rfl (Nat.le_of_ble_eq_true rfl)
    rw [own_nar (own_up h2)] at f323
    have f325 : Arv Z h322 b314 k314 .char (2 : Int32) [(.int p1), (.int p2)] (.int (0 : Int32)) := f323
    have R322 : CHr Z consts_1 s.vm h0 s.vm h322 := R317.trans (CHr.wr W322 Sf324 R317.1)
    have Sf326 : Safe Z consts_1 s.vm h322 b311 := Safe.wr W322 Sf324 R317.1 Sf321
    show own_Go _ _ _ _ (T322.setTop (mkF m 32 #[.val (.int p1), .val (.int p2), .val (.int (2 : Int32))] [(.ref b314), (.ref b311), (.ref b311)]))
    have f328 : Exa Z h314 b311 "java/lang/String" := A311.ext E314
    have f329 : Exa Z h317 b311 "java/lang/String" := f328.wr W317
    have f330 : Exa Z h322 b311 "java/lang/String" := f329.wr W322
    have f331 : Fld Z h314 b311 "java/lang/String" "value" "[B" .null := f312.ext E314
    have f332 : Fld Z h317 b311 "java/lang/String" "value" "[B" .null := f331.other W317 (Or.inl (by show @Ne Nat b311 b314; omega))
    have f333 : Fld Z h322 b311 "java/lang/String" "value" "[B" .null := f332.other W322 (Or.inl (by show @Ne Nat b311 b314; omega))
    have f334 : Fld Z h314 b311 "java/lang/String" "coder" "B" (.int (0 : Int32)) := f313.ext E314
    have f335 : Fld Z h317 b311 "java/lang/String" "coder" "B" (.int (0 : Int32)) := f334.other W317 (Or.inl (by show @Ne Nat b311 b314; omega))
    have f336 : Fld Z h322 b311 "java/lang/String" "coder" "B" (.int (0 : Int32)) := f335.other W322 (Or.inl (by show @Ne Nat b311 b314; omega))
    have f337 : Old Z Z.heap.size h311 := OL.ext E311
    have f338 : Old Z Z.heap.size h314 := f337.ext E314
    have f339 : Old Z Z.heap.size h317 := f338.wr W317 (by omega)
    have f340 : Old Z Z.heap.size h322 := f339.wr W322 (by omega)
    have hp327 : ∀ c ∈ ([p1, p2] : List Int32), ¬ c < 0 ∧ ¬ (255 : Int32) < c := (own_aS h1 (own_aS h2 own_a0))
    obtain ⟨_, _, ⟨T327, L327, k327, n327⟩, -, X327, ⟨Lc327, hQ327, l327, y327, z327⟩, st327⟩ := X322.specialBack hx (y := (⟨"java/lang/String", "<init>", "([C)V"⟩ : MethodName)) rfl hown (mvT hZ (hw _ (List.mem_of_getElem? (i := 182) rfl))) (mvT hZ (hw _ (List.mem_of_getElem? (i := 183) rfl))) (mvT hZ (hw _ (List.mem_of_getElem? (i := 184) rfl))) (by decide) (StrChars.Road.backV (W := 1) hZ (own_hws hw) (kI := 4) (hw _ (List.mem_of_getElem? (i := 6) rfl)) (cs := ([p1, p2] : List Int32)) (bs := (([p1, p2] : List Int32)).map (fun c => c.toInt8.toInt32)) (n := 2) (n0 := Z.heap.size) (by omega) (by omega) f330 f333 f336 f325 (st_COMPACT_STRINGS.ext f340.2) hzc rfl rfl (by decide) (by decide) hp327 rfl (by decide) (by decide)) (g := (mkF m 32 #[.val (.int p1), .val (.int p2), .val (.int (2 : Int32))] [(.ref b314), (.ref b311), (.ref b311)])) rfl (by rw [hml]; rfl) (Steps.refl _) (a := b311) (argsL := [(.ref b314)]) (rest := [(.ref b311)]) (lenOf pd_290 rfl) rfl (by show 2 * 0 + _ ≤ _; exact Nat.le_of_eq rfl) (hb hby d_method_4_32) (fun _ _ => ⟨rfl, e322, (by decide : 2 + 1 ≤ _), (by decide : 6 + 2 ≤ _)⟩)
    dsimp only [Pt.U, Pt.locs, Pt.cells, Pt.slots] at X327 l327 y327 z327 st327 hQ327
    subst l327 y327 z327
    obtain ⟨rfl, N327q, K327, Ex327, Cd327, t327, kb327, u327, v327, w327, Vl327, Ar327⟩ := hQ327
    have N327 := Fr.app N322 N327q
    have z327 : h322.size ≤ T327.heap.size := K327.1
    have R327 : CHr Z consts_1 s.vm h0 s.vm T327.heap := R322.trans (CHr.keep K327 (sfS Sf326 sf0) R322.1)
    have Sf341 : Safe Z consts_1 s.vm T327.heap b311 := Safe.keep K327 (sfS Sf326 sf0) R322.1 Sf326
    have fT327 : own_Str Z T327.heap b311 t327 ([p1, p2] : List Int32) := ⟨kb327, 0, (2 : Int32), _, Ex327, Vl327, Cd327, Ar327, StrChars.Road.codOf rfl (fun c q => (hp327 c q).2), own_upL hp327, (Nat.le_of_ble_eq_true rfl)⟩
    have lt327 : @LT.lt Nat _ t327 T327.heap.size := fT327.ltv
    refine own_Go.tr st327 ?_
    show own_Go _ _ _ _ (T327.setTop (mkF m 35 #[.val (.int p1), .val (.int p2), .val (.int (2 : Int32))] [(.ref b311)]))
    obtain ⟨fs342, hr342, hrun342, hend342, hret342⟩ := X327.leaveW hS0 (by omega) (v := some (.ref b311)) (fun h => by rw [Bd.returns] at h; cases h)
    have K343 : Keep h0 h311 [] := (Keep.refl h0 []).ext E311
    have K344 : Keep h0 h314 [] := K343.ext E314
    have K345 : Keep h0 h317 [] := K344.wr W317 (Or.inr (by omega))
    have K346 : Keep h0 h322 [] := K345.wr W322 (Or.inr (by omega))
    have K347 : Keep h0 T327.heap [] := K346.trans K327 (allS (Or.inr (by omega)) all0)
    subst hPP
    refine ⟨_, _, own_retA X327 hx Bd.returns rfl rfl (hb hby d_method_4_35) hr342, hrun342, hend342, _, _, rfl, ?_, ?_, hret342.1, hret342.2.1, hret342.2.2.1, hret342.2.2.2.mono (by decide) (by decide)⟩
    · show Q_str Z _ _ _ _ h0 _ T327.heap _
      exact ⟨b311, t327, rfl, N327, K347, fT327⟩
    · have hfin := R327.trans (CHv.at X327 hZ hEL R327.1)
      rw [← hh] at hfin
      show CHr Z consts_1 s.vm s.heap T327.vm T327.heap
      exact hfin
theorem pn_293 : plainName "com/example/net30/net30/metrics/Family" = true := by first | (simp [plainName, overriddenIn]; done) | decide +kernel
theorem ef_294 (m : MethodId) (x0 : Nat) (x1 : Nat) (x2 : Nat) : entryFrame m #[(.ref x0), (.ref x1), (.ref x2)] 4 = mkF m 0 #[.val (.ref x0), .val (.ref x1), .val (.ref x2), .unset] [] := by first | (simp [entryFrame, mkF, argsToLocals, Value.category]; done) | rfl
theorem d_prog_4_method_7_0 : decode prog_4_method_7_code 0 = .ok (.new 42, 3) := by decide +kernel
theorem d_prog_4_method_7_3 : decode prog_4_method_7_code 3 = .ok (.dup, 1) := by decide +kernel
theorem pd_297 : parseMethodDescriptor "()V" = some ⟨[], none⟩ := by decide +kernel
theorem d_prog_4_method_7_4 : decode prog_4_method_7_code 4 = .ok (.invokespecial 44, 3) := by decide +kernel
theorem d_prog_4_method_7_7 : decode prog_4_method_7_code 7 = .ok (.aload_n 1, 1) := by decide +kernel
theorem pd_300 : parseMethodDescriptor "(Ljava/lang/String;)Ljava/lang/StringBuilder;" = some ⟨[(.object "java/lang/String")], some (.object "java/lang/StringBuilder")⟩ := by decide +kernel
theorem d_prog_4_method_7_8 : decode prog_4_method_7_code 8 = .ok (.invokevirtual 45, 3) := by decide +kernel
theorem d_prog_4_method_7_11 : decode prog_4_method_7_code 11 = .ok (.ldc 156, 2) := by decide +kernel
theorem d_prog_4_method_7_13 : decode prog_4_method_7_code 13 = .ok (.invokevirtual 45, 3) := by decide +kernel
theorem d_prog_4_method_7_16 : decode prog_4_method_7_code 16 = .ok (.aload_n 2, 1) := by decide +kernel
theorem d_prog_4_method_7_17 : decode prog_4_method_7_code 17 = .ok (.invokevirtual 45, 3) := by decide +kernel
theorem d_prog_4_method_7_20 : decode prog_4_method_7_code 20 = .ok (.ldc 158, 2) := by decide +kernel
theorem d_prog_4_method_7_22 : decode prog_4_method_7_code 22 = .ok (.invokevirtual 45, 3) := by decide +kernel
theorem pd_308 : parseMethodDescriptor "()Ljava/lang/String;" = some ⟨[], some (.object "java/lang/String")⟩ := by decide +kernel
theorem d_prog_4_method_7_25 : decode prog_4_method_7_code 25 = .ok (.invokevirtual 56, 3) := by decide +kernel
theorem d_prog_4_method_7_28 : decode prog_4_method_7_code 28 = .ok (.astore_n 3, 1) := by decide +kernel
theorem d_prog_4_method_7_29 : decode prog_4_method_7_code 29 = .ok (.aload_n 0, 1) := by decide +kernel
theorem d_prog_4_method_7_30 : decode prog_4_method_7_code 30 = .ok (.invokevirtual 155, 3) := by decide +kernel
theorem d_prog_4_method_7_33 : decode prog_4_method_7_code 33 = .ok (.ifCond .eq 7, 3) := by decide +kernel
theorem d_prog_4_method_7_40 : decode prog_4_method_7_code 40 = .ok (.new 42, 3) := by decide +kernel
theorem d_prog_4_method_7_43 : decode prog_4_method_7_code 43 = .ok (.dup, 1) := by decide +kernel
theorem d_prog_4_method_7_44 : decode prog_4_method_7_code 44 = .ok (.invokespecial 44, 3) := by decide +kernel
theorem d_prog_4_method_7_47 : decode prog_4_method_7_code 47 = .ok (.aload_n 0, 1) := by decide +kernel
theorem d_prog_4_method_7_48 : decode prog_4_method_7_code 48 = .ok (.invokevirtual 45, 3) := by decide +kernel
theorem d_prog_4_method_7_51 : decode prog_4_method_7_code 51 = .ok (.ldc 160, 2) := by decide +kernel
theorem d_prog_4_method_7_53 : decode prog_4_method_7_code 53 = .ok (.invokevirtual 45, 3) := by decide +kernel
theorem d_prog_4_method_7_56 : decode prog_4_method_7_code 56 = .ok (.aload_n 3, 1) := by decide +kernel
theorem d_prog_4_method_7_57 : decode prog_4_method_7_code 57 = .ok (.invokevirtual 45, 3) := by decide +kernel
theorem d_prog_4_method_7_60 : decode prog_4_method_7_code 60 = .ok (.invokevirtual 56, 3) := by decide +kernel
theorem d_prog_4_method_7_63 : decode prog_4_method_7_code 63 = .ok (.areturn, 1) := by decide +kernel
theorem d_prog_4_method_7_36 : decode prog_4_method_7_code 36 = .ok (.aload_n 3, 1) := by decide +kernel
theorem d_prog_4_method_7_37 : decode prog_4_method_7_code 37 = .ok (.goto 26, 3) := by decide +kernel
def Q_withLabel (Z : State) (a1 : Nat) (a2 : Nat) (a3 : Nat) (ta : Nat) (La : List Int32) (tb : Nat) (Lb : List Int32) (td : Nat) (Ld : List Int32) (zc : Int32) (h0 : Heap) (v : Option Value) (h : Heap) (L : List Loc) : Prop := ∃ (x : Nat), ∃ (t2 : Nat), v = some (.ref x) ∧ Fr Z.heap.size L ∧ Keep h0 h [] ∧ own_Str Z h x t2 (own_wl La Lb Ld)
set_option maxRecDepth 65536 in
set_option maxHeartbeats 40000000 in
theorem rm_withLabel (l : Launch) (Z : State) (a0 : Array Value) (hw : ∀ d ∈ tables_1, d.before a0 Z = true) (ws : List Jvm.Cond) (a1 : Nat) (a2 : Nat) (a3 : Nat) (ta : Nat) (La : List Int32) (tb : Nat) (Lb : List Int32) (td : Nat) (Ld : List Int32) (zc : Int32) (h0 : Heap) (hEL : EW Z a0 consts_1) (OL : Old Z Z.heap.size h0) (p0_ : own_Str Z h0 a1 ta La) (p1_ : own_Str Z h0 a2 tb Lb) (p2_ : own_Str Z h0 a3 td Ld) (st_COMPACT_STRINGS : Sta Z Z.heap "java/lang/String" "COMPACT_STRINGS" "Z" (.int zc)) (hzc : ¬ zc = 0) (hn1 : La.length ≤ 2) (hn2 : Lb.length ≤ 2) (hn3 : Ld.length ≤ 2) (hl1 : ∀ c ∈ La, ¬ c < 0 ∧ ¬ (255 : Int32) < c) (hl2 : ∀ c ∈ Lb, ¬ c < 0 ∧ ¬ (255 : Int32) < c) (hl3 : ∀ c ∈ Ld, ¬ c < 0 ∧ ¬ (255 : Int32) < c) :
    MetFree l (⟨"com/example/net30/net30/metrics/Family", "withLabel", "(Ljava/lang/String;Ljava/lang/String;Ljava/lang/String;)Ljava/lang/String;"⟩ : MethodName) (head1 (Jvm.Cond.code (⟨"com/example/net30/net30/metrics/Family", "withLabel", "(Ljava/lang/String;Ljava/lang/String;Ljava/lang/String;)Ljava/lang/String;"⟩ : MethodName) prog_4_method_7_code 4 (some (.object "java/lang/String")) :: ws) ({ frames := 6, cells := 16, slots := 170, locals := 125 } : Room)) (fun a U => a = #[(.ref a1), (.ref a2), (.ref a3)] ∧ Z.Warmed39 U.vm ∧ U.heap = h0 ∧ CHv Z consts_1 U.vm h0) (fun _ _ _ _ _ => True) (fun _ U o U' => ∃ v L, o = .returned v ∧ Q_withLabel Z a1 a2 a3 ta La tb Lb td Ld zc h0 v U'.heap L ∧ CHr Z consts_1 U.vm U.heap U'.vm U'.heap ∧ ReturnedEndW U o U' L ({ frames := 6, cells := 16, slots := 170, locals := 125 } : Room).cells ({ frames := 6, cells := 16, slots := 170, locals := 125 } : Room).slots) := by
  refine MetFree.of_bodySF (plainFor_of_name pn_293) hisR ?_
  intro p e s m args below meth c s₁ Bd hml0 hP hK
  obtain ⟨rfl, hZ, hh, hC0⟩ := hP
  have hx := Bd.exec
  have hby := Bd.bytes
  have hml : c.maxLocals = 4 := hml0
  have hown : s.vm.findClass "com/example/net30/net30/metrics/Family" = some m.cls := findClass_of_methodNamed Bd.named
  have hnm := (name_of_methodNamed Bd.named Bd.method).1
  have X0 : Stand p l e ({ frames := 6, cells := 16, slots := 170, locals := 125 } : Room) (s.setVm s.vm) m #[(.ref a1), (.ref a2), (.ref a3)] below meth c s₁ [] 0 0 := Stand.of_body Bd
  have e0 : s₁.heap = h0 := by rw [← hh, Bd.state]; rfl
  have N0 := Fr.nil Z.heap.size
  have Z0 : Z.heap.size ≤ h0.size := OL.2.1
  have hS0 : s.Since s.vm h0.size := (State.WarmedH.refl s).since _
  have wS := own_wS hw
  have R0 : CHr Z consts_1 s.vm h0 s.vm h0 := CHr.refl hC0
  have lt_0 : @LT.lt Nat _ a1 h0.size := p0_.lt
  have ltv_0 : @LT.lt Nat _ ta h0.size := p0_.ltv
  have lt_1 : @LT.lt Nat _ a2 h0.size := p1_.lt
  have ltv_1 : @LT.lt Nat _ tb h0.size := p1_.ltv
  have lt_2 : @LT.lt Nat _ a3 h0.size := p2_.lt
  have ltv_2 : @LT.lt Nat _ td h0.size := p2_.ltv
  obtain ⟨PP, hPP⟩ : ∃ PP : Outcome → State → Prop, PP = (fun o tE => ∃ v L, o = .returned v ∧ Q_withLabel Z a1 a2 a3 ta La tb Lb td Ld zc h0 v tE.heap L ∧ CHr Z consts_1 s.vm s.heap tE.vm tE.heap ∧ ReturnedEndW s o tE L ({ frames := 6, cells := 16, slots := 170, locals := 125 } : Room).cells ({ frames := 6, cells := 16, slots := 170, locals := 125 } : Room).slots) := ⟨_, rfl⟩
  show own_Go p.tables e below (fun o tE => ∃ v L, o = .returned v ∧ Q_withLabel Z a1 a2 a3 ta La tb Lb td Ld zc h0 v tE.heap L ∧ CHr Z consts_1 s.vm s.heap tE.vm tE.heap ∧ ReturnedEndW s o tE L ({ frames := 6, cells := 16, slots := 170, locals := 125 } : Room).cells ({ frames := 6, cells := 16, slots := 170, locals := 125 } : Room).slots) (s₁.setTop (entryFrame m #[(.ref a1), (.ref a2), (.ref a3)] 4))
  rw [← hPP]
  refine own_Go.st (fun t k => castTop (ef_294 m a1 a2 a3) k) ?_
  show own_Go _ _ _ _ (s₁.setTop (mkF m 0 #[.val (.ref a1), .val (.ref a2), .val (.ref a3), .unset] []))
  obtain ⟨T348, h348, X348, e348, E348, A348, D348, U348, st348⟩ := newO X0 hx hZ hown (hw _ (List.mem_of_getElem? (i := 17) rfl)) (hw _ (List.mem_of_getElem? (i := 18) rfl)) (hw _ (List.mem_of_getElem? (i := 19) rfl)) e0 (g := (mkF m 0 #[.val (.ref a1), .val (.ref a2), .val (.ref a3), .unset] [])) rfl (hb hby d_prog_4_method_7_0) (by decide) (by decide)
  obtain ⟨b348, g348⟩ : ∃ z, z = h0.size := ⟨_, rfl⟩
  rw [← g348] at A348 D348 U348 st348
  refine own_Go.st st348 ?_
  have z348 : h0.size ≤ h348.size := E348.1
  have lt_b348 : @LT.lt Nat _ b348 h348.size := A348.lt
  have f349 : Fld Z h348 b348 "java/lang/AbstractStringBuilder" "value" "[B" .null := D348 (Or.inl (hw _ (List.mem_of_getElem? (i := 34) rfl))) (ty := (.array .byte)) (by decide)
  have f350 : Fld Z h348 b348 "java/lang/AbstractStringBuilder" "coder" "B" (.int (0 : Int32)) := D348 (Or.inl (hw _ (List.mem_of_getElem? (i := 36) rfl))) (ty := .byte) (by decide)
  have f351 : Fld Z h348 b348 "java/lang/AbstractStringBuilder" "count" "I" (.int (0 : Int32)) := D348 (Or.inl (hw _ (List.mem_of_getElem? (i := 61) rfl))) (ty := .int) (by decide)
  have R348 : CHr Z consts_1 s.vm h0 s.vm h348 := R0.trans (CHr.ext E348 R0.1)
  show own_Go _ _ _ _ (T348.setTop (mkF m 3 #[.val (.ref a1), .val (.ref a2), .val (.ref a3), .unset] [(.ref b348)]))
  refine own_Go.st (fun _ k => XS.dup X348.here hx rfl (hb hby d_prog_4_method_7_3) rfl rfl k) ?_
  show own_Go _ _ _ _ (T348.setTop (mkF m 4 #[.val (.ref a1), .val (.ref a2), .val (.ref a3), .unset] [(.ref b348), (.ref b348)]))
  have f353 : Old Z Z.heap.size h348 := OL.ext E348
  obtain ⟨_, _, ⟨T352, L352, k352, n352⟩, -, X352, ⟨Lc352, hQ352, l352, y352, z352⟩, st352⟩ := X348.specialBack hx (y := (⟨"java/lang/StringBuilder", "<init>", "()V"⟩ : MethodName)) rfl hown (mvT hZ (hw _ (List.mem_of_getElem? (i := 20) rfl))) (mvT hZ (hw _ (List.mem_of_getElem? (i := 21) rfl))) (mvT hZ (hw _ (List.mem_of_getElem? (i := 22) rfl))) (by decide) (backOf (W := 1) (rm_sbinit l Z a0 hw [] b348 zc h348 f353 A348 f349 f350 f351 st_COMPACT_STRINGS (by first | assumption | decide) (by omega)) hZ (hw _ (List.mem_of_getElem? (i := 22) rfl)) (hw _ (List.mem_of_getElem? (i := 19) rfl)) (by decide) (by decide)) (g := (mkF m 4 #[.val (.ref a1), .val (.ref a2), .val (.ref a3), .unset] [(.ref b348), (.ref b348)])) rfl (by rw [hml]; rfl) (Steps.refl _) (a := b348) (argsL := []) (rest := [(.ref b348)]) (lenOf pd_297 rfl) rfl (by show 2 * 0 + _ ≤ _; exact Nat.le_of_eq rfl) (hb hby d_prog_4_method_7_4) (fun _ _ => ⟨rfl, e348, (by decide : 1 + 1 ≤ _), (by decide : 4 + 16 ≤ _)⟩)
  dsimp only [Pt.U, Pt.locs, Pt.cells, Pt.slots] at X352 l352 y352 z352 st352 hQ352
  subst l352 y352 z352
  obtain ⟨a3_352, k_352, rfl, N352q, K352, f352_0, f352_1, f352_2, f352_3, f352_4, pr352_0⟩ := hQ352
  have N352 := Fr.app N0 N352q
  have Sf354 : Safe Z consts_1 s.vm h348 b348 := Safe.exa hZ.alike A348 (by decide) (by decide)
  have z352 : h348.size ≤ T352.heap.size := K352.1
  have R352 : CHr Z consts_1 s.vm h0 s.vm T352.heap := R348.trans (CHr.keep K352 (sfS Sf354 sf0) R348.1)
  have lt352_0 : @LT.lt Nat _ b348 T352.heap.size := f352_0.lt
  have lt352_1 : @LT.lt Nat _ b348 T352.heap.size := f352_1.lt
  have lt352_2 : @LT.lt Nat _ b348 T352.heap.size := f352_2.lt
  have lt352_3 : @LT.lt Nat _ b348 T352.heap.size := f352_3.lt
  have lt352_4 : @LT.lt Nat _ a3_352 T352.heap.size := f352_4.lt
  have Sf355 : Safe Z consts_1 s.vm T352.heap a3_352 := Safe.keep K352 (sfS Sf354 sf0) R348.1 (Safe.new pr352_0)
  refine own_Go.tr st352 ?_
  show own_Go _ _ _ _ (T352.setTop (mkF m 7 #[.val (.ref a1), .val (.ref a2), .val (.ref a3), .unset] [(.ref b348)]))
  refine own_Go.st (fun _ k => XS.aloadN X352.here hx rfl (hb hby d_prog_4_method_7_7) rfl rfl k) ?_
  show own_Go _ _ _ _ (T352.setTop (mkF m 8 #[.val (.ref a1), .val (.ref a2), .val (.ref a3), .unset] [(.ref a2), (.ref b348)]))
  have f357 : own_Str Z h348 a2 tb Lb := p1_.ext E348
  have ne358 : @Ne Nat a2 b348 := Exa.ne f357.exa A348 (by decide)
  have ne359 : @Ne Nat b348 tb := own_Str.neV f357 A348 (hw _ (List.mem_of_getElem? (i := 18) rfl))
  have f360 : own_Str Z T352.heap a2 tb Lb := f357.keep K352 (ninS ne358 nin0) (ninS (Ne.symm ne359) nin0)
  have f361 : Old Z Z.heap.size T352.heap := f353.keep K352 (allS (by omega) all0)
  obtain ⟨cq356, kq356, q356a, q356b, q356c⟩ := isOf hZ rfl f352_0
  obtain ⟨_, _, ⟨T356, L356, k356, n356⟩, -, X356, ⟨Lc356, hQ356, l356, y356, z356⟩, st356⟩ := X352.virtualBack hx (y := (⟨"java/lang/StringBuilder", "append", "(Ljava/lang/String;)Ljava/lang/StringBuilder;"⟩ : MethodName)) (z := (⟨"java/lang/StringBuilder", "append", "(Ljava/lang/String;)Ljava/lang/StringBuilder;"⟩ : MethodName)) hown (mvT hZ (hw _ (List.mem_of_getElem? (i := 37) rfl))) (mvT hZ (hw _ (List.mem_of_getElem? (i := 38) rfl))) (notFace_of_selects (args := #[]) (mvT hZ (hw _ (List.mem_of_getElem? (i := 40) rfl)))) (mvT hZ (hw _ (List.mem_of_getElem? (i := 40) rfl))) (mvT hZ (hw _ (List.mem_of_getElem? (i := 39) rfl))) (by decide) (backOf (W := 0) (rm_sbappend l Z a0 hw [] b348 a2 tb ([] : List Int32) Lb 16 k_352 zc a3_352 T352.heap f361 f352_0 f352_1 f352_2 f352_3 f360 f352_4 st_COMPACT_STRINGS (by first | assumption | decide) (by (try simp only [List.length_append, List.length_cons, List.length_nil]); omega) (by decide) (by show @Ne Nat tb a3_352; omega) (by omega) (by omega) hl2) hZ (hw _ (List.mem_of_getElem? (i := 41) rfl)) (hw _ (List.mem_of_getElem? (i := 19) rfl)) (by decide) (by decide)) q356a q356c (g := (mkF m 8 #[.val (.ref a1), .val (.ref a2), .val (.ref a3), .unset] [(.ref a2), (.ref b348)])) rfl (by rw [hml]; rfl) (Steps.refl _) (argsL := [(.ref a2)]) (rest := []) (lenOf pd_300 rfl) rfl (by show 2 * 0 + _ ≤ _; exact Nat.le_of_eq rfl) (hb hby d_prog_4_method_7_8) (fun _ _ => ⟨rfl, rfl, (by decide : 2 + 0 ≤ _), (by decide : 20 + 0 ≤ _)⟩)
  dsimp only [Pt.U, Pt.locs, Pt.cells, Pt.slots] at X356 l356 y356 z356 st356 hQ356
  subst l356 y356 z356
  obtain ⟨rfl, N356q, K356, f356_0, f356_1, f356_2, f356_3, f356_4⟩ := hQ356
  have N356 := Fr.app N352 N356q
  have Sf362 : Safe Z consts_1 s.vm T352.heap b348 := Safe.exa hZ.alike f352_0 (by decide) (by decide)
  have z356 : T352.heap.size ≤ T356.heap.size := K356.1
  have R356 : CHr Z consts_1 s.vm h0 s.vm T356.heap := R352.trans (CHr.keep K356 (sfS Sf362 (sfS Sf355 sf0)) R352.1)
  have Sf363 : Safe Z consts_1 s.vm T356.heap a3_352 := Safe.keep K356 (sfS Sf362 (sfS Sf355 sf0)) R352.1 Sf355
  have lt356_0 : @LT.lt Nat _ b348 T356.heap.size := f356_0.lt
  have lt356_1 : @LT.lt Nat _ b348 T356.heap.size := f356_1.lt
  have lt356_2 : @LT.lt Nat _ b348 T356.heap.size := f356_2.lt
  have lt356_3 : @LT.lt Nat _ b348 T356.heap.size := f356_3.lt
  have lt356_4 : @LT.lt Nat _ a3_352 T356.heap.size := f356_4.lt
  refine own_Go.tr st356 ?_
  show own_Go _ _ _ _ (T356.setTop (mkF m 11 #[.val (.ref a1), .val (.ref a2), .val (.ref a3), .unset] [(.ref b348)]))
  obtain ⟨a364, T364, h364, kk364, t364, kb364, X364, e364, E364, hS364, hk364, hZ364, hown364, A364, C364, V364, B364, la364, lb364, ch364, Li364, sf364, st364⟩ := ldcCH X356 hx hZ hown (hw _ (List.mem_of_getElem? (i := 87) rfl)) wS rfl hS0 (by omega) hEL (by decide) R356.1 (vs := [(.int (61 : Int32)), (.int (34 : Int32))]) (z := (2 : Int32)) (by decide) (by decide) (by decide) (g := (mkF m 11 #[.val (.ref a1), .val (.ref a2), .val (.ref a3), .unset] [(.ref b348)])) rfl (hb hby d_prog_4_method_7_11) (n := 8) (by decide) (by decide) (by decide) (by decide)
  refine own_Go.st st364 ?_
  have z364 : T356.heap.size ≤ h364.size := E364.1
  have la364' : @LT.lt Nat _ a364 h364.size := la364
  have lb364' : @LT.lt Nat _ t364 h364.size := lb364
  have R364 : CHr Z consts_1 s.vm h0 T364.vm h364 := R356.trans ch364
  have Sf365 : Safe Z consts_1 T364.vm h364 a3_352 := ch364.safe (by show @LT.lt Nat _ a3_352 _; omega) Sf363
  have fT364 : own_Str Z h364 a364 t364 ([(61 : Int32), (34 : Int32)] : List Int32) := ⟨kb364, 0, (2 : Int32), [(.int (61 : Int32)), (.int (34 : Int32))], A364, V364, C364, B364, Or.inl ⟨rfl, rfl, rfl, (by decide)⟩, (by decide), (by decide)⟩
  have nl366 := sf364 a3_352 Sf365
  have nl366a : @Ne Nat a3_352 a364 := nl366.1
  have nl366b : @Ne Nat a3_352 t364 := nl366.2
  show own_Go _ _ _ _ (T364.setTop (mkF m 13 #[.val (.ref a1), .val (.ref a2), .val (.ref a3), .unset] [(.ref a364), (.ref b348)]))
  have f368 : Exa Z h364 b348 "java/lang/StringBuilder" := f356_0.ext E364
  have f369 : Fld Z h364 b348 "java/lang/AbstractStringBuilder" "value" "[B" (.ref a3_352) := f356_1.ext E364
  have f370 : Fld Z h364 b348 "java/lang/AbstractStringBuilder" "coder" "B" (.int (0 : Int32)) := f356_2.ext E364
  have f371 : Fld Z h364 b348 "java/lang/AbstractStringBuilder" "count" "I" (.int (Int32.ofNat (([] : List Int32) ++ Lb).length)) := f356_3.ext E364
  have f372 : Arv Z h364 a3_352 k_352 .byte (Int32.ofNat 16) (own_low (([] : List Int32) ++ Lb)) (.int (0 : Int32)) := f356_4.ext E364
  have f373 : Old Z Z.heap.size T356.heap := f361.keep K356 (allS (by omega) (allS (by omega) all0))
  have f374 : Old Z Z.heap.size h364 := f373.ext E364
  obtain ⟨cq367, kq367, q367a, q367b, q367c⟩ := isOf hZ364 e364 f368
  obtain ⟨_, _, ⟨T367, L367, k367, n367⟩, -, X367, ⟨Lc367, hQ367, l367, y367, z367⟩, st367⟩ := X364.virtualBack hx (y := (⟨"java/lang/StringBuilder", "append", "(Ljava/lang/String;)Ljava/lang/StringBuilder;"⟩ : MethodName)) (z := (⟨"java/lang/StringBuilder", "append", "(Ljava/lang/String;)Ljava/lang/StringBuilder;"⟩ : MethodName)) hown364 (mvT hZ364 (hw _ (List.mem_of_getElem? (i := 37) rfl))) (mvT hZ364 (hw _ (List.mem_of_getElem? (i := 38) rfl))) (notFace_of_selects (args := #[]) (mvT hZ364 (hw _ (List.mem_of_getElem? (i := 40) rfl)))) (mvT hZ364 (hw _ (List.mem_of_getElem? (i := 40) rfl))) (mvT hZ364 (hw _ (List.mem_of_getElem? (i := 39) rfl))) (by decide) (backOf (W := 0) (rm_sbappend l Z a0 hw [] b348 a364 t364 (([] : List Int32) ++ Lb) ([(61 : Int32), (34 : Int32)] : List Int32) 16 k_352 zc a3_352 h364 f374 f368 f369 f370 f371 fT364 f372 st_COMPACT_STRINGS (by first | assumption | decide) (by (try simp only [List.length_append, List.length_cons, List.length_nil]); omega) (by decide) (Ne.symm nl366b) (by omega) (by omega) (by decide)) hZ364 (hw _ (List.mem_of_getElem? (i := 41) rfl)) (hw _ (List.mem_of_getElem? (i := 19) rfl)) (by decide) (by decide)) q367a q367c (g := (mkF m 13 #[.val (.ref a1), .val (.ref a2), .val (.ref a3), .unset] [(.ref a364), (.ref b348)])) rfl (by rw [hml]; rfl) (Steps.refl _) (argsL := [(.ref a364)]) (rest := []) (lenOf pd_300 rfl) rfl (by show 2 * 0 + _ ≤ _; exact Nat.le_of_eq rfl) (hb hby d_prog_4_method_7_13) (fun _ _ => ⟨rfl, e364, (by decide : 4 + 0 ≤ _), (by decide : 32 + 0 ≤ _)⟩)
  dsimp only [Pt.U, Pt.locs, Pt.cells, Pt.slots] at X367 l367 y367 z367 st367 hQ367
  subst l367 y367 z367
  obtain ⟨rfl, N367q, K367, f367_0, f367_1, f367_2, f367_3, f367_4⟩ := hQ367
  have N367 := Fr.app N356 N367q
  have Sf375 : Safe Z consts_1 T364.vm h364 b348 := Safe.exa hZ364.alike f368 (by decide) (by decide)
  have z367 : h364.size ≤ T367.heap.size := K367.1
  have R367 : CHr Z consts_1 s.vm h0 T364.vm T367.heap := R364.trans (CHr.keep K367 (sfS Sf375 (sfS Sf365 sf0)) R364.1)
  have Sf376 : Safe Z consts_1 T364.vm T367.heap a3_352 := Safe.keep K367 (sfS Sf375 (sfS Sf365 sf0)) R364.1 Sf365
  have lt367_0 : @LT.lt Nat _ b348 T367.heap.size := f367_0.lt
  have lt367_1 : @LT.lt Nat _ b348 T367.heap.size := f367_1.lt
  have lt367_2 : @LT.lt Nat _ b348 T367.heap.size := f367_2.lt
  have lt367_3 : @LT.lt Nat _ b348 T367.heap.size := f367_3.lt
  have lt367_4 : @LT.lt Nat _ a3_352 T367.heap.size := f367_4.lt
  refine own_Go.tr st367 ?_
  show own_Go _ _ _ _ (T367.setTop (mkF m 16 #[.val (.ref a1), .val (.ref a2), .val (.ref a3), .unset] [(.ref b348)]))
  refine own_Go.st (fun _ k => XS.aloadN X367.here hx rfl (hb hby d_prog_4_method_7_16) rfl rfl k) ?_
  show own_Go _ _ _ _ (T367.setTop (mkF m 17 #[.val (.ref a1), .val (.ref a2), .val (.ref a3), .unset] [(.ref a3), (.ref b348)]))
  have f378 : own_Str Z h348 a3 td Ld := p2_.ext E348
  have ne379 : @Ne Nat a3 b348 := Exa.ne f378.exa A348 (by decide)
  have ne380 : @Ne Nat b348 td := own_Str.neV f378 A348 (hw _ (List.mem_of_getElem? (i := 18) rfl))
  have f381 : own_Str Z T352.heap a3 td Ld := f378.keep K352 (ninS ne379 nin0) (ninS (Ne.symm ne380) nin0)
  have ne382 : @Ne Nat a3 a3_352 := Exa.neArv f381.exa f352_4 (hw _ (List.mem_of_getElem? (i := 6) rfl))
  have f383 : own_Str Z T356.heap a3 td Ld := f381.keep K356 (ninS ne379 (ninS ne382 nin0)) (ninS (Ne.symm ne380) (ninS (by show @Ne Nat td a3_352; omega) nin0))
  have f384 : own_Str Z h364 a3 td Ld := f383.ext E364
  have f385 : own_Str Z T367.heap a3 td Ld := f384.keep K367 (ninS ne379 (ninS ne382 nin0)) (ninS (Ne.symm ne380) (ninS (by show @Ne Nat td a3_352; omega) nin0))
  have f386 : Old Z Z.heap.size T367.heap := f374.keep K367 (allS (by omega) (allS (by omega) all0))
  obtain ⟨cq377, kq377, q377a, q377b, q377c⟩ := isOf hZ364 rfl f367_0
  obtain ⟨_, _, ⟨T377, L377, k377, n377⟩, -, X377, ⟨Lc377, hQ377, l377, y377, z377⟩, st377⟩ := X367.virtualBack hx (y := (⟨"java/lang/StringBuilder", "append", "(Ljava/lang/String;)Ljava/lang/StringBuilder;"⟩ : MethodName)) (z := (⟨"java/lang/StringBuilder", "append", "(Ljava/lang/String;)Ljava/lang/StringBuilder;"⟩ : MethodName)) hown364 (mvT hZ364 (hw _ (List.mem_of_getElem? (i := 37) rfl))) (mvT hZ364 (hw _ (List.mem_of_getElem? (i := 38) rfl))) (notFace_of_selects (args := #[]) (mvT hZ364 (hw _ (List.mem_of_getElem? (i := 40) rfl)))) (mvT hZ364 (hw _ (List.mem_of_getElem? (i := 40) rfl))) (mvT hZ364 (hw _ (List.mem_of_getElem? (i := 39) rfl))) (by decide) (backOf (W := 0) (rm_sbappend l Z a0 hw [] b348 a3 td ((([] : List Int32) ++ Lb) ++ ([(61 : Int32), (34 : Int32)] : List Int32)) Ld 16 k_352 zc a3_352 T367.heap f386 f367_0 f367_1 f367_2 f367_3 f385 f367_4 st_COMPACT_STRINGS (by first | assumption | decide) (by (try simp only [List.length_append, List.length_cons, List.length_nil]); omega) (by decide) (by show @Ne Nat td a3_352; omega) (by omega) (by omega) hl3) hZ364 (hw _ (List.mem_of_getElem? (i := 41) rfl)) (hw _ (List.mem_of_getElem? (i := 19) rfl)) (by decide) (by decide)) q377a q377c (g := (mkF m 17 #[.val (.ref a1), .val (.ref a2), .val (.ref a3), .unset] [(.ref a3), (.ref b348)])) rfl (by rw [hml]; rfl) (Steps.refl _) (argsL := [(.ref a3)]) (rest := []) (lenOf pd_300 rfl) rfl (by show 2 * 0 + _ ≤ _; exact Nat.le_of_eq rfl) (hb hby d_prog_4_method_7_17) (fun _ _ => ⟨rfl, rfl, (by decide : 4 + 0 ≤ _), (by decide : 32 + 0 ≤ _)⟩)
  dsimp only [Pt.U, Pt.locs, Pt.cells, Pt.slots] at X377 l377 y377 z377 st377 hQ377
  subst l377 y377 z377
  obtain ⟨rfl, N377q, K377, f377_0, f377_1, f377_2, f377_3, f377_4⟩ := hQ377
  have N377 := Fr.app N367 N377q
  have Sf387 : Safe Z consts_1 T364.vm T367.heap b348 := Safe.exa hZ364.alike f367_0 (by decide) (by decide)
  have z377 : T367.heap.size ≤ T377.heap.size := K377.1
  have R377 : CHr Z consts_1 s.vm h0 T364.vm T377.heap := R367.trans (CHr.keep K377 (sfS Sf387 (sfS Sf376 sf0)) R367.1)
  have Sf388 : Safe Z consts_1 T364.vm T377.heap a3_352 := Safe.keep K377 (sfS Sf387 (sfS Sf376 sf0)) R367.1 Sf376
  have lt377_0 : @LT.lt Nat _ b348 T377.heap.size := f377_0.lt
  have lt377_1 : @LT.lt Nat _ b348 T377.heap.size := f377_1.lt
  have lt377_2 : @LT.lt Nat _ b348 T377.heap.size := f377_2.lt
  have lt377_3 : @LT.lt Nat _ b348 T377.heap.size := f377_3.lt
  have lt377_4 : @LT.lt Nat _ a3_352 T377.heap.size := f377_4.lt
  refine own_Go.tr st377 ?_
  show own_Go _ _ _ _ (T377.setTop (mkF m 20 #[.val (.ref a1), .val (.ref a2), .val (.ref a3), .unset] [(.ref b348)]))
  obtain ⟨a389, T389, h389, kk389, t389, kb389, X389, e389, E389, hS389, hk389, hZ389, hown389, A389, C389, V389, B389, la389, lb389, ch389, Li389, sf389, st389⟩ := ldcCH X377 hx hZ364 hown364 (hw _ (List.mem_of_getElem? (i := 88) rfl)) wS rfl hS364 (by omega) hEL (by decide) R377.1 (vs := [(.int (34 : Int32))]) (z := (1 : Int32)) (by decide) (by decide) (by decide) (g := (mkF m 20 #[.val (.ref a1), .val (.ref a2), .val (.ref a3), .unset] [(.ref b348)])) rfl (hb hby d_prog_4_method_7_20) (n := 4) (by decide) (by decide) (by decide) (by decide)
  refine own_Go.st st389 ?_
  have z389 : T377.heap.size ≤ h389.size := E389.1
  have la389' : @LT.lt Nat _ a389 h389.size := la389
  have lb389' : @LT.lt Nat _ t389 h389.size := lb389
  have R389 : CHr Z consts_1 s.vm h0 T389.vm h389 := R377.trans ch389
  have Sf390 : Safe Z consts_1 T389.vm h389 a3_352 := ch389.safe (by show @LT.lt Nat _ a3_352 _; omega) Sf388
  have fT389 : own_Str Z h389 a389 t389 ([(34 : Int32)] : List Int32) := ⟨kb389, 0, (1 : Int32), [(.int (34 : Int32))], A389, V389, C389, B389, Or.inl ⟨rfl, rfl, rfl, (by decide)⟩, (by decide), (by decide)⟩
  have nl391 := sf389 a3_352 Sf390
  have nl391a : @Ne Nat a3_352 a389 := nl391.1
  have nl391b : @Ne Nat a3_352 t389 := nl391.2
  show own_Go _ _ _ _ (T389.setTop (mkF m 22 #[.val (.ref a1), .val (.ref a2), .val (.ref a3), .unset] [(.ref a389), (.ref b348)]))
  have f393 : Exa Z h389 b348 "java/lang/StringBuilder" := f377_0.ext E389
  have f394 : Fld Z h389 b348 "java/lang/AbstractStringBuilder" "value" "[B" (.ref a3_352) := f377_1.ext E389
  have f395 : Fld Z h389 b348 "java/lang/AbstractStringBuilder" "coder" "B" (.int (0 : Int32)) := f377_2.ext E389
  have f396 : Fld Z h389 b348 "java/lang/AbstractStringBuilder" "count" "I" (.int (Int32.ofNat (((([] : List Int32) ++ Lb) ++ ([(61 : Int32), (34 : Int32)] : List Int32)) ++ Ld).length)) := f377_3.ext E389
  have f397 : Arv Z h389 a3_352 k_352 .byte (Int32.ofNat 16) (own_low (((([] : List Int32) ++ Lb) ++ ([(61 : Int32), (34 : Int32)] : List Int32)) ++ Ld)) (.int (0 : Int32)) := f377_4.ext E389
  have f398 : Old Z Z.heap.size T377.heap := f386.keep K377 (allS (by omega) (allS (by omega) all0))
  have f399 : Old Z Z.heap.size h389 := f398.ext E389
  obtain ⟨cq392, kq392, q392a, q392b, q392c⟩ := isOf hZ389 e389 f393
  obtain ⟨_, _, ⟨T392, L392, k392, n392⟩, -, X392, ⟨Lc392, hQ392, l392, y392, z392⟩, st392⟩ := X389.virtualBack hx (y := (⟨"java/lang/StringBuilder", "append", "(Ljava/lang/String;)Ljava/lang/StringBuilder;"⟩ : MethodName)) (z := (⟨"java/lang/StringBuilder", "append", "(Ljava/lang/String;)Ljava/lang/StringBuilder;"⟩ : MethodName)) hown389 (mvT hZ389 (hw _ (List.mem_of_getElem? (i := 37) rfl))) (mvT hZ389 (hw _ (List.mem_of_getElem? (i := 38) rfl))) (notFace_of_selects (args := #[]) (mvT hZ389 (hw _ (List.mem_of_getElem? (i := 40) rfl)))) (mvT hZ389 (hw _ (List.mem_of_getElem? (i := 40) rfl))) (mvT hZ389 (hw _ (List.mem_of_getElem? (i := 39) rfl))) (by decide) (backOf (W := 0) (rm_sbappend l Z a0 hw [] b348 a389 t389 (((([] : List Int32) ++ Lb) ++ ([(61 : Int32), (34 : Int32)] : List Int32)) ++ Ld) ([(34 : Int32)] : List Int32) 16 k_352 zc a3_352 h389 f399 f393 f394 f395 f396 fT389 f397 st_COMPACT_STRINGS (by first | assumption | decide) (by (try simp only [List.length_append, List.length_cons, List.length_nil]); omega) (by decide) (Ne.symm nl391b) (by omega) (by omega) (by decide)) hZ389 (hw _ (List.mem_of_getElem? (i := 41) rfl)) (hw _ (List.mem_of_getElem? (i := 19) rfl)) (by decide) (by decide)) q392a q392c (g := (mkF m 22 #[.val (.ref a1), .val (.ref a2), .val (.ref a3), .unset] [(.ref a389), (.ref b348)])) rfl (by rw [hml]; rfl) (Steps.refl _) (argsL := [(.ref a389)]) (rest := []) (lenOf pd_300 rfl) rfl (by show 2 * 0 + _ ≤ _; exact Nat.le_of_eq rfl) (hb hby d_prog_4_method_7_22) (fun _ _ => ⟨rfl, e389, (by decide : 6 + 0 ≤ _), (by decide : 40 + 0 ≤ _)⟩)
  dsimp only [Pt.U, Pt.locs, Pt.cells, Pt.slots] at X392 l392 y392 z392 st392 hQ392
  subst l392 y392 z392
  obtain ⟨rfl, N392q, K392, f392_0, f392_1, f392_2, f392_3, f392_4⟩ := hQ392
  have N392 := Fr.app N377 N392q
  have Sf400 : Safe Z consts_1 T389.vm h389 b348 := Safe.exa hZ389.alike f393 (by decide) (by decide)
  have z392 : h389.size ≤ T392.heap.size := K392.1
  have R392 : CHr Z consts_1 s.vm h0 T389.vm T392.heap := R389.trans (CHr.keep K392 (sfS Sf400 (sfS Sf390 sf0)) R389.1)
  have Sf401 : Safe Z consts_1 T389.vm T392.heap a3_352 := Safe.keep K392 (sfS Sf400 (sfS Sf390 sf0)) R389.1 Sf390
  have lt392_0 : @LT.lt Nat _ b348 T392.heap.size := f392_0.lt
  have lt392_1 : @LT.lt Nat _ b348 T392.heap.size := f392_1.lt
  have lt392_2 : @LT.lt Nat _ b348 T392.heap.size := f392_2.lt
  have lt392_3 : @LT.lt Nat _ b348 T392.heap.size := f392_3.lt
  have lt392_4 : @LT.lt Nat _ a3_352 T392.heap.size := f392_4.lt
  refine own_Go.tr st392 ?_
  show own_Go _ _ _ _ (T392.setTop (mkF m 25 #[.val (.ref a1), .val (.ref a2), .val (.ref a3), .unset] [(.ref b348)]))
  have f403 : Old Z Z.heap.size T392.heap := f399.keep K392 (allS (by omega) (allS (by omega) all0))
  obtain ⟨cq402, kq402, q402a, q402b, q402c⟩ := isOf hZ389 rfl f392_0
  obtain ⟨_, _, ⟨T402, L402, k402, n402⟩, -, X402, ⟨Lc402, hQ402, l402, y402, z402⟩, st402⟩ := X392.virtualBack hx (y := (⟨"java/lang/StringBuilder", "toString", "()Ljava/lang/String;"⟩ : MethodName)) (z := (⟨"java/lang/StringBuilder", "toString", "()Ljava/lang/String;"⟩ : MethodName)) hown389 (mvT hZ389 (hw _ (List.mem_of_getElem? (i := 89) rfl))) (mvT hZ389 (hw _ (List.mem_of_getElem? (i := 90) rfl))) (notFace_of_selects (args := #[]) (mvT hZ389 (hw _ (List.mem_of_getElem? (i := 92) rfl)))) (mvT hZ389 (hw _ (List.mem_of_getElem? (i := 92) rfl))) (mvT hZ389 (hw _ (List.mem_of_getElem? (i := 91) rfl))) (by decide) (backOf (W := 0) (rm_tostr l Z a0 hw [] b348 ((((([] : List Int32) ++ Lb) ++ ([(61 : Int32), (34 : Int32)] : List Int32)) ++ Ld) ++ ([(34 : Int32)] : List Int32)) 16 a3_352 k_352 zc T392.heap f403 f392_0 f392_1 f392_2 f392_3 f392_4 st_COMPACT_STRINGS (by first | assumption | decide) (by (try simp only [List.length_append, List.length_cons, List.length_nil]); omega) (by decide) (by (try simp only [List.length_append, List.length_cons, List.length_nil]); omega) (own_latA (own_latA (own_latA (own_latA own_lat0 hl2) (by decide)) hl3) (by decide))) hZ389 (hw _ (List.mem_of_getElem? (i := 93) rfl)) (hw _ (List.mem_of_getElem? (i := 19) rfl)) (by decide) (by decide)) q402a q402c (g := (mkF m 25 #[.val (.ref a1), .val (.ref a2), .val (.ref a3), .unset] [(.ref b348)])) rfl (by rw [hml]; rfl) (Steps.refl _) (argsL := []) (rest := []) (lenOf pd_308 rfl) rfl (by show 2 * 0 + _ ≤ _; exact Nat.le_of_eq rfl) (hb hby d_prog_4_method_7_25) (fun _ _ => ⟨rfl, rfl, (by decide : 6 + 2 ≤ _), (by decide : 40 + 20 ≤ _)⟩)
  dsimp only [Pt.U, Pt.locs, Pt.cells, Pt.slots] at X402 l402 y402 z402 st402 hQ402
  subst l402 y402 z402
  obtain ⟨x_402, t_402, rfl, N402q, K402, f402_0, pr402_0, pr402_1⟩ := hQ402
  have N402 := Fr.app N392 N402q
  have z402 : T392.heap.size ≤ T402.heap.size := K402.1
  have R402 : CHr Z consts_1 s.vm h0 T389.vm T402.heap := R392.trans (CHr.keep K402 sf0 R392.1)
  have Sf404 : Safe Z consts_1 T389.vm T402.heap a3_352 := Safe.keep K402 sf0 R392.1 Sf401
  have lt402_0 : @LT.lt Nat _ x_402 T402.heap.size := f402_0.lt
  have ltv402_0 : @LT.lt Nat _ t_402 T402.heap.size := f402_0.ltv
  refine own_Go.tr st402 ?_
  show own_Go _ _ _ _ (T402.setTop (mkF m 28 #[.val (.ref a1), .val (.ref a2), .val (.ref a3), .unset] [(.ref x_402)]))
  refine own_Go.st (fun _ k => XS.astoreN X402.here hx rfl (hb hby d_prog_4_method_7_28) rfl rfl (l' := #[.val (.ref a1), .val (.ref a2), .val (.ref a3), .val (.ref x_402)]) rfl k) ?_
  show own_Go _ _ _ _ (T402.setTop (mkF m 29 #[.val (.ref a1), .val (.ref a2), .val (.ref a3), .val (.ref x_402)] []))
  refine own_Go.st (fun _ k => XS.aloadN X402.here hx rfl (hb hby d_prog_4_method_7_29) rfl rfl k) ?_
  show own_Go _ _ _ _ (T402.setTop (mkF m 30 #[.val (.ref a1), .val (.ref a2), .val (.ref a3), .val (.ref x_402)] [(.ref a1)]))
  have f406 : own_Str Z h348 a1 ta La := p0_.ext E348
  have ne407 : @Ne Nat a1 b348 := Exa.ne f406.exa A348 (by decide)
  have ne408 : @Ne Nat b348 ta := own_Str.neV f406 A348 (hw _ (List.mem_of_getElem? (i := 18) rfl))
  have f409 : own_Str Z T352.heap a1 ta La := f406.keep K352 (ninS ne407 nin0) (ninS (Ne.symm ne408) nin0)
  have ne410 : @Ne Nat a1 a3_352 := Exa.neArv f409.exa f352_4 (hw _ (List.mem_of_getElem? (i := 6) rfl))
  have f411 : own_Str Z T356.heap a1 ta La := f409.keep K356 (ninS ne407 (ninS ne410 nin0)) (ninS (Ne.symm ne408) (ninS (by show @Ne Nat ta a3_352; omega) nin0))
  have f412 : own_Str Z h364 a1 ta La := f411.ext E364
  have f413 : own_Str Z T367.heap a1 ta La := f412.keep K367 (ninS ne407 (ninS ne410 nin0)) (ninS (Ne.symm ne408) (ninS (by show @Ne Nat ta a3_352; omega) nin0))
  have f414 : own_Str Z T377.heap a1 ta La := f413.keep K377 (ninS ne407 (ninS ne410 nin0)) (ninS (Ne.symm ne408) (ninS (by show @Ne Nat ta a3_352; omega) nin0))
  have f415 : own_Str Z h389 a1 ta La := f414.ext E389
  have f416 : own_Str Z T392.heap a1 ta La := f415.keep K392 (ninS ne407 (ninS ne410 nin0)) (ninS (Ne.symm ne408) (ninS (by show @Ne Nat ta a3_352; omega) nin0))
  have f417 : own_Str Z T402.heap a1 ta La := f416.keep K402 nin0 nin0
  obtain ⟨kb418, cd418, N418_, vs418, s1418, s2418, s3418, s4418, s5418, s6418, s7418⟩ := id f417
  obtain ⟨cq405, kq405, q405a, q405b, q405c⟩ := isOf hZ389 rfl f417.exa
  obtain ⟨_, _, ⟨T405, L405, k405, n405⟩, -, X405, ⟨Lc405, hQ405, l405, y405, z405⟩, st405⟩ := X402.virtualBack hx (y := (⟨"java/lang/String", "isEmpty", "()Z"⟩ : MethodName)) (z := (⟨"java/lang/String", "isEmpty", "()Z"⟩ : MethodName)) hown389 (mvT hZ389 (hw _ (List.mem_of_getElem? (i := 136) rfl))) (mvT hZ389 (hw _ (List.mem_of_getElem? (i := 137) rfl))) (notFace_of_selects (args := #[]) (mvT hZ389 (hw _ (List.mem_of_getElem? (i := 139) rfl)))) (mvT hZ389 (hw _ (List.mem_of_getElem? (i := 139) rfl))) (mvT hZ389 (hw _ (List.mem_of_getElem? (i := 138) rfl))) (by decide) (StrChars.Road.empW (W := 0) hZ389 (own_hem hw) (kI := 4) (hw _ (List.mem_of_getElem? (i := 6) rfl)) s1418 s2418 s3418 s4418 s5418 s6418 s7418 (by decide) (by decide)) q405a q405c (g := (mkF m 30 #[.val (.ref a1), .val (.ref a2), .val (.ref a3), .val (.ref x_402)] [(.ref a1)])) rfl (by rw [hml]; rfl) (Steps.refl _) (argsL := []) (rest := []) (lenOf pd_198 rfl) rfl (by show 2 * 0 + _ ≤ _; exact Nat.le_of_eq rfl) (hb hby d_prog_4_method_7_30) (fun _ _ => ⟨rfl, rfl, (by decide : 8 + 0 ≤ _), (by decide : 60 + 0 ≤ _)⟩)
  dsimp only [Pt.U, Pt.locs, Pt.cells, Pt.slots] at X405 l405 y405 z405 st405 hQ405
  subst l405 y405 z405
  obtain ⟨rfl, rfl, K405⟩ := hQ405
  have N405 := Fr.app N402 (Fr.nil Z.heap.size)
  refine own_Go.tr st405 ?_
  show own_Go _ _ _ _ (T405.setTop (mkF m 33 #[.val (.ref a1), .val (.ref a2), .val (.ref a3), .val (.ref x_402)] [(.int (if (La).length = 0 then 1 else 0))]))
  by_cases h33 : (if (La).length = 0 then 1 else 0) = (0 : Int32)
  ·
    refine own_Go.st (fun _ k => XS.ifYes X405.here hx rfl (pc0 := 33) (pc' := 40) rfl (hb hby d_prog_4_method_7_33) rfl ((if0 _ _).trans (teq h33).1) (by decide) (by decide) k) ?_
    show own_Go _ _ _ _ (T405.setTop (mkF m 40 #[.val (.ref a1), .val (.ref a2), .val (.ref a3), .val (.ref x_402)] []))
    obtain ⟨T419, h419, X419, e419, E419, A419, D419, U419, st419⟩ := newO X405 hx hZ389 hown389 (hw _ (List.mem_of_getElem? (i := 17) rfl)) (hw _ (List.mem_of_getElem? (i := 18) rfl)) (hw _ (List.mem_of_getElem? (i := 19) rfl)) K405 (g := (mkF m 40 #[.val (.ref a1), .val (.ref a2), .val (.ref a3), .val (.ref x_402)] [])) rfl (hb hby d_prog_4_method_7_40) (by decide) (by decide)
    obtain ⟨b419, g419⟩ : ∃ z, z = T402.heap.size := ⟨_, rfl⟩
    rw [← g419] at A419 D419 U419 st419
    refine own_Go.st st419 ?_
    have z419 : T402.heap.size ≤ h419.size := E419.1
    have lt_b419 : @LT.lt Nat _ b419 h419.size := A419.lt
    have f420 : Fld Z h419 b419 "java/lang/AbstractStringBuilder" "value" "[B" .null := D419 (Or.inl (hw _ (List.mem_of_getElem? (i := 34) rfl))) (ty := (.array .byte)) (by decide)
    have f421 : Fld Z h419 b419 "java/lang/AbstractStringBuilder" "coder" "B" (.int (0 : Int32)) := D419 (Or.inl (hw _ (List.mem_of_getElem? (i := 36) rfl))) (ty := .byte) (by decide)
    have f422 : Fld Z h419 b419 "java/lang/AbstractStringBuilder" "count" "I" (.int (0 : Int32)) := D419 (Or.inl (hw _ (List.mem_of_getElem? (i := 61) rfl))) (ty := .int) (by decide)
    have R419 : CHr Z consts_1 s.vm h0 T389.vm h419 := R402.trans (CHr.ext E419 R402.1)
    have Sf423 : Safe Z consts_1 T389.vm h419 a3_352 := Safe.ext E419 R402.1 Sf404
    show own_Go _ _ _ _ (T419.setTop (mkF m 43 #[.val (.ref a1), .val (.ref a2), .val (.ref a3), .val (.ref x_402)] [(.ref b419)]))
    refine own_Go.st (fun _ k => XS.dup X419.here hx rfl (hb hby d_prog_4_method_7_43) rfl rfl k) ?_
    show own_Go _ _ _ _ (T419.setTop (mkF m 44 #[.val (.ref a1), .val (.ref a2), .val (.ref a3), .val (.ref x_402)] [(.ref b419), (.ref b419)]))
    have f425 : Old Z Z.heap.size T402.heap := f403.keep K402 all0
    have f426 : Old Z Z.heap.size h419 := f425.ext E419
    obtain ⟨_, _, ⟨T424, L424, k424, n424⟩, -, X424, ⟨Lc424, hQ424, l424, y424, z424⟩, st424⟩ := X419.specialBack hx (y := (⟨"java/lang/StringBuilder", "<init>", "()V"⟩ : MethodName)) rfl hown389 (mvT hZ389 (hw _ (List.mem_of_getElem? (i := 20) rfl))) (mvT hZ389 (hw _ (List.mem_of_getElem? (i := 21) rfl))) (mvT hZ389 (hw _ (List.mem_of_getElem? (i := 22) rfl))) (by decide) (backOf (W := 1) (rm_sbinit l Z a0 hw [] b419 zc h419 f426 A419 f420 f421 f422 st_COMPACT_STRINGS (by first | assumption | decide) (by omega)) hZ389 (hw _ (List.mem_of_getElem? (i := 22) rfl)) (hw _ (List.mem_of_getElem? (i := 19) rfl)) (by decide) (by decide)) (g := (mkF m 44 #[.val (.ref a1), .val (.ref a2), .val (.ref a3), .val (.ref x_402)] [(.ref b419), (.ref b419)])) rfl (by rw [hml]; rfl) (Steps.refl _) (a := b419) (argsL := []) (rest := [(.ref b419)]) (lenOf pd_297 rfl) rfl (by show 2 * 0 + _ ≤ _; exact Nat.le_of_eq rfl) (hb hby d_prog_4_method_7_44) (fun _ _ => ⟨rfl, e419, (by decide : 9 + 1 ≤ _), (by decide : 64 + 16 ≤ _)⟩)
    dsimp only [Pt.U, Pt.locs, Pt.cells, Pt.slots] at X424 l424 y424 z424 st424 hQ424
    subst l424 y424 z424
    obtain ⟨a3_424, k_424, rfl, N424q, K424, f424_0, f424_1, f424_2, f424_3, f424_4, pr424_0⟩ := hQ424
    have N424 := Fr.app N405 N424q
    have Sf427 : Safe Z consts_1 T389.vm h419 b419 := Safe.exa hZ389.alike A419 (by decide) (by decide)
    have z424 : h419.size ≤ T424.heap.size := K424.1
    have R424 : CHr Z consts_1 s.vm h0 T389.vm T424.heap := R419.trans (CHr.keep K424 (sfS Sf427 sf0) R419.1)
    have Sf428 : Safe Z consts_1 T389.vm T424.heap a3_352 := Safe.keep K424 (sfS Sf427 sf0) R419.1 Sf423
    have lt424_0 : @LT.lt Nat _ b419 T424.heap.size := f424_0.lt
    have lt424_1 : @LT.lt Nat _ b419 T424.heap.size := f424_1.lt
    have lt424_2 : @LT.lt Nat _ b419 T424.heap.size := f424_2.lt
    have lt424_3 : @LT.lt Nat _ b419 T424.heap.size := f424_3.lt
    have lt424_4 : @LT.lt Nat _ a3_424 T424.heap.size := f424_4.lt
    have Sf429 : Safe Z consts_1 T389.vm T424.heap a3_424 := Safe.keep K424 (sfS Sf427 sf0) R419.1 (Safe.new pr424_0)
    refine own_Go.tr st424 ?_
    show own_Go _ _ _ _ (T424.setTop (mkF m 47 #[.val (.ref a1), .val (.ref a2), .val (.ref a3), .val (.ref x_402)] [(.ref b419)]))
    refine own_Go.st (fun _ k => XS.aloadN X424.here hx rfl (hb hby d_prog_4_method_7_47) rfl rfl k) ?_
    show own_Go _ _ _ _ (T424.setTop (mkF m 48 #[.val (.ref a1), .val (.ref a2), .val (.ref a3), .val (.ref x_402)] [(.ref a1), (.ref b419)]))
    have f431 : own_Str Z h419 a1 ta La := f417.ext E419
    have ne432 : @Ne Nat a1 b419 := Exa.ne f431.exa A419 (by decide)
    have ne433 : @Ne Nat b419 ta := own_Str.neV f431 A419 (hw _ (List.mem_of_getElem? (i := 18) rfl))
    have f434 : own_Str Z T424.heap a1 ta La := f431.keep K424 (ninS ne432 nin0) (ninS (Ne.symm ne433) nin0)
    have f435 : Old Z Z.heap.size T424.heap := f426.keep K424 (allS (by omega) all0)
    obtain ⟨cq430, kq430, q430a, q430b, q430c⟩ := isOf hZ389 rfl f424_0
    obtain ⟨_, _, ⟨T430, L430, k430, n430⟩, -, X430, ⟨Lc430, hQ430, l430, y430, z430⟩, st430⟩ := X424.virtualBack hx (y := (⟨"java/lang/StringBuilder", "append", "(Ljava/lang/String;)Ljava/lang/StringBuilder;"⟩ : MethodName)) (z := (⟨"java/lang/StringBuilder", "append", "(Ljava/lang/String;)Ljava/lang/StringBuilder;"⟩ : MethodName)) hown389 (mvT hZ389 (hw _ (List.mem_of_getElem? (i := 37) rfl))) (mvT hZ389 (hw _ (List.mem_of_getElem? (i := 38) rfl))) (notFace_of_selects (args := #[]) (mvT hZ389 (hw _ (List.mem_of_getElem? (i := 40) rfl)))) (mvT hZ389 (hw _ (List.mem_of_getElem? (i := 40) rfl))) (mvT hZ389 (hw _ (List.mem_of_getElem? (i := 39) rfl))) (by decide) (backOf (W := 0) (rm_sbappend l Z a0 hw [] b419 a1 ta ([] : List Int32) La 16 k_424 zc a3_424 T424.heap f435 f424_0 f424_1 f424_2 f424_3 f434 f424_4 st_COMPACT_STRINGS (by first | assumption | decide) (by (try simp only [List.length_append, List.length_cons, List.length_nil]); omega) (by decide) (by show @Ne Nat ta a3_424; omega) (by omega) (by omega) hl1) hZ389 (hw _ (List.mem_of_getElem? (i := 41) rfl)) (hw _ (List.mem_of_getElem? (i := 19) rfl)) (by decide) (by decide)) q430a q430c (g := (mkF m 48 #[.val (.ref a1), .val (.ref a2), .val (.ref a3), .val (.ref x_402)] [(.ref a1), (.ref b419)])) rfl (by rw [hml]; rfl) (Steps.refl _) (argsL := [(.ref a1)]) (rest := []) (lenOf pd_300 rfl) rfl (by show 2 * 0 + _ ≤ _; exact Nat.le_of_eq rfl) (hb hby d_prog_4_method_7_48) (fun _ _ => ⟨rfl, rfl, (by decide : 10 + 0 ≤ _), (by decide : 80 + 0 ≤ _)⟩)
    dsimp only [Pt.U, Pt.locs, Pt.cells, Pt.slots] at X430 l430 y430 z430 st430 hQ430
    subst l430 y430 z430
    obtain ⟨rfl, N430q, K430, f430_0, f430_1, f430_2, f430_3, f430_4⟩ := hQ430
    have N430 := Fr.app N424 N430q
    have Sf436 : Safe Z consts_1 T389.vm T424.heap b419 := Safe.exa hZ389.alike f424_0 (by decide) (by decide)
    have z430 : T424.heap.size ≤ T430.heap.size := K430.1
    have R430 : CHr Z consts_1 s.vm h0 T389.vm T430.heap := R424.trans (CHr.keep K430 (sfS Sf436 (sfS Sf429 sf0)) R424.1)
    have Sf437 : Safe Z consts_1 T389.vm T430.heap a3_352 := Safe.keep K430 (sfS Sf436 (sfS Sf429 sf0)) R424.1 Sf428
    have Sf438 : Safe Z consts_1 T389.vm T430.heap a3_424 := Safe.keep K430 (sfS Sf436 (sfS Sf429 sf0)) R424.1 Sf429
    have lt430_0 : @LT.lt Nat _ b419 T430.heap.size := f430_0.lt
    have lt430_1 : @LT.lt Nat _ b419 T430.heap.size := f430_1.lt
    have lt430_2 : @LT.lt Nat _ b419 T430.heap.size := f430_2.lt
    have lt430_3 : @LT.lt Nat _ b419 T430.heap.size := f430_3.lt
    have lt430_4 : @LT.lt Nat _ a3_424 T430.heap.size := f430_4.lt
    refine own_Go.tr st430 ?_
    show own_Go _ _ _ _ (T430.setTop (mkF m 51 #[.val (.ref a1), .val (.ref a2), .val (.ref a3), .val (.ref x_402)] [(.ref b419)]))
    obtain ⟨a439, T439, h439, kk439, t439, kb439, X439, e439, E439, hS439, hk439, hZ439, hown439, A439, C439, V439, B439, la439, lb439, ch439, Li439, sf439, st439⟩ := ldcCH X430 hx hZ389 hown389 (hw _ (List.mem_of_getElem? (i := 180) rfl)) wS rfl hS389 (by omega) hEL (by decide) R430.1 (vs := [(.int (44 : Int32))]) (z := (1 : Int32)) (by decide) (by decide) (by decide) (g := (mkF m 51 #[.val (.ref a1), .val (.ref a2), .val (.ref a3), .val (.ref x_402)] [(.ref b419)])) rfl (hb hby d_prog_4_method_7_51) (n := 4) (by decide) (by decide) (by decide) (by decide)
    refine own_Go.st st439 ?_
    have z439 : T430.heap.size ≤ h439.size := E439.1
    have la439' : @LT.lt Nat _ a439 h439.size := la439
    have lb439' : @LT.lt Nat _ t439 h439.size := lb439
    have R439 : CHr Z consts_1 s.vm h0 T439.vm h439 := R430.trans ch439
    have Sf440 : Safe Z consts_1 T439.vm h439 a3_352 := ch439.safe (by show @LT.lt Nat _ a3_352 _; omega) Sf437
    have Sf441 : Safe Z consts_1 T439.vm h439 a3_424 := ch439.safe (by show @LT.lt Nat _ a3_424 _; omega) Sf438
    have fT439 : own_Str Z h439 a439 t439 ([(44 : Int32)] : List Int32) := ⟨kb439, 0, (1 : Int32), [(.int (44 : Int32))], A439, V439, C439, B439, Or.inl ⟨rfl, rfl, rfl, (by decide)⟩, (by decide), (by decide)⟩
    have nl442 := sf439 a3_352 Sf440
    have nl442a : @Ne Nat a3_352 a439 := nl442.1
    have nl442b : @Ne Nat a3_352 t439 := nl442.2
    have nl443 := sf439 a3_424 Sf441
    have nl443a : @Ne Nat a3_424 a439 := nl443.1
    have nl443b : @Ne Nat a3_424 t439 := nl443.2
    show own_Go _ _ _ _ (T439.setTop (mkF m 53 #[.val (.ref a1), .val (.ref a2), .val (.ref a3), .val (.ref x_402)] [(.ref a439), (.ref b419)]))
    have f445 : Exa Z h439 b419 "java/lang/StringBuilder" := f430_0.ext E439
    have f446 : Fld Z h439 b419 "java/lang/AbstractStringBuilder" "value" "[B" (.ref a3_424) := f430_1.ext E439
    have f447 : Fld Z h439 b419 "java/lang/AbstractStringBuilder" "coder" "B" (.int (0 : Int32)) := f430_2.ext E439
    have f448 : Fld Z h439 b419 "java/lang/AbstractStringBuilder" "count" "I" (.int (Int32.ofNat (([] : List Int32) ++ La).length)) := f430_3.ext E439
    have f449 : Arv Z h439 a3_424 k_424 .byte (Int32.ofNat 16) (own_low (([] : List Int32) ++ La)) (.int (0 : Int32)) := f430_4.ext E439
    have f450 : Old Z Z.heap.size T430.heap := f435.keep K430 (allS (by omega) (allS (by omega) all0))
    have f451 : Old Z Z.heap.size h439 := f450.ext E439
    obtain ⟨cq444, kq444, q444a, q444b, q444c⟩ := isOf hZ439 e439 f445
    obtain ⟨_, _, ⟨T444, L444, k444, n444⟩, -, X444, ⟨Lc444, hQ444, l444, y444, z444⟩, st444⟩ := X439.virtualBack hx (y := (⟨"java/lang/StringBuilder", "append", "(Ljava/lang/String;)Ljava/lang/StringBuilder;"⟩ : MethodName)) (z := (⟨"java/lang/StringBuilder", "append", "(Ljava/lang/String;)Ljava/lang/StringBuilder;"⟩ : MethodName)) hown439 (mvT hZ439 (hw _ (List.mem_of_getElem? (i := 37) rfl))) (mvT hZ439 (hw _ (List.mem_of_getElem? (i := 38) rfl))) (notFace_of_selects (args := #[]) (mvT hZ439 (hw _ (List.mem_of_getElem? (i := 40) rfl)))) (mvT hZ439 (hw _ (List.mem_of_getElem? (i := 40) rfl))) (mvT hZ439 (hw _ (List.mem_of_getElem? (i := 39) rfl))) (by decide) (backOf (W := 0) (rm_sbappend l Z a0 hw [] b419 a439 t439 (([] : List Int32) ++ La) ([(44 : Int32)] : List Int32) 16 k_424 zc a3_424 h439 f451 f445 f446 f447 f448 fT439 f449 st_COMPACT_STRINGS (by first | assumption | decide) (by (try simp only [List.length_append, List.length_cons, List.length_nil]); omega) (by decide) (Ne.symm nl443b) (by omega) (by omega) (by decide)) hZ439 (hw _ (List.mem_of_getElem? (i := 41) rfl)) (hw _ (List.mem_of_getElem? (i := 19) rfl)) (by decide) (by decide)) q444a q444c (g := (mkF m 53 #[.val (.ref a1), .val (.ref a2), .val (.ref a3), .val (.ref x_402)] [(.ref a439), (.ref b419)])) rfl (by rw [hml]; rfl) (Steps.refl _) (argsL := [(.ref a439)]) (rest := []) (lenOf pd_300 rfl) rfl (by show 2 * 0 + _ ≤ _; exact Nat.le_of_eq rfl) (hb hby d_prog_4_method_7_53) (fun _ _ => ⟨rfl, e439, (by decide : 12 + 0 ≤ _), (by decide : 88 + 0 ≤ _)⟩)
    dsimp only [Pt.U, Pt.locs, Pt.cells, Pt.slots] at X444 l444 y444 z444 st444 hQ444
    subst l444 y444 z444
    obtain ⟨rfl, N444q, K444, f444_0, f444_1, f444_2, f444_3, f444_4⟩ := hQ444
    have N444 := Fr.app N430 N444q
    have Sf452 : Safe Z consts_1 T439.vm h439 b419 := Safe.exa hZ439.alike f445 (by decide) (by decide)
    have z444 : h439.size ≤ T444.heap.size := K444.1
    have R444 : CHr Z consts_1 s.vm h0 T439.vm T444.heap := R439.trans (CHr.keep K444 (sfS Sf452 (sfS Sf441 sf0)) R439.1)
    have Sf453 : Safe Z consts_1 T439.vm T444.heap a3_352 := Safe.keep K444 (sfS Sf452 (sfS Sf441 sf0)) R439.1 Sf440
    have Sf454 : Safe Z consts_1 T439.vm T444.heap a3_424 := Safe.keep K444 (sfS Sf452 (sfS Sf441 sf0)) R439.1 Sf441
    have lt444_0 : @LT.lt Nat _ b419 T444.heap.size := f444_0.lt
    have lt444_1 : @LT.lt Nat _ b419 T444.heap.size := f444_1.lt
    have lt444_2 : @LT.lt Nat _ b419 T444.heap.size := f444_2.lt
    have lt444_3 : @LT.lt Nat _ b419 T444.heap.size := f444_3.lt
    have lt444_4 : @LT.lt Nat _ a3_424 T444.heap.size := f444_4.lt
    refine own_Go.tr st444 ?_
    show own_Go _ _ _ _ (T444.setTop (mkF m 56 #[.val (.ref a1), .val (.ref a2), .val (.ref a3), .val (.ref x_402)] [(.ref b419)]))
    refine own_Go.st (fun _ k => XS.aloadN X444.here hx rfl (hb hby d_prog_4_method_7_56) rfl rfl k) ?_
    show own_Go _ _ _ _ (T444.setTop (mkF m 57 #[.val (.ref a1), .val (.ref a2), .val (.ref a3), .val (.ref x_402)] [(.ref x_402), (.ref b419)]))
    have f456 : own_Str Z h419 x_402 t_402 ((((([] : List Int32) ++ Lb) ++ ([(61 : Int32), (34 : Int32)] : List Int32)) ++ Ld) ++ ([(34 : Int32)] : List Int32)) := f402_0.ext E419
    have ne457 : @Ne Nat x_402 b419 := Exa.ne f456.exa A419 (by decide)
    have ne458 : @Ne Nat b419 t_402 := own_Str.neV f456 A419 (hw _ (List.mem_of_getElem? (i := 18) rfl))
    have f459 : own_Str Z T424.heap x_402 t_402 ((((([] : List Int32) ++ Lb) ++ ([(61 : Int32), (34 : Int32)] : List Int32)) ++ Ld) ++ ([(34 : Int32)] : List Int32)) := f456.keep K424 (ninS ne457 nin0) (ninS (Ne.symm ne458) nin0)
    have ne460 : @Ne Nat x_402 a3_424 := Exa.neArv f459.exa f424_4 (hw _ (List.mem_of_getElem? (i := 6) rfl))
    have f461 : own_Str Z T430.heap x_402 t_402 ((((([] : List Int32) ++ Lb) ++ ([(61 : Int32), (34 : Int32)] : List Int32)) ++ Ld) ++ ([(34 : Int32)] : List Int32)) := f459.keep K430 (ninS ne457 (ninS ne460 nin0)) (ninS (Ne.symm ne458) (ninS (by show @Ne Nat t_402 a3_424; omega) nin0))
    have f462 : own_Str Z h439 x_402 t_402 ((((([] : List Int32) ++ Lb) ++ ([(61 : Int32), (34 : Int32)] : List Int32)) ++ Ld) ++ ([(34 : Int32)] : List Int32)) := f461.ext E439
    have f463 : own_Str Z T444.heap x_402 t_402 ((((([] : List Int32) ++ Lb) ++ ([(61 : Int32), (34 : Int32)] : List Int32)) ++ Ld) ++ ([(34 : Int32)] : List Int32)) := f462.keep K444 (ninS ne457 (ninS ne460 nin0)) (ninS (Ne.symm ne458) (ninS (by show @Ne Nat t_402 a3_424; omega) nin0))
    have f464 : Old Z Z.heap.size T444.heap := f451.keep K444 (allS (by omega) (allS (by omega) all0))
    obtain ⟨cq455, kq455, q455a, q455b, q455c⟩ := isOf hZ439 rfl f444_0
    obtain ⟨_, _, ⟨T455, L455, k455, n455⟩, -, X455, ⟨Lc455, hQ455, l455, y455, z455⟩, st455⟩ := X444.virtualBack hx (y := (⟨"java/lang/StringBuilder", "append", "(Ljava/lang/String;)Ljava/lang/StringBuilder;"⟩ : MethodName)) (z := (⟨"java/lang/StringBuilder", "append", "(Ljava/lang/String;)Ljava/lang/StringBuilder;"⟩ : MethodName)) hown439 (mvT hZ439 (hw _ (List.mem_of_getElem? (i := 37) rfl))) (mvT hZ439 (hw _ (List.mem_of_getElem? (i := 38) rfl))) (notFace_of_selects (args := #[]) (mvT hZ439 (hw _ (List.mem_of_getElem? (i := 40) rfl)))) (mvT hZ439 (hw _ (List.mem_of_getElem? (i := 40) rfl))) (mvT hZ439 (hw _ (List.mem_of_getElem? (i := 39) rfl))) (by decide) (backOf (W := 0) (rm_sbappend l Z a0 hw [] b419 x_402 t_402 ((([] : List Int32) ++ La) ++ ([(44 : Int32)] : List Int32)) ((((([] : List Int32) ++ Lb) ++ ([(61 : Int32), (34 : Int32)] : List Int32)) ++ Ld) ++ ([(34 : Int32)] : List Int32)) 16 k_424 zc a3_424 T444.heap f464 f444_0 f444_1 f444_2 f444_3 f463 f444_4 st_COMPACT_STRINGS (by first | assumption | decide) (by (try simp only [List.length_append, List.length_cons, List.length_nil]); omega) (by decide) (by show @Ne Nat t_402 a3_424; omega) (by omega) (by omega) (own_latA (own_latA (own_latA (own_latA own_lat0 hl2) (by decide)) hl3) (by decide))) hZ439 (hw _ (List.mem_of_getElem? (i := 41) rfl)) (hw _ (List.mem_of_getElem? (i := 19) rfl)) (by decide) (by decide)) q455a q455c (g := (mkF m 57 #[.val (.ref a1), .val (.ref a2), .val (.ref a3), .val (.ref x_402)] [(.ref x_402), (.ref b419)])) rfl (by rw [hml]; rfl) (Steps.refl _) (argsL := [(.ref x_402)]) (rest := []) (lenOf pd_300 rfl) rfl (by show 2 * 0 + _ ≤ _; exact Nat.le_of_eq rfl) (hb hby d_prog_4_method_7_57) (fun _ _ => ⟨rfl, rfl, (by decide : 12 + 0 ≤ _), (by decide : 88 + 0 ≤ _)⟩)
    dsimp only [Pt.U, Pt.locs, Pt.cells, Pt.slots] at X455 l455 y455 z455 st455 hQ455
    subst l455 y455 z455
    obtain ⟨rfl, N455q, K455, f455_0, f455_1, f455_2, f455_3, f455_4⟩ := hQ455
    have N455 := Fr.app N444 N455q
    have Sf465 : Safe Z consts_1 T439.vm T444.heap b419 := Safe.exa hZ439.alike f444_0 (by decide) (by decide)
    have z455 : T444.heap.size ≤ T455.heap.size := K455.1
    have R455 : CHr Z consts_1 s.vm h0 T439.vm T455.heap := R444.trans (CHr.keep K455 (sfS Sf465 (sfS Sf454 sf0)) R444.1)
    have Sf466 : Safe Z consts_1 T439.vm T455.heap a3_352 := Safe.keep K455 (sfS Sf465 (sfS Sf454 sf0)) R444.1 Sf453
    have Sf467 : Safe Z consts_1 T439.vm T455.heap a3_424 := Safe.keep K455 (sfS Sf465 (sfS Sf454 sf0)) R444.1 Sf454
    have lt455_0 : @LT.lt Nat _ b419 T455.heap.size := f455_0.lt
    have lt455_1 : @LT.lt Nat _ b419 T455.heap.size := f455_1.lt
    have lt455_2 : @LT.lt Nat _ b419 T455.heap.size := f455_2.lt
    have lt455_3 : @LT.lt Nat _ b419 T455.heap.size := f455_3.lt
    have lt455_4 : @LT.lt Nat _ a3_424 T455.heap.size := f455_4.lt
    refine own_Go.tr st455 ?_
    show own_Go _ _ _ _ (T455.setTop (mkF m 60 #[.val (.ref a1), .val (.ref a2), .val (.ref a3), .val (.ref x_402)] [(.ref b419)]))
    have f469 : Old Z Z.heap.size T455.heap := f464.keep K455 (allS (by omega) (allS (by omega) all0))
    obtain ⟨cq468, kq468, q468a, q468b, q468c⟩ := isOf hZ439 rfl f455_0
    obtain ⟨_, _, ⟨T468, L468, k468, n468⟩, -, X468, ⟨Lc468, hQ468, l468, y468, z468⟩, st468⟩ := X455.virtualBack hx (y := (⟨"java/lang/StringBuilder", "toString", "()Ljava/lang/String;"⟩ : MethodName)) (z := (⟨"java/lang/StringBuilder", "toString", "()Ljava/lang/String;"⟩ : MethodName)) hown439 (mvT hZ439 (hw _ (List.mem_of_getElem? (i := 89) rfl))) (mvT hZ439 (hw _ (List.mem_of_getElem? (i := 90) rfl))) (notFace_of_selects (args := #[]) (mvT hZ439 (hw _ (List.mem_of_getElem? (i := 92) rfl)))) (mvT hZ439 (hw _ (List.mem_of_getElem? (i := 92) rfl))) (mvT hZ439 (hw _ (List.mem_of_getElem? (i := 91) rfl))) (by decide) (backOf (W := 0) (rm_tostr l Z a0 hw [] b419 (((([] : List Int32) ++ La) ++ ([(44 : Int32)] : List Int32)) ++ ((((([] : List Int32) ++ Lb) ++ ([(61 : Int32), (34 : Int32)] : List Int32)) ++ Ld) ++ ([(34 : Int32)] : List Int32))) 16 a3_424 k_424 zc T455.heap f469 f455_0 f455_1 f455_2 f455_3 f455_4 st_COMPACT_STRINGS (by first | assumption | decide) (by (try simp only [List.length_append, List.length_cons, List.length_nil]); omega) (by decide) (by (try simp only [List.length_append, List.length_cons, List.length_nil]); omega) (own_latA (own_latA (own_latA own_lat0 hl1) (by decide)) (own_latA (own_latA (own_latA (own_latA own_lat0 hl2) (by decide)) hl3) (by decide)))) hZ439 (hw _ (List.mem_of_getElem? (i := 93) rfl)) (hw _ (List.mem_of_getElem? (i := 19) rfl)) (by decide) (by decide)) q468a q468c (g := (mkF m 60 #[.val (.ref a1), .val (.ref a2), .val (.ref a3), .val (.ref x_402)] [(.ref b419)])) rfl (by rw [hml]; rfl) (Steps.refl _) (argsL := []) (rest := []) (lenOf pd_308 rfl) rfl (by show 2 * 0 + _ ≤ _; exact Nat.le_of_eq rfl) (hb hby d_prog_4_method_7_60) (fun _ _ => ⟨rfl, rfl, (by decide : 12 + 2 ≤ _), (by decide : 88 + 20 ≤ _)⟩)
    dsimp only [Pt.U, Pt.locs, Pt.cells, Pt.slots] at X468 l468 y468 z468 st468 hQ468
    subst l468 y468 z468
    obtain ⟨x_468, t_468, rfl, N468q, K468, f468_0, pr468_0, pr468_1⟩ := hQ468
    have N468 := Fr.app N455 N468q
    have z468 : T455.heap.size ≤ T468.heap.size := K468.1
    have R468 : CHr Z consts_1 s.vm h0 T439.vm T468.heap := R455.trans (CHr.keep K468 sf0 R455.1)
    have Sf470 : Safe Z consts_1 T439.vm T468.heap a3_352 := Safe.keep K468 sf0 R455.1 Sf466
    have Sf471 : Safe Z consts_1 T439.vm T468.heap a3_424 := Safe.keep K468 sf0 R455.1 Sf467
    have lt468_0 : @LT.lt Nat _ x_468 T468.heap.size := f468_0.lt
    have ltv468_0 : @LT.lt Nat _ t_468 T468.heap.size := f468_0.ltv
    refine own_Go.tr st468 ?_
    show own_Go _ _ _ _ (T468.setTop (mkF m 63 #[.val (.ref a1), .val (.ref a2), .val (.ref a3), .val (.ref x_402)] [(.ref x_468)]))
    obtain ⟨fs472, hr472, hrun472, hend472, hret472⟩ := X468.leaveW hS439 (by omega) (v := some (.ref x_468)) (fun h => by rw [Bd.returns] at h; cases h)
    have f473 : own_Str Z T468.heap x_468 t_468 (own_wl La Lb Ld) := by
      have h0_ : ¬ La.length = 0 := fun q => by rw [if_pos q] at h33; exact absurd h33 (by decide)
      have q := f468_0
      unfold own_wl
      rw [if_neg h0_]
      simpa using q
    have K474 : Keep h0 h348 [] := (Keep.refl h0 []).ext E348
    have K475 : Keep h0 T352.heap [] := K474.trans K352 (allS (Or.inr (by omega)) all0)
    have K476 : Keep h0 T356.heap [] := K475.trans K356 (allS (Or.inr (by omega)) (allS (Or.inr (by omega)) all0))
    have K477 : Keep h0 h364 [] := K476.ext E364
    have K478 : Keep h0 T367.heap [] := K477.trans K367 (allS (Or.inr (by omega)) (allS (Or.inr (by omega)) all0))
    have K479 : Keep h0 T377.heap [] := K478.trans K377 (allS (Or.inr (by omega)) (allS (Or.inr (by omega)) all0))
    have K480 : Keep h0 h389 [] := K479.ext E389
    have K481 : Keep h0 T392.heap [] := K480.trans K392 (allS (Or.inr (by omega)) (allS (Or.inr (by omega)) all0))
    have K482 : Keep h0 T402.heap [] := K481.trans K402 all0
    have K483 : Keep h0 h419 [] := K482.ext E419
    have K484 : Keep h0 T424.heap [] := K483.trans K424 (allS (Or.inr (by omega)) all0)
    have K485 : Keep h0 T430.heap [] := K484.trans K430 (allS (Or.inr (by omega)) (allS (Or.inr (by omega)) all0))
    have K486 : Keep h0 h439 [] := K485.ext E439
    have K487 : Keep h0 T444.heap [] := K486.trans K444 (allS (Or.inr (by omega)) (allS (Or.inr (by omega)) all0))
    have K488 : Keep h0 T455.heap [] := K487.trans K455 (allS (Or.inr (by omega)) (allS (Or.inr (by omega)) all0))
    have K489 : Keep h0 T468.heap [] := K488.trans K468 all0
    subst hPP
    refine ⟨_, _, own_retA X468 hx Bd.returns rfl rfl (hb hby d_prog_4_method_7_63) hr472, hrun472, hend472, _, _, rfl, ?_, ?_, hret472.1, hret472.2.1, hret472.2.2.1, hret472.2.2.2.mono (by decide) (by decide)⟩
    · show Q_withLabel Z _ _ _ _ _ _ _ _ _ _ h0 _ T468.heap _
      exact ⟨x_468, t_468, rfl, N468, K489, f473⟩
    · have hfin := R468.trans (CHv.at X468 hZ439 hEL R468.1)
      rw [← hh] at hfin
      show CHr Z consts_1 s.vm s.heap T468.vm T468.heap
      exact hfin
  ·
    refine own_Go.st (fun _ k => XS.ifNo X405.here hx rfl (hb hby d_prog_4_method_7_33) rfl ((if0 _ _).trans (feq h33).1) k) ?_
    show own_Go _ _ _ _ (T405.setTop (mkF m 36 #[.val (.ref a1), .val (.ref a2), .val (.ref a3), .val (.ref x_402)] []))
    refine own_Go.st (fun _ k => XS.aloadN X405.here hx rfl (hb hby d_prog_4_method_7_36) rfl rfl k) ?_
    show own_Go _ _ _ _ (T405.setTop (mkF m 37 #[.val (.ref a1), .val (.ref a2), .val (.ref a3), .val (.ref x_402)] [(.ref x_402)]))
    refine own_Go.st (fun _ k => XS.goto X405.here hx rfl (pc0 := 37) (pc' := 63) rfl (hb hby d_prog_4_method_7_37) (by decide) (by decide) k) ?_
    show own_Go _ _ _ _ (T405.setTop (mkF m 63 #[.val (.ref a1), .val (.ref a2), .val (.ref a3), .val (.ref x_402)] [(.ref x_402)]))
    obtain ⟨fs490, hr490, hrun490, hend490, hret490⟩ := X405.leaveW hS389 (by rw [K405]; exact (by omega)) (v := some (.ref x_402)) (fun h => by rw [Bd.returns] at h; cases h)
    have f491 : own_Str Z T402.heap x_402 t_402 (own_wl La Lb Ld) := by
      have h0_ : La.length = 0 := by
        by_cases q : La.length = 0
        · exact q
        · rw [if_neg q] at h33; exact absurd rfl h33
      have q := f402_0
      unfold own_wl
      rw [if_pos h0_]
      simpa using q
    have K492 : Keep h0 h348 [] := (Keep.refl h0 []).ext E348
    have K493 : Keep h0 T352.heap [] := K492.trans K352 (allS (Or.inr (by omega)) all0)
    have K494 : Keep h0 T356.heap [] := K493.trans K356 (allS (Or.inr (by omega)) (allS (Or.inr (by omega)) all0))
    have K495 : Keep h0 h364 [] := K494.ext E364
    have K496 : Keep h0 T367.heap [] := K495.trans K367 (allS (Or.inr (by omega)) (allS (Or.inr (by omega)) all0))
    have K497 : Keep h0 T377.heap [] := K496.trans K377 (allS (Or.inr (by omega)) (allS (Or.inr (by omega)) all0))
    have K498 : Keep h0 h389 [] := K497.ext E389
    have K499 : Keep h0 T392.heap [] := K498.trans K392 (allS (Or.inr (by omega)) (allS (Or.inr (by omega)) all0))
    have K500 : Keep h0 T402.heap [] := K499.trans K402 all0
    subst hPP
    refine ⟨_, _, own_retA X405 hx Bd.returns rfl rfl (hb hby d_prog_4_method_7_63) hr490, hrun490, hend490, _, _, rfl, ?_, ?_, hret490.1, hret490.2.1, hret490.2.2.1, hret490.2.2.2.mono (by decide) (by decide)⟩
    · show Q_withLabel Z _ _ _ _ _ _ _ _ _ _ h0 _ T405.heap _
      rw [K405]
      exact ⟨x_402, t_402, rfl, N405, K500, f491⟩
    · have hfin := R402.trans (CHv.at X405 hZ389 hEL R402.1)
      rw [← hh] at hfin
      show CHr Z consts_1 s.vm s.heap T405.vm T405.heap
      rw [K405]
      exact hfin
theorem d_method_3_0 : decode method_3_code 0 = .ok (.iload_n 3, 1) := by decide +kernel
theorem d_method_3_1 : decode method_3_code 1 = .ok (.iload_n 2, 1) := by decide +kernel
theorem d_method_3_2 : decode method_3_code 2 = .ok (.if_icmp .ge 14, 3) := by decide +kernel
theorem d_method_3_5 : decode method_3_code 5 = .ok (.aload_n 0, 1) := by decide +kernel
theorem d_method_3_6 : decode method_3_code 6 = .ok (.iload_n 3, 1) := by decide +kernel
theorem pd_332 : parseMethodDescriptor "(I)C" = some ⟨[.int], some .char⟩ := by decide +kernel
theorem d_method_3_7 : decode method_3_code 7 = .ok (.invokevirtual 29, 3) := by decide +kernel
theorem d_method_3_10 : decode method_3_code 10 = .ok (.aload_n 1, 1) := by decide +kernel
theorem d_method_3_11 : decode method_3_code 11 = .ok (.iload_n 3, 1) := by decide +kernel
theorem d_method_3_12 : decode method_3_code 12 = .ok (.caload, 1) := by decide +kernel
theorem d_method_3_13 : decode method_3_code 13 = .ok (.if_icmp .ne 7, 3) := by decide +kernel
theorem d_method_3_16 : decode method_3_code 16 = .ok (.iconst 1, 1) := by decide +kernel
theorem d_method_3_17 : decode method_3_code 17 = .ok (.goto 4, 3) := by decide +kernel
theorem d_method_3_21 : decode method_3_code 21 = .ok (.ireturn, 1) := by decide +kernel
def Q_at_ (Z : State) (a1 : Nat) (a2 : Nat) (p3 : Int32) (p4 : Int32) (i : Nat) (t1 : Nat) (es : List Int32) (k : ClassId) (zc : Int32) (fm : Value) (h0 : Heap) (v : Option Value) (h : Heap) (L : List Loc) : Prop := v = some (.int (1 : Int32)) ∧ Fr Z.heap.size L ∧ h = h0
set_option maxRecDepth 65536 in
set_option maxHeartbeats 40000000 in
theorem rm_at_ (l : Launch) (Z : State) (a0 : Array Value) (hw : ∀ d ∈ tables_1, d.before a0 Z = true) (ws : List Jvm.Cond) (a1 : Nat) (a2 : Nat) (p3 : Int32) (p4 : Int32) (i : Nat) (t1 : Nat) (es : List Int32) (k : ClassId) (zc : Int32) (fm : Value) (h0 : Heap) (OL : Old Z Z.heap.size h0) (p0_ : own_Str Z h0 a1 t1 es) (p1_ : Arv Z h0 a2 k .char (10 : Int32) (es.map Value.int) (.int (0 : Int32))) (st_COMPACT_STRINGS : Sta Z Z.heap "java/lang/String" "COMPACT_STRINGS" "Z" (.int zc)) (st_SIOOBE_FORMATTER : Sta Z Z.heap "jdk/internal/util/Preconditions" "SIOOBE_FORMATTER" "Ljava/util/function/BiFunction;" fm) (hzc : ¬ zc = 0) (hfm : fm.isRef = true) (hp3 : p3 = Int32.ofNat es.length) (hp4 : p4 = Int32.ofNat i) (hik : i < 10 ∧ es.length ≤ 10) (hl1 : ∀ c ∈ es, ¬ c < 0 ∧ ¬ (255 : Int32) < c) :
    MetFree l (⟨"com/example/net30/net30/metrics/FamilyWithLabelPinLaw", "at", "(Ljava/lang/String;[CII)Z"⟩ : MethodName) (head1 (Jvm.Cond.code (⟨"com/example/net30/net30/metrics/FamilyWithLabelPinLaw", "at", "(Ljava/lang/String;[CII)Z"⟩ : MethodName) method_3_code 4 (some .boolean) :: ws) ({ frames := 4, cells := 0, slots := 0, locals := 55 } : Room)) (fun a U => a = #[(.ref a1), (.ref a2), (.int p3), (.int p4)] ∧ Z.Warmed39 U.vm ∧ U.heap = h0) (fun _ _ _ _ _ => True) (fun _ U o U' => ∃ v L, o = .returned v ∧ Q_at_ Z a1 a2 p3 p4 i t1 es k zc fm h0 v U'.heap L ∧ FrameEnd U o U' L ({ frames := 4, cells := 0, slots := 0, locals := 55 } : Room).cells ({ frames := 4, cells := 0, slots := 0, locals := 55 } : Room).slots) := by
  refine MetFree.of_bodySF (plainFor_of_name pn_265) hisR ?_
  intro p e s m args below meth c s₁ Bd hml0 hP hK
  obtain ⟨rfl, hZ, hh⟩ := hP
  have hx := Bd.exec
  have hby := Bd.bytes
  have hml : c.maxLocals = 4 := hml0
  have hown : s.vm.findClass "com/example/net30/net30/metrics/FamilyWithLabelPinLaw" = some m.cls := findClass_of_methodNamed Bd.named
  have hnm := (name_of_methodNamed Bd.named Bd.method).1
  have X0 : Stand p l e ({ frames := 4, cells := 0, slots := 0, locals := 55 } : Room) s m #[(.ref a1), (.ref a2), (.int p3), (.int p4)] below meth c s₁ [] 0 0 := Stand.of_body Bd
  have e0 : s₁.heap = h0 := by rw [← hh, Bd.state]; rfl
  have N0 := Fr.nil Z.heap.size
  have Z0 : Z.heap.size ≤ h0.size := OL.2.1
  have lt_0 : @LT.lt Nat _ a1 h0.size := p0_.lt
  have ltv_0 : @LT.lt Nat _ t1 h0.size := p0_.ltv
  have lt_1 : @LT.lt Nat _ a2 h0.size := p1_.lt
  obtain ⟨PP, hPP⟩ : ∃ PP : Outcome → State → Prop, PP = (fun o tE => ∃ v L, o = .returned v ∧ Q_at_ Z a1 a2 p3 p4 i t1 es k zc fm h0 v tE.heap L ∧ FrameEnd s o tE L ({ frames := 4, cells := 0, slots := 0, locals := 55 } : Room).cells ({ frames := 4, cells := 0, slots := 0, locals := 55 } : Room).slots) := ⟨_, rfl⟩
  show own_Go p.tables e below (fun o tE => ∃ v L, o = .returned v ∧ Q_at_ Z a1 a2 p3 p4 i t1 es k zc fm h0 v tE.heap L ∧ FrameEnd s o tE L ({ frames := 4, cells := 0, slots := 0, locals := 55 } : Room).cells ({ frames := 4, cells := 0, slots := 0, locals := 55 } : Room).slots) (s₁.setTop (entryFrame m #[(.ref a1), (.ref a2), (.int p3), (.int p4)] 4))
  rw [← hPP]
  refine own_Go.st (fun t k => castTop (ef_39 m a1 a2 p3 p4) k) ?_
  subst hp3 hp4
  show own_Go _ _ _ _ (s₁.setTop (mkF m 0 #[.val (.ref a1), .val (.ref a2), .val (.int (Int32.ofNat es.length)), .val (.int (Int32.ofNat i))] []))
  refine own_Go.st (fun _ k => XS.iloadN X0.here hx rfl (hb hby d_method_3_0) rfl k) ?_
  show own_Go _ _ _ _ (s₁.setTop (mkF m 1 #[.val (.ref a1), .val (.ref a2), .val (.int (Int32.ofNat es.length)), .val (.int (Int32.ofNat i))] [(.int (Int32.ofNat i))]))
  refine own_Go.st (fun _ k => XS.iloadN X0.here hx rfl (hb hby d_method_3_1) rfl k) ?_
  show own_Go _ _ _ _ (s₁.setTop (mkF m 2 #[.val (.ref a1), .val (.ref a2), .val (.int (Int32.ofNat es.length)), .val (.int (Int32.ofNat i))] [(.int (Int32.ofNat es.length)), (.int (Int32.ofNat i))]))
  by_cases h2 : (Int32.ofNat i) < (Int32.ofNat es.length)
  ·
    refine own_Go.st (fun _ k => XS.icmpNo X0.here hx rfl (hb hby d_method_3_2) rfl (tlt h2).2.1 k) ?_
    show own_Go _ _ _ _ (s₁.setTop (mkF m 5 #[.val (.ref a1), .val (.ref a2), .val (.int (Int32.ofNat es.length)), .val (.int (Int32.ofNat i))] []))
    have hq : i < es.length := (own_oflt (by omega) (by omega)).mp h2
    refine own_Go.st (fun _ k => XS.aloadN X0.here hx rfl (hb hby d_method_3_5) rfl rfl k) ?_
    show own_Go _ _ _ _ (s₁.setTop (mkF m 6 #[.val (.ref a1), .val (.ref a2), .val (.int (Int32.ofNat es.length)), .val (.int (Int32.ofNat i))] [(.ref a1)]))
    refine own_Go.st (fun _ k => XS.iloadN X0.here hx rfl (hb hby d_method_3_6) rfl k) ?_
    show own_Go _ _ _ _ (s₁.setTop (mkF m 7 #[.val (.ref a1), .val (.ref a2), .val (.int (Int32.ofNat es.length)), .val (.int (Int32.ofNat i))] [(.int (Int32.ofNat i)), (.ref a1)]))
    obtain ⟨kb502, N502_, vs502, s1502, s2502, s3502, s4502, s5502⟩ := own_Str.lat p0_ (fun c q => (hl1 c q).2)
    obtain ⟨cq501, kq501, q501a, q501b, q501c⟩ := isOf hZ e0 p0_.exa
    obtain ⟨_, _, ⟨T501, L501, k501, n501⟩, -, X501, ⟨Lc501, hQ501, l501, y501, z501⟩, st501⟩ := X0.virtualBack hx (y := (⟨"java/lang/String", "charAt", "(I)C"⟩ : MethodName)) (z := (⟨"java/lang/String", "charAt", "(I)C"⟩ : MethodName)) hown (mvT hZ (hw _ (List.mem_of_getElem? (i := 145) rfl))) (mvT hZ (hw _ (List.mem_of_getElem? (i := 146) rfl))) (notFace_of_selects (args := #[]) (mvT hZ (hw _ (List.mem_of_getElem? (i := 148) rfl)))) (mvT hZ (hw _ (List.mem_of_getElem? (i := 148) rfl))) (mvT hZ (hw _ (List.mem_of_getElem? (i := 147) rfl))) (by decide) (StrChars.Road.chN (W := 0) hZ (own_hch hw) (kI := 4) (hw _ (List.mem_of_getElem? (i := 6) rfl)) s1502 s2502 s3502 s4502 s5502 p0_.rng (st_COMPACT_STRINGS.ext OL.2) hzc (st_SIOOBE_FORMATTER.ext OL.2) hfm p0_.le (i := i) hq (j := (Int32.ofNat i)) rfl (by decide) (by decide)) q501a q501c (g := (mkF m 7 #[.val (.ref a1), .val (.ref a2), .val (.int (Int32.ofNat es.length)), .val (.int (Int32.ofNat i))] [(.int (Int32.ofNat i)), (.ref a1)])) rfl (by rw [hml]; rfl) (Steps.refl _) (argsL := [(.int (Int32.ofNat i))]) (rest := []) (lenOf pd_332 rfl) rfl (by show 2 * 0 + _ ≤ _; exact Nat.le_of_eq rfl) (hb hby d_method_3_7) (fun _ _ => ⟨rfl, e0, (by decide : 0 + 0 ≤ _), (by decide : 0 + 0 ≤ _)⟩)
    dsimp only [Pt.U, Pt.locs, Pt.cells, Pt.slots] at X501 l501 y501 z501 st501 hQ501
    subst l501 y501 z501
    obtain ⟨rfl, rfl, K501⟩ := hQ501
    have N501 := Fr.app N0 (Fr.nil Z.heap.size)
    refine own_Go.tr st501 ?_
    show own_Go _ _ _ _ (T501.setTop (mkF m 10 #[.val (.ref a1), .val (.ref a2), .val (.int (Int32.ofNat es.length)), .val (.int (Int32.ofNat i))] [(.int (es.getD i 0))]))
    refine own_Go.st (fun _ k => XS.aloadN X501.here hx rfl (hb hby d_method_3_10) rfl rfl k) ?_
    show own_Go _ _ _ _ (T501.setTop (mkF m 11 #[.val (.ref a1), .val (.ref a2), .val (.int (Int32.ofNat es.length)), .val (.int (Int32.ofNat i))] [(.ref a2), (.int (es.getD i 0))]))
    refine own_Go.st (fun _ k => XS.iloadN X501.here hx rfl (hb hby d_method_3_11) rfl k) ?_
    show own_Go _ _ _ _ (T501.setTop (mkF m 12 #[.val (.ref a1), .val (.ref a2), .val (.int (Int32.ofNat es.length)), .val (.int (Int32.ofNat i))] [(.int (Int32.ofNat i)), (.ref a2), (.int (es.getD i 0))]))
    obtain ⟨c503, Ar503, q503, S503, Nn503, H503, G503⟩ := id p1_
    have hin503 : ¬ ((Int32.ofNat i) < 0 ∨ c503.slots.size ≤ ((Int32.ofNat i)).toNatClampNeg) := inb_of S503 ⟨own_of0 (by omega), (own_oflt (j := 10) (by omega) (by omega)).mpr hik.1⟩
    have hat503 : c503.slots[((Int32.ofNat i)).toNatClampNeg]? = some (.int (es.getD i 0)) := H503.at hin503 (own_getD hq (by omega) _)
    refine own_Go.st (X501.caload hx (j := (Int32.ofNat i)) (v := (.int (es.getD i 0))) (by rw [K501]; exact Ar503.1) (State.isArrayOf_alike hZ.alike Ar503.2.1) Ar503.2.2 hin503 hat503 (g := (mkF m 12 #[.val (.ref a1), .val (.ref a2), .val (.int (Int32.ofNat es.length)), .val (.int (Int32.ofNat i))] [(.int (Int32.ofNat i)), (.ref a2), (.int (es.getD i 0))])) rfl rfl (hb hby d_method_3_12)) ?_
    show own_Go _ _ _ _ (T501.setTop (mkF m 13 #[.val (.ref a1), .val (.ref a2), .val (.int (Int32.ofNat es.length)), .val (.int (Int32.ofNat i))] [(.int (es.getD i 0)), (.int (es.getD i 0))]))
    have hc504 : (es.getD i 0) = (es.getD i 0) := rfl
    refine own_Go.st (fun _ k => XS.icmpNo X501.here hx rfl (hb hby d_method_3_13) rfl (teq hc504).2 k) ?_
    show own_Go _ _ _ _ (T501.setTop (mkF m 16 #[.val (.ref a1), .val (.ref a2), .val (.int (Int32.ofNat es.length)), .val (.int (Int32.ofNat i))] []))
    refine own_Go.st (fun _ k => XS.iconst X501.here hx rfl (hb hby d_method_3_16) k) ?_
    show own_Go _ _ _ _ (T501.setTop (mkF m 17 #[.val (.ref a1), .val (.ref a2), .val (.int (Int32.ofNat es.length)), .val (.int (Int32.ofNat i))] [(.int (1 : Int32))]))
    refine own_Go.st (fun _ k => XS.goto X501.here hx rfl (pc0 := 17) (pc' := 21) rfl (hb hby d_method_3_17) (by decide) (by decide) k) ?_
    show own_Go _ _ _ _ (T501.setTop (mkF m 21 #[.val (.ref a1), .val (.ref a2), .val (.int (Int32.ofNat es.length)), .val (.int (Int32.ofNat i))] [(.int (1 : Int32))]))
    obtain ⟨fs505, hr505, hrun505, hend505, hW505, hsm505⟩ := X501.leave (v := some (.int (nar .boolean (1 : Int32)))) (fun h => by rw [Bd.returns] at h; cases h)
    subst hPP
    refine ⟨_, _, retN X501 hx (t := .boolean) Bd.returns (by simp) (hb hby d_method_3_21) hr505, hrun505, hend505, _, _, rfl, ?_, ⟨_, rfl⟩, hW505, hsm505.mono (by decide) (by decide)⟩
    · show Q_at_ Z _ _ _ _ _ _ _ _ _ _ h0 _ T501.heap _
      rw [K501]
      exact ⟨rfl, N501, rfl⟩
  ·
    refine own_Go.st (fun _ k => XS.icmpYes X0.here hx rfl (pc0 := 2) (pc' := 16) rfl (hb hby d_method_3_2) rfl (flt h2).2.1 (by decide) (by decide) k) ?_
    show own_Go _ _ _ _ (s₁.setTop (mkF m 16 #[.val (.ref a1), .val (.ref a2), .val (.int (Int32.ofNat es.length)), .val (.int (Int32.ofNat i))] []))
    refine own_Go.st (fun _ k => XS.iconst X0.here hx rfl (hb hby d_method_3_16) k) ?_
    show own_Go _ _ _ _ (s₁.setTop (mkF m 17 #[.val (.ref a1), .val (.ref a2), .val (.int (Int32.ofNat es.length)), .val (.int (Int32.ofNat i))] [(.int (1 : Int32))]))
    refine own_Go.st (fun _ k => XS.goto X0.here hx rfl (pc0 := 17) (pc' := 21) rfl (hb hby d_method_3_17) (by decide) (by decide) k) ?_
    show own_Go _ _ _ _ (s₁.setTop (mkF m 21 #[.val (.ref a1), .val (.ref a2), .val (.int (Int32.ofNat es.length)), .val (.int (Int32.ofNat i))] [(.int (1 : Int32))]))
    obtain ⟨fs506, hr506, hrun506, hend506, hW506, hsm506⟩ := X0.leave (v := some (.int (nar .boolean (1 : Int32)))) (fun h => by rw [Bd.returns] at h; cases h)
    subst hPP
    refine ⟨_, _, retN X0 hx (t := .boolean) Bd.returns (by simp) (hb hby d_method_3_21) hr506, hrun506, hend506, _, _, rfl, ?_, ⟨_, rfl⟩, hW506, hsm506.mono (by decide) (by decide)⟩
    · show Q_at_ Z _ _ _ _ _ _ _ _ _ _ h0 _ s₁.heap _
      rw [e0]
      exact ⟨rfl, N0, rfl⟩
theorem ef_341 (m : MethodId) (x0 : Int32) (x1 : Int32) (x2 : Int32) : entryFrame m #[(.int x0), (.int x1), (.int x2)] maxLocals = mkF m 0 #[.val (.int x0), .val (.int x1), .val (.int x2), .unset, .unset, .unset, .unset, .unset, .unset, .unset, .unset, .unset, .unset, .unset, .unset, .unset, .unset, .unset] [] := by first | (simp [entryFrame, mkF, argsToLocals, Value.category, maxLocals]; done) | rfl
theorem pd_342 : parseMethodDescriptor "(CCI)Ljava/lang/String;" = some ⟨[.char, .char, .int], some (.object "java/lang/String")⟩ := by decide +kernel
theorem pd_343 : parseMethodDescriptor "(Ljava/lang/String;Ljava/lang/String;Ljava/lang/String;)Ljava/lang/String;" = some ⟨[(.object "java/lang/String"), (.object "java/lang/String"), (.object "java/lang/String")], some (.object "java/lang/String")⟩ := by decide +kernel
theorem pd_344 : parseMethodDescriptor "(Ljava/lang/String;[CII)Z" = some ⟨[(.object "java/lang/String"), (.array .char), .int, .int], some .boolean⟩ := by decide +kernel
def Q_law (Z : State) (p1 : Int32) (p2 : Int32) (p3 : Int32) (zc : Int32) (fm : Value) (h0 : Heap) (v : Option Value) (h : Heap) (L : List Loc) : Prop := v = some (.int (1 : Int32)) ∧ Fr Z.heap.size L ∧ Keep h0 h []
set_option maxRecDepth 65536 in
set_option maxHeartbeats 40000000 in
theorem rm_law (l : Launch) (Z : State) (a0 : Array Value) (hw : ∀ d ∈ tables_1, d.before a0 Z = true) (ws : List Jvm.Cond) (p1 : Int32) (p2 : Int32) (p3 : Int32) (zc : Int32) (fm : Value) (h0 : Heap) (hEL : EW Z a0 consts_1) (OL : Old Z Z.heap.size h0) (st_COMPACT_STRINGS : Sta Z Z.heap "java/lang/String" "COMPACT_STRINGS" "Z" (.int zc)) (st_SIOOBE_FORMATTER : Sta Z Z.heap "jdk/internal/util/Preconditions" "SIOOBE_FORMATTER" "Ljava/util/function/BiFunction;" fm) (hzc : ¬ zc = 0) (hfm : fm.isRef = true) :
    MetFree l x (head1 (Jvm.Cond.code x code maxLocals ret :: ws) room_1) (fun a U => a = #[(.int p1), (.int p2), (.int p3)] ∧ Z.Warmed39 U.vm ∧ U.heap = h0 ∧ CHv Z consts_1 U.vm h0) (fun _ _ _ _ _ => True) (fun _ U o U' => ∃ v L, o = .returned v ∧ Q_law Z p1 p2 p3 zc fm h0 v U'.heap L ∧ CHr Z consts_1 U.vm U.heap U'.vm U'.heap ∧ ReturnedEndW U o U' L 56 4416) := by
  refine MetFree.of_bodySF (plainFor_of_name pn_265) hisR ?_
  intro p e s m args below meth c s₁ Bd hml0 hP hK
  obtain ⟨rfl, hZ, hh, hC0⟩ := hP
  have hx := Bd.exec
  have hby := Bd.bytes
  have hml : c.maxLocals = 18 := hml0
  have hown : s.vm.findClass "com/example/net30/net30/metrics/FamilyWithLabelPinLaw" = some m.cls := findClass_of_methodNamed Bd.named
  have hnm := (name_of_methodNamed Bd.named Bd.method).1
  have X0 : Stand p l e room_1 (s.setVm s.vm) m #[(.int p1), (.int p2), (.int p3)] below meth c s₁ [] 0 0 := Stand.of_body Bd
  have e0 : s₁.heap = h0 := by rw [← hh, Bd.state]; rfl
  have N0 := Fr.nil Z.heap.size
  have Z0 : Z.heap.size ≤ h0.size := OL.2.1
  have hS0 : s.Since s.vm h0.size := (State.WarmedH.refl s).since _
  have wS := own_wS hw
  have R0 : CHr Z consts_1 s.vm h0 s.vm h0 := CHr.refl hC0
  obtain ⟨PP, hPP⟩ : ∃ PP : Outcome → State → Prop, PP = (fun o tE => ∃ v L, o = .returned v ∧ Q_law Z p1 p2 p3 zc fm h0 v tE.heap L ∧ CHr Z consts_1 s.vm s.heap tE.vm tE.heap ∧ ReturnedEndW s o tE L 56 4416) := ⟨_, rfl⟩
  show own_Go p.tables e below (fun o tE => ∃ v L, o = .returned v ∧ Q_law Z p1 p2 p3 zc fm h0 v tE.heap L ∧ CHr Z consts_1 s.vm s.heap tE.vm tE.heap ∧ ReturnedEndW s o tE L 56 4416) (s₁.setTop (entryFrame m #[(.int p1), (.int p2), (.int p3)] maxLocals))
  rw [← hPP]
  refine own_Go.st (fun t k => castTop (ef_341 m p1 p2 p3) k) ?_
  show own_Go _ _ _ _ (s₁.setTop (mkF m 0 #[.val (.int p1), .val (.int p2), .val (.int p3), .unset, .unset, .unset, .unset, .unset, .unset, .unset, .unset, .unset, .unset, .unset, .unset, .unset, .unset, .unset] []))
  have J507 : ∀ (u0 : Int32) (u1 : Int32) (la : Int32) (n0 : Int32) (n1 : Int32) (ln : Int32) (v0 : Int32) (v1 : Int32) (lv : Int32), ((¬ u0 < 0 ∧ ¬ (255 : Int32) < u0) ∧ (¬ u1 < 0 ∧ ¬ (255 : Int32) < u1) ∧ (la = 0 ∨ la = 1 ∨ la = 2) ∧ (¬ n0 < 0 ∧ ¬ (255 : Int32) < n0) ∧ (¬ n1 < 0 ∧ ¬ (255 : Int32) < n1) ∧ (ln = 0 ∨ ln = 1 ∨ ln = 2) ∧ (¬ v0 < 0 ∧ ¬ (255 : Int32) < v0) ∧ (¬ v1 < 0 ∧ ¬ (255 : Int32) < v1) ∧ (lv = 0 ∨ lv = 1 ∨ lv = 2)) → own_Go p.tables e below PP (s₁.setTop (mkF m 92 #[.val (.int p1), .val (.int p2), .val (.int p3), .val (.int u0), .val (.int u1), .val (.int la), .val (.int n0), .val (.int n1), .val (.int ln), .val (.int v0), .val (.int v1), .val (.int lv), .unset, .unset, .unset, .unset, .unset, .unset] [])) := by
    intro u0 u1 la n0 n1 ln v0 v1 lv hJ507
    obtain ⟨hu0, hu1, hla, hn0, hn1, hln, hv0, hv1, hlv⟩ := hJ507
    refine own_Go.st (fun _ k => XS.iloadN X0.here hx rfl (hb hby at_92) rfl k) ?_
    show own_Go _ _ _ _ (s₁.setTop (mkF m 93 #[.val (.int p1), .val (.int p2), .val (.int p3), .val (.int u0), .val (.int u1), .val (.int la), .val (.int n0), .val (.int n1), .val (.int ln), .val (.int v0), .val (.int v1), .val (.int lv), .unset, .unset, .unset, .unset, .unset, .unset] [(.int u0)]))
    refine own_Go.st (fun _ k => XS.iload X0.here hx rfl (hb hby at_93) rfl k) ?_
    show own_Go _ _ _ _ (s₁.setTop (mkF m 95 #[.val (.int p1), .val (.int p2), .val (.int p3), .val (.int u0), .val (.int u1), .val (.int la), .val (.int n0), .val (.int n1), .val (.int ln), .val (.int v0), .val (.int v1), .val (.int lv), .unset, .unset, .unset, .unset, .unset, .unset] [(.int u1), (.int u0)]))
    refine own_Go.st (fun _ k => XS.iload X0.here hx rfl (hb hby at_95) rfl k) ?_
    show own_Go _ _ _ _ (s₁.setTop (mkF m 97 #[.val (.int p1), .val (.int p2), .val (.int p3), .val (.int u0), .val (.int u1), .val (.int la), .val (.int n0), .val (.int n1), .val (.int ln), .val (.int v0), .val (.int v1), .val (.int lv), .unset, .unset, .unset, .unset, .unset, .unset] [(.int la), (.int u1), (.int u0)]))
    obtain ⟨_, _, ⟨T508, L508, k508, n508⟩, -, X508, hs508, hg508, ⟨Lc508, hQ508, l508, y508, z508, ch508⟩, st508⟩ := callSS X0 hx (y := (⟨"com/example/net30/net30/metrics/FamilyWithLabelPinLaw", "str", "(CCI)Ljava/lang/String;"⟩ : MethodName)) hown (mvT hZ (hw _ (List.mem_of_getElem? (i := 0) rfl))) (mvT hZ (hw _ (List.mem_of_getElem? (i := 1) rfl))) (mvT hZ (hw _ (List.mem_of_getElem? (i := 2) rfl))) (mvT hZ (hw _ (List.mem_of_getElem? (i := 3) rfl))) (by decide) (backOfSH (s := s) (vm0 := s.vm) (W := 0) (rm_str l Z a0 hw [] u0 u1 la zc h0 hEL OL st_COMPACT_STRINGS (by first | assumption | decide) hu0 hu1 hla) hZ (hw _ (List.mem_of_getElem? (i := 3) rfl)) (hw _ (List.mem_of_getElem? (i := 2) rfl)) (by decide) (by decide) hEL R0.1) (g := (mkF m 97 #[.val (.int p1), .val (.int p2), .val (.int p3), .val (.int u0), .val (.int u1), .val (.int la), .val (.int n0), .val (.int n1), .val (.int ln), .val (.int v0), .val (.int v1), .val (.int lv), .unset, .unset, .unset, .unset, .unset, .unset] [(.int la), (.int u1), (.int u0)])) rfl (by rw [hml]; rfl) (argsL := [(.int u0), (.int u1), (.int la)]) (rest := []) (lenOf pd_342 rfl) rfl (by show 2 * 0 + _ ≤ _; exact Nat.le_of_eq rfl) (hb hby at_97) (fun _ _ => ⟨rfl, e0, (by decide : 0 + 4 ≤ _), (by decide : 0 + 30 ≤ _)⟩)
    dsimp only [Pt.U, Pt.locs, Pt.cells, Pt.slots] at X508 l508 y508 z508 st508 hQ508 hs508 hg508 ch508
    subst l508 y508 z508
    obtain ⟨x_508, t_508, rfl, N508q, K508, f508_0⟩ := hQ508
    have N508 := Fr.app N0 N508q
    obtain ⟨Y508, hS508, hZ508, hown508⟩ := rebS hS0 (n1 := h0.size) (by omega) X508 hs508 (by have := hg508; first | exact this | (rw [← e0]; exact this)) hZ hown
    have z508 : h0.size ≤ T508.heap.size := K508.1
    have R508 : CHr Z consts_1 s.vm h0 T508.vm T508.heap := R0.trans ch508
    have lt508_0 : @LT.lt Nat _ x_508 T508.heap.size := f508_0.lt
    have ltv508_0 : @LT.lt Nat _ t_508 T508.heap.size := f508_0.ltv
    refine own_Go.tr st508 ?_
    show own_Go _ _ _ _ (T508.setTop (mkF m 100 #[.val (.int p1), .val (.int p2), .val (.int p3), .val (.int u0), .val (.int u1), .val (.int la), .val (.int n0), .val (.int n1), .val (.int ln), .val (.int v0), .val (.int v1), .val (.int lv), .unset, .unset, .unset, .unset, .unset, .unset] [(.ref x_508)]))
    refine own_Go.st (fun _ k => XS.astore Y508.here hx rfl (hb hby at_100) rfl rfl (l' := #[.val (.int p1), .val (.int p2), .val (.int p3), .val (.int u0), .val (.int u1), .val (.int la), .val (.int n0), .val (.int n1), .val (.int ln), .val (.int v0), .val (.int v1), .val (.int lv), .val (.ref x_508), .unset, .unset, .unset, .unset, .unset]) rfl k) ?_
    show own_Go _ _ _ _ (T508.setTop (mkF m 102 #[.val (.int p1), .val (.int p2), .val (.int p3), .val (.int u0), .val (.int u1), .val (.int la), .val (.int n0), .val (.int n1), .val (.int ln), .val (.int v0), .val (.int v1), .val (.int lv), .val (.ref x_508), .unset, .unset, .unset, .unset, .unset] []))
    refine own_Go.st (fun _ k => XS.iload Y508.here hx rfl (hb hby at_102) rfl k) ?_
    show own_Go _ _ _ _ (T508.setTop (mkF m 104 #[.val (.int p1), .val (.int p2), .val (.int p3), .val (.int u0), .val (.int u1), .val (.int la), .val (.int n0), .val (.int n1), .val (.int ln), .val (.int v0), .val (.int v1), .val (.int lv), .val (.ref x_508), .unset, .unset, .unset, .unset, .unset] [(.int n0)]))
    refine own_Go.st (fun _ k => XS.iload Y508.here hx rfl (hb hby at_104) rfl k) ?_
    show own_Go _ _ _ _ (T508.setTop (mkF m 106 #[.val (.int p1), .val (.int p2), .val (.int p3), .val (.int u0), .val (.int u1), .val (.int la), .val (.int n0), .val (.int n1), .val (.int ln), .val (.int v0), .val (.int v1), .val (.int lv), .val (.ref x_508), .unset, .unset, .unset, .unset, .unset] [(.int n1), (.int n0)]))
    refine own_Go.st (fun _ k => XS.iload Y508.here hx rfl (hb hby at_106) rfl k) ?_
    show own_Go _ _ _ _ (T508.setTop (mkF m 108 #[.val (.int p1), .val (.int p2), .val (.int p3), .val (.int u0), .val (.int u1), .val (.int la), .val (.int n0), .val (.int n1), .val (.int ln), .val (.int v0), .val (.int v1), .val (.int lv), .val (.ref x_508), .unset, .unset, .unset, .unset, .unset] [(.int ln), (.int n1), (.int n0)]))
    have f510 : Old Z Z.heap.size T508.heap := OL.keep K508 all0
    obtain ⟨_, _, ⟨T509, L509, k509, n509⟩, -, X509, hs509, hg509, ⟨Lc509, hQ509, l509, y509, z509, ch509⟩, st509⟩ := callSS Y508 hx (y := (⟨"com/example/net30/net30/metrics/FamilyWithLabelPinLaw", "str", "(CCI)Ljava/lang/String;"⟩ : MethodName)) hown508 (mvT hZ508 (hw _ (List.mem_of_getElem? (i := 0) rfl))) (mvT hZ508 (hw _ (List.mem_of_getElem? (i := 1) rfl))) (mvT hZ508 (hw _ (List.mem_of_getElem? (i := 2) rfl))) (mvT hZ508 (hw _ (List.mem_of_getElem? (i := 3) rfl))) (by decide) (backOfSH (s := s) (vm0 := T508.vm) (W := 0) (rm_str l Z a0 hw [] n0 n1 ln zc T508.heap hEL f510 st_COMPACT_STRINGS (by first | assumption | decide) hn0 hn1 hln) hZ508 (hw _ (List.mem_of_getElem? (i := 3) rfl)) (hw _ (List.mem_of_getElem? (i := 2) rfl)) (by decide) (by decide) hEL R508.1) (g := (mkF m 108 #[.val (.int p1), .val (.int p2), .val (.int p3), .val (.int u0), .val (.int u1), .val (.int la), .val (.int n0), .val (.int n1), .val (.int ln), .val (.int v0), .val (.int v1), .val (.int lv), .val (.ref x_508), .unset, .unset, .unset, .unset, .unset] [(.int ln), (.int n1), (.int n0)])) rfl (by rw [hml]; rfl) (argsL := [(.int n0), (.int n1), (.int ln)]) (rest := []) (lenOf pd_342 rfl) rfl (by show 2 * 0 + _ ≤ _; exact Nat.le_of_eq rfl) (hb hby at_108) (fun _ _ => ⟨rfl, rfl, (by decide : 4 + 4 ≤ _), (by decide : 30 + 30 ≤ _)⟩)
    dsimp only [Pt.U, Pt.locs, Pt.cells, Pt.slots] at X509 l509 y509 z509 st509 hQ509 hs509 hg509 ch509
    subst l509 y509 z509
    obtain ⟨x_509, t_509, rfl, N509q, K509, f509_0⟩ := hQ509
    have N509 := Fr.app N508 N509q
    obtain ⟨Y509, hS509, hZ509, hown509⟩ := rebS hS508 (n1 := T508.heap.size) (by omega) X509 hs509 (by have := hg509; first | exact this | (rw [← rfl]; exact this)) hZ508 hown508
    have z509 : T508.heap.size ≤ T509.heap.size := K509.1
    have R509 : CHr Z consts_1 s.vm h0 T509.vm T509.heap := R508.trans ch509
    have lt509_0 : @LT.lt Nat _ x_509 T509.heap.size := f509_0.lt
    have ltv509_0 : @LT.lt Nat _ t_509 T509.heap.size := f509_0.ltv
    refine own_Go.tr st509 ?_
    show own_Go _ _ _ _ (T509.setTop (mkF m 111 #[.val (.int p1), .val (.int p2), .val (.int p3), .val (.int u0), .val (.int u1), .val (.int la), .val (.int n0), .val (.int n1), .val (.int ln), .val (.int v0), .val (.int v1), .val (.int lv), .val (.ref x_508), .unset, .unset, .unset, .unset, .unset] [(.ref x_509)]))
    refine own_Go.st (fun _ k => XS.astore Y509.here hx rfl (hb hby at_111) rfl rfl (l' := #[.val (.int p1), .val (.int p2), .val (.int p3), .val (.int u0), .val (.int u1), .val (.int la), .val (.int n0), .val (.int n1), .val (.int ln), .val (.int v0), .val (.int v1), .val (.int lv), .val (.ref x_508), .val (.ref x_509), .unset, .unset, .unset, .unset]) rfl k) ?_
    show own_Go _ _ _ _ (T509.setTop (mkF m 113 #[.val (.int p1), .val (.int p2), .val (.int p3), .val (.int u0), .val (.int u1), .val (.int la), .val (.int n0), .val (.int n1), .val (.int ln), .val (.int v0), .val (.int v1), .val (.int lv), .val (.ref x_508), .val (.ref x_509), .unset, .unset, .unset, .unset] []))
    refine own_Go.st (fun _ k => XS.iload Y509.here hx rfl (hb hby at_113) rfl k) ?_
    show own_Go _ _ _ _ (T509.setTop (mkF m 115 #[.val (.int p1), .val (.int p2), .val (.int p3), .val (.int u0), .val (.int u1), .val (.int la), .val (.int n0), .val (.int n1), .val (.int ln), .val (.int v0), .val (.int v1), .val (.int lv), .val (.ref x_508), .val (.ref x_509), .unset, .unset, .unset, .unset] [(.int v0)]))
    refine own_Go.st (fun _ k => XS.iload Y509.here hx rfl (hb hby at_115) rfl k) ?_
    show own_Go _ _ _ _ (T509.setTop (mkF m 117 #[.val (.int p1), .val (.int p2), .val (.int p3), .val (.int u0), .val (.int u1), .val (.int la), .val (.int n0), .val (.int n1), .val (.int ln), .val (.int v0), .val (.int v1), .val (.int lv), .val (.ref x_508), .val (.ref x_509), .unset, .unset, .unset, .unset] [(.int v1), (.int v0)]))
    refine own_Go.st (fun _ k => XS.iload Y509.here hx rfl (hb hby at_117) rfl k) ?_
    show own_Go _ _ _ _ (T509.setTop (mkF m 119 #[.val (.int p1), .val (.int p2), .val (.int p3), .val (.int u0), .val (.int u1), .val (.int la), .val (.int n0), .val (.int n1), .val (.int ln), .val (.int v0), .val (.int v1), .val (.int lv), .val (.ref x_508), .val (.ref x_509), .unset, .unset, .unset, .unset] [(.int lv), (.int v1), (.int v0)]))
    have f512 : Old Z Z.heap.size T509.heap := f510.keep K509 all0
    obtain ⟨_, _, ⟨T511, L511, k511, n511⟩, -, X511, hs511, hg511, ⟨Lc511, hQ511, l511, y511, z511, ch511⟩, st511⟩ := callSS Y509 hx (y := (⟨"com/example/net30/net30/metrics/FamilyWithLabelPinLaw", "str", "(CCI)Ljava/lang/String;"⟩ : MethodName)) hown509 (mvT hZ509 (hw _ (List.mem_of_getElem? (i := 0) rfl))) (mvT hZ509 (hw _ (List.mem_of_getElem? (i := 1) rfl))) (mvT hZ509 (hw _ (List.mem_of_getElem? (i := 2) rfl))) (mvT hZ509 (hw _ (List.mem_of_getElem? (i := 3) rfl))) (by decide) (backOfSH (s := s) (vm0 := T509.vm) (W := 0) (rm_str l Z a0 hw [] v0 v1 lv zc T509.heap hEL f512 st_COMPACT_STRINGS (by first | assumption | decide) hv0 hv1 hlv) hZ509 (hw _ (List.mem_of_getElem? (i := 3) rfl)) (hw _ (List.mem_of_getElem? (i := 2) rfl)) (by decide) (by decide) hEL R509.1) (g := (mkF m 119 #[.val (.int p1), .val (.int p2), .val (.int p3), .val (.int u0), .val (.int u1), .val (.int la), .val (.int n0), .val (.int n1), .val (.int ln), .val (.int v0), .val (.int v1), .val (.int lv), .val (.ref x_508), .val (.ref x_509), .unset, .unset, .unset, .unset] [(.int lv), (.int v1), (.int v0)])) rfl (by rw [hml]; rfl) (argsL := [(.int v0), (.int v1), (.int lv)]) (rest := []) (lenOf pd_342 rfl) rfl (by show 2 * 0 + _ ≤ _; exact Nat.le_of_eq rfl) (hb hby at_119) (fun _ _ => ⟨rfl, rfl, (by decide : 8 + 4 ≤ _), (by decide : 60 + 30 ≤ _)⟩)
    dsimp only [Pt.U, Pt.locs, Pt.cells, Pt.slots] at X511 l511 y511 z511 st511 hQ511 hs511 hg511 ch511
    subst l511 y511 z511
    obtain ⟨x_511, t_511, rfl, N511q, K511, f511_0⟩ := hQ511
    have N511 := Fr.app N509 N511q
    obtain ⟨Y511, hS511, hZ511, hown511⟩ := rebS hS509 (n1 := T509.heap.size) (by omega) X511 hs511 (by have := hg511; first | exact this | (rw [← rfl]; exact this)) hZ509 hown509
    have z511 : T509.heap.size ≤ T511.heap.size := K511.1
    have R511 : CHr Z consts_1 s.vm h0 T511.vm T511.heap := R509.trans ch511
    have lt511_0 : @LT.lt Nat _ x_511 T511.heap.size := f511_0.lt
    have ltv511_0 : @LT.lt Nat _ t_511 T511.heap.size := f511_0.ltv
    refine own_Go.tr st511 ?_
    show own_Go _ _ _ _ (T511.setTop (mkF m 122 #[.val (.int p1), .val (.int p2), .val (.int p3), .val (.int u0), .val (.int u1), .val (.int la), .val (.int n0), .val (.int n1), .val (.int ln), .val (.int v0), .val (.int v1), .val (.int lv), .val (.ref x_508), .val (.ref x_509), .unset, .unset, .unset, .unset] [(.ref x_511)]))
    refine own_Go.st (fun _ k => XS.astore Y511.here hx rfl (hb hby at_122) rfl rfl (l' := #[.val (.int p1), .val (.int p2), .val (.int p3), .val (.int u0), .val (.int u1), .val (.int la), .val (.int n0), .val (.int n1), .val (.int ln), .val (.int v0), .val (.int v1), .val (.int lv), .val (.ref x_508), .val (.ref x_509), .val (.ref x_511), .unset, .unset, .unset]) rfl k) ?_
    show own_Go _ _ _ _ (T511.setTop (mkF m 124 #[.val (.int p1), .val (.int p2), .val (.int p3), .val (.int u0), .val (.int u1), .val (.int la), .val (.int n0), .val (.int n1), .val (.int ln), .val (.int v0), .val (.int v1), .val (.int lv), .val (.ref x_508), .val (.ref x_509), .val (.ref x_511), .unset, .unset, .unset] []))
    refine own_Go.st (fun _ k => XS.bipush Y511.here hx rfl (hb hby at_124) k) ?_
    show own_Go _ _ _ _ (T511.setTop (mkF m 126 #[.val (.int p1), .val (.int p2), .val (.int p3), .val (.int u0), .val (.int u1), .val (.int la), .val (.int n0), .val (.int n1), .val (.int ln), .val (.int v0), .val (.int v1), .val (.int lv), .val (.ref x_508), .val (.ref x_509), .val (.ref x_511), .unset, .unset, .unset] [(.int (10 : Int32))]))
    obtain ⟨T513, h513, k513, X513, e513, E513, A513, st513⟩ := newP Y511 hx hZ511 (hw _ (List.mem_of_getElem? (i := 12) rfl)) rfl (g := (mkF m 126 #[.val (.int p1), .val (.int p2), .val (.int p3), .val (.int u0), .val (.int u1), .val (.int la), .val (.int n0), .val (.int n1), .val (.int ln), .val (.int v0), .val (.int v1), .val (.int lv), .val (.ref x_508), .val (.ref x_509), .val (.ref x_511), .unset, .unset, .unset] [(.int (10 : Int32))])) rfl (hb hby at_126) rfl (by decide) (cap := 10) (by decide) (by decide) (by decide) (by decide)
    obtain ⟨b513, g513⟩ : ∃ z, z = T511.heap.size := ⟨_, rfl⟩
    rw [← g513] at A513 st513
    refine own_Go.st st513 ?_
    have z513 : T511.heap.size ≤ h513.size := E513.1
    have f514 : Arv Z h513 b513 k513 .char (10 : Int32) [(.int (0 : Int32)), (.int (0 : Int32)), (.int (0 : Int32)), (.int (0 : Int32)), (.int (0 : Int32)), (.int (0 : Int32)), (.int (0 : Int32)), (.int (0 : Int32)), (.int (0 : Int32)), (.int (0 : Int32))] (.int (0 : Int32)) := (Arv.new A513 (by decide)).pad (pad_rep [] (.int (0 : Int32)) 10)
    have lt_b513 : @LT.lt Nat _ b513 h513.size := f514.lt
    have R513 : CHr Z consts_1 s.vm h0 T511.vm h513 := R511.trans (CHr.ext E513 R511.1)
    show own_Go _ _ _ _ (T513.setTop (mkF m 128 #[.val (.int p1), .val (.int p2), .val (.int p3), .val (.int u0), .val (.int u1), .val (.int la), .val (.int n0), .val (.int n1), .val (.int ln), .val (.int v0), .val (.int v1), .val (.int lv), .val (.ref x_508), .val (.ref x_509), .val (.ref x_511), .unset, .unset, .unset] [(.ref b513)]))
    refine own_Go.st (fun _ k => XS.astore X513.here hx rfl (hb hby at_128) rfl rfl (l' := #[.val (.int p1), .val (.int p2), .val (.int p3), .val (.int u0), .val (.int u1), .val (.int la), .val (.int n0), .val (.int n1), .val (.int ln), .val (.int v0), .val (.int v1), .val (.int lv), .val (.ref x_508), .val (.ref x_509), .val (.ref x_511), .val (.ref b513), .unset, .unset]) rfl k) ?_
    show own_Go _ _ _ _ (T513.setTop (mkF m 130 #[.val (.int p1), .val (.int p2), .val (.int p3), .val (.int u0), .val (.int u1), .val (.int la), .val (.int n0), .val (.int n1), .val (.int ln), .val (.int v0), .val (.int v1), .val (.int lv), .val (.ref x_508), .val (.ref x_509), .val (.ref x_511), .val (.ref b513), .unset, .unset] []))
    refine own_Go.st (fun _ k => XS.iconst X513.here hx rfl (hb hby at_130) k) ?_
    show own_Go _ _ _ _ (T513.setTop (mkF m 131 #[.val (.int p1), .val (.int p2), .val (.int p3), .val (.int u0), .val (.int u1), .val (.int la), .val (.int n0), .val (.int n1), .val (.int ln), .val (.int v0), .val (.int v1), .val (.int lv), .val (.ref x_508), .val (.ref x_509), .val (.ref x_511), .val (.ref b513), .unset, .unset] [(.int (0 : Int32))]))
    refine own_Go.st (fun _ k => XS.istore X513.here hx rfl (hb hby at_131) rfl (l' := #[.val (.int p1), .val (.int p2), .val (.int p3), .val (.int u0), .val (.int u1), .val (.int la), .val (.int n0), .val (.int n1), .val (.int ln), .val (.int v0), .val (.int v1), .val (.int lv), .val (.ref x_508), .val (.ref x_509), .val (.ref x_511), .val (.ref b513), .val (.int (0 : Int32)), .unset]) rfl k) ?_
    show own_Go _ _ _ _ (T513.setTop (mkF m 133 #[.val (.int p1), .val (.int p2), .val (.int p3), .val (.int u0), .val (.int u1), .val (.int la), .val (.int n0), .val (.int n1), .val (.int ln), .val (.int v0), .val (.int v1), .val (.int lv), .val (.ref x_508), .val (.ref x_509), .val (.ref x_511), .val (.ref b513), .val (.int (0 : Int32)), .unset] []))
    have HJ515 : ∀ (es1 : List Int32) (TJ515 : State) (hJ515 : Heap) (lJ515 : List Loc), (es1 = own_w1 ([u0, u1].take la.toNatClampNeg)) → (es1.length ≤ 3) → (Stand p l e room_1 (s.setVm T511.vm) m #[(.int p1), (.int p2), (.int p3)] below meth c TJ515 lJ515 13 100) → (TJ515.heap = hJ515) → (Fr Z.heap.size lJ515) → (Keep h0 hJ515 []) → (Old Z Z.heap.size hJ515) → (h513.size ≤ hJ515.size) → (CHr Z consts_1 s.vm h0 T511.vm hJ515) → (own_Str Z hJ515 x_508 t_508 ([u0, u1].take la.toNatClampNeg)) → (own_Str Z hJ515 x_509 t_509 ([n0, n1].take ln.toNatClampNeg)) → (own_Str Z hJ515 x_511 t_511 ([v0, v1].take lv.toNatClampNeg)) → (Arv Z hJ515 b513 k513 .char (10 : Int32) (es1.map Value.int) (.int (0 : Int32))) → own_Go p.tables e below PP (TJ515.setTop (mkF m 180 #[.val (.int p1), .val (.int p2), .val (.int p3), .val (.int u0), .val (.int u1), .val (.int la), .val (.int n0), .val (.int n1), .val (.int ln), .val (.int v0), .val (.int v1), .val (.int lv), .val (.ref x_508), .val (.ref x_509), .val (.ref x_511), .val (.ref b513), .val (.int (Int32.ofNat es1.length)), .unset] [])) := by
      intro es1 TJ515 hJ515 lJ515 he_es1 hb_es1 XJ515 eJ515 NJ515 KJ515 OJ515 zJ515 RJ515 fJ515_0 fJ515_1 fJ515_2 fJ515_3
      have zK515 : h0.size ≤ hJ515.size := KJ515.1
      have ltJ515_0 : @LT.lt Nat _ x_508 hJ515.size := fJ515_0.lt
      have ltJv515_0 : @LT.lt Nat _ t_508 hJ515.size := fJ515_0.ltv
      have ltJ515_1 : @LT.lt Nat _ x_509 hJ515.size := fJ515_1.lt
      have ltJv515_1 : @LT.lt Nat _ t_509 hJ515.size := fJ515_1.ltv
      have ltJ515_2 : @LT.lt Nat _ x_511 hJ515.size := fJ515_2.lt
      have ltJv515_2 : @LT.lt Nat _ t_511 hJ515.size := fJ515_2.ltv
      have ltJ515_3 : @LT.lt Nat _ b513 hJ515.size := fJ515_3.lt
      show own_Go _ _ _ _ (TJ515.setTop (mkF m 180 #[.val (.int p1), .val (.int p2), .val (.int p3), .val (.int u0), .val (.int u1), .val (.int la), .val (.int n0), .val (.int n1), .val (.int ln), .val (.int v0), .val (.int v1), .val (.int lv), .val (.ref x_508), .val (.ref x_509), .val (.ref x_511), .val (.ref b513), .val (.int (Int32.ofNat es1.length)), .unset] []))
      have HJ516 : ∀ (es2 : List Int32) (TJ516 : State) (hJ516 : Heap) (lJ516 : List Loc), (es2 = own_w1 ([u0, u1].take la.toNatClampNeg) ++ ([n0, n1].take ln.toNatClampNeg) ++ [(61 : Int32), 34]) → (es2.length ≤ 7) → (Stand p l e room_1 (s.setVm T511.vm) m #[(.int p1), (.int p2), (.int p3)] below meth c TJ516 lJ516 13 100) → (TJ516.heap = hJ516) → (Fr Z.heap.size lJ516) → (Keep h0 hJ516 []) → (Old Z Z.heap.size hJ516) → (hJ515.size ≤ hJ516.size) → (CHr Z consts_1 s.vm h0 T511.vm hJ516) → (own_Str Z hJ516 x_508 t_508 ([u0, u1].take la.toNatClampNeg)) → (own_Str Z hJ516 x_509 t_509 ([n0, n1].take ln.toNatClampNeg)) → (own_Str Z hJ516 x_511 t_511 ([v0, v1].take lv.toNatClampNeg)) → (Arv Z hJ516 b513 k513 .char (10 : Int32) (es2.map Value.int) (.int (0 : Int32))) → own_Go p.tables e below PP (TJ516.setTop (mkF m 232 #[.val (.int p1), .val (.int p2), .val (.int p3), .val (.int u0), .val (.int u1), .val (.int la), .val (.int n0), .val (.int n1), .val (.int ln), .val (.int v0), .val (.int v1), .val (.int lv), .val (.ref x_508), .val (.ref x_509), .val (.ref x_511), .val (.ref b513), .val (.int (Int32.ofNat es2.length)), .unset] [])) := by
        intro es2 TJ516 hJ516 lJ516 he_es2 hb_es2 XJ516 eJ516 NJ516 KJ516 OJ516 zJ516 RJ516 fJ516_0 fJ516_1 fJ516_2 fJ516_3
        have zK516 : h0.size ≤ hJ516.size := KJ516.1
        have ltJ516_0 : @LT.lt Nat _ x_508 hJ516.size := fJ516_0.lt
        have ltJv516_0 : @LT.lt Nat _ t_508 hJ516.size := fJ516_0.ltv
        have ltJ516_1 : @LT.lt Nat _ x_509 hJ516.size := fJ516_1.lt
        have ltJv516_1 : @LT.lt Nat _ t_509 hJ516.size := fJ516_1.ltv
        have ltJ516_2 : @LT.lt Nat _ x_511 hJ516.size := fJ516_2.lt
        have ltJv516_2 : @LT.lt Nat _ t_511 hJ516.size := fJ516_2.ltv
        have ltJ516_3 : @LT.lt Nat _ b513 hJ516.size := fJ516_3.lt
        show own_Go _ _ _ _ (TJ516.setTop (mkF m 232 #[.val (.int p1), .val (.int p2), .val (.int p3), .val (.int u0), .val (.int u1), .val (.int la), .val (.int n0), .val (.int n1), .val (.int ln), .val (.int v0), .val (.int v1), .val (.int lv), .val (.ref x_508), .val (.ref x_509), .val (.ref x_511), .val (.ref b513), .val (.int (Int32.ofNat es2.length)), .unset] []))
        have HJ517 : ∀ (es3 : List Int32) (TJ517 : State) (hJ517 : Heap) (lJ517 : List Loc), (es3 = own_w1 ([u0, u1].take la.toNatClampNeg) ++ ([n0, n1].take ln.toNatClampNeg) ++ [(61 : Int32), 34] ++ ([v0, v1].take lv.toNatClampNeg) ++ [(34 : Int32)]) → (es3.length ≤ 10) → (Stand p l e room_1 (s.setVm T511.vm) m #[(.int p1), (.int p2), (.int p3)] below meth c TJ517 lJ517 13 100) → (TJ517.heap = hJ517) → (Fr Z.heap.size lJ517) → (Keep h0 hJ517 []) → (Old Z Z.heap.size hJ517) → (hJ516.size ≤ hJ517.size) → (CHr Z consts_1 s.vm h0 T511.vm hJ517) → (own_Str Z hJ517 x_508 t_508 ([u0, u1].take la.toNatClampNeg)) → (own_Str Z hJ517 x_509 t_509 ([n0, n1].take ln.toNatClampNeg)) → (own_Str Z hJ517 x_511 t_511 ([v0, v1].take lv.toNatClampNeg)) → (Arv Z hJ517 b513 k513 .char (10 : Int32) (es3.map Value.int) (.int (0 : Int32))) → own_Go p.tables e below PP (TJ517.setTop (mkF m 274 #[.val (.int p1), .val (.int p2), .val (.int p3), .val (.int u0), .val (.int u1), .val (.int la), .val (.int n0), .val (.int n1), .val (.int ln), .val (.int v0), .val (.int v1), .val (.int lv), .val (.ref x_508), .val (.ref x_509), .val (.ref x_511), .val (.ref b513), .val (.int (Int32.ofNat es3.length)), .unset] [])) := by
          intro es3 TJ517 hJ517 lJ517 he_es3 hb_es3 XJ517 eJ517 NJ517 KJ517 OJ517 zJ517 RJ517 fJ517_0 fJ517_1 fJ517_2 fJ517_3
          have zK517 : h0.size ≤ hJ517.size := KJ517.1
          have ltJ517_0 : @LT.lt Nat _ x_508 hJ517.size := fJ517_0.lt
          have ltJv517_0 : @LT.lt Nat _ t_508 hJ517.size := fJ517_0.ltv
          have ltJ517_1 : @LT.lt Nat _ x_509 hJ517.size := fJ517_1.lt
          have ltJv517_1 : @LT.lt Nat _ t_509 hJ517.size := fJ517_1.ltv
          have ltJ517_2 : @LT.lt Nat _ x_511 hJ517.size := fJ517_2.lt
          have ltJv517_2 : @LT.lt Nat _ t_511 hJ517.size := fJ517_2.ltv
          have ltJ517_3 : @LT.lt Nat _ b513 hJ517.size := fJ517_3.lt
          refine own_Go.st (fun _ k => XS.aload XJ517.here hx rfl (hb hby at_274) rfl rfl k) ?_
          show own_Go _ _ _ _ (TJ517.setTop (mkF m 276 #[.val (.int p1), .val (.int p2), .val (.int p3), .val (.int u0), .val (.int u1), .val (.int la), .val (.int n0), .val (.int n1), .val (.int ln), .val (.int v0), .val (.int v1), .val (.int lv), .val (.ref x_508), .val (.ref x_509), .val (.ref x_511), .val (.ref b513), .val (.int (Int32.ofNat es3.length)), .unset] [(.ref x_508)]))
          refine own_Go.st (fun _ k => XS.aload XJ517.here hx rfl (hb hby at_276) rfl rfl k) ?_
          show own_Go _ _ _ _ (TJ517.setTop (mkF m 278 #[.val (.int p1), .val (.int p2), .val (.int p3), .val (.int u0), .val (.int u1), .val (.int la), .val (.int n0), .val (.int n1), .val (.int ln), .val (.int v0), .val (.int v1), .val (.int lv), .val (.ref x_508), .val (.ref x_509), .val (.ref x_511), .val (.ref b513), .val (.int (Int32.ofNat es3.length)), .unset] [(.ref x_509), (.ref x_508)]))
          refine own_Go.st (fun _ k => XS.aload XJ517.here hx rfl (hb hby at_278) rfl rfl k) ?_
          show own_Go _ _ _ _ (TJ517.setTop (mkF m 280 #[.val (.int p1), .val (.int p2), .val (.int p3), .val (.int u0), .val (.int u1), .val (.int la), .val (.int n0), .val (.int n1), .val (.int ln), .val (.int v0), .val (.int v1), .val (.int lv), .val (.ref x_508), .val (.ref x_509), .val (.ref x_511), .val (.ref b513), .val (.int (Int32.ofNat es3.length)), .unset] [(.ref x_511), (.ref x_509), (.ref x_508)]))
          obtain ⟨_, _, ⟨T518, L518, k518, n518⟩, -, X518, hs518, hg518, ⟨Lc518, hQ518, l518, y518, z518, ch518⟩, st518⟩ := callSS XJ517 hx (y := (⟨"com/example/net30/net30/metrics/Family", "withLabel", "(Ljava/lang/String;Ljava/lang/String;Ljava/lang/String;)Ljava/lang/String;"⟩ : MethodName)) hown511 (mvT hZ511 (hw _ (List.mem_of_getElem? (i := 13) rfl))) (mvT hZ511 (hw _ (List.mem_of_getElem? (i := 14) rfl))) (mvT hZ511 (hw _ (List.mem_of_getElem? (i := 15) rfl))) (mvT hZ511 (hw _ (List.mem_of_getElem? (i := 16) rfl))) (by decide) (backOfSH (s := s) (vm0 := T511.vm) (W := 0) (rm_withLabel l Z a0 hw [] x_508 x_509 x_511 t_508 ([u0, u1].take la.toNatClampNeg) t_509 ([n0, n1].take ln.toNatClampNeg) t_511 ([v0, v1].take lv.toNatClampNeg) zc hJ517 hEL OJ517 fJ517_0 fJ517_1 fJ517_2 st_COMPACT_STRINGS (by first | assumption | decide) own_len2 own_len2 own_len2 (own_l2 hu0 hu1) (own_l2 hn0 hn1) (own_l2 hv0 hv1)) hZ511 (hw _ (List.mem_of_getElem? (i := 16) rfl)) (hw _ (List.mem_of_getElem? (i := 15) rfl)) (by decide) (by decide) hEL RJ517.1) (g := (mkF m 280 #[.val (.int p1), .val (.int p2), .val (.int p3), .val (.int u0), .val (.int u1), .val (.int la), .val (.int n0), .val (.int n1), .val (.int ln), .val (.int v0), .val (.int v1), .val (.int lv), .val (.ref x_508), .val (.ref x_509), .val (.ref x_511), .val (.ref b513), .val (.int (Int32.ofNat es3.length)), .unset] [(.ref x_511), (.ref x_509), (.ref x_508)])) rfl (by rw [hml]; rfl) (argsL := [(.ref x_508), (.ref x_509), (.ref x_511)]) (rest := []) (lenOf pd_343 rfl) rfl (by show 2 * 0 + _ ≤ _; exact Nat.le_of_eq rfl) (hb hby at_280) (fun _ _ => ⟨rfl, eJ517, (by decide : 13 + 16 ≤ _), (by decide : 100 + 170 ≤ _)⟩)
          dsimp only [Pt.U, Pt.locs, Pt.cells, Pt.slots] at X518 l518 y518 z518 st518 hQ518 hs518 hg518 ch518
          subst l518 y518 z518
          obtain ⟨x_518, t2_518, rfl, N518q, K518, f518_0⟩ := hQ518
          have N518 := Fr.app NJ517 N518q
          obtain ⟨Y518, hS518, hZ518, hown518⟩ := rebS hS511 (n1 := hJ517.size) (by omega) X518 hs518 (by have := hg518; first | exact this | (rw [← eJ517]; exact this)) hZ511 hown511
          have z518 : hJ517.size ≤ T518.heap.size := K518.1
          have R518 : CHr Z consts_1 s.vm h0 T518.vm T518.heap := RJ517.trans ch518
          have lt518_0 : @LT.lt Nat _ x_518 T518.heap.size := f518_0.lt
          have ltv518_0 : @LT.lt Nat _ t2_518 T518.heap.size := f518_0.ltv
          have hwl : own_wl ([u0, u1].take la.toNatClampNeg) ([n0, n1].take ln.toNatClampNeg) ([v0, v1].take lv.toNatClampNeg) = es3 := (own_wl1 _ _ _).trans he_es3.symm
          have f519 : own_Str Z T518.heap x_518 t2_518 es3 := hwl ▸ f518_0
          have hlr : ∀ c ∈ es3, ¬ c < 0 ∧ ¬ (255 : Int32) < c := hwl ▸ own_wlLat (own_l2 hu0 hu1) (own_l2 hn0 hn1) (own_l2 hv0 hv1)
          refine own_Go.tr st518 ?_
          show own_Go _ _ _ _ (T518.setTop (mkF m 283 #[.val (.int p1), .val (.int p2), .val (.int p3), .val (.int u0), .val (.int u1), .val (.int la), .val (.int n0), .val (.int n1), .val (.int ln), .val (.int v0), .val (.int v1), .val (.int lv), .val (.ref x_508), .val (.ref x_509), .val (.ref x_511), .val (.ref b513), .val (.int (Int32.ofNat es3.length)), .unset] [(.ref x_518)]))
          refine own_Go.st (fun _ k => XS.astore Y518.here hx rfl (hb hby at_283) rfl rfl (l' := #[.val (.int p1), .val (.int p2), .val (.int p3), .val (.int u0), .val (.int u1), .val (.int la), .val (.int n0), .val (.int n1), .val (.int ln), .val (.int v0), .val (.int v1), .val (.int lv), .val (.ref x_508), .val (.ref x_509), .val (.ref x_511), .val (.ref b513), .val (.int (Int32.ofNat es3.length)), .val (.ref x_518)]) rfl k) ?_
          show own_Go _ _ _ _ (T518.setTop (mkF m 285 #[.val (.int p1), .val (.int p2), .val (.int p3), .val (.int u0), .val (.int u1), .val (.int la), .val (.int n0), .val (.int n1), .val (.int ln), .val (.int v0), .val (.int v1), .val (.int lv), .val (.ref x_508), .val (.ref x_509), .val (.ref x_511), .val (.ref b513), .val (.int (Int32.ofNat es3.length)), .val (.ref x_518)] []))
          refine own_Go.st (fun _ k => XS.aload Y518.here hx rfl (hb hby at_285) rfl rfl k) ?_
          show own_Go _ _ _ _ (T518.setTop (mkF m 287 #[.val (.int p1), .val (.int p2), .val (.int p3), .val (.int u0), .val (.int u1), .val (.int la), .val (.int n0), .val (.int n1), .val (.int ln), .val (.int v0), .val (.int v1), .val (.int lv), .val (.ref x_508), .val (.ref x_509), .val (.ref x_511), .val (.ref b513), .val (.int (Int32.ofNat es3.length)), .val (.ref x_518)] [(.ref x_518)]))
          obtain ⟨kb521, cd521, N521_, vs521, s1521, s2521, s3521, s4521, s5521, s6521, s7521⟩ := id f519
          have f522 : Old Z Z.heap.size T518.heap := OJ517.keep K518 all0
          obtain ⟨cq520, kq520, q520a, q520b, q520c⟩ := isOf hZ518 rfl f519.exa
          obtain ⟨_, _, ⟨T520, L520, k520, n520⟩, -, X520, ⟨Lc520, hQ520, l520, y520, z520⟩, st520⟩ := Y518.virtualBack hx (y := (⟨"java/lang/String", "length", "()I"⟩ : MethodName)) (z := (⟨"java/lang/String", "length", "()I"⟩ : MethodName)) hown518 (mvT hZ518 (hw _ (List.mem_of_getElem? (i := 141) rfl))) (mvT hZ518 (hw _ (List.mem_of_getElem? (i := 48) rfl))) (notFace_of_selects (args := #[]) (mvT hZ518 (hw _ (List.mem_of_getElem? (i := 50) rfl)))) (mvT hZ518 (hw _ (List.mem_of_getElem? (i := 50) rfl))) (mvT hZ518 (hw _ (List.mem_of_getElem? (i := 49) rfl))) (by decide) (StrChars.Road.lenW (W := 0) hZ518 (own_hln hw) (kI := 4) (hw _ (List.mem_of_getElem? (i := 6) rfl)) s1521 s2521 s3521 s4521 s5521 s6521 (st_COMPACT_STRINGS.ext f522.2) hzc s7521 (by decide) (by decide)) q520a q520c (g := (mkF m 287 #[.val (.int p1), .val (.int p2), .val (.int p3), .val (.int u0), .val (.int u1), .val (.int la), .val (.int n0), .val (.int n1), .val (.int ln), .val (.int v0), .val (.int v1), .val (.int lv), .val (.ref x_508), .val (.ref x_509), .val (.ref x_511), .val (.ref b513), .val (.int (Int32.ofNat es3.length)), .val (.ref x_518)] [(.ref x_518)])) rfl (by rw [hml]; rfl) (Steps.refl _) (argsL := []) (rest := []) (lenOf pd_88 rfl) rfl (by show 2 * 0 + _ ≤ _; exact Nat.le_of_eq rfl) (hb hby at_287) (fun _ _ => ⟨rfl, rfl, (by decide : 29 + 0 ≤ _), (by decide : 270 + 0 ≤ _)⟩)
          dsimp only [Pt.U, Pt.locs, Pt.cells, Pt.slots] at X520 l520 y520 z520 st520 hQ520
          subst l520 y520 z520
          obtain ⟨rfl, rfl, K520⟩ := hQ520
          have N520 := Fr.app N518 (Fr.nil Z.heap.size)
          refine own_Go.tr st520 ?_
          show own_Go _ _ _ _ (T520.setTop (mkF m 290 #[.val (.int p1), .val (.int p2), .val (.int p3), .val (.int u0), .val (.int u1), .val (.int la), .val (.int n0), .val (.int n1), .val (.int ln), .val (.int v0), .val (.int v1), .val (.int lv), .val (.ref x_508), .val (.ref x_509), .val (.ref x_511), .val (.ref b513), .val (.int (Int32.ofNat es3.length)), .val (.ref x_518)] [(.int (Int32.ofNat es3.length))]))
          refine own_Go.st (fun _ k => XS.iload X520.here hx rfl (hb hby at_290) rfl k) ?_
          show own_Go _ _ _ _ (T520.setTop (mkF m 292 #[.val (.int p1), .val (.int p2), .val (.int p3), .val (.int u0), .val (.int u1), .val (.int la), .val (.int n0), .val (.int n1), .val (.int ln), .val (.int v0), .val (.int v1), .val (.int lv), .val (.ref x_508), .val (.ref x_509), .val (.ref x_511), .val (.ref b513), .val (.int (Int32.ofNat es3.length)), .val (.ref x_518)] [(.int (Int32.ofNat es3.length)), (.int (Int32.ofNat es3.length))]))
          refine own_Go.st (fun _ k => XS.icmpYes X520.here hx rfl (pc0 := 292) (pc' := 297) rfl (hb hby at_292) rfl (teq (rfl : (Int32.ofNat es3.length) = (Int32.ofNat es3.length))).1 (by decide) (by decide) k) ?_
          show own_Go _ _ _ _ (T520.setTop (mkF m 297 #[.val (.int p1), .val (.int p2), .val (.int p3), .val (.int u0), .val (.int u1), .val (.int la), .val (.int n0), .val (.int n1), .val (.int ln), .val (.int v0), .val (.int v1), .val (.int lv), .val (.ref x_508), .val (.ref x_509), .val (.ref x_511), .val (.ref b513), .val (.int (Int32.ofNat es3.length)), .val (.ref x_518)] []))
          refine own_Go.st (fun _ k => XS.aload X520.here hx rfl (hb hby at_297) rfl rfl k) ?_
          show own_Go _ _ _ _ (T520.setTop (mkF m 299 #[.val (.int p1), .val (.int p2), .val (.int p3), .val (.int u0), .val (.int u1), .val (.int la), .val (.int n0), .val (.int n1), .val (.int ln), .val (.int v0), .val (.int v1), .val (.int lv), .val (.ref x_508), .val (.ref x_509), .val (.ref x_511), .val (.ref b513), .val (.int (Int32.ofNat es3.length)), .val (.ref x_518)] [(.ref x_518)]))
          refine own_Go.st (fun _ k => XS.aload X520.here hx rfl (hb hby at_299) rfl rfl k) ?_
          show own_Go _ _ _ _ (T520.setTop (mkF m 301 #[.val (.int p1), .val (.int p2), .val (.int p3), .val (.int u0), .val (.int u1), .val (.int la), .val (.int n0), .val (.int n1), .val (.int ln), .val (.int v0), .val (.int v1), .val (.int lv), .val (.ref x_508), .val (.ref x_509), .val (.ref x_511), .val (.ref b513), .val (.int (Int32.ofNat es3.length)), .val (.ref x_518)] [(.ref b513), (.ref x_518)]))
          refine own_Go.st (fun _ k => XS.iload X520.here hx rfl (hb hby at_301) rfl k) ?_
          show own_Go _ _ _ _ (T520.setTop (mkF m 303 #[.val (.int p1), .val (.int p2), .val (.int p3), .val (.int u0), .val (.int u1), .val (.int la), .val (.int n0), .val (.int n1), .val (.int ln), .val (.int v0), .val (.int v1), .val (.int lv), .val (.ref x_508), .val (.ref x_509), .val (.ref x_511), .val (.ref b513), .val (.int (Int32.ofNat es3.length)), .val (.ref x_518)] [(.int (Int32.ofNat es3.length)), (.ref b513), (.ref x_518)]))
          refine own_Go.st (fun _ k => XS.iconst X520.here hx rfl (hb hby at_303) k) ?_
          show own_Go _ _ _ _ (T520.setTop (mkF m 304 #[.val (.int p1), .val (.int p2), .val (.int p3), .val (.int u0), .val (.int u1), .val (.int la), .val (.int n0), .val (.int n1), .val (.int ln), .val (.int v0), .val (.int v1), .val (.int lv), .val (.ref x_508), .val (.ref x_509), .val (.ref x_511), .val (.ref b513), .val (.int (Int32.ofNat es3.length)), .val (.ref x_518)] [(.int (0 : Int32)), (.int (Int32.ofNat es3.length)), (.ref b513), (.ref x_518)]))
          have f524 : Arv Z T518.heap b513 k513 .char (10 : Int32) (es3.map Value.int) (.int (0 : Int32)) := fJ517_3.keep K518 nin0
          obtain ⟨_, _, ⟨T523, L523, k523, n523⟩, -, X523, ⟨Lc523, hQ523, l523, y523, z523⟩, st523⟩ := Jvm.LawKit.callS X520 hx (y := (⟨"com/example/net30/net30/metrics/FamilyWithLabelPinLaw", "at", "(Ljava/lang/String;[CII)Z"⟩ : MethodName)) hown518 (mvT hZ518 (hw _ (List.mem_of_getElem? (i := 142) rfl))) (mvT hZ518 (hw _ (List.mem_of_getElem? (i := 143) rfl))) (mvT hZ518 (hw _ (List.mem_of_getElem? (i := 2) rfl))) (mvT hZ518 (hw _ (List.mem_of_getElem? (i := 144) rfl))) (by decide) (backOf (W := 0) (rm_at_ l Z a0 hw [] x_518 b513 (Int32.ofNat es3.length) (0 : Int32) 0 t2_518 es3 k513 zc fm T518.heap f522 f519 f524 st_COMPACT_STRINGS st_SIOOBE_FORMATTER (by first | assumption | decide) (by first | assumption | decide) rfl rfl ⟨by decide, hb_es3⟩ hlr) hZ518 (hw _ (List.mem_of_getElem? (i := 144) rfl)) (hw _ (List.mem_of_getElem? (i := 2) rfl)) (by decide) (by decide)) (g := (mkF m 304 #[.val (.int p1), .val (.int p2), .val (.int p3), .val (.int u0), .val (.int u1), .val (.int la), .val (.int n0), .val (.int n1), .val (.int ln), .val (.int v0), .val (.int v1), .val (.int lv), .val (.ref x_508), .val (.ref x_509), .val (.ref x_511), .val (.ref b513), .val (.int (Int32.ofNat es3.length)), .val (.ref x_518)] [(.int (0 : Int32)), (.int (Int32.ofNat es3.length)), (.ref b513), (.ref x_518)])) rfl (by rw [hml]; rfl) (argsL := [(.ref x_518), (.ref b513), (.int (Int32.ofNat es3.length)), (.int (0 : Int32))]) (rest := []) (lenOf pd_344 rfl) rfl (by show 2 * 0 + _ ≤ _; exact Nat.le_of_eq rfl) (hb hby at_304) (fun _ _ => ⟨rfl, K520, (by decide : 29 + 0 ≤ _), (by decide : 270 + 0 ≤ _)⟩)
          dsimp only [Pt.U, Pt.locs, Pt.cells, Pt.slots] at X523 l523 y523 z523 st523 hQ523
          subst l523 y523 z523
          obtain ⟨rfl, N523q, K523⟩ := hQ523
          have N523 := Fr.app N520 N523q
          refine own_Go.st st523 ?_
          show own_Go _ _ _ _ (T523.setTop (mkF m 307 #[.val (.int p1), .val (.int p2), .val (.int p3), .val (.int u0), .val (.int u1), .val (.int la), .val (.int n0), .val (.int n1), .val (.int ln), .val (.int v0), .val (.int v1), .val (.int lv), .val (.ref x_508), .val (.ref x_509), .val (.ref x_511), .val (.ref b513), .val (.int (Int32.ofNat es3.length)), .val (.ref x_518)] [(.int (1 : Int32))]))
          refine own_Go.st (fun _ k => XS.ifNo X523.here hx rfl (hb hby at_307) rfl ((if0 _ _).trans (feq (by decide : ¬ ((1 : Int32) = (0 : Int32)))).1) k) ?_
          show own_Go _ _ _ _ (T523.setTop (mkF m 310 #[.val (.int p1), .val (.int p2), .val (.int p3), .val (.int u0), .val (.int u1), .val (.int la), .val (.int n0), .val (.int n1), .val (.int ln), .val (.int v0), .val (.int v1), .val (.int lv), .val (.ref x_508), .val (.ref x_509), .val (.ref x_511), .val (.ref b513), .val (.int (Int32.ofNat es3.length)), .val (.ref x_518)] []))
          refine own_Go.st (fun _ k => XS.aload X523.here hx rfl (hb hby at_310) rfl rfl k) ?_
          show own_Go _ _ _ _ (T523.setTop (mkF m 312 #[.val (.int p1), .val (.int p2), .val (.int p3), .val (.int u0), .val (.int u1), .val (.int la), .val (.int n0), .val (.int n1), .val (.int ln), .val (.int v0), .val (.int v1), .val (.int lv), .val (.ref x_508), .val (.ref x_509), .val (.ref x_511), .val (.ref b513), .val (.int (Int32.ofNat es3.length)), .val (.ref x_518)] [(.ref x_518)]))
          refine own_Go.st (fun _ k => XS.aload X523.here hx rfl (hb hby at_312) rfl rfl k) ?_
          show own_Go _ _ _ _ (T523.setTop (mkF m 314 #[.val (.int p1), .val (.int p2), .val (.int p3), .val (.int u0), .val (.int u1), .val (.int la), .val (.int n0), .val (.int n1), .val (.int ln), .val (.int v0), .val (.int v1), .val (.int lv), .val (.ref x_508), .val (.ref x_509), .val (.ref x_511), .val (.ref b513), .val (.int (Int32.ofNat es3.length)), .val (.ref x_518)] [(.ref b513), (.ref x_518)]))
          refine own_Go.st (fun _ k => XS.iload X523.here hx rfl (hb hby at_314) rfl k) ?_
          show own_Go _ _ _ _ (T523.setTop (mkF m 316 #[.val (.int p1), .val (.int p2), .val (.int p3), .val (.int u0), .val (.int u1), .val (.int la), .val (.int n0), .val (.int n1), .val (.int ln), .val (.int v0), .val (.int v1), .val (.int lv), .val (.ref x_508), .val (.ref x_509), .val (.ref x_511), .val (.ref b513), .val (.int (Int32.ofNat es3.length)), .val (.ref x_518)] [(.int (Int32.ofNat es3.length)), (.ref b513), (.ref x_518)]))
          refine own_Go.st (fun _ k => XS.iconst X523.here hx rfl (hb hby at_316) k) ?_
          show own_Go _ _ _ _ (T523.setTop (mkF m 317 #[.val (.int p1), .val (.int p2), .val (.int p3), .val (.int u0), .val (.int u1), .val (.int la), .val (.int n0), .val (.int n1), .val (.int ln), .val (.int v0), .val (.int v1), .val (.int lv), .val (.ref x_508), .val (.ref x_509), .val (.ref x_511), .val (.ref b513), .val (.int (Int32.ofNat es3.length)), .val (.ref x_518)] [(.int (1 : Int32)), (.int (Int32.ofNat es3.length)), (.ref b513), (.ref x_518)]))
          obtain ⟨_, _, ⟨T525, L525, k525, n525⟩, -, X525, ⟨Lc525, hQ525, l525, y525, z525⟩, st525⟩ := Jvm.LawKit.callS X523 hx (y := (⟨"com/example/net30/net30/metrics/FamilyWithLabelPinLaw", "at", "(Ljava/lang/String;[CII)Z"⟩ : MethodName)) hown518 (mvT hZ518 (hw _ (List.mem_of_getElem? (i := 142) rfl))) (mvT hZ518 (hw _ (List.mem_of_getElem? (i := 143) rfl))) (mvT hZ518 (hw _ (List.mem_of_getElem? (i := 2) rfl))) (mvT hZ518 (hw _ (List.mem_of_getElem? (i := 144) rfl))) (by decide) (backOf (W := 0) (rm_at_ l Z a0 hw [] x_518 b513 (Int32.ofNat es3.length) (1 : Int32) 1 t2_518 es3 k513 zc fm T518.heap f522 f519 f524 st_COMPACT_STRINGS st_SIOOBE_FORMATTER (by first | assumption | decide) (by first | assumption | decide) rfl rfl ⟨by decide, hb_es3⟩ hlr) hZ518 (hw _ (List.mem_of_getElem? (i := 144) rfl)) (hw _ (List.mem_of_getElem? (i := 2) rfl)) (by decide) (by decide)) (g := (mkF m 317 #[.val (.int p1), .val (.int p2), .val (.int p3), .val (.int u0), .val (.int u1), .val (.int la), .val (.int n0), .val (.int n1), .val (.int ln), .val (.int v0), .val (.int v1), .val (.int lv), .val (.ref x_508), .val (.ref x_509), .val (.ref x_511), .val (.ref b513), .val (.int (Int32.ofNat es3.length)), .val (.ref x_518)] [(.int (1 : Int32)), (.int (Int32.ofNat es3.length)), (.ref b513), (.ref x_518)])) rfl (by rw [hml]; rfl) (argsL := [(.ref x_518), (.ref b513), (.int (Int32.ofNat es3.length)), (.int (1 : Int32))]) (rest := []) (lenOf pd_344 rfl) rfl (by show 2 * 0 + _ ≤ _; exact Nat.le_of_eq rfl) (hb hby at_317) (fun _ _ => ⟨rfl, K523, (by decide : 29 + 0 ≤ _), (by decide : 270 + 0 ≤ _)⟩)
          dsimp only [Pt.U, Pt.locs, Pt.cells, Pt.slots] at X525 l525 y525 z525 st525 hQ525
          subst l525 y525 z525
          obtain ⟨rfl, N525q, K525⟩ := hQ525
          have N525 := Fr.app N523 N525q
          refine own_Go.st st525 ?_
          show own_Go _ _ _ _ (T525.setTop (mkF m 320 #[.val (.int p1), .val (.int p2), .val (.int p3), .val (.int u0), .val (.int u1), .val (.int la), .val (.int n0), .val (.int n1), .val (.int ln), .val (.int v0), .val (.int v1), .val (.int lv), .val (.ref x_508), .val (.ref x_509), .val (.ref x_511), .val (.ref b513), .val (.int (Int32.ofNat es3.length)), .val (.ref x_518)] [(.int (1 : Int32))]))
          refine own_Go.st (fun _ k => XS.ifNo X525.here hx rfl (hb hby at_320) rfl ((if0 _ _).trans (feq (by decide : ¬ ((1 : Int32) = (0 : Int32)))).1) k) ?_
          show own_Go _ _ _ _ (T525.setTop (mkF m 323 #[.val (.int p1), .val (.int p2), .val (.int p3), .val (.int u0), .val (.int u1), .val (.int la), .val (.int n0), .val (.int n1), .val (.int ln), .val (.int v0), .val (.int v1), .val (.int lv), .val (.ref x_508), .val (.ref x_509), .val (.ref x_511), .val (.ref b513), .val (.int (Int32.ofNat es3.length)), .val (.ref x_518)] []))
          refine own_Go.st (fun _ k => XS.aload X525.here hx rfl (hb hby at_323) rfl rfl k) ?_
          show own_Go _ _ _ _ (T525.setTop (mkF m 325 #[.val (.int p1), .val (.int p2), .val (.int p3), .val (.int u0), .val (.int u1), .val (.int la), .val (.int n0), .val (.int n1), .val (.int ln), .val (.int v0), .val (.int v1), .val (.int lv), .val (.ref x_508), .val (.ref x_509), .val (.ref x_511), .val (.ref b513), .val (.int (Int32.ofNat es3.length)), .val (.ref x_518)] [(.ref x_518)]))
          refine own_Go.st (fun _ k => XS.aload X525.here hx rfl (hb hby at_325) rfl rfl k) ?_
          show own_Go _ _ _ _ (T525.setTop (mkF m 327 #[.val (.int p1), .val (.int p2), .val (.int p3), .val (.int u0), .val (.int u1), .val (.int la), .val (.int n0), .val (.int n1), .val (.int ln), .val (.int v0), .val (.int v1), .val (.int lv), .val (.ref x_508), .val (.ref x_509), .val (.ref x_511), .val (.ref b513), .val (.int (Int32.ofNat es3.length)), .val (.ref x_518)] [(.ref b513), (.ref x_518)]))
          refine own_Go.st (fun _ k => XS.iload X525.here hx rfl (hb hby at_327) rfl k) ?_
          show own_Go _ _ _ _ (T525.setTop (mkF m 329 #[.val (.int p1), .val (.int p2), .val (.int p3), .val (.int u0), .val (.int u1), .val (.int la), .val (.int n0), .val (.int n1), .val (.int ln), .val (.int v0), .val (.int v1), .val (.int lv), .val (.ref x_508), .val (.ref x_509), .val (.ref x_511), .val (.ref b513), .val (.int (Int32.ofNat es3.length)), .val (.ref x_518)] [(.int (Int32.ofNat es3.length)), (.ref b513), (.ref x_518)]))
          refine own_Go.st (fun _ k => XS.iconst X525.here hx rfl (hb hby at_329) k) ?_
          show own_Go _ _ _ _ (T525.setTop (mkF m 330 #[.val (.int p1), .val (.int p2), .val (.int p3), .val (.int u0), .val (.int u1), .val (.int la), .val (.int n0), .val (.int n1), .val (.int ln), .val (.int v0), .val (.int v1), .val (.int lv), .val (.ref x_508), .val (.ref x_509), .val (.ref x_511), .val (.ref b513), .val (.int (Int32.ofNat es3.length)), .val (.ref x_518)] [(.int (2 : Int32)), (.int (Int32.ofNat es3.length)), (.ref b513), (.ref x_518)]))
          obtain ⟨_, _, ⟨T526, L526, k526, n526⟩, -, X526, ⟨Lc526, hQ526, l526, y526, z526⟩, st526⟩ := Jvm.LawKit.callS X525 hx (y := (⟨"com/example/net30/net30/metrics/FamilyWithLabelPinLaw", "at", "(Ljava/lang/String;[CII)Z"⟩ : MethodName)) hown518 (mvT hZ518 (hw _ (List.mem_of_getElem? (i := 142) rfl))) (mvT hZ518 (hw _ (List.mem_of_getElem? (i := 143) rfl))) (mvT hZ518 (hw _ (List.mem_of_getElem? (i := 2) rfl))) (mvT hZ518 (hw _ (List.mem_of_getElem? (i := 144) rfl))) (by decide) (backOf (W := 0) (rm_at_ l Z a0 hw [] x_518 b513 (Int32.ofNat es3.length) (2 : Int32) 2 t2_518 es3 k513 zc fm T518.heap f522 f519 f524 st_COMPACT_STRINGS st_SIOOBE_FORMATTER (by first | assumption | decide) (by first | assumption | decide) rfl rfl ⟨by decide, hb_es3⟩ hlr) hZ518 (hw _ (List.mem_of_getElem? (i := 144) rfl)) (hw _ (List.mem_of_getElem? (i := 2) rfl)) (by decide) (by decide)) (g := (mkF m 330 #[.val (.int p1), .val (.int p2), .val (.int p3), .val (.int u0), .val (.int u1), .val (.int la), .val (.int n0), .val (.int n1), .val (.int ln), .val (.int v0), .val (.int v1), .val (.int lv), .val (.ref x_508), .val (.ref x_509), .val (.ref x_511), .val (.ref b513), .val (.int (Int32.ofNat es3.length)), .val (.ref x_518)] [(.int (2 : Int32)), (.int (Int32.ofNat es3.length)), (.ref b513), (.ref x_518)])) rfl (by rw [hml]; rfl) (argsL := [(.ref x_518), (.ref b513), (.int (Int32.ofNat es3.length)), (.int (2 : Int32))]) (rest := []) (lenOf pd_344 rfl) rfl (by show 2 * 0 + _ ≤ _; exact Nat.le_of_eq rfl) (hb hby at_330) (fun _ _ => ⟨rfl, K525, (by decide : 29 + 0 ≤ _), (by decide : 270 + 0 ≤ _)⟩)
          dsimp only [Pt.U, Pt.locs, Pt.cells, Pt.slots] at X526 l526 y526 z526 st526 hQ526
          subst l526 y526 z526
          obtain ⟨rfl, N526q, K526⟩ := hQ526
          have N526 := Fr.app N525 N526q
          refine own_Go.st st526 ?_
          show own_Go _ _ _ _ (T526.setTop (mkF m 333 #[.val (.int p1), .val (.int p2), .val (.int p3), .val (.int u0), .val (.int u1), .val (.int la), .val (.int n0), .val (.int n1), .val (.int ln), .val (.int v0), .val (.int v1), .val (.int lv), .val (.ref x_508), .val (.ref x_509), .val (.ref x_511), .val (.ref b513), .val (.int (Int32.ofNat es3.length)), .val (.ref x_518)] [(.int (1 : Int32))]))
          refine own_Go.st (fun _ k => XS.ifNo X526.here hx rfl (hb hby at_333) rfl ((if0 _ _).trans (feq (by decide : ¬ ((1 : Int32) = (0 : Int32)))).1) k) ?_
          show own_Go _ _ _ _ (T526.setTop (mkF m 336 #[.val (.int p1), .val (.int p2), .val (.int p3), .val (.int u0), .val (.int u1), .val (.int la), .val (.int n0), .val (.int n1), .val (.int ln), .val (.int v0), .val (.int v1), .val (.int lv), .val (.ref x_508), .val (.ref x_509), .val (.ref x_511), .val (.ref b513), .val (.int (Int32.ofNat es3.length)), .val (.ref x_518)] []))
          refine own_Go.st (fun _ k => XS.aload X526.here hx rfl (hb hby at_336) rfl rfl k) ?_
          show own_Go _ _ _ _ (T526.setTop (mkF m 338 #[.val (.int p1), .val (.int p2), .val (.int p3), .val (.int u0), .val (.int u1), .val (.int la), .val (.int n0), .val (.int n1), .val (.int ln), .val (.int v0), .val (.int v1), .val (.int lv), .val (.ref x_508), .val (.ref x_509), .val (.ref x_511), .val (.ref b513), .val (.int (Int32.ofNat es3.length)), .val (.ref x_518)] [(.ref x_518)]))
          refine own_Go.st (fun _ k => XS.aload X526.here hx rfl (hb hby at_338) rfl rfl k) ?_
          show own_Go _ _ _ _ (T526.setTop (mkF m 340 #[.val (.int p1), .val (.int p2), .val (.int p3), .val (.int u0), .val (.int u1), .val (.int la), .val (.int n0), .val (.int n1), .val (.int ln), .val (.int v0), .val (.int v1), .val (.int lv), .val (.ref x_508), .val (.ref x_509), .val (.ref x_511), .val (.ref b513), .val (.int (Int32.ofNat es3.length)), .val (.ref x_518)] [(.ref b513), (.ref x_518)]))
          refine own_Go.st (fun _ k => XS.iload X526.here hx rfl (hb hby at_340) rfl k) ?_
          show own_Go _ _ _ _ (T526.setTop (mkF m 342 #[.val (.int p1), .val (.int p2), .val (.int p3), .val (.int u0), .val (.int u1), .val (.int la), .val (.int n0), .val (.int n1), .val (.int ln), .val (.int v0), .val (.int v1), .val (.int lv), .val (.ref x_508), .val (.ref x_509), .val (.ref x_511), .val (.ref b513), .val (.int (Int32.ofNat es3.length)), .val (.ref x_518)] [(.int (Int32.ofNat es3.length)), (.ref b513), (.ref x_518)]))
          refine own_Go.st (fun _ k => XS.iconst X526.here hx rfl (hb hby at_342) k) ?_
          show own_Go _ _ _ _ (T526.setTop (mkF m 343 #[.val (.int p1), .val (.int p2), .val (.int p3), .val (.int u0), .val (.int u1), .val (.int la), .val (.int n0), .val (.int n1), .val (.int ln), .val (.int v0), .val (.int v1), .val (.int lv), .val (.ref x_508), .val (.ref x_509), .val (.ref x_511), .val (.ref b513), .val (.int (Int32.ofNat es3.length)), .val (.ref x_518)] [(.int (3 : Int32)), (.int (Int32.ofNat es3.length)), (.ref b513), (.ref x_518)]))
          obtain ⟨_, _, ⟨T527, L527, k527, n527⟩, -, X527, ⟨Lc527, hQ527, l527, y527, z527⟩, st527⟩ := Jvm.LawKit.callS X526 hx (y := (⟨"com/example/net30/net30/metrics/FamilyWithLabelPinLaw", "at", "(Ljava/lang/String;[CII)Z"⟩ : MethodName)) hown518 (mvT hZ518 (hw _ (List.mem_of_getElem? (i := 142) rfl))) (mvT hZ518 (hw _ (List.mem_of_getElem? (i := 143) rfl))) (mvT hZ518 (hw _ (List.mem_of_getElem? (i := 2) rfl))) (mvT hZ518 (hw _ (List.mem_of_getElem? (i := 144) rfl))) (by decide) (backOf (W := 0) (rm_at_ l Z a0 hw [] x_518 b513 (Int32.ofNat es3.length) (3 : Int32) 3 t2_518 es3 k513 zc fm T518.heap f522 f519 f524 st_COMPACT_STRINGS st_SIOOBE_FORMATTER (by first | assumption | decide) (by first | assumption | decide) rfl rfl ⟨by decide, hb_es3⟩ hlr) hZ518 (hw _ (List.mem_of_getElem? (i := 144) rfl)) (hw _ (List.mem_of_getElem? (i := 2) rfl)) (by decide) (by decide)) (g := (mkF m 343 #[.val (.int p1), .val (.int p2), .val (.int p3), .val (.int u0), .val (.int u1), .val (.int la), .val (.int n0), .val (.int n1), .val (.int ln), .val (.int v0), .val (.int v1), .val (.int lv), .val (.ref x_508), .val (.ref x_509), .val (.ref x_511), .val (.ref b513), .val (.int (Int32.ofNat es3.length)), .val (.ref x_518)] [(.int (3 : Int32)), (.int (Int32.ofNat es3.length)), (.ref b513), (.ref x_518)])) rfl (by rw [hml]; rfl) (argsL := [(.ref x_518), (.ref b513), (.int (Int32.ofNat es3.length)), (.int (3 : Int32))]) (rest := []) (lenOf pd_344 rfl) rfl (by show 2 * 0 + _ ≤ _; exact Nat.le_of_eq rfl) (hb hby at_343) (fun _ _ => ⟨rfl, K526, (by decide : 29 + 0 ≤ _), (by decide : 270 + 0 ≤ _)⟩)
          dsimp only [Pt.U, Pt.locs, Pt.cells, Pt.slots] at X527 l527 y527 z527 st527 hQ527
          subst l527 y527 z527
          obtain ⟨rfl, N527q, K527⟩ := hQ527
          have N527 := Fr.app N526 N527q
          refine own_Go.st st527 ?_
          show own_Go _ _ _ _ (T527.setTop (mkF m 346 #[.val (.int p1), .val (.int p2), .val (.int p3), .val (.int u0), .val (.int u1), .val (.int la), .val (.int n0), .val (.int n1), .val (.int ln), .val (.int v0), .val (.int v1), .val (.int lv), .val (.ref x_508), .val (.ref x_509), .val (.ref x_511), .val (.ref b513), .val (.int (Int32.ofNat es3.length)), .val (.ref x_518)] [(.int (1 : Int32))]))
          refine own_Go.st (fun _ k => XS.ifNo X527.here hx rfl (hb hby at_346) rfl ((if0 _ _).trans (feq (by decide : ¬ ((1 : Int32) = (0 : Int32)))).1) k) ?_
          show own_Go _ _ _ _ (T527.setTop (mkF m 349 #[.val (.int p1), .val (.int p2), .val (.int p3), .val (.int u0), .val (.int u1), .val (.int la), .val (.int n0), .val (.int n1), .val (.int ln), .val (.int v0), .val (.int v1), .val (.int lv), .val (.ref x_508), .val (.ref x_509), .val (.ref x_511), .val (.ref b513), .val (.int (Int32.ofNat es3.length)), .val (.ref x_518)] []))
          refine own_Go.st (fun _ k => XS.aload X527.here hx rfl (hb hby at_349) rfl rfl k) ?_
          show own_Go _ _ _ _ (T527.setTop (mkF m 351 #[.val (.int p1), .val (.int p2), .val (.int p3), .val (.int u0), .val (.int u1), .val (.int la), .val (.int n0), .val (.int n1), .val (.int ln), .val (.int v0), .val (.int v1), .val (.int lv), .val (.ref x_508), .val (.ref x_509), .val (.ref x_511), .val (.ref b513), .val (.int (Int32.ofNat es3.length)), .val (.ref x_518)] [(.ref x_518)]))
          refine own_Go.st (fun _ k => XS.aload X527.here hx rfl (hb hby at_351) rfl rfl k) ?_
          show own_Go _ _ _ _ (T527.setTop (mkF m 353 #[.val (.int p1), .val (.int p2), .val (.int p3), .val (.int u0), .val (.int u1), .val (.int la), .val (.int n0), .val (.int n1), .val (.int ln), .val (.int v0), .val (.int v1), .val (.int lv), .val (.ref x_508), .val (.ref x_509), .val (.ref x_511), .val (.ref b513), .val (.int (Int32.ofNat es3.length)), .val (.ref x_518)] [(.ref b513), (.ref x_518)]))
          refine own_Go.st (fun _ k => XS.iload X527.here hx rfl (hb hby at_353) rfl k) ?_
          show own_Go _ _ _ _ (T527.setTop (mkF m 355 #[.val (.int p1), .val (.int p2), .val (.int p3), .val (.int u0), .val (.int u1), .val (.int la), .val (.int n0), .val (.int n1), .val (.int ln), .val (.int v0), .val (.int v1), .val (.int lv), .val (.ref x_508), .val (.ref x_509), .val (.ref x_511), .val (.ref b513), .val (.int (Int32.ofNat es3.length)), .val (.ref x_518)] [(.int (Int32.ofNat es3.length)), (.ref b513), (.ref x_518)]))
          refine own_Go.st (fun _ k => XS.iconst X527.here hx rfl (hb hby at_355) k) ?_
          show own_Go _ _ _ _ (T527.setTop (mkF m 356 #[.val (.int p1), .val (.int p2), .val (.int p3), .val (.int u0), .val (.int u1), .val (.int la), .val (.int n0), .val (.int n1), .val (.int ln), .val (.int v0), .val (.int v1), .val (.int lv), .val (.ref x_508), .val (.ref x_509), .val (.ref x_511), .val (.ref b513), .val (.int (Int32.ofNat es3.length)), .val (.ref x_518)] [(.int (4 : Int32)), (.int (Int32.ofNat es3.length)), (.ref b513), (.ref x_518)]))
          obtain ⟨_, _, ⟨T528, L528, k528, n528⟩, -, X528, ⟨Lc528, hQ528, l528, y528, z528⟩, st528⟩ := Jvm.LawKit.callS X527 hx (y := (⟨"com/example/net30/net30/metrics/FamilyWithLabelPinLaw", "at", "(Ljava/lang/String;[CII)Z"⟩ : MethodName)) hown518 (mvT hZ518 (hw _ (List.mem_of_getElem? (i := 142) rfl))) (mvT hZ518 (hw _ (List.mem_of_getElem? (i := 143) rfl))) (mvT hZ518 (hw _ (List.mem_of_getElem? (i := 2) rfl))) (mvT hZ518 (hw _ (List.mem_of_getElem? (i := 144) rfl))) (by decide) (backOf (W := 0) (rm_at_ l Z a0 hw [] x_518 b513 (Int32.ofNat es3.length) (4 : Int32) 4 t2_518 es3 k513 zc fm T518.heap f522 f519 f524 st_COMPACT_STRINGS st_SIOOBE_FORMATTER (by first | assumption | decide) (by first | assumption | decide) rfl rfl ⟨by decide, hb_es3⟩ hlr) hZ518 (hw _ (List.mem_of_getElem? (i := 144) rfl)) (hw _ (List.mem_of_getElem? (i := 2) rfl)) (by decide) (by decide)) (g := (mkF m 356 #[.val (.int p1), .val (.int p2), .val (.int p3), .val (.int u0), .val (.int u1), .val (.int la), .val (.int n0), .val (.int n1), .val (.int ln), .val (.int v0), .val (.int v1), .val (.int lv), .val (.ref x_508), .val (.ref x_509), .val (.ref x_511), .val (.ref b513), .val (.int (Int32.ofNat es3.length)), .val (.ref x_518)] [(.int (4 : Int32)), (.int (Int32.ofNat es3.length)), (.ref b513), (.ref x_518)])) rfl (by rw [hml]; rfl) (argsL := [(.ref x_518), (.ref b513), (.int (Int32.ofNat es3.length)), (.int (4 : Int32))]) (rest := []) (lenOf pd_344 rfl) rfl (by show 2 * 0 + _ ≤ _; exact Nat.le_of_eq rfl) (hb hby at_356) (fun _ _ => ⟨rfl, K527, (by decide : 29 + 0 ≤ _), (by decide : 270 + 0 ≤ _)⟩)
          dsimp only [Pt.U, Pt.locs, Pt.cells, Pt.slots] at X528 l528 y528 z528 st528 hQ528
          subst l528 y528 z528
          obtain ⟨rfl, N528q, K528⟩ := hQ528
          have N528 := Fr.app N527 N528q
          refine own_Go.st st528 ?_
          show own_Go _ _ _ _ (T528.setTop (mkF m 359 #[.val (.int p1), .val (.int p2), .val (.int p3), .val (.int u0), .val (.int u1), .val (.int la), .val (.int n0), .val (.int n1), .val (.int ln), .val (.int v0), .val (.int v1), .val (.int lv), .val (.ref x_508), .val (.ref x_509), .val (.ref x_511), .val (.ref b513), .val (.int (Int32.ofNat es3.length)), .val (.ref x_518)] [(.int (1 : Int32))]))
          refine own_Go.st (fun _ k => XS.ifNo X528.here hx rfl (hb hby at_359) rfl ((if0 _ _).trans (feq (by decide : ¬ ((1 : Int32) = (0 : Int32)))).1) k) ?_
          show own_Go _ _ _ _ (T528.setTop (mkF m 362 #[.val (.int p1), .val (.int p2), .val (.int p3), .val (.int u0), .val (.int u1), .val (.int la), .val (.int n0), .val (.int n1), .val (.int ln), .val (.int v0), .val (.int v1), .val (.int lv), .val (.ref x_508), .val (.ref x_509), .val (.ref x_511), .val (.ref b513), .val (.int (Int32.ofNat es3.length)), .val (.ref x_518)] []))
          refine own_Go.st (fun _ k => XS.aload X528.here hx rfl (hb hby at_362) rfl rfl k) ?_
          show own_Go _ _ _ _ (T528.setTop (mkF m 364 #[.val (.int p1), .val (.int p2), .val (.int p3), .val (.int u0), .val (.int u1), .val (.int la), .val (.int n0), .val (.int n1), .val (.int ln), .val (.int v0), .val (.int v1), .val (.int lv), .val (.ref x_508), .val (.ref x_509), .val (.ref x_511), .val (.ref b513), .val (.int (Int32.ofNat es3.length)), .val (.ref x_518)] [(.ref x_518)]))
          refine own_Go.st (fun _ k => XS.aload X528.here hx rfl (hb hby at_364) rfl rfl k) ?_
          show own_Go _ _ _ _ (T528.setTop (mkF m 366 #[.val (.int p1), .val (.int p2), .val (.int p3), .val (.int u0), .val (.int u1), .val (.int la), .val (.int n0), .val (.int n1), .val (.int ln), .val (.int v0), .val (.int v1), .val (.int lv), .val (.ref x_508), .val (.ref x_509), .val (.ref x_511), .val (.ref b513), .val (.int (Int32.ofNat es3.length)), .val (.ref x_518)] [(.ref b513), (.ref x_518)]))
          refine own_Go.st (fun _ k => XS.iload X528.here hx rfl (hb hby at_366) rfl k) ?_
          show own_Go _ _ _ _ (T528.setTop (mkF m 368 #[.val (.int p1), .val (.int p2), .val (.int p3), .val (.int u0), .val (.int u1), .val (.int la), .val (.int n0), .val (.int n1), .val (.int ln), .val (.int v0), .val (.int v1), .val (.int lv), .val (.ref x_508), .val (.ref x_509), .val (.ref x_511), .val (.ref b513), .val (.int (Int32.ofNat es3.length)), .val (.ref x_518)] [(.int (Int32.ofNat es3.length)), (.ref b513), (.ref x_518)]))
          refine own_Go.st (fun _ k => XS.iconst X528.here hx rfl (hb hby at_368) k) ?_
          show own_Go _ _ _ _ (T528.setTop (mkF m 369 #[.val (.int p1), .val (.int p2), .val (.int p3), .val (.int u0), .val (.int u1), .val (.int la), .val (.int n0), .val (.int n1), .val (.int ln), .val (.int v0), .val (.int v1), .val (.int lv), .val (.ref x_508), .val (.ref x_509), .val (.ref x_511), .val (.ref b513), .val (.int (Int32.ofNat es3.length)), .val (.ref x_518)] [(.int (5 : Int32)), (.int (Int32.ofNat es3.length)), (.ref b513), (.ref x_518)]))
          obtain ⟨_, _, ⟨T529, L529, k529, n529⟩, -, X529, ⟨Lc529, hQ529, l529, y529, z529⟩, st529⟩ := Jvm.LawKit.callS X528 hx (y := (⟨"com/example/net30/net30/metrics/FamilyWithLabelPinLaw", "at", "(Ljava/lang/String;[CII)Z"⟩ : MethodName)) hown518 (mvT hZ518 (hw _ (List.mem_of_getElem? (i := 142) rfl))) (mvT hZ518 (hw _ (List.mem_of_getElem? (i := 143) rfl))) (mvT hZ518 (hw _ (List.mem_of_getElem? (i := 2) rfl))) (mvT hZ518 (hw _ (List.mem_of_getElem? (i := 144) rfl))) (by decide) (backOf (W := 0) (rm_at_ l Z a0 hw [] x_518 b513 (Int32.ofNat es3.length) (5 : Int32) 5 t2_518 es3 k513 zc fm T518.heap f522 f519 f524 st_COMPACT_STRINGS st_SIOOBE_FORMATTER (by first | assumption | decide) (by first | assumption | decide) rfl rfl ⟨by decide, hb_es3⟩ hlr) hZ518 (hw _ (List.mem_of_getElem? (i := 144) rfl)) (hw _ (List.mem_of_getElem? (i := 2) rfl)) (by decide) (by decide)) (g := (mkF m 369 #[.val (.int p1), .val (.int p2), .val (.int p3), .val (.int u0), .val (.int u1), .val (.int la), .val (.int n0), .val (.int n1), .val (.int ln), .val (.int v0), .val (.int v1), .val (.int lv), .val (.ref x_508), .val (.ref x_509), .val (.ref x_511), .val (.ref b513), .val (.int (Int32.ofNat es3.length)), .val (.ref x_518)] [(.int (5 : Int32)), (.int (Int32.ofNat es3.length)), (.ref b513), (.ref x_518)])) rfl (by rw [hml]; rfl) (argsL := [(.ref x_518), (.ref b513), (.int (Int32.ofNat es3.length)), (.int (5 : Int32))]) (rest := []) (lenOf pd_344 rfl) rfl (by show 2 * 0 + _ ≤ _; exact Nat.le_of_eq rfl) (hb hby at_369) (fun _ _ => ⟨rfl, K528, (by decide : 29 + 0 ≤ _), (by decide : 270 + 0 ≤ _)⟩)
          dsimp only [Pt.U, Pt.locs, Pt.cells, Pt.slots] at X529 l529 y529 z529 st529 hQ529
          subst l529 y529 z529
          obtain ⟨rfl, N529q, K529⟩ := hQ529
          have N529 := Fr.app N528 N529q
          refine own_Go.st st529 ?_
          show own_Go _ _ _ _ (T529.setTop (mkF m 372 #[.val (.int p1), .val (.int p2), .val (.int p3), .val (.int u0), .val (.int u1), .val (.int la), .val (.int n0), .val (.int n1), .val (.int ln), .val (.int v0), .val (.int v1), .val (.int lv), .val (.ref x_508), .val (.ref x_509), .val (.ref x_511), .val (.ref b513), .val (.int (Int32.ofNat es3.length)), .val (.ref x_518)] [(.int (1 : Int32))]))
          refine own_Go.st (fun _ k => XS.ifNo X529.here hx rfl (hb hby at_372) rfl ((if0 _ _).trans (feq (by decide : ¬ ((1 : Int32) = (0 : Int32)))).1) k) ?_
          show own_Go _ _ _ _ (T529.setTop (mkF m 375 #[.val (.int p1), .val (.int p2), .val (.int p3), .val (.int u0), .val (.int u1), .val (.int la), .val (.int n0), .val (.int n1), .val (.int ln), .val (.int v0), .val (.int v1), .val (.int lv), .val (.ref x_508), .val (.ref x_509), .val (.ref x_511), .val (.ref b513), .val (.int (Int32.ofNat es3.length)), .val (.ref x_518)] []))
          refine own_Go.st (fun _ k => XS.aload X529.here hx rfl (hb hby at_375) rfl rfl k) ?_
          show own_Go _ _ _ _ (T529.setTop (mkF m 377 #[.val (.int p1), .val (.int p2), .val (.int p3), .val (.int u0), .val (.int u1), .val (.int la), .val (.int n0), .val (.int n1), .val (.int ln), .val (.int v0), .val (.int v1), .val (.int lv), .val (.ref x_508), .val (.ref x_509), .val (.ref x_511), .val (.ref b513), .val (.int (Int32.ofNat es3.length)), .val (.ref x_518)] [(.ref x_518)]))
          refine own_Go.st (fun _ k => XS.aload X529.here hx rfl (hb hby at_377) rfl rfl k) ?_
          show own_Go _ _ _ _ (T529.setTop (mkF m 379 #[.val (.int p1), .val (.int p2), .val (.int p3), .val (.int u0), .val (.int u1), .val (.int la), .val (.int n0), .val (.int n1), .val (.int ln), .val (.int v0), .val (.int v1), .val (.int lv), .val (.ref x_508), .val (.ref x_509), .val (.ref x_511), .val (.ref b513), .val (.int (Int32.ofNat es3.length)), .val (.ref x_518)] [(.ref b513), (.ref x_518)]))
          refine own_Go.st (fun _ k => XS.iload X529.here hx rfl (hb hby at_379) rfl k) ?_
          show own_Go _ _ _ _ (T529.setTop (mkF m 381 #[.val (.int p1), .val (.int p2), .val (.int p3), .val (.int u0), .val (.int u1), .val (.int la), .val (.int n0), .val (.int n1), .val (.int ln), .val (.int v0), .val (.int v1), .val (.int lv), .val (.ref x_508), .val (.ref x_509), .val (.ref x_511), .val (.ref b513), .val (.int (Int32.ofNat es3.length)), .val (.ref x_518)] [(.int (Int32.ofNat es3.length)), (.ref b513), (.ref x_518)]))
          refine own_Go.st (fun _ k => XS.bipush X529.here hx rfl (hb hby at_381) k) ?_
          show own_Go _ _ _ _ (T529.setTop (mkF m 383 #[.val (.int p1), .val (.int p2), .val (.int p3), .val (.int u0), .val (.int u1), .val (.int la), .val (.int n0), .val (.int n1), .val (.int ln), .val (.int v0), .val (.int v1), .val (.int lv), .val (.ref x_508), .val (.ref x_509), .val (.ref x_511), .val (.ref b513), .val (.int (Int32.ofNat es3.length)), .val (.ref x_518)] [(.int (6 : Int32)), (.int (Int32.ofNat es3.length)), (.ref b513), (.ref x_518)]))
          obtain ⟨_, _, ⟨T530, L530, k530, n530⟩, -, X530, ⟨Lc530, hQ530, l530, y530, z530⟩, st530⟩ := Jvm.LawKit.callS X529 hx (y := (⟨"com/example/net30/net30/metrics/FamilyWithLabelPinLaw", "at", "(Ljava/lang/String;[CII)Z"⟩ : MethodName)) hown518 (mvT hZ518 (hw _ (List.mem_of_getElem? (i := 142) rfl))) (mvT hZ518 (hw _ (List.mem_of_getElem? (i := 143) rfl))) (mvT hZ518 (hw _ (List.mem_of_getElem? (i := 2) rfl))) (mvT hZ518 (hw _ (List.mem_of_getElem? (i := 144) rfl))) (by decide) (backOf (W := 0) (rm_at_ l Z a0 hw [] x_518 b513 (Int32.ofNat es3.length) (6 : Int32) 6 t2_518 es3 k513 zc fm T518.heap f522 f519 f524 st_COMPACT_STRINGS st_SIOOBE_FORMATTER (by first | assumption | decide) (by first | assumption | decide) rfl rfl ⟨by decide, hb_es3⟩ hlr) hZ518 (hw _ (List.mem_of_getElem? (i := 144) rfl)) (hw _ (List.mem_of_getElem? (i := 2) rfl)) (by decide) (by decide)) (g := (mkF m 383 #[.val (.int p1), .val (.int p2), .val (.int p3), .val (.int u0), .val (.int u1), .val (.int la), .val (.int n0), .val (.int n1), .val (.int ln), .val (.int v0), .val (.int v1), .val (.int lv), .val (.ref x_508), .val (.ref x_509), .val (.ref x_511), .val (.ref b513), .val (.int (Int32.ofNat es3.length)), .val (.ref x_518)] [(.int (6 : Int32)), (.int (Int32.ofNat es3.length)), (.ref b513), (.ref x_518)])) rfl (by rw [hml]; rfl) (argsL := [(.ref x_518), (.ref b513), (.int (Int32.ofNat es3.length)), (.int (6 : Int32))]) (rest := []) (lenOf pd_344 rfl) rfl (by show 2 * 0 + _ ≤ _; exact Nat.le_of_eq rfl) (hb hby at_383) (fun _ _ => ⟨rfl, K529, (by decide : 29 + 0 ≤ _), (by decide : 270 + 0 ≤ _)⟩)
          dsimp only [Pt.U, Pt.locs, Pt.cells, Pt.slots] at X530 l530 y530 z530 st530 hQ530
          subst l530 y530 z530
          obtain ⟨rfl, N530q, K530⟩ := hQ530
          have N530 := Fr.app N529 N530q
          refine own_Go.st st530 ?_
          show own_Go _ _ _ _ (T530.setTop (mkF m 386 #[.val (.int p1), .val (.int p2), .val (.int p3), .val (.int u0), .val (.int u1), .val (.int la), .val (.int n0), .val (.int n1), .val (.int ln), .val (.int v0), .val (.int v1), .val (.int lv), .val (.ref x_508), .val (.ref x_509), .val (.ref x_511), .val (.ref b513), .val (.int (Int32.ofNat es3.length)), .val (.ref x_518)] [(.int (1 : Int32))]))
          refine own_Go.st (fun _ k => XS.ifNo X530.here hx rfl (hb hby at_386) rfl ((if0 _ _).trans (feq (by decide : ¬ ((1 : Int32) = (0 : Int32)))).1) k) ?_
          show own_Go _ _ _ _ (T530.setTop (mkF m 389 #[.val (.int p1), .val (.int p2), .val (.int p3), .val (.int u0), .val (.int u1), .val (.int la), .val (.int n0), .val (.int n1), .val (.int ln), .val (.int v0), .val (.int v1), .val (.int lv), .val (.ref x_508), .val (.ref x_509), .val (.ref x_511), .val (.ref b513), .val (.int (Int32.ofNat es3.length)), .val (.ref x_518)] []))
          refine own_Go.st (fun _ k => XS.aload X530.here hx rfl (hb hby at_389) rfl rfl k) ?_
          show own_Go _ _ _ _ (T530.setTop (mkF m 391 #[.val (.int p1), .val (.int p2), .val (.int p3), .val (.int u0), .val (.int u1), .val (.int la), .val (.int n0), .val (.int n1), .val (.int ln), .val (.int v0), .val (.int v1), .val (.int lv), .val (.ref x_508), .val (.ref x_509), .val (.ref x_511), .val (.ref b513), .val (.int (Int32.ofNat es3.length)), .val (.ref x_518)] [(.ref x_518)]))
          refine own_Go.st (fun _ k => XS.aload X530.here hx rfl (hb hby at_391) rfl rfl k) ?_
          show own_Go _ _ _ _ (T530.setTop (mkF m 393 #[.val (.int p1), .val (.int p2), .val (.int p3), .val (.int u0), .val (.int u1), .val (.int la), .val (.int n0), .val (.int n1), .val (.int ln), .val (.int v0), .val (.int v1), .val (.int lv), .val (.ref x_508), .val (.ref x_509), .val (.ref x_511), .val (.ref b513), .val (.int (Int32.ofNat es3.length)), .val (.ref x_518)] [(.ref b513), (.ref x_518)]))
          refine own_Go.st (fun _ k => XS.iload X530.here hx rfl (hb hby at_393) rfl k) ?_
          show own_Go _ _ _ _ (T530.setTop (mkF m 395 #[.val (.int p1), .val (.int p2), .val (.int p3), .val (.int u0), .val (.int u1), .val (.int la), .val (.int n0), .val (.int n1), .val (.int ln), .val (.int v0), .val (.int v1), .val (.int lv), .val (.ref x_508), .val (.ref x_509), .val (.ref x_511), .val (.ref b513), .val (.int (Int32.ofNat es3.length)), .val (.ref x_518)] [(.int (Int32.ofNat es3.length)), (.ref b513), (.ref x_518)]))
          refine own_Go.st (fun _ k => XS.bipush X530.here hx rfl (hb hby at_395) k) ?_
          show own_Go _ _ _ _ (T530.setTop (mkF m 397 #[.val (.int p1), .val (.int p2), .val (.int p3), .val (.int u0), .val (.int u1), .val (.int la), .val (.int n0), .val (.int n1), .val (.int ln), .val (.int v0), .val (.int v1), .val (.int lv), .val (.ref x_508), .val (.ref x_509), .val (.ref x_511), .val (.ref b513), .val (.int (Int32.ofNat es3.length)), .val (.ref x_518)] [(.int (7 : Int32)), (.int (Int32.ofNat es3.length)), (.ref b513), (.ref x_518)]))
          obtain ⟨_, _, ⟨T531, L531, k531, n531⟩, -, X531, ⟨Lc531, hQ531, l531, y531, z531⟩, st531⟩ := Jvm.LawKit.callS X530 hx (y := (⟨"com/example/net30/net30/metrics/FamilyWithLabelPinLaw", "at", "(Ljava/lang/String;[CII)Z"⟩ : MethodName)) hown518 (mvT hZ518 (hw _ (List.mem_of_getElem? (i := 142) rfl))) (mvT hZ518 (hw _ (List.mem_of_getElem? (i := 143) rfl))) (mvT hZ518 (hw _ (List.mem_of_getElem? (i := 2) rfl))) (mvT hZ518 (hw _ (List.mem_of_getElem? (i := 144) rfl))) (by decide) (backOf (W := 0) (rm_at_ l Z a0 hw [] x_518 b513 (Int32.ofNat es3.length) (7 : Int32) 7 t2_518 es3 k513 zc fm T518.heap f522 f519 f524 st_COMPACT_STRINGS st_SIOOBE_FORMATTER (by first | assumption | decide) (by first | assumption | decide) rfl rfl ⟨by decide, hb_es3⟩ hlr) hZ518 (hw _ (List.mem_of_getElem? (i := 144) rfl)) (hw _ (List.mem_of_getElem? (i := 2) rfl)) (by decide) (by decide)) (g := (mkF m 397 #[.val (.int p1), .val (.int p2), .val (.int p3), .val (.int u0), .val (.int u1), .val (.int la), .val (.int n0), .val (.int n1), .val (.int ln), .val (.int v0), .val (.int v1), .val (.int lv), .val (.ref x_508), .val (.ref x_509), .val (.ref x_511), .val (.ref b513), .val (.int (Int32.ofNat es3.length)), .val (.ref x_518)] [(.int (7 : Int32)), (.int (Int32.ofNat es3.length)), (.ref b513), (.ref x_518)])) rfl (by rw [hml]; rfl) (argsL := [(.ref x_518), (.ref b513), (.int (Int32.ofNat es3.length)), (.int (7 : Int32))]) (rest := []) (lenOf pd_344 rfl) rfl (by show 2 * 0 + _ ≤ _; exact Nat.le_of_eq rfl) (hb hby at_397) (fun _ _ => ⟨rfl, K530, (by decide : 29 + 0 ≤ _), (by decide : 270 + 0 ≤ _)⟩)
          dsimp only [Pt.U, Pt.locs, Pt.cells, Pt.slots] at X531 l531 y531 z531 st531 hQ531
          subst l531 y531 z531
          obtain ⟨rfl, N531q, K531⟩ := hQ531
          have N531 := Fr.app N530 N531q
          refine own_Go.st st531 ?_
          show own_Go _ _ _ _ (T531.setTop (mkF m 400 #[.val (.int p1), .val (.int p2), .val (.int p3), .val (.int u0), .val (.int u1), .val (.int la), .val (.int n0), .val (.int n1), .val (.int ln), .val (.int v0), .val (.int v1), .val (.int lv), .val (.ref x_508), .val (.ref x_509), .val (.ref x_511), .val (.ref b513), .val (.int (Int32.ofNat es3.length)), .val (.ref x_518)] [(.int (1 : Int32))]))
          refine own_Go.st (fun _ k => XS.ifNo X531.here hx rfl (hb hby at_400) rfl ((if0 _ _).trans (feq (by decide : ¬ ((1 : Int32) = (0 : Int32)))).1) k) ?_
          show own_Go _ _ _ _ (T531.setTop (mkF m 403 #[.val (.int p1), .val (.int p2), .val (.int p3), .val (.int u0), .val (.int u1), .val (.int la), .val (.int n0), .val (.int n1), .val (.int ln), .val (.int v0), .val (.int v1), .val (.int lv), .val (.ref x_508), .val (.ref x_509), .val (.ref x_511), .val (.ref b513), .val (.int (Int32.ofNat es3.length)), .val (.ref x_518)] []))
          refine own_Go.st (fun _ k => XS.aload X531.here hx rfl (hb hby at_403) rfl rfl k) ?_
          show own_Go _ _ _ _ (T531.setTop (mkF m 405 #[.val (.int p1), .val (.int p2), .val (.int p3), .val (.int u0), .val (.int u1), .val (.int la), .val (.int n0), .val (.int n1), .val (.int ln), .val (.int v0), .val (.int v1), .val (.int lv), .val (.ref x_508), .val (.ref x_509), .val (.ref x_511), .val (.ref b513), .val (.int (Int32.ofNat es3.length)), .val (.ref x_518)] [(.ref x_518)]))
          refine own_Go.st (fun _ k => XS.aload X531.here hx rfl (hb hby at_405) rfl rfl k) ?_
          show own_Go _ _ _ _ (T531.setTop (mkF m 407 #[.val (.int p1), .val (.int p2), .val (.int p3), .val (.int u0), .val (.int u1), .val (.int la), .val (.int n0), .val (.int n1), .val (.int ln), .val (.int v0), .val (.int v1), .val (.int lv), .val (.ref x_508), .val (.ref x_509), .val (.ref x_511), .val (.ref b513), .val (.int (Int32.ofNat es3.length)), .val (.ref x_518)] [(.ref b513), (.ref x_518)]))
          refine own_Go.st (fun _ k => XS.iload X531.here hx rfl (hb hby at_407) rfl k) ?_
          show own_Go _ _ _ _ (T531.setTop (mkF m 409 #[.val (.int p1), .val (.int p2), .val (.int p3), .val (.int u0), .val (.int u1), .val (.int la), .val (.int n0), .val (.int n1), .val (.int ln), .val (.int v0), .val (.int v1), .val (.int lv), .val (.ref x_508), .val (.ref x_509), .val (.ref x_511), .val (.ref b513), .val (.int (Int32.ofNat es3.length)), .val (.ref x_518)] [(.int (Int32.ofNat es3.length)), (.ref b513), (.ref x_518)]))
          refine own_Go.st (fun _ k => XS.bipush X531.here hx rfl (hb hby at_409) k) ?_
          show own_Go _ _ _ _ (T531.setTop (mkF m 411 #[.val (.int p1), .val (.int p2), .val (.int p3), .val (.int u0), .val (.int u1), .val (.int la), .val (.int n0), .val (.int n1), .val (.int ln), .val (.int v0), .val (.int v1), .val (.int lv), .val (.ref x_508), .val (.ref x_509), .val (.ref x_511), .val (.ref b513), .val (.int (Int32.ofNat es3.length)), .val (.ref x_518)] [(.int (8 : Int32)), (.int (Int32.ofNat es3.length)), (.ref b513), (.ref x_518)]))
          obtain ⟨_, _, ⟨T532, L532, k532, n532⟩, -, X532, ⟨Lc532, hQ532, l532, y532, z532⟩, st532⟩ := Jvm.LawKit.callS X531 hx (y := (⟨"com/example/net30/net30/metrics/FamilyWithLabelPinLaw", "at", "(Ljava/lang/String;[CII)Z"⟩ : MethodName)) hown518 (mvT hZ518 (hw _ (List.mem_of_getElem? (i := 142) rfl))) (mvT hZ518 (hw _ (List.mem_of_getElem? (i := 143) rfl))) (mvT hZ518 (hw _ (List.mem_of_getElem? (i := 2) rfl))) (mvT hZ518 (hw _ (List.mem_of_getElem? (i := 144) rfl))) (by decide) (backOf (W := 0) (rm_at_ l Z a0 hw [] x_518 b513 (Int32.ofNat es3.length) (8 : Int32) 8 t2_518 es3 k513 zc fm T518.heap f522 f519 f524 st_COMPACT_STRINGS st_SIOOBE_FORMATTER (by first | assumption | decide) (by first | assumption | decide) rfl rfl ⟨by decide, hb_es3⟩ hlr) hZ518 (hw _ (List.mem_of_getElem? (i := 144) rfl)) (hw _ (List.mem_of_getElem? (i := 2) rfl)) (by decide) (by decide)) (g := (mkF m 411 #[.val (.int p1), .val (.int p2), .val (.int p3), .val (.int u0), .val (.int u1), .val (.int la), .val (.int n0), .val (.int n1), .val (.int ln), .val (.int v0), .val (.int v1), .val (.int lv), .val (.ref x_508), .val (.ref x_509), .val (.ref x_511), .val (.ref b513), .val (.int (Int32.ofNat es3.length)), .val (.ref x_518)] [(.int (8 : Int32)), (.int (Int32.ofNat es3.length)), (.ref b513), (.ref x_518)])) rfl (by rw [hml]; rfl) (argsL := [(.ref x_518), (.ref b513), (.int (Int32.ofNat es3.length)), (.int (8 : Int32))]) (rest := []) (lenOf pd_344 rfl) rfl (by show 2 * 0 + _ ≤ _; exact Nat.le_of_eq rfl) (hb hby at_411) (fun _ _ => ⟨rfl, K531, (by decide : 29 + 0 ≤ _), (by decide : 270 + 0 ≤ _)⟩)
          dsimp only [Pt.U, Pt.locs, Pt.cells, Pt.slots] at X532 l532 y532 z532 st532 hQ532
          subst l532 y532 z532
          obtain ⟨rfl, N532q, K532⟩ := hQ532
          have N532 := Fr.app N531 N532q
          refine own_Go.st st532 ?_
          show own_Go _ _ _ _ (T532.setTop (mkF m 414 #[.val (.int p1), .val (.int p2), .val (.int p3), .val (.int u0), .val (.int u1), .val (.int la), .val (.int n0), .val (.int n1), .val (.int ln), .val (.int v0), .val (.int v1), .val (.int lv), .val (.ref x_508), .val (.ref x_509), .val (.ref x_511), .val (.ref b513), .val (.int (Int32.ofNat es3.length)), .val (.ref x_518)] [(.int (1 : Int32))]))
          refine own_Go.st (fun _ k => XS.ifNo X532.here hx rfl (hb hby at_414) rfl ((if0 _ _).trans (feq (by decide : ¬ ((1 : Int32) = (0 : Int32)))).1) k) ?_
          show own_Go _ _ _ _ (T532.setTop (mkF m 417 #[.val (.int p1), .val (.int p2), .val (.int p3), .val (.int u0), .val (.int u1), .val (.int la), .val (.int n0), .val (.int n1), .val (.int ln), .val (.int v0), .val (.int v1), .val (.int lv), .val (.ref x_508), .val (.ref x_509), .val (.ref x_511), .val (.ref b513), .val (.int (Int32.ofNat es3.length)), .val (.ref x_518)] []))
          refine own_Go.st (fun _ k => XS.aload X532.here hx rfl (hb hby at_417) rfl rfl k) ?_
          show own_Go _ _ _ _ (T532.setTop (mkF m 419 #[.val (.int p1), .val (.int p2), .val (.int p3), .val (.int u0), .val (.int u1), .val (.int la), .val (.int n0), .val (.int n1), .val (.int ln), .val (.int v0), .val (.int v1), .val (.int lv), .val (.ref x_508), .val (.ref x_509), .val (.ref x_511), .val (.ref b513), .val (.int (Int32.ofNat es3.length)), .val (.ref x_518)] [(.ref x_518)]))
          refine own_Go.st (fun _ k => XS.aload X532.here hx rfl (hb hby at_419) rfl rfl k) ?_
          show own_Go _ _ _ _ (T532.setTop (mkF m 421 #[.val (.int p1), .val (.int p2), .val (.int p3), .val (.int u0), .val (.int u1), .val (.int la), .val (.int n0), .val (.int n1), .val (.int ln), .val (.int v0), .val (.int v1), .val (.int lv), .val (.ref x_508), .val (.ref x_509), .val (.ref x_511), .val (.ref b513), .val (.int (Int32.ofNat es3.length)), .val (.ref x_518)] [(.ref b513), (.ref x_518)]))
          refine own_Go.st (fun _ k => XS.iload X532.here hx rfl (hb hby at_421) rfl k) ?_
          show own_Go _ _ _ _ (T532.setTop (mkF m 423 #[.val (.int p1), .val (.int p2), .val (.int p3), .val (.int u0), .val (.int u1), .val (.int la), .val (.int n0), .val (.int n1), .val (.int ln), .val (.int v0), .val (.int v1), .val (.int lv), .val (.ref x_508), .val (.ref x_509), .val (.ref x_511), .val (.ref b513), .val (.int (Int32.ofNat es3.length)), .val (.ref x_518)] [(.int (Int32.ofNat es3.length)), (.ref b513), (.ref x_518)]))
          refine own_Go.st (fun _ k => XS.bipush X532.here hx rfl (hb hby at_423) k) ?_
          show own_Go _ _ _ _ (T532.setTop (mkF m 425 #[.val (.int p1), .val (.int p2), .val (.int p3), .val (.int u0), .val (.int u1), .val (.int la), .val (.int n0), .val (.int n1), .val (.int ln), .val (.int v0), .val (.int v1), .val (.int lv), .val (.ref x_508), .val (.ref x_509), .val (.ref x_511), .val (.ref b513), .val (.int (Int32.ofNat es3.length)), .val (.ref x_518)] [(.int (9 : Int32)), (.int (Int32.ofNat es3.length)), (.ref b513), (.ref x_518)]))
          obtain ⟨_, _, ⟨T533, L533, k533, n533⟩, -, X533, ⟨Lc533, hQ533, l533, y533, z533⟩, st533⟩ := Jvm.LawKit.callS X532 hx (y := (⟨"com/example/net30/net30/metrics/FamilyWithLabelPinLaw", "at", "(Ljava/lang/String;[CII)Z"⟩ : MethodName)) hown518 (mvT hZ518 (hw _ (List.mem_of_getElem? (i := 142) rfl))) (mvT hZ518 (hw _ (List.mem_of_getElem? (i := 143) rfl))) (mvT hZ518 (hw _ (List.mem_of_getElem? (i := 2) rfl))) (mvT hZ518 (hw _ (List.mem_of_getElem? (i := 144) rfl))) (by decide) (backOf (W := 0) (rm_at_ l Z a0 hw [] x_518 b513 (Int32.ofNat es3.length) (9 : Int32) 9 t2_518 es3 k513 zc fm T518.heap f522 f519 f524 st_COMPACT_STRINGS st_SIOOBE_FORMATTER (by first | assumption | decide) (by first | assumption | decide) rfl rfl ⟨by decide, hb_es3⟩ hlr) hZ518 (hw _ (List.mem_of_getElem? (i := 144) rfl)) (hw _ (List.mem_of_getElem? (i := 2) rfl)) (by decide) (by decide)) (g := (mkF m 425 #[.val (.int p1), .val (.int p2), .val (.int p3), .val (.int u0), .val (.int u1), .val (.int la), .val (.int n0), .val (.int n1), .val (.int ln), .val (.int v0), .val (.int v1), .val (.int lv), .val (.ref x_508), .val (.ref x_509), .val (.ref x_511), .val (.ref b513), .val (.int (Int32.ofNat es3.length)), .val (.ref x_518)] [(.int (9 : Int32)), (.int (Int32.ofNat es3.length)), (.ref b513), (.ref x_518)])) rfl (by rw [hml]; rfl) (argsL := [(.ref x_518), (.ref b513), (.int (Int32.ofNat es3.length)), (.int (9 : Int32))]) (rest := []) (lenOf pd_344 rfl) rfl (by show 2 * 0 + _ ≤ _; exact Nat.le_of_eq rfl) (hb hby at_425) (fun _ _ => ⟨rfl, K532, (by decide : 29 + 0 ≤ _), (by decide : 270 + 0 ≤ _)⟩)
          dsimp only [Pt.U, Pt.locs, Pt.cells, Pt.slots] at X533 l533 y533 z533 st533 hQ533
          subst l533 y533 z533
          obtain ⟨rfl, N533q, K533⟩ := hQ533
          have N533 := Fr.app N532 N533q
          refine own_Go.st st533 ?_
          show own_Go _ _ _ _ (T533.setTop (mkF m 428 #[.val (.int p1), .val (.int p2), .val (.int p3), .val (.int u0), .val (.int u1), .val (.int la), .val (.int n0), .val (.int n1), .val (.int ln), .val (.int v0), .val (.int v1), .val (.int lv), .val (.ref x_508), .val (.ref x_509), .val (.ref x_511), .val (.ref b513), .val (.int (Int32.ofNat es3.length)), .val (.ref x_518)] [(.int (1 : Int32))]))
          refine own_Go.st (fun _ k => XS.ifNo X533.here hx rfl (hb hby at_428) rfl ((if0 _ _).trans (feq (by decide : ¬ ((1 : Int32) = (0 : Int32)))).1) k) ?_
          show own_Go _ _ _ _ (T533.setTop (mkF m 431 #[.val (.int p1), .val (.int p2), .val (.int p3), .val (.int u0), .val (.int u1), .val (.int la), .val (.int n0), .val (.int n1), .val (.int ln), .val (.int v0), .val (.int v1), .val (.int lv), .val (.ref x_508), .val (.ref x_509), .val (.ref x_511), .val (.ref b513), .val (.int (Int32.ofNat es3.length)), .val (.ref x_518)] []))
          refine own_Go.st (fun _ k => XS.iconst X533.here hx rfl (hb hby at_431) k) ?_
          show own_Go _ _ _ _ (T533.setTop (mkF m 432 #[.val (.int p1), .val (.int p2), .val (.int p3), .val (.int u0), .val (.int u1), .val (.int la), .val (.int n0), .val (.int n1), .val (.int ln), .val (.int v0), .val (.int v1), .val (.int lv), .val (.ref x_508), .val (.ref x_509), .val (.ref x_511), .val (.ref b513), .val (.int (Int32.ofNat es3.length)), .val (.ref x_518)] [(.int (1 : Int32))]))
          refine own_Go.st (fun _ k => XS.goto X533.here hx rfl (pc0 := 432) (pc' := 436) rfl (hb hby at_432) (by decide) (by decide) k) ?_
          show own_Go _ _ _ _ (T533.setTop (mkF m 436 #[.val (.int p1), .val (.int p2), .val (.int p3), .val (.int u0), .val (.int u1), .val (.int la), .val (.int n0), .val (.int n1), .val (.int ln), .val (.int v0), .val (.int v1), .val (.int lv), .val (.ref x_508), .val (.ref x_509), .val (.ref x_511), .val (.ref b513), .val (.int (Int32.ofNat es3.length)), .val (.ref x_518)] [(.int (1 : Int32))]))
          obtain ⟨fs534, hr534, hrun534, hend534, hret534⟩ := X533.leaveW hS518 (by rw [K533]; exact (by omega)) (v := some (.int (nar .boolean (1 : Int32)))) (fun h => by rw [Bd.returns] at h; cases h)
          have K535 : Keep h0 T518.heap [] := KJ517.trans K518 all0
          subst hPP
          refine ⟨_, _, retN X533 hx (t := .boolean) Bd.returns (by simp) (hb hby at_436) hr534, hrun534, hend534, _, _, rfl, ?_, ?_, hret534.1, hret534.2.1, hret534.2.2.1, hret534.2.2.2.mono (by decide) (by decide)⟩
          · show Q_law Z _ _ _ _ _ h0 _ T533.heap _
            rw [K533]
            exact ⟨rfl, N533, K535⟩
          · have hfin := R518.trans (CHv.at X533 hZ518 hEL R518.1)
            rw [← hh] at hfin
            show CHr Z consts_1 s.vm s.heap T533.vm T533.heap
            rw [K533]
            exact hfin
        rcases hlv with rfl | rfl | rfl
        ·
          show own_Go _ _ _ _ (TJ516.setTop (mkF m 232 #[.val (.int p1), .val (.int p2), .val (.int p3), .val (.int u0), .val (.int u1), .val (.int la), .val (.int n0), .val (.int n1), .val (.int ln), .val (.int v0), .val (.int v1), .val (.int (0 : Int32)), .val (.ref x_508), .val (.ref x_509), .val (.ref x_511), .val (.ref b513), .val (.int (Int32.ofNat es2.length)), .unset] []))
          refine own_Go.st (fun _ k => XS.iload XJ516.here hx rfl (hb hby at_232) rfl k) ?_
          show own_Go _ _ _ _ (TJ516.setTop (mkF m 234 #[.val (.int p1), .val (.int p2), .val (.int p3), .val (.int u0), .val (.int u1), .val (.int la), .val (.int n0), .val (.int n1), .val (.int ln), .val (.int v0), .val (.int v1), .val (.int (0 : Int32)), .val (.ref x_508), .val (.ref x_509), .val (.ref x_511), .val (.ref b513), .val (.int (Int32.ofNat es2.length)), .unset] [(.int (0 : Int32))]))
          refine own_Go.st (fun _ k => XS.iconst XJ516.here hx rfl (hb hby at_234) k) ?_
          show own_Go _ _ _ _ (TJ516.setTop (mkF m 235 #[.val (.int p1), .val (.int p2), .val (.int p3), .val (.int u0), .val (.int u1), .val (.int la), .val (.int n0), .val (.int n1), .val (.int ln), .val (.int v0), .val (.int v1), .val (.int (0 : Int32)), .val (.ref x_508), .val (.ref x_509), .val (.ref x_511), .val (.ref b513), .val (.int (Int32.ofNat es2.length)), .unset] [(.int (1 : Int32)), (.int (0 : Int32))]))
          refine own_Go.st (fun _ k => XS.icmpYes XJ516.here hx rfl (pc0 := 235) (pc' := 248) rfl (hb hby at_235) rfl (tlt (by decide : (0 : Int32) < (1 : Int32))).1 (by decide) (by decide) k) ?_
          show own_Go _ _ _ _ (TJ516.setTop (mkF m 248 #[.val (.int p1), .val (.int p2), .val (.int p3), .val (.int u0), .val (.int u1), .val (.int la), .val (.int n0), .val (.int n1), .val (.int ln), .val (.int v0), .val (.int v1), .val (.int (0 : Int32)), .val (.ref x_508), .val (.ref x_509), .val (.ref x_511), .val (.ref b513), .val (.int (Int32.ofNat es2.length)), .unset] []))
          refine own_Go.st (fun _ k => XS.iload XJ516.here hx rfl (hb hby at_248) rfl k) ?_
          show own_Go _ _ _ _ (TJ516.setTop (mkF m 250 #[.val (.int p1), .val (.int p2), .val (.int p3), .val (.int u0), .val (.int u1), .val (.int la), .val (.int n0), .val (.int n1), .val (.int ln), .val (.int v0), .val (.int v1), .val (.int (0 : Int32)), .val (.ref x_508), .val (.ref x_509), .val (.ref x_511), .val (.ref b513), .val (.int (Int32.ofNat es2.length)), .unset] [(.int (0 : Int32))]))
          refine own_Go.st (fun _ k => XS.iconst XJ516.here hx rfl (hb hby at_250) k) ?_
          show own_Go _ _ _ _ (TJ516.setTop (mkF m 251 #[.val (.int p1), .val (.int p2), .val (.int p3), .val (.int u0), .val (.int u1), .val (.int la), .val (.int n0), .val (.int n1), .val (.int ln), .val (.int v0), .val (.int v1), .val (.int (0 : Int32)), .val (.ref x_508), .val (.ref x_509), .val (.ref x_511), .val (.ref b513), .val (.int (Int32.ofNat es2.length)), .unset] [(.int (2 : Int32)), (.int (0 : Int32))]))
          refine own_Go.st (fun _ k => XS.icmpYes XJ516.here hx rfl (pc0 := 251) (pc' := 264) rfl (hb hby at_251) rfl (tlt (by decide : (0 : Int32) < (2 : Int32))).1 (by decide) (by decide) k) ?_
          show own_Go _ _ _ _ (TJ516.setTop (mkF m 264 #[.val (.int p1), .val (.int p2), .val (.int p3), .val (.int u0), .val (.int u1), .val (.int la), .val (.int n0), .val (.int n1), .val (.int ln), .val (.int v0), .val (.int v1), .val (.int (0 : Int32)), .val (.ref x_508), .val (.ref x_509), .val (.ref x_511), .val (.ref b513), .val (.int (Int32.ofNat es2.length)), .unset] []))
          refine own_Go.st (fun _ k => XS.aload XJ516.here hx rfl (hb hby at_264) rfl rfl k) ?_
          show own_Go _ _ _ _ (TJ516.setTop (mkF m 266 #[.val (.int p1), .val (.int p2), .val (.int p3), .val (.int u0), .val (.int u1), .val (.int la), .val (.int n0), .val (.int n1), .val (.int ln), .val (.int v0), .val (.int v1), .val (.int (0 : Int32)), .val (.ref x_508), .val (.ref x_509), .val (.ref x_511), .val (.ref b513), .val (.int (Int32.ofNat es2.length)), .unset] [(.ref b513)]))
          refine own_Go.st (fun _ k => XS.iload XJ516.here hx rfl (hb hby at_266) rfl k) ?_
          show own_Go _ _ _ _ (TJ516.setTop (mkF m 268 #[.val (.int p1), .val (.int p2), .val (.int p3), .val (.int u0), .val (.int u1), .val (.int la), .val (.int n0), .val (.int n1), .val (.int ln), .val (.int v0), .val (.int v1), .val (.int (0 : Int32)), .val (.ref x_508), .val (.ref x_509), .val (.ref x_511), .val (.ref b513), .val (.int (Int32.ofNat es2.length)), .unset] [(.int (Int32.ofNat es2.length)), (.ref b513)]))
          refine own_Go.st (fun _ k => XS.bipush XJ516.here hx rfl (hb hby at_268) k) ?_
          show own_Go _ _ _ _ (TJ516.setTop (mkF m 270 #[.val (.int p1), .val (.int p2), .val (.int p3), .val (.int u0), .val (.int u1), .val (.int la), .val (.int n0), .val (.int n1), .val (.int ln), .val (.int v0), .val (.int v1), .val (.int (0 : Int32)), .val (.ref x_508), .val (.ref x_509), .val (.ref x_511), .val (.ref b513), .val (.int (Int32.ofNat es2.length)), .unset] [(.int (34 : Int32)), (.int (Int32.ofNat es2.length)), (.ref b513)]))
          obtain ⟨c536, Ar536, q536, S536, Nn536, H536, G536⟩ := id fJ516_3
          have hin536 : ¬ ((Int32.ofNat es2.length) < 0 ∨ c536.slots.size ≤ ((Int32.ofNat es2.length)).toNatClampNeg) := inb_of S536 ⟨own_of0 (by (try simp only [List.length_append, List.length_cons, List.length_nil]); omega), (own_oflt (j := 10) (by (try simp only [List.length_append, List.length_cons, List.length_nil]); omega) (by omega)).mpr (by (try simp only [List.length_append, List.length_cons, List.length_nil]); omega)⟩
          obtain ⟨T536, h536, X536, e536, W536, st536⟩ := stC XJ516 hx hZ511 eJ516 Ar536 (j := (Int32.ofNat es2.length)) hin536 (g := (mkF m 270 #[.val (.int p1), .val (.int p2), .val (.int p3), .val (.int u0), .val (.int u1), .val (.int la), .val (.int n0), .val (.int n1), .val (.int ln), .val (.int v0), .val (.int v1), .val (.int (0 : Int32)), .val (.ref x_508), .val (.ref x_509), .val (.ref x_511), .val (.ref b513), .val (.int (Int32.ofNat es2.length)), .unset] [(.int (34 : Int32)), (.int (Int32.ofNat es2.length)), (.ref b513)])) rfl rfl (hb hby at_270)
          refine own_Go.st st536 ?_
          have N536 := Fr.snoc X536 NJ516 (by omega)
          have Sf538 : Safe Z consts_1 T511.vm hJ516 b513 := Safe.arv hZ511.alike fJ516_3 (by decide)
          have z536 : hJ516.size ≤ h536.size := Nat.le_of_eq W536.size.symm
          have f539 : Arv Z h536 b513 k513 .char (10 : Int32) ((es2 ++ [(34 : Int32)]).map Value.int) (.int (0 : Int32)) := own_push fJ516_3 W536 rfl (by (try simp only [List.length_append, List.length_cons, List.length_nil]); omega) (by decide)
          have R536 : CHr Z consts_1 s.vm h0 T511.vm h536 := RJ516.trans (CHr.wr W536 Sf538 RJ516.1)
          show own_Go _ _ _ _ (T536.setTop (mkF m 271 #[.val (.int p1), .val (.int p2), .val (.int p3), .val (.int u0), .val (.int u1), .val (.int la), .val (.int n0), .val (.int n1), .val (.int ln), .val (.int v0), .val (.int v1), .val (.int (0 : Int32)), .val (.ref x_508), .val (.ref x_509), .val (.ref x_511), .val (.ref b513), .val (.int (Int32.ofNat es2.length)), .unset] []))
          refine own_Go.st (fun _ k => XS.iinc X536.here hx rfl (hb hby at_271) rfl (l' := #[.val (.int p1), .val (.int p2), .val (.int p3), .val (.int u0), .val (.int u1), .val (.int la), .val (.int n0), .val (.int n1), .val (.int ln), .val (.int v0), .val (.int v1), .val (.int (0 : Int32)), .val (.ref x_508), .val (.ref x_509), .val (.ref x_511), .val (.ref b513), .val (.int ((Int32.ofNat es2.length) + (1 : Int32))), .unset]) rfl k) ?_
          show own_Go _ _ _ _ (T536.setTop (mkF m 274 #[.val (.int p1), .val (.int p2), .val (.int p3), .val (.int u0), .val (.int u1), .val (.int la), .val (.int n0), .val (.int n1), .val (.int ln), .val (.int v0), .val (.int v1), .val (.int (0 : Int32)), .val (.ref x_508), .val (.ref x_509), .val (.ref x_511), .val (.ref b513), .val (.int ((Int32.ofNat es2.length) + (1 : Int32))), .unset] []))
          rw [own_pl1 (es := es2) (c := (34 : Int32)) (by (try simp only [List.length_append, List.length_cons, List.length_nil]); omega)]
          show own_Go _ _ _ _ (T536.setTop (mkF m 274 #[.val (.int p1), .val (.int p2), .val (.int p3), .val (.int u0), .val (.int u1), .val (.int la), .val (.int n0), .val (.int n1), .val (.int ln), .val (.int v0), .val (.int v1), .val (.int (0 : Int32)), .val (.ref x_508), .val (.ref x_509), .val (.ref x_511), .val (.ref b513), .val (.int (Int32.ofNat (es2 ++ [(34 : Int32)]).length)), .unset] []))
          have ne540 : @Ne Nat x_508 b513 := Exa.neArv fJ516_0.exa fJ516_3 (hw _ (List.mem_of_getElem? (i := 6) rfl))
          have ne541 : @Ne Nat t_508 b513 := own_Str.neTy fJ516_0 fJ516_3 (by decide)
          have f542 : own_Str Z h536 x_508 t_508 ([u0, u1].take la.toNatClampNeg) := fJ516_0.other W536 ne540 ne541
          have ne543 : @Ne Nat x_509 b513 := Exa.neArv fJ516_1.exa fJ516_3 (hw _ (List.mem_of_getElem? (i := 6) rfl))
          have ne544 : @Ne Nat t_509 b513 := own_Str.neTy fJ516_1 fJ516_3 (by decide)
          have f545 : own_Str Z h536 x_509 t_509 ([n0, n1].take ln.toNatClampNeg) := fJ516_1.other W536 ne543 ne544
          have ne546 : @Ne Nat x_511 b513 := Exa.neArv fJ516_2.exa fJ516_3 (hw _ (List.mem_of_getElem? (i := 6) rfl))
          have ne547 : @Ne Nat t_511 b513 := own_Str.neTy fJ516_2 fJ516_3 (by decide)
          have f548 : own_Str Z h536 x_511 t_511 ([v0, v1].take (0 : Int32).toNatClampNeg) := fJ516_2.other W536 ne546 ne547
          have K549 : Keep h0 h536 [] := KJ516.wr W536 (Or.inr (by omega))
          have f550 : Old Z Z.heap.size h536 := OJ516.wr W536 (by omega)
          exact HJ517 (es2 ++ [(34 : Int32)]) T536 h536 _ (by rw [he_es2]; first | rfl | simp) (by (try simp only [List.length_append, List.length_cons, List.length_nil]); omega) X536 e536 N536 K549 f550 (by omega) R536 f542 f545 f548 f539
        ·
          show own_Go _ _ _ _ (TJ516.setTop (mkF m 232 #[.val (.int p1), .val (.int p2), .val (.int p3), .val (.int u0), .val (.int u1), .val (.int la), .val (.int n0), .val (.int n1), .val (.int ln), .val (.int v0), .val (.int v1), .val (.int (1 : Int32)), .val (.ref x_508), .val (.ref x_509), .val (.ref x_511), .val (.ref b513), .val (.int (Int32.ofNat es2.length)), .unset] []))
          refine own_Go.st (fun _ k => XS.iload XJ516.here hx rfl (hb hby at_232) rfl k) ?_
          show own_Go _ _ _ _ (TJ516.setTop (mkF m 234 #[.val (.int p1), .val (.int p2), .val (.int p3), .val (.int u0), .val (.int u1), .val (.int la), .val (.int n0), .val (.int n1), .val (.int ln), .val (.int v0), .val (.int v1), .val (.int (1 : Int32)), .val (.ref x_508), .val (.ref x_509), .val (.ref x_511), .val (.ref b513), .val (.int (Int32.ofNat es2.length)), .unset] [(.int (1 : Int32))]))
          refine own_Go.st (fun _ k => XS.iconst XJ516.here hx rfl (hb hby at_234) k) ?_
          show own_Go _ _ _ _ (TJ516.setTop (mkF m 235 #[.val (.int p1), .val (.int p2), .val (.int p3), .val (.int u0), .val (.int u1), .val (.int la), .val (.int n0), .val (.int n1), .val (.int ln), .val (.int v0), .val (.int v1), .val (.int (1 : Int32)), .val (.ref x_508), .val (.ref x_509), .val (.ref x_511), .val (.ref b513), .val (.int (Int32.ofNat es2.length)), .unset] [(.int (1 : Int32)), (.int (1 : Int32))]))
          refine own_Go.st (fun _ k => XS.icmpNo XJ516.here hx rfl (hb hby at_235) rfl (flt (by decide : ¬ ((1 : Int32) < (1 : Int32)))).1 k) ?_
          show own_Go _ _ _ _ (TJ516.setTop (mkF m 238 #[.val (.int p1), .val (.int p2), .val (.int p3), .val (.int u0), .val (.int u1), .val (.int la), .val (.int n0), .val (.int n1), .val (.int ln), .val (.int v0), .val (.int v1), .val (.int (1 : Int32)), .val (.ref x_508), .val (.ref x_509), .val (.ref x_511), .val (.ref b513), .val (.int (Int32.ofNat es2.length)), .unset] []))
          refine own_Go.st (fun _ k => XS.aload XJ516.here hx rfl (hb hby at_238) rfl rfl k) ?_
          show own_Go _ _ _ _ (TJ516.setTop (mkF m 240 #[.val (.int p1), .val (.int p2), .val (.int p3), .val (.int u0), .val (.int u1), .val (.int la), .val (.int n0), .val (.int n1), .val (.int ln), .val (.int v0), .val (.int v1), .val (.int (1 : Int32)), .val (.ref x_508), .val (.ref x_509), .val (.ref x_511), .val (.ref b513), .val (.int (Int32.ofNat es2.length)), .unset] [(.ref b513)]))
          refine own_Go.st (fun _ k => XS.iload XJ516.here hx rfl (hb hby at_240) rfl k) ?_
          show own_Go _ _ _ _ (TJ516.setTop (mkF m 242 #[.val (.int p1), .val (.int p2), .val (.int p3), .val (.int u0), .val (.int u1), .val (.int la), .val (.int n0), .val (.int n1), .val (.int ln), .val (.int v0), .val (.int v1), .val (.int (1 : Int32)), .val (.ref x_508), .val (.ref x_509), .val (.ref x_511), .val (.ref b513), .val (.int (Int32.ofNat es2.length)), .unset] [(.int (Int32.ofNat es2.length)), (.ref b513)]))
          refine own_Go.st (fun _ k => XS.iload XJ516.here hx rfl (hb hby at_242) rfl k) ?_
          show own_Go _ _ _ _ (TJ516.setTop (mkF m 244 #[.val (.int p1), .val (.int p2), .val (.int p3), .val (.int u0), .val (.int u1), .val (.int la), .val (.int n0), .val (.int n1), .val (.int ln), .val (.int v0), .val (.int v1), .val (.int (1 : Int32)), .val (.ref x_508), .val (.ref x_509), .val (.ref x_511), .val (.ref b513), .val (.int (Int32.ofNat es2.length)), .unset] [(.int v0), (.int (Int32.ofNat es2.length)), (.ref b513)]))
          obtain ⟨c551, Ar551, q551, S551, Nn551, H551, G551⟩ := id fJ516_3
          have hin551 : ¬ ((Int32.ofNat es2.length) < 0 ∨ c551.slots.size ≤ ((Int32.ofNat es2.length)).toNatClampNeg) := inb_of S551 ⟨own_of0 (by (try simp only [List.length_append, List.length_cons, List.length_nil]); omega), (own_oflt (j := 10) (by (try simp only [List.length_append, List.length_cons, List.length_nil]); omega) (by omega)).mpr (by (try simp only [List.length_append, List.length_cons, List.length_nil]); omega)⟩
          obtain ⟨T551, h551, X551, e551, W551, st551⟩ := stC XJ516 hx hZ511 eJ516 Ar551 (j := (Int32.ofNat es2.length)) hin551 (g := (mkF m 244 #[.val (.int p1), .val (.int p2), .val (.int p3), .val (.int u0), .val (.int u1), .val (.int la), .val (.int n0), .val (.int n1), .val (.int ln), .val (.int v0), .val (.int v1), .val (.int (1 : Int32)), .val (.ref x_508), .val (.ref x_509), .val (.ref x_511), .val (.ref b513), .val (.int (Int32.ofNat es2.length)), .unset] [(.int v0), (.int (Int32.ofNat es2.length)), (.ref b513)])) rfl rfl (hb hby at_244)
          refine own_Go.st st551 ?_
          have N551 := Fr.snoc X551 NJ516 (by omega)
          have Sf553 : Safe Z consts_1 T511.vm hJ516 b513 := Safe.arv hZ511.alike fJ516_3 (by decide)
          have z551 : hJ516.size ≤ h551.size := Nat.le_of_eq W551.size.symm
          have f554 : Arv Z h551 b513 k513 .char (10 : Int32) ((es2 ++ [v0]).map Value.int) (.int (0 : Int32)) := own_push fJ516_3 W551 rfl (by (try simp only [List.length_append, List.length_cons, List.length_nil]); omega) (own_up hv0)
          have R551 : CHr Z consts_1 s.vm h0 T511.vm h551 := RJ516.trans (CHr.wr W551 Sf553 RJ516.1)
          show own_Go _ _ _ _ (T551.setTop (mkF m 245 #[.val (.int p1), .val (.int p2), .val (.int p3), .val (.int u0), .val (.int u1), .val (.int la), .val (.int n0), .val (.int n1), .val (.int ln), .val (.int v0), .val (.int v1), .val (.int (1 : Int32)), .val (.ref x_508), .val (.ref x_509), .val (.ref x_511), .val (.ref b513), .val (.int (Int32.ofNat es2.length)), .unset] []))
          refine own_Go.st (fun _ k => XS.iinc X551.here hx rfl (hb hby at_245) rfl (l' := #[.val (.int p1), .val (.int p2), .val (.int p3), .val (.int u0), .val (.int u1), .val (.int la), .val (.int n0), .val (.int n1), .val (.int ln), .val (.int v0), .val (.int v1), .val (.int (1 : Int32)), .val (.ref x_508), .val (.ref x_509), .val (.ref x_511), .val (.ref b513), .val (.int ((Int32.ofNat es2.length) + (1 : Int32))), .unset]) rfl k) ?_
          show own_Go _ _ _ _ (T551.setTop (mkF m 248 #[.val (.int p1), .val (.int p2), .val (.int p3), .val (.int u0), .val (.int u1), .val (.int la), .val (.int n0), .val (.int n1), .val (.int ln), .val (.int v0), .val (.int v1), .val (.int (1 : Int32)), .val (.ref x_508), .val (.ref x_509), .val (.ref x_511), .val (.ref b513), .val (.int ((Int32.ofNat es2.length) + (1 : Int32))), .unset] []))
          rw [own_pl1 (es := es2) (c := v0) (by (try simp only [List.length_append, List.length_cons, List.length_nil]); omega)]
          show own_Go _ _ _ _ (T551.setTop (mkF m 248 #[.val (.int p1), .val (.int p2), .val (.int p3), .val (.int u0), .val (.int u1), .val (.int la), .val (.int n0), .val (.int n1), .val (.int ln), .val (.int v0), .val (.int v1), .val (.int (1 : Int32)), .val (.ref x_508), .val (.ref x_509), .val (.ref x_511), .val (.ref b513), .val (.int (Int32.ofNat (es2 ++ [v0]).length)), .unset] []))
          refine own_Go.st (fun _ k => XS.iload X551.here hx rfl (hb hby at_248) rfl k) ?_
          show own_Go _ _ _ _ (T551.setTop (mkF m 250 #[.val (.int p1), .val (.int p2), .val (.int p3), .val (.int u0), .val (.int u1), .val (.int la), .val (.int n0), .val (.int n1), .val (.int ln), .val (.int v0), .val (.int v1), .val (.int (1 : Int32)), .val (.ref x_508), .val (.ref x_509), .val (.ref x_511), .val (.ref b513), .val (.int (Int32.ofNat (es2 ++ [v0]).length)), .unset] [(.int (1 : Int32))]))
          refine own_Go.st (fun _ k => XS.iconst X551.here hx rfl (hb hby at_250) k) ?_
          show own_Go _ _ _ _ (T551.setTop (mkF m 251 #[.val (.int p1), .val (.int p2), .val (.int p3), .val (.int u0), .val (.int u1), .val (.int la), .val (.int n0), .val (.int n1), .val (.int ln), .val (.int v0), .val (.int v1), .val (.int (1 : Int32)), .val (.ref x_508), .val (.ref x_509), .val (.ref x_511), .val (.ref b513), .val (.int (Int32.ofNat (es2 ++ [v0]).length)), .unset] [(.int (2 : Int32)), (.int (1 : Int32))]))
          refine own_Go.st (fun _ k => XS.icmpYes X551.here hx rfl (pc0 := 251) (pc' := 264) rfl (hb hby at_251) rfl (tlt (by decide : (1 : Int32) < (2 : Int32))).1 (by decide) (by decide) k) ?_
          show own_Go _ _ _ _ (T551.setTop (mkF m 264 #[.val (.int p1), .val (.int p2), .val (.int p3), .val (.int u0), .val (.int u1), .val (.int la), .val (.int n0), .val (.int n1), .val (.int ln), .val (.int v0), .val (.int v1), .val (.int (1 : Int32)), .val (.ref x_508), .val (.ref x_509), .val (.ref x_511), .val (.ref b513), .val (.int (Int32.ofNat (es2 ++ [v0]).length)), .unset] []))
          refine own_Go.st (fun _ k => XS.aload X551.here hx rfl (hb hby at_264) rfl rfl k) ?_
          show own_Go _ _ _ _ (T551.setTop (mkF m 266 #[.val (.int p1), .val (.int p2), .val (.int p3), .val (.int u0), .val (.int u1), .val (.int la), .val (.int n0), .val (.int n1), .val (.int ln), .val (.int v0), .val (.int v1), .val (.int (1 : Int32)), .val (.ref x_508), .val (.ref x_509), .val (.ref x_511), .val (.ref b513), .val (.int (Int32.ofNat (es2 ++ [v0]).length)), .unset] [(.ref b513)]))
          refine own_Go.st (fun _ k => XS.iload X551.here hx rfl (hb hby at_266) rfl k) ?_
          show own_Go _ _ _ _ (T551.setTop (mkF m 268 #[.val (.int p1), .val (.int p2), .val (.int p3), .val (.int u0), .val (.int u1), .val (.int la), .val (.int n0), .val (.int n1), .val (.int ln), .val (.int v0), .val (.int v1), .val (.int (1 : Int32)), .val (.ref x_508), .val (.ref x_509), .val (.ref x_511), .val (.ref b513), .val (.int (Int32.ofNat (es2 ++ [v0]).length)), .unset] [(.int (Int32.ofNat (es2 ++ [v0]).length)), (.ref b513)]))
          refine own_Go.st (fun _ k => XS.bipush X551.here hx rfl (hb hby at_268) k) ?_
          show own_Go _ _ _ _ (T551.setTop (mkF m 270 #[.val (.int p1), .val (.int p2), .val (.int p3), .val (.int u0), .val (.int u1), .val (.int la), .val (.int n0), .val (.int n1), .val (.int ln), .val (.int v0), .val (.int v1), .val (.int (1 : Int32)), .val (.ref x_508), .val (.ref x_509), .val (.ref x_511), .val (.ref b513), .val (.int (Int32.ofNat (es2 ++ [v0]).length)), .unset] [(.int (34 : Int32)), (.int (Int32.ofNat (es2 ++ [v0]).length)), (.ref b513)]))
          obtain ⟨c555, Ar555, q555, S555, Nn555, H555, G555⟩ := id f554
          have hin555 : ¬ ((Int32.ofNat (es2 ++ [v0]).length) < 0 ∨ c555.slots.size ≤ ((Int32.ofNat (es2 ++ [v0]).length)).toNatClampNeg) := inb_of S555 ⟨own_of0 (by (try simp only [List.length_append, List.length_cons, List.length_nil]); omega), (own_oflt (j := 10) (by (try simp only [List.length_append, List.length_cons, List.length_nil]); omega) (by omega)).mpr (by (try simp only [List.length_append, List.length_cons, List.length_nil]); omega)⟩
          obtain ⟨T555, h555, X555, e555, W555, st555⟩ := stC X551 hx hZ511 e551 Ar555 (j := (Int32.ofNat (es2 ++ [v0]).length)) hin555 (g := (mkF m 270 #[.val (.int p1), .val (.int p2), .val (.int p3), .val (.int u0), .val (.int u1), .val (.int la), .val (.int n0), .val (.int n1), .val (.int ln), .val (.int v0), .val (.int v1), .val (.int (1 : Int32)), .val (.ref x_508), .val (.ref x_509), .val (.ref x_511), .val (.ref b513), .val (.int (Int32.ofNat (es2 ++ [v0]).length)), .unset] [(.int (34 : Int32)), (.int (Int32.ofNat (es2 ++ [v0]).length)), (.ref b513)])) rfl rfl (hb hby at_270)
          refine own_Go.st st555 ?_
          have N555 := Fr.snoc X555 N551 (by omega)
          have Sf557 : Safe Z consts_1 T511.vm h551 b513 := Safe.arv hZ511.alike f554 (by decide)
          have z555 : h551.size ≤ h555.size := Nat.le_of_eq W555.size.symm
          have f558 : Arv Z h555 b513 k513 .char (10 : Int32) (((es2 ++ [v0]) ++ [(34 : Int32)]).map Value.int) (.int (0 : Int32)) := own_push f554 W555 rfl (by (try simp only [List.length_append, List.length_cons, List.length_nil]); omega) (by decide)
          have R555 : CHr Z consts_1 s.vm h0 T511.vm h555 := R551.trans (CHr.wr W555 Sf557 R551.1)
          show own_Go _ _ _ _ (T555.setTop (mkF m 271 #[.val (.int p1), .val (.int p2), .val (.int p3), .val (.int u0), .val (.int u1), .val (.int la), .val (.int n0), .val (.int n1), .val (.int ln), .val (.int v0), .val (.int v1), .val (.int (1 : Int32)), .val (.ref x_508), .val (.ref x_509), .val (.ref x_511), .val (.ref b513), .val (.int (Int32.ofNat (es2 ++ [v0]).length)), .unset] []))
          refine own_Go.st (fun _ k => XS.iinc X555.here hx rfl (hb hby at_271) rfl (l' := #[.val (.int p1), .val (.int p2), .val (.int p3), .val (.int u0), .val (.int u1), .val (.int la), .val (.int n0), .val (.int n1), .val (.int ln), .val (.int v0), .val (.int v1), .val (.int (1 : Int32)), .val (.ref x_508), .val (.ref x_509), .val (.ref x_511), .val (.ref b513), .val (.int ((Int32.ofNat (es2 ++ [v0]).length) + (1 : Int32))), .unset]) rfl k) ?_
          show own_Go _ _ _ _ (T555.setTop (mkF m 274 #[.val (.int p1), .val (.int p2), .val (.int p3), .val (.int u0), .val (.int u1), .val (.int la), .val (.int n0), .val (.int n1), .val (.int ln), .val (.int v0), .val (.int v1), .val (.int (1 : Int32)), .val (.ref x_508), .val (.ref x_509), .val (.ref x_511), .val (.ref b513), .val (.int ((Int32.ofNat (es2 ++ [v0]).length) + (1 : Int32))), .unset] []))
          rw [own_pl1 (es := (es2 ++ [v0])) (c := (34 : Int32)) (by (try simp only [List.length_append, List.length_cons, List.length_nil]); omega)]
          show own_Go _ _ _ _ (T555.setTop (mkF m 274 #[.val (.int p1), .val (.int p2), .val (.int p3), .val (.int u0), .val (.int u1), .val (.int la), .val (.int n0), .val (.int n1), .val (.int ln), .val (.int v0), .val (.int v1), .val (.int (1 : Int32)), .val (.ref x_508), .val (.ref x_509), .val (.ref x_511), .val (.ref b513), .val (.int (Int32.ofNat ((es2 ++ [v0]) ++ [(34 : Int32)]).length)), .unset] []))
          have ne559 : @Ne Nat x_508 b513 := Exa.neArv fJ516_0.exa fJ516_3 (hw _ (List.mem_of_getElem? (i := 6) rfl))
          have ne560 : @Ne Nat t_508 b513 := own_Str.neTy fJ516_0 fJ516_3 (by decide)
          have f561 : own_Str Z h551 x_508 t_508 ([u0, u1].take la.toNatClampNeg) := fJ516_0.other W551 ne559 ne560
          have f562 : own_Str Z h555 x_508 t_508 ([u0, u1].take la.toNatClampNeg) := f561.other W555 ne559 ne560
          have ne563 : @Ne Nat x_509 b513 := Exa.neArv fJ516_1.exa fJ516_3 (hw _ (List.mem_of_getElem? (i := 6) rfl))
          have ne564 : @Ne Nat t_509 b513 := own_Str.neTy fJ516_1 fJ516_3 (by decide)
          have f565 : own_Str Z h551 x_509 t_509 ([n0, n1].take ln.toNatClampNeg) := fJ516_1.other W551 ne563 ne564
          have f566 : own_Str Z h555 x_509 t_509 ([n0, n1].take ln.toNatClampNeg) := f565.other W555 ne563 ne564
          have ne567 : @Ne Nat x_511 b513 := Exa.neArv fJ516_2.exa fJ516_3 (hw _ (List.mem_of_getElem? (i := 6) rfl))
          have ne568 : @Ne Nat t_511 b513 := own_Str.neTy fJ516_2 fJ516_3 (by decide)
          have f569 : own_Str Z h551 x_511 t_511 ([v0, v1].take (1 : Int32).toNatClampNeg) := fJ516_2.other W551 ne567 ne568
          have f570 : own_Str Z h555 x_511 t_511 ([v0, v1].take (1 : Int32).toNatClampNeg) := f569.other W555 ne567 ne568
          have K571 : Keep h0 h551 [] := KJ516.wr W551 (Or.inr (by omega))
          have K572 : Keep h0 h555 [] := K571.wr W555 (Or.inr (by omega))
          have f573 : Old Z Z.heap.size h551 := OJ516.wr W551 (by omega)
          have f574 : Old Z Z.heap.size h555 := f573.wr W555 (by omega)
          exact HJ517 ((es2 ++ [v0]) ++ [(34 : Int32)]) T555 h555 _ (by rw [he_es2]; first | rfl | simp) (by (try simp only [List.length_append, List.length_cons, List.length_nil]); omega) X555 e555 N555 K572 f574 (by omega) R555 f562 f566 f570 f558
        ·
          show own_Go _ _ _ _ (TJ516.setTop (mkF m 232 #[.val (.int p1), .val (.int p2), .val (.int p3), .val (.int u0), .val (.int u1), .val (.int la), .val (.int n0), .val (.int n1), .val (.int ln), .val (.int v0), .val (.int v1), .val (.int (2 : Int32)), .val (.ref x_508), .val (.ref x_509), .val (.ref x_511), .val (.ref b513), .val (.int (Int32.ofNat es2.length)), .unset] []))
          refine own_Go.st (fun _ k => XS.iload XJ516.here hx rfl (hb hby at_232) rfl k) ?_
          show own_Go _ _ _ _ (TJ516.setTop (mkF m 234 #[.val (.int p1), .val (.int p2), .val (.int p3), .val (.int u0), .val (.int u1), .val (.int la), .val (.int n0), .val (.int n1), .val (.int ln), .val (.int v0), .val (.int v1), .val (.int (2 : Int32)), .val (.ref x_508), .val (.ref x_509), .val (.ref x_511), .val (.ref b513), .val (.int (Int32.ofNat es2.length)), .unset] [(.int (2 : Int32))]))
          refine own_Go.st (fun _ k => XS.iconst XJ516.here hx rfl (hb hby at_234) k) ?_
          show own_Go _ _ _ _ (TJ516.setTop (mkF m 235 #[.val (.int p1), .val (.int p2), .val (.int p3), .val (.int u0), .val (.int u1), .val (.int la), .val (.int n0), .val (.int n1), .val (.int ln), .val (.int v0), .val (.int v1), .val (.int (2 : Int32)), .val (.ref x_508), .val (.ref x_509), .val (.ref x_511), .val (.ref b513), .val (.int (Int32.ofNat es2.length)), .unset] [(.int (1 : Int32)), (.int (2 : Int32))]))
          refine own_Go.st (fun _ k => XS.icmpNo XJ516.here hx rfl (hb hby at_235) rfl (flt (by decide : ¬ ((2 : Int32) < (1 : Int32)))).1 k) ?_
          show own_Go _ _ _ _ (TJ516.setTop (mkF m 238 #[.val (.int p1), .val (.int p2), .val (.int p3), .val (.int u0), .val (.int u1), .val (.int la), .val (.int n0), .val (.int n1), .val (.int ln), .val (.int v0), .val (.int v1), .val (.int (2 : Int32)), .val (.ref x_508), .val (.ref x_509), .val (.ref x_511), .val (.ref b513), .val (.int (Int32.ofNat es2.length)), .unset] []))
          refine own_Go.st (fun _ k => XS.aload XJ516.here hx rfl (hb hby at_238) rfl rfl k) ?_
          show own_Go _ _ _ _ (TJ516.setTop (mkF m 240 #[.val (.int p1), .val (.int p2), .val (.int p3), .val (.int u0), .val (.int u1), .val (.int la), .val (.int n0), .val (.int n1), .val (.int ln), .val (.int v0), .val (.int v1), .val (.int (2 : Int32)), .val (.ref x_508), .val (.ref x_509), .val (.ref x_511), .val (.ref b513), .val (.int (Int32.ofNat es2.length)), .unset] [(.ref b513)]))
          refine own_Go.st (fun _ k => XS.iload XJ516.here hx rfl (hb hby at_240) rfl k) ?_
          show own_Go _ _ _ _ (TJ516.setTop (mkF m 242 #[.val (.int p1), .val (.int p2), .val (.int p3), .val (.int u0), .val (.int u1), .val (.int la), .val (.int n0), .val (.int n1), .val (.int ln), .val (.int v0), .val (.int v1), .val (.int (2 : Int32)), .val (.ref x_508), .val (.ref x_509), .val (.ref x_511), .val (.ref b513), .val (.int (Int32.ofNat es2.length)), .unset] [(.int (Int32.ofNat es2.length)), (.ref b513)]))
          refine own_Go.st (fun _ k => XS.iload XJ516.here hx rfl (hb hby at_242) rfl k) ?_
          show own_Go _ _ _ _ (TJ516.setTop (mkF m 244 #[.val (.int p1), .val (.int p2), .val (.int p3), .val (.int u0), .val (.int u1), .val (.int la), .val (.int n0), .val (.int n1), .val (.int ln), .val (.int v0), .val (.int v1), .val (.int (2 : Int32)), .val (.ref x_508), .val (.ref x_509), .val (.ref x_511), .val (.ref b513), .val (.int (Int32.ofNat es2.length)), .unset] [(.int v0), (.int (Int32.ofNat es2.length)), (.ref b513)]))
          obtain ⟨c575, Ar575, q575, S575, Nn575, H575, G575⟩ := id fJ516_3
          have hin575 : ¬ ((Int32.ofNat es2.length) < 0 ∨ c575.slots.size ≤ ((Int32.ofNat es2.length)).toNatClampNeg) := inb_of S575 ⟨own_of0 (by (try simp only [List.length_append, List.length_cons, List.length_nil]); omega), (own_oflt (j := 10) (by (try simp only [List.length_append, List.length_cons, List.length_nil]); omega) (by omega)).mpr (by (try simp only [List.length_append, List.length_cons, List.length_nil]); omega)⟩
          obtain ⟨T575, h575, X575, e575, W575, st575⟩ := stC XJ516 hx hZ511 eJ516 Ar575 (j := (Int32.ofNat es2.length)) hin575 (g := (mkF m 244 #[.val (.int p1), .val (.int p2), .val (.int p3), .val (.int u0), .val (.int u1), .val (.int la), .val (.int n0), .val (.int n1), .val (.int ln), .val (.int v0), .val (.int v1), .val (.int (2 : Int32)), .val (.ref x_508), .val (.ref x_509), .val (.ref x_511), .val (.ref b513), .val (.int (Int32.ofNat es2.length)), .unset] [(.int v0), (.int (Int32.ofNat es2.length)), (.ref b513)])) rfl rfl (hb hby at_244)
          refine own_Go.st st575 ?_
          have N575 := Fr.snoc X575 NJ516 (by omega)
          have Sf577 : Safe Z consts_1 T511.vm hJ516 b513 := Safe.arv hZ511.alike fJ516_3 (by decide)
          have z575 : hJ516.size ≤ h575.size := Nat.le_of_eq W575.size.symm
          have f578 : Arv Z h575 b513 k513 .char (10 : Int32) ((es2 ++ [v0]).map Value.int) (.int (0 : Int32)) := own_push fJ516_3 W575 rfl (by (try simp only [List.length_append, List.length_cons, List.length_nil]); omega) (own_up hv0)
          have R575 : CHr Z consts_1 s.vm h0 T511.vm h575 := RJ516.trans (CHr.wr W575 Sf577 RJ516.1)
          show own_Go _ _ _ _ (T575.setTop (mkF m 245 #[.val (.int p1), .val (.int p2), .val (.int p3), .val (.int u0), .val (.int u1), .val (.int la), .val (.int n0), .val (.int n1), .val (.int ln), .val (.int v0), .val (.int v1), .val (.int (2 : Int32)), .val (.ref x_508), .val (.ref x_509), .val (.ref x_511), .val (.ref b513), .val (.int (Int32.ofNat es2.length)), .unset] []))
          refine own_Go.st (fun _ k => XS.iinc X575.here hx rfl (hb hby at_245) rfl (l' := #[.val (.int p1), .val (.int p2), .val (.int p3), .val (.int u0), .val (.int u1), .val (.int la), .val (.int n0), .val (.int n1), .val (.int ln), .val (.int v0), .val (.int v1), .val (.int (2 : Int32)), .val (.ref x_508), .val (.ref x_509), .val (.ref x_511), .val (.ref b513), .val (.int ((Int32.ofNat es2.length) + (1 : Int32))), .unset]) rfl k) ?_
          show own_Go _ _ _ _ (T575.setTop (mkF m 248 #[.val (.int p1), .val (.int p2), .val (.int p3), .val (.int u0), .val (.int u1), .val (.int la), .val (.int n0), .val (.int n1), .val (.int ln), .val (.int v0), .val (.int v1), .val (.int (2 : Int32)), .val (.ref x_508), .val (.ref x_509), .val (.ref x_511), .val (.ref b513), .val (.int ((Int32.ofNat es2.length) + (1 : Int32))), .unset] []))
          rw [own_pl1 (es := es2) (c := v0) (by (try simp only [List.length_append, List.length_cons, List.length_nil]); omega)]
          show own_Go _ _ _ _ (T575.setTop (mkF m 248 #[.val (.int p1), .val (.int p2), .val (.int p3), .val (.int u0), .val (.int u1), .val (.int la), .val (.int n0), .val (.int n1), .val (.int ln), .val (.int v0), .val (.int v1), .val (.int (2 : Int32)), .val (.ref x_508), .val (.ref x_509), .val (.ref x_511), .val (.ref b513), .val (.int (Int32.ofNat (es2 ++ [v0]).length)), .unset] []))
          refine own_Go.st (fun _ k => XS.iload X575.here hx rfl (hb hby at_248) rfl k) ?_
          show own_Go _ _ _ _ (T575.setTop (mkF m 250 #[.val (.int p1), .val (.int p2), .val (.int p3), .val (.int u0), .val (.int u1), .val (.int la), .val (.int n0), .val (.int n1), .val (.int ln), .val (.int v0), .val (.int v1), .val (.int (2 : Int32)), .val (.ref x_508), .val (.ref x_509), .val (.ref x_511), .val (.ref b513), .val (.int (Int32.ofNat (es2 ++ [v0]).length)), .unset] [(.int (2 : Int32))]))
          refine own_Go.st (fun _ k => XS.iconst X575.here hx rfl (hb hby at_250) k) ?_
          show own_Go _ _ _ _ (T575.setTop (mkF m 251 #[.val (.int p1), .val (.int p2), .val (.int p3), .val (.int u0), .val (.int u1), .val (.int la), .val (.int n0), .val (.int n1), .val (.int ln), .val (.int v0), .val (.int v1), .val (.int (2 : Int32)), .val (.ref x_508), .val (.ref x_509), .val (.ref x_511), .val (.ref b513), .val (.int (Int32.ofNat (es2 ++ [v0]).length)), .unset] [(.int (2 : Int32)), (.int (2 : Int32))]))
          refine own_Go.st (fun _ k => XS.icmpNo X575.here hx rfl (hb hby at_251) rfl (flt (by decide : ¬ ((2 : Int32) < (2 : Int32)))).1 k) ?_
          show own_Go _ _ _ _ (T575.setTop (mkF m 254 #[.val (.int p1), .val (.int p2), .val (.int p3), .val (.int u0), .val (.int u1), .val (.int la), .val (.int n0), .val (.int n1), .val (.int ln), .val (.int v0), .val (.int v1), .val (.int (2 : Int32)), .val (.ref x_508), .val (.ref x_509), .val (.ref x_511), .val (.ref b513), .val (.int (Int32.ofNat (es2 ++ [v0]).length)), .unset] []))
          refine own_Go.st (fun _ k => XS.aload X575.here hx rfl (hb hby at_254) rfl rfl k) ?_
          show own_Go _ _ _ _ (T575.setTop (mkF m 256 #[.val (.int p1), .val (.int p2), .val (.int p3), .val (.int u0), .val (.int u1), .val (.int la), .val (.int n0), .val (.int n1), .val (.int ln), .val (.int v0), .val (.int v1), .val (.int (2 : Int32)), .val (.ref x_508), .val (.ref x_509), .val (.ref x_511), .val (.ref b513), .val (.int (Int32.ofNat (es2 ++ [v0]).length)), .unset] [(.ref b513)]))
          refine own_Go.st (fun _ k => XS.iload X575.here hx rfl (hb hby at_256) rfl k) ?_
          show own_Go _ _ _ _ (T575.setTop (mkF m 258 #[.val (.int p1), .val (.int p2), .val (.int p3), .val (.int u0), .val (.int u1), .val (.int la), .val (.int n0), .val (.int n1), .val (.int ln), .val (.int v0), .val (.int v1), .val (.int (2 : Int32)), .val (.ref x_508), .val (.ref x_509), .val (.ref x_511), .val (.ref b513), .val (.int (Int32.ofNat (es2 ++ [v0]).length)), .unset] [(.int (Int32.ofNat (es2 ++ [v0]).length)), (.ref b513)]))
          refine own_Go.st (fun _ k => XS.iload X575.here hx rfl (hb hby at_258) rfl k) ?_
          show own_Go _ _ _ _ (T575.setTop (mkF m 260 #[.val (.int p1), .val (.int p2), .val (.int p3), .val (.int u0), .val (.int u1), .val (.int la), .val (.int n0), .val (.int n1), .val (.int ln), .val (.int v0), .val (.int v1), .val (.int (2 : Int32)), .val (.ref x_508), .val (.ref x_509), .val (.ref x_511), .val (.ref b513), .val (.int (Int32.ofNat (es2 ++ [v0]).length)), .unset] [(.int v1), (.int (Int32.ofNat (es2 ++ [v0]).length)), (.ref b513)]))
          obtain ⟨c579, Ar579, q579, S579, Nn579, H579, G579⟩ := id f578
          have hin579 : ¬ ((Int32.ofNat (es2 ++ [v0]).length) < 0 ∨ c579.slots.size ≤ ((Int32.ofNat (es2 ++ [v0]).length)).toNatClampNeg) := inb_of S579 ⟨own_of0 (by (try simp only [List.length_append, List.length_cons, List.length_nil]); omega), (own_oflt (j := 10) (by (try simp only [List.length_append, List.length_cons, List.length_nil]); omega) (by omega)).mpr (by (try simp only [List.length_append, List.length_cons, List.length_nil]); omega)⟩
          obtain ⟨T579, h579, X579, e579, W579, st579⟩ := stC X575 hx hZ511 e575 Ar579 (j := (Int32.ofNat (es2 ++ [v0]).length)) hin579 (g := (mkF m 260 #[.val (.int p1), .val (.int p2), .val (.int p3), .val (.int u0), .val (.int u1), .val (.int la), .val (.int n0), .val (.int n1), .val (.int ln), .val (.int v0), .val (.int v1), .val (.int (2 : Int32)), .val (.ref x_508), .val (.ref x_509), .val (.ref x_511), .val (.ref b513), .val (.int (Int32.ofNat (es2 ++ [v0]).length)), .unset] [(.int v1), (.int (Int32.ofNat (es2 ++ [v0]).length)), (.ref b513)])) rfl rfl (hb hby at_260)
          refine own_Go.st st579 ?_
          have N579 := Fr.snoc X579 N575 (by omega)
          have Sf581 : Safe Z consts_1 T511.vm h575 b513 := Safe.arv hZ511.alike f578 (by decide)
          have z579 : h575.size ≤ h579.size := Nat.le_of_eq W579.size.symm
          have f582 : Arv Z h579 b513 k513 .char (10 : Int32) (((es2 ++ [v0]) ++ [v1]).map Value.int) (.int (0 : Int32)) := own_push f578 W579 rfl (by (try simp only [List.length_append, List.length_cons, List.length_nil]); omega) (own_up hv1)
          have R579 : CHr Z consts_1 s.vm h0 T511.vm h579 := R575.trans (CHr.wr W579 Sf581 R575.1)
          show own_Go _ _ _ _ (T579.setTop (mkF m 261 #[.val (.int p1), .val (.int p2), .val (.int p3), .val (.int u0), .val (.int u1), .val (.int la), .val (.int n0), .val (.int n1), .val (.int ln), .val (.int v0), .val (.int v1), .val (.int (2 : Int32)), .val (.ref x_508), .val (.ref x_509), .val (.ref x_511), .val (.ref b513), .val (.int (Int32.ofNat (es2 ++ [v0]).length)), .unset] []))
          refine own_Go.st (fun _ k => XS.iinc X579.here hx rfl (hb hby at_261) rfl (l' := #[.val (.int p1), .val (.int p2), .val (.int p3), .val (.int u0), .val (.int u1), .val (.int la), .val (.int n0), .val (.int n1), .val (.int ln), .val (.int v0), .val (.int v1), .val (.int (2 : Int32)), .val (.ref x_508), .val (.ref x_509), .val (.ref x_511), .val (.ref b513), .val (.int ((Int32.ofNat (es2 ++ [v0]).length) + (1 : Int32))), .unset]) rfl k) ?_
          show own_Go _ _ _ _ (T579.setTop (mkF m 264 #[.val (.int p1), .val (.int p2), .val (.int p3), .val (.int u0), .val (.int u1), .val (.int la), .val (.int n0), .val (.int n1), .val (.int ln), .val (.int v0), .val (.int v1), .val (.int (2 : Int32)), .val (.ref x_508), .val (.ref x_509), .val (.ref x_511), .val (.ref b513), .val (.int ((Int32.ofNat (es2 ++ [v0]).length) + (1 : Int32))), .unset] []))
          rw [own_pl1 (es := (es2 ++ [v0])) (c := v1) (by (try simp only [List.length_append, List.length_cons, List.length_nil]); omega)]
          show own_Go _ _ _ _ (T579.setTop (mkF m 264 #[.val (.int p1), .val (.int p2), .val (.int p3), .val (.int u0), .val (.int u1), .val (.int la), .val (.int n0), .val (.int n1), .val (.int ln), .val (.int v0), .val (.int v1), .val (.int (2 : Int32)), .val (.ref x_508), .val (.ref x_509), .val (.ref x_511), .val (.ref b513), .val (.int (Int32.ofNat ((es2 ++ [v0]) ++ [v1]).length)), .unset] []))
          refine own_Go.st (fun _ k => XS.aload X579.here hx rfl (hb hby at_264) rfl rfl k) ?_
          show own_Go _ _ _ _ (T579.setTop (mkF m 266 #[.val (.int p1), .val (.int p2), .val (.int p3), .val (.int u0), .val (.int u1), .val (.int la), .val (.int n0), .val (.int n1), .val (.int ln), .val (.int v0), .val (.int v1), .val (.int (2 : Int32)), .val (.ref x_508), .val (.ref x_509), .val (.ref x_511), .val (.ref b513), .val (.int (Int32.ofNat ((es2 ++ [v0]) ++ [v1]).length)), .unset] [(.ref b513)]))
          refine own_Go.st (fun _ k => XS.iload X579.here hx rfl (hb hby at_266) rfl k) ?_
          show own_Go _ _ _ _ (T579.setTop (mkF m 268 #[.val (.int p1), .val (.int p2), .val (.int p3), .val (.int u0), .val (.int u1), .val (.int la), .val (.int n0), .val (.int n1), .val (.int ln), .val (.int v0), .val (.int v1), .val (.int (2 : Int32)), .val (.ref x_508), .val (.ref x_509), .val (.ref x_511), .val (.ref b513), .val (.int (Int32.ofNat ((es2 ++ [v0]) ++ [v1]).length)), .unset] [(.int (Int32.ofNat ((es2 ++ [v0]) ++ [v1]).length)), (.ref b513)]))
          refine own_Go.st (fun _ k => XS.bipush X579.here hx rfl (hb hby at_268) k) ?_
          show own_Go _ _ _ _ (T579.setTop (mkF m 270 #[.val (.int p1), .val (.int p2), .val (.int p3), .val (.int u0), .val (.int u1), .val (.int la), .val (.int n0), .val (.int n1), .val (.int ln), .val (.int v0), .val (.int v1), .val (.int (2 : Int32)), .val (.ref x_508), .val (.ref x_509), .val (.ref x_511), .val (.ref b513), .val (.int (Int32.ofNat ((es2 ++ [v0]) ++ [v1]).length)), .unset] [(.int (34 : Int32)), (.int (Int32.ofNat ((es2 ++ [v0]) ++ [v1]).length)), (.ref b513)]))
          obtain ⟨c583, Ar583, q583, S583, Nn583, H583, G583⟩ := id f582
          have hin583 : ¬ ((Int32.ofNat ((es2 ++ [v0]) ++ [v1]).length) < 0 ∨ c583.slots.size ≤ ((Int32.ofNat ((es2 ++ [v0]) ++ [v1]).length)).toNatClampNeg) := inb_of S583 ⟨own_of0 (by (try simp only [List.length_append, List.length_cons, List.length_nil]); omega), (own_oflt (j := 10) (by (try simp only [List.length_append, List.length_cons, List.length_nil]); omega) (by omega)).mpr (by (try simp only [List.length_append, List.length_cons, List.length_nil]); omega)⟩
          obtain ⟨T583, h583, X583, e583, W583, st583⟩ := stC X579 hx hZ511 e579 Ar583 (j := (Int32.ofNat ((es2 ++ [v0]) ++ [v1]).length)) hin583 (g := (mkF m 270 #[.val (.int p1), .val (.int p2), .val (.int p3), .val (.int u0), .val (.int u1), .val (.int la), .val (.int n0), .val (.int n1), .val (.int ln), .val (.int v0), .val (.int v1), .val (.int (2 : Int32)), .val (.ref x_508), .val (.ref x_509), .val (.ref x_511), .val (.ref b513), .val (.int (Int32.ofNat ((es2 ++ [v0]) ++ [v1]).length)), .unset] [(.int (34 : Int32)), (.int (Int32.ofNat ((es2 ++ [v0]) ++ [v1]).length)), (.ref b513)])) rfl rfl (hb hby at_270)
          refine own_Go.st st583 ?_
          have N583 := Fr.snoc X583 N579 (by omega)
          have Sf585 : Safe Z consts_1 T511.vm h579 b513 := Safe.arv hZ511.alike f582 (by decide)
          have z583 : h579.size ≤ h583.size := Nat.le_of_eq W583.size.symm
          have f586 : Arv Z h583 b513 k513 .char (10 : Int32) ((((es2 ++ [v0]) ++ [v1]) ++ [(34 : Int32)]).map Value.int) (.int (0 : Int32)) := own_push f582 W583 rfl (by (try simp only [List.length_append, List.length_cons, List.length_nil]); omega) (by decide)
          have R583 : CHr Z consts_1 s.vm h0 T511.vm h583 := R579.trans (CHr.wr W583 Sf585 R579.1)
          show own_Go _ _ _ _ (T583.setTop (mkF m 271 #[.val (.int p1), .val (.int p2), .val (.int p3), .val (.int u0), .val (.int u1), .val (.int la), .val (.int n0), .val (.int n1), .val (.int ln), .val (.int v0), .val (.int v1), .val (.int (2 : Int32)), .val (.ref x_508), .val (.ref x_509), .val (.ref x_511), .val (.ref b513), .val (.int (Int32.ofNat ((es2 ++ [v0]) ++ [v1]).length)), .unset] []))
          refine own_Go.st (fun _ k => XS.iinc X583.here hx rfl (hb hby at_271) rfl (l' := #[.val (.int p1), .val (.int p2), .val (.int p3), .val (.int u0), .val (.int u1), .val (.int la), .val (.int n0), .val (.int n1), .val (.int ln), .val (.int v0), .val (.int v1), .val (.int (2 : Int32)), .val (.ref x_508), .val (.ref x_509), .val (.ref x_511), .val (.ref b513), .val (.int ((Int32.ofNat ((es2 ++ [v0]) ++ [v1]).length) + (1 : Int32))), .unset]) rfl k) ?_
          show own_Go _ _ _ _ (T583.setTop (mkF m 274 #[.val (.int p1), .val (.int p2), .val (.int p3), .val (.int u0), .val (.int u1), .val (.int la), .val (.int n0), .val (.int n1), .val (.int ln), .val (.int v0), .val (.int v1), .val (.int (2 : Int32)), .val (.ref x_508), .val (.ref x_509), .val (.ref x_511), .val (.ref b513), .val (.int ((Int32.ofNat ((es2 ++ [v0]) ++ [v1]).length) + (1 : Int32))), .unset] []))
          rw [own_pl1 (es := ((es2 ++ [v0]) ++ [v1])) (c := (34 : Int32)) (by (try simp only [List.length_append, List.length_cons, List.length_nil]); omega)]
          show own_Go _ _ _ _ (T583.setTop (mkF m 274 #[.val (.int p1), .val (.int p2), .val (.int p3), .val (.int u0), .val (.int u1), .val (.int la), .val (.int n0), .val (.int n1), .val (.int ln), .val (.int v0), .val (.int v1), .val (.int (2 : Int32)), .val (.ref x_508), .val (.ref x_509), .val (.ref x_511), .val (.ref b513), .val (.int (Int32.ofNat (((es2 ++ [v0]) ++ [v1]) ++ [(34 : Int32)]).length)), .unset] []))
          have ne587 : @Ne Nat x_508 b513 := Exa.neArv fJ516_0.exa fJ516_3 (hw _ (List.mem_of_getElem? (i := 6) rfl))
          have ne588 : @Ne Nat t_508 b513 := own_Str.neTy fJ516_0 fJ516_3 (by decide)
          have f589 : own_Str Z h575 x_508 t_508 ([u0, u1].take la.toNatClampNeg) := fJ516_0.other W575 ne587 ne588
          have f590 : own_Str Z h579 x_508 t_508 ([u0, u1].take la.toNatClampNeg) := f589.other W579 ne587 ne588
          have f591 : own_Str Z h583 x_508 t_508 ([u0, u1].take la.toNatClampNeg) := f590.other W583 ne587 ne588
          have ne592 : @Ne Nat x_509 b513 := Exa.neArv fJ516_1.exa fJ516_3 (hw _ (List.mem_of_getElem? (i := 6) rfl))
          have ne593 : @Ne Nat t_509 b513 := own_Str.neTy fJ516_1 fJ516_3 (by decide)
          have f594 : own_Str Z h575 x_509 t_509 ([n0, n1].take ln.toNatClampNeg) := fJ516_1.other W575 ne592 ne593
          have f595 : own_Str Z h579 x_509 t_509 ([n0, n1].take ln.toNatClampNeg) := f594.other W579 ne592 ne593
          have f596 : own_Str Z h583 x_509 t_509 ([n0, n1].take ln.toNatClampNeg) := f595.other W583 ne592 ne593
          have ne597 : @Ne Nat x_511 b513 := Exa.neArv fJ516_2.exa fJ516_3 (hw _ (List.mem_of_getElem? (i := 6) rfl))
          have ne598 : @Ne Nat t_511 b513 := own_Str.neTy fJ516_2 fJ516_3 (by decide)
          have f599 : own_Str Z h575 x_511 t_511 ([v0, v1].take (2 : Int32).toNatClampNeg) := fJ516_2.other W575 ne597 ne598
          have f600 : own_Str Z h579 x_511 t_511 ([v0, v1].take (2 : Int32).toNatClampNeg) := f599.other W579 ne597 ne598
          have f601 : own_Str Z h583 x_511 t_511 ([v0, v1].take (2 : Int32).toNatClampNeg) := f600.other W583 ne597 ne598
          have K602 : Keep h0 h575 [] := KJ516.wr W575 (Or.inr (by omega))
          have K603 : Keep h0 h579 [] := K602.wr W579 (Or.inr (by omega))
          have K604 : Keep h0 h583 [] := K603.wr W583 (Or.inr (by omega))
          have f605 : Old Z Z.heap.size h575 := OJ516.wr W575 (by omega)
          have f606 : Old Z Z.heap.size h579 := f605.wr W579 (by omega)
          have f607 : Old Z Z.heap.size h583 := f606.wr W583 (by omega)
          exact HJ517 (((es2 ++ [v0]) ++ [v1]) ++ [(34 : Int32)]) T583 h583 _ (by rw [he_es2]; first | rfl | simp) (by (try simp only [List.length_append, List.length_cons, List.length_nil]); omega) X583 e583 N583 K604 f607 (by omega) R583 f591 f596 f601 f586
      rcases hln with rfl | rfl | rfl
      ·
        show own_Go _ _ _ _ (TJ515.setTop (mkF m 180 #[.val (.int p1), .val (.int p2), .val (.int p3), .val (.int u0), .val (.int u1), .val (.int la), .val (.int n0), .val (.int n1), .val (.int (0 : Int32)), .val (.int v0), .val (.int v1), .val (.int lv), .val (.ref x_508), .val (.ref x_509), .val (.ref x_511), .val (.ref b513), .val (.int (Int32.ofNat es1.length)), .unset] []))
        refine own_Go.st (fun _ k => XS.iload XJ515.here hx rfl (hb hby at_180) rfl k) ?_
        show own_Go _ _ _ _ (TJ515.setTop (mkF m 182 #[.val (.int p1), .val (.int p2), .val (.int p3), .val (.int u0), .val (.int u1), .val (.int la), .val (.int n0), .val (.int n1), .val (.int (0 : Int32)), .val (.int v0), .val (.int v1), .val (.int lv), .val (.ref x_508), .val (.ref x_509), .val (.ref x_511), .val (.ref b513), .val (.int (Int32.ofNat es1.length)), .unset] [(.int (0 : Int32))]))
        refine own_Go.st (fun _ k => XS.iconst XJ515.here hx rfl (hb hby at_182) k) ?_
        show own_Go _ _ _ _ (TJ515.setTop (mkF m 183 #[.val (.int p1), .val (.int p2), .val (.int p3), .val (.int u0), .val (.int u1), .val (.int la), .val (.int n0), .val (.int n1), .val (.int (0 : Int32)), .val (.int v0), .val (.int v1), .val (.int lv), .val (.ref x_508), .val (.ref x_509), .val (.ref x_511), .val (.ref b513), .val (.int (Int32.ofNat es1.length)), .unset] [(.int (1 : Int32)), (.int (0 : Int32))]))
        refine own_Go.st (fun _ k => XS.icmpYes XJ515.here hx rfl (pc0 := 183) (pc' := 196) rfl (hb hby at_183) rfl (tlt (by decide : (0 : Int32) < (1 : Int32))).1 (by decide) (by decide) k) ?_
        show own_Go _ _ _ _ (TJ515.setTop (mkF m 196 #[.val (.int p1), .val (.int p2), .val (.int p3), .val (.int u0), .val (.int u1), .val (.int la), .val (.int n0), .val (.int n1), .val (.int (0 : Int32)), .val (.int v0), .val (.int v1), .val (.int lv), .val (.ref x_508), .val (.ref x_509), .val (.ref x_511), .val (.ref b513), .val (.int (Int32.ofNat es1.length)), .unset] []))
        refine own_Go.st (fun _ k => XS.iload XJ515.here hx rfl (hb hby at_196) rfl k) ?_
        show own_Go _ _ _ _ (TJ515.setTop (mkF m 198 #[.val (.int p1), .val (.int p2), .val (.int p3), .val (.int u0), .val (.int u1), .val (.int la), .val (.int n0), .val (.int n1), .val (.int (0 : Int32)), .val (.int v0), .val (.int v1), .val (.int lv), .val (.ref x_508), .val (.ref x_509), .val (.ref x_511), .val (.ref b513), .val (.int (Int32.ofNat es1.length)), .unset] [(.int (0 : Int32))]))
        refine own_Go.st (fun _ k => XS.iconst XJ515.here hx rfl (hb hby at_198) k) ?_
        show own_Go _ _ _ _ (TJ515.setTop (mkF m 199 #[.val (.int p1), .val (.int p2), .val (.int p3), .val (.int u0), .val (.int u1), .val (.int la), .val (.int n0), .val (.int n1), .val (.int (0 : Int32)), .val (.int v0), .val (.int v1), .val (.int lv), .val (.ref x_508), .val (.ref x_509), .val (.ref x_511), .val (.ref b513), .val (.int (Int32.ofNat es1.length)), .unset] [(.int (2 : Int32)), (.int (0 : Int32))]))
        refine own_Go.st (fun _ k => XS.icmpYes XJ515.here hx rfl (pc0 := 199) (pc' := 212) rfl (hb hby at_199) rfl (tlt (by decide : (0 : Int32) < (2 : Int32))).1 (by decide) (by decide) k) ?_
        show own_Go _ _ _ _ (TJ515.setTop (mkF m 212 #[.val (.int p1), .val (.int p2), .val (.int p3), .val (.int u0), .val (.int u1), .val (.int la), .val (.int n0), .val (.int n1), .val (.int (0 : Int32)), .val (.int v0), .val (.int v1), .val (.int lv), .val (.ref x_508), .val (.ref x_509), .val (.ref x_511), .val (.ref b513), .val (.int (Int32.ofNat es1.length)), .unset] []))
        refine own_Go.st (fun _ k => XS.aload XJ515.here hx rfl (hb hby at_212) rfl rfl k) ?_
        show own_Go _ _ _ _ (TJ515.setTop (mkF m 214 #[.val (.int p1), .val (.int p2), .val (.int p3), .val (.int u0), .val (.int u1), .val (.int la), .val (.int n0), .val (.int n1), .val (.int (0 : Int32)), .val (.int v0), .val (.int v1), .val (.int lv), .val (.ref x_508), .val (.ref x_509), .val (.ref x_511), .val (.ref b513), .val (.int (Int32.ofNat es1.length)), .unset] [(.ref b513)]))
        refine own_Go.st (fun _ k => XS.iload XJ515.here hx rfl (hb hby at_214) rfl k) ?_
        show own_Go _ _ _ _ (TJ515.setTop (mkF m 216 #[.val (.int p1), .val (.int p2), .val (.int p3), .val (.int u0), .val (.int u1), .val (.int la), .val (.int n0), .val (.int n1), .val (.int (0 : Int32)), .val (.int v0), .val (.int v1), .val (.int lv), .val (.ref x_508), .val (.ref x_509), .val (.ref x_511), .val (.ref b513), .val (.int (Int32.ofNat es1.length)), .unset] [(.int (Int32.ofNat es1.length)), (.ref b513)]))
        refine own_Go.st (fun _ k => XS.bipush XJ515.here hx rfl (hb hby at_216) k) ?_
        show own_Go _ _ _ _ (TJ515.setTop (mkF m 218 #[.val (.int p1), .val (.int p2), .val (.int p3), .val (.int u0), .val (.int u1), .val (.int la), .val (.int n0), .val (.int n1), .val (.int (0 : Int32)), .val (.int v0), .val (.int v1), .val (.int lv), .val (.ref x_508), .val (.ref x_509), .val (.ref x_511), .val (.ref b513), .val (.int (Int32.ofNat es1.length)), .unset] [(.int (61 : Int32)), (.int (Int32.ofNat es1.length)), (.ref b513)]))
        obtain ⟨c608, Ar608, q608, S608, Nn608, H608, G608⟩ := id fJ515_3
        have hin608 : ¬ ((Int32.ofNat es1.length) < 0 ∨ c608.slots.size ≤ ((Int32.ofNat es1.length)).toNatClampNeg) := inb_of S608 ⟨own_of0 (by (try simp only [List.length_append, List.length_cons, List.length_nil]); omega), (own_oflt (j := 10) (by (try simp only [List.length_append, List.length_cons, List.length_nil]); omega) (by omega)).mpr (by (try simp only [List.length_append, List.length_cons, List.length_nil]); omega)⟩
        obtain ⟨T608, h608, X608, e608, W608, st608⟩ := stC XJ515 hx hZ511 eJ515 Ar608 (j := (Int32.ofNat es1.length)) hin608 (g := (mkF m 218 #[.val (.int p1), .val (.int p2), .val (.int p3), .val (.int u0), .val (.int u1), .val (.int la), .val (.int n0), .val (.int n1), .val (.int (0 : Int32)), .val (.int v0), .val (.int v1), .val (.int lv), .val (.ref x_508), .val (.ref x_509), .val (.ref x_511), .val (.ref b513), .val (.int (Int32.ofNat es1.length)), .unset] [(.int (61 : Int32)), (.int (Int32.ofNat es1.length)), (.ref b513)])) rfl rfl (hb hby at_218)
        refine own_Go.st st608 ?_
        have N608 := Fr.snoc X608 NJ515 (by omega)
        have Sf610 : Safe Z consts_1 T511.vm hJ515 b513 := Safe.arv hZ511.alike fJ515_3 (by decide)
        have z608 : hJ515.size ≤ h608.size := Nat.le_of_eq W608.size.symm
        have f611 : Arv Z h608 b513 k513 .char (10 : Int32) ((es1 ++ [(61 : Int32)]).map Value.int) (.int (0 : Int32)) := own_push fJ515_3 W608 rfl (by (try simp only [List.length_append, List.length_cons, List.length_nil]); omega) (by decide)
        have R608 : CHr Z consts_1 s.vm h0 T511.vm h608 := RJ515.trans (CHr.wr W608 Sf610 RJ515.1)
        show own_Go _ _ _ _ (T608.setTop (mkF m 219 #[.val (.int p1), .val (.int p2), .val (.int p3), .val (.int u0), .val (.int u1), .val (.int la), .val (.int n0), .val (.int n1), .val (.int (0 : Int32)), .val (.int v0), .val (.int v1), .val (.int lv), .val (.ref x_508), .val (.ref x_509), .val (.ref x_511), .val (.ref b513), .val (.int (Int32.ofNat es1.length)), .unset] []))
        refine own_Go.st (fun _ k => XS.iinc X608.here hx rfl (hb hby at_219) rfl (l' := #[.val (.int p1), .val (.int p2), .val (.int p3), .val (.int u0), .val (.int u1), .val (.int la), .val (.int n0), .val (.int n1), .val (.int (0 : Int32)), .val (.int v0), .val (.int v1), .val (.int lv), .val (.ref x_508), .val (.ref x_509), .val (.ref x_511), .val (.ref b513), .val (.int ((Int32.ofNat es1.length) + (1 : Int32))), .unset]) rfl k) ?_
        show own_Go _ _ _ _ (T608.setTop (mkF m 222 #[.val (.int p1), .val (.int p2), .val (.int p3), .val (.int u0), .val (.int u1), .val (.int la), .val (.int n0), .val (.int n1), .val (.int (0 : Int32)), .val (.int v0), .val (.int v1), .val (.int lv), .val (.ref x_508), .val (.ref x_509), .val (.ref x_511), .val (.ref b513), .val (.int ((Int32.ofNat es1.length) + (1 : Int32))), .unset] []))
        rw [own_pl1 (es := es1) (c := (61 : Int32)) (by (try simp only [List.length_append, List.length_cons, List.length_nil]); omega)]
        show own_Go _ _ _ _ (T608.setTop (mkF m 222 #[.val (.int p1), .val (.int p2), .val (.int p3), .val (.int u0), .val (.int u1), .val (.int la), .val (.int n0), .val (.int n1), .val (.int (0 : Int32)), .val (.int v0), .val (.int v1), .val (.int lv), .val (.ref x_508), .val (.ref x_509), .val (.ref x_511), .val (.ref b513), .val (.int (Int32.ofNat (es1 ++ [(61 : Int32)]).length)), .unset] []))
        refine own_Go.st (fun _ k => XS.aload X608.here hx rfl (hb hby at_222) rfl rfl k) ?_
        show own_Go _ _ _ _ (T608.setTop (mkF m 224 #[.val (.int p1), .val (.int p2), .val (.int p3), .val (.int u0), .val (.int u1), .val (.int la), .val (.int n0), .val (.int n1), .val (.int (0 : Int32)), .val (.int v0), .val (.int v1), .val (.int lv), .val (.ref x_508), .val (.ref x_509), .val (.ref x_511), .val (.ref b513), .val (.int (Int32.ofNat (es1 ++ [(61 : Int32)]).length)), .unset] [(.ref b513)]))
        refine own_Go.st (fun _ k => XS.iload X608.here hx rfl (hb hby at_224) rfl k) ?_
        show own_Go _ _ _ _ (T608.setTop (mkF m 226 #[.val (.int p1), .val (.int p2), .val (.int p3), .val (.int u0), .val (.int u1), .val (.int la), .val (.int n0), .val (.int n1), .val (.int (0 : Int32)), .val (.int v0), .val (.int v1), .val (.int lv), .val (.ref x_508), .val (.ref x_509), .val (.ref x_511), .val (.ref b513), .val (.int (Int32.ofNat (es1 ++ [(61 : Int32)]).length)), .unset] [(.int (Int32.ofNat (es1 ++ [(61 : Int32)]).length)), (.ref b513)]))
        refine own_Go.st (fun _ k => XS.bipush X608.here hx rfl (hb hby at_226) k) ?_
        show own_Go _ _ _ _ (T608.setTop (mkF m 228 #[.val (.int p1), .val (.int p2), .val (.int p3), .val (.int u0), .val (.int u1), .val (.int la), .val (.int n0), .val (.int n1), .val (.int (0 : Int32)), .val (.int v0), .val (.int v1), .val (.int lv), .val (.ref x_508), .val (.ref x_509), .val (.ref x_511), .val (.ref b513), .val (.int (Int32.ofNat (es1 ++ [(61 : Int32)]).length)), .unset] [(.int (34 : Int32)), (.int (Int32.ofNat (es1 ++ [(61 : Int32)]).length)), (.ref b513)]))
        obtain ⟨c612, Ar612, q612, S612, Nn612, H612, G612⟩ := id f611
        have hin612 : ¬ ((Int32.ofNat (es1 ++ [(61 : Int32)]).length) < 0 ∨ c612.slots.size ≤ ((Int32.ofNat (es1 ++ [(61 : Int32)]).length)).toNatClampNeg) := inb_of S612 ⟨own_of0 (by (try simp only [List.length_append, List.length_cons, List.length_nil]); omega), (own_oflt (j := 10) (by (try simp only [List.length_append, List.length_cons, List.length_nil]); omega) (by omega)).mpr (by (try simp only [List.length_append, List.length_cons, List.length_nil]); omega)⟩
        obtain ⟨T612, h612, X612, e612, W612, st612⟩ := stC X608 hx hZ511 e608 Ar612 (j := (Int32.ofNat (es1 ++ [(61 : Int32)]).length)) hin612 (g := (mkF m 228 #[.val (.int p1), .val (.int p2), .val (.int p3), .val (.int u0), .val (.int u1), .val (.int la), .val (.int n0), .val (.int n1), .val (.int (0 : Int32)), .val (.int v0), .val (.int v1), .val (.int lv), .val (.ref x_508), .val (.ref x_509), .val (.ref x_511), .val (.ref b513), .val (.int (Int32.ofNat (es1 ++ [(61 : Int32)]).length)), .unset] [(.int (34 : Int32)), (.int (Int32.ofNat (es1 ++ [(61 : Int32)]).length)), (.ref b513)])) rfl rfl (hb hby at_228)
        refine own_Go.st st612 ?_
        have N612 := Fr.snoc X612 N608 (by omega)
        have Sf614 : Safe Z consts_1 T511.vm h608 b513 := Safe.arv hZ511.alike f611 (by decide)
        have z612 : h608.size ≤ h612.size := Nat.le_of_eq W612.size.symm
        have f615 : Arv Z h612 b513 k513 .char (10 : Int32) (((es1 ++ [(61 : Int32)]) ++ [(34 : Int32)]).map Value.int) (.int (0 : Int32)) := own_push f611 W612 rfl (by (try simp only [List.length_append, List.length_cons, List.length_nil]); omega) (by decide)
        have R612 : CHr Z consts_1 s.vm h0 T511.vm h612 := R608.trans (CHr.wr W612 Sf614 R608.1)
        show own_Go _ _ _ _ (T612.setTop (mkF m 229 #[.val (.int p1), .val (.int p2), .val (.int p3), .val (.int u0), .val (.int u1), .val (.int la), .val (.int n0), .val (.int n1), .val (.int (0 : Int32)), .val (.int v0), .val (.int v1), .val (.int lv), .val (.ref x_508), .val (.ref x_509), .val (.ref x_511), .val (.ref b513), .val (.int (Int32.ofNat (es1 ++ [(61 : Int32)]).length)), .unset] []))
        refine own_Go.st (fun _ k => XS.iinc X612.here hx rfl (hb hby at_229) rfl (l' := #[.val (.int p1), .val (.int p2), .val (.int p3), .val (.int u0), .val (.int u1), .val (.int la), .val (.int n0), .val (.int n1), .val (.int (0 : Int32)), .val (.int v0), .val (.int v1), .val (.int lv), .val (.ref x_508), .val (.ref x_509), .val (.ref x_511), .val (.ref b513), .val (.int ((Int32.ofNat (es1 ++ [(61 : Int32)]).length) + (1 : Int32))), .unset]) rfl k) ?_
        show own_Go _ _ _ _ (T612.setTop (mkF m 232 #[.val (.int p1), .val (.int p2), .val (.int p3), .val (.int u0), .val (.int u1), .val (.int la), .val (.int n0), .val (.int n1), .val (.int (0 : Int32)), .val (.int v0), .val (.int v1), .val (.int lv), .val (.ref x_508), .val (.ref x_509), .val (.ref x_511), .val (.ref b513), .val (.int ((Int32.ofNat (es1 ++ [(61 : Int32)]).length) + (1 : Int32))), .unset] []))
        rw [own_pl1 (es := (es1 ++ [(61 : Int32)])) (c := (34 : Int32)) (by (try simp only [List.length_append, List.length_cons, List.length_nil]); omega)]
        show own_Go _ _ _ _ (T612.setTop (mkF m 232 #[.val (.int p1), .val (.int p2), .val (.int p3), .val (.int u0), .val (.int u1), .val (.int la), .val (.int n0), .val (.int n1), .val (.int (0 : Int32)), .val (.int v0), .val (.int v1), .val (.int lv), .val (.ref x_508), .val (.ref x_509), .val (.ref x_511), .val (.ref b513), .val (.int (Int32.ofNat ((es1 ++ [(61 : Int32)]) ++ [(34 : Int32)]).length)), .unset] []))
        have ne616 : @Ne Nat x_508 b513 := Exa.neArv fJ515_0.exa fJ515_3 (hw _ (List.mem_of_getElem? (i := 6) rfl))
        have ne617 : @Ne Nat t_508 b513 := own_Str.neTy fJ515_0 fJ515_3 (by decide)
        have f618 : own_Str Z h608 x_508 t_508 ([u0, u1].take la.toNatClampNeg) := fJ515_0.other W608 ne616 ne617
        have f619 : own_Str Z h612 x_508 t_508 ([u0, u1].take la.toNatClampNeg) := f618.other W612 ne616 ne617
        have ne620 : @Ne Nat x_509 b513 := Exa.neArv fJ515_1.exa fJ515_3 (hw _ (List.mem_of_getElem? (i := 6) rfl))
        have ne621 : @Ne Nat t_509 b513 := own_Str.neTy fJ515_1 fJ515_3 (by decide)
        have f622 : own_Str Z h608 x_509 t_509 ([n0, n1].take (0 : Int32).toNatClampNeg) := fJ515_1.other W608 ne620 ne621
        have f623 : own_Str Z h612 x_509 t_509 ([n0, n1].take (0 : Int32).toNatClampNeg) := f622.other W612 ne620 ne621
        have ne624 : @Ne Nat x_511 b513 := Exa.neArv fJ515_2.exa fJ515_3 (hw _ (List.mem_of_getElem? (i := 6) rfl))
        have ne625 : @Ne Nat t_511 b513 := own_Str.neTy fJ515_2 fJ515_3 (by decide)
        have f626 : own_Str Z h608 x_511 t_511 ([v0, v1].take lv.toNatClampNeg) := fJ515_2.other W608 ne624 ne625
        have f627 : own_Str Z h612 x_511 t_511 ([v0, v1].take lv.toNatClampNeg) := f626.other W612 ne624 ne625
        have K628 : Keep h0 h608 [] := KJ515.wr W608 (Or.inr (by omega))
        have K629 : Keep h0 h612 [] := K628.wr W612 (Or.inr (by omega))
        have f630 : Old Z Z.heap.size h608 := OJ515.wr W608 (by omega)
        have f631 : Old Z Z.heap.size h612 := f630.wr W612 (by omega)
        exact HJ516 ((es1 ++ [(61 : Int32)]) ++ [(34 : Int32)]) T612 h612 _ (by rw [he_es1]; first | rfl | simp) (by (try simp only [List.length_append, List.length_cons, List.length_nil]); omega) X612 e612 N612 K629 f631 (by omega) R612 f619 f623 f627 f615
      ·
        show own_Go _ _ _ _ (TJ515.setTop (mkF m 180 #[.val (.int p1), .val (.int p2), .val (.int p3), .val (.int u0), .val (.int u1), .val (.int la), .val (.int n0), .val (.int n1), .val (.int (1 : Int32)), .val (.int v0), .val (.int v1), .val (.int lv), .val (.ref x_508), .val (.ref x_509), .val (.ref x_511), .val (.ref b513), .val (.int (Int32.ofNat es1.length)), .unset] []))
        refine own_Go.st (fun _ k => XS.iload XJ515.here hx rfl (hb hby at_180) rfl k) ?_
        show own_Go _ _ _ _ (TJ515.setTop (mkF m 182 #[.val (.int p1), .val (.int p2), .val (.int p3), .val (.int u0), .val (.int u1), .val (.int la), .val (.int n0), .val (.int n1), .val (.int (1 : Int32)), .val (.int v0), .val (.int v1), .val (.int lv), .val (.ref x_508), .val (.ref x_509), .val (.ref x_511), .val (.ref b513), .val (.int (Int32.ofNat es1.length)), .unset] [(.int (1 : Int32))]))
        refine own_Go.st (fun _ k => XS.iconst XJ515.here hx rfl (hb hby at_182) k) ?_
        show own_Go _ _ _ _ (TJ515.setTop (mkF m 183 #[.val (.int p1), .val (.int p2), .val (.int p3), .val (.int u0), .val (.int u1), .val (.int la), .val (.int n0), .val (.int n1), .val (.int (1 : Int32)), .val (.int v0), .val (.int v1), .val (.int lv), .val (.ref x_508), .val (.ref x_509), .val (.ref x_511), .val (.ref b513), .val (.int (Int32.ofNat es1.length)), .unset] [(.int (1 : Int32)), (.int (1 : Int32))]))
        refine own_Go.st (fun _ k => XS.icmpNo XJ515.here hx rfl (hb hby at_183) rfl (flt (by decide : ¬ ((1 : Int32) < (1 : Int32)))).1 k) ?_
        show own_Go _ _ _ _ (TJ515.setTop (mkF m 186 #[.val (.int p1), .val (.int p2), .val (.int p3), .val (.int u0), .val (.int u1), .val (.int la), .val (.int n0), .val (.int n1), .val (.int (1 : Int32)), .val (.int v0), .val (.int v1), .val (.int lv), .val (.ref x_508), .val (.ref x_509), .val (.ref x_511), .val (.ref b513), .val (.int (Int32.ofNat es1.length)), .unset] []))
        refine own_Go.st (fun _ k => XS.aload XJ515.here hx rfl (hb hby at_186) rfl rfl k) ?_
        show own_Go _ _ _ _ (TJ515.setTop (mkF m 188 #[.val (.int p1), .val (.int p2), .val (.int p3), .val (.int u0), .val (.int u1), .val (.int la), .val (.int n0), .val (.int n1), .val (.int (1 : Int32)), .val (.int v0), .val (.int v1), .val (.int lv), .val (.ref x_508), .val (.ref x_509), .val (.ref x_511), .val (.ref b513), .val (.int (Int32.ofNat es1.length)), .unset] [(.ref b513)]))
        refine own_Go.st (fun _ k => XS.iload XJ515.here hx rfl (hb hby at_188) rfl k) ?_
        show own_Go _ _ _ _ (TJ515.setTop (mkF m 190 #[.val (.int p1), .val (.int p2), .val (.int p3), .val (.int u0), .val (.int u1), .val (.int la), .val (.int n0), .val (.int n1), .val (.int (1 : Int32)), .val (.int v0), .val (.int v1), .val (.int lv), .val (.ref x_508), .val (.ref x_509), .val (.ref x_511), .val (.ref b513), .val (.int (Int32.ofNat es1.length)), .unset] [(.int (Int32.ofNat es1.length)), (.ref b513)]))
        refine own_Go.st (fun _ k => XS.iload XJ515.here hx rfl (hb hby at_190) rfl k) ?_
        show own_Go _ _ _ _ (TJ515.setTop (mkF m 192 #[.val (.int p1), .val (.int p2), .val (.int p3), .val (.int u0), .val (.int u1), .val (.int la), .val (.int n0), .val (.int n1), .val (.int (1 : Int32)), .val (.int v0), .val (.int v1), .val (.int lv), .val (.ref x_508), .val (.ref x_509), .val (.ref x_511), .val (.ref b513), .val (.int (Int32.ofNat es1.length)), .unset] [(.int n0), (.int (Int32.ofNat es1.length)), (.ref b513)]))
        obtain ⟨c632, Ar632, q632, S632, Nn632, H632, G632⟩ := id fJ515_3
        have hin632 : ¬ ((Int32.ofNat es1.length) < 0 ∨ c632.slots.size ≤ ((Int32.ofNat es1.length)).toNatClampNeg) := inb_of S632 ⟨own_of0 (by (try simp only [List.length_append, List.length_cons, List.length_nil]); omega), (own_oflt (j := 10) (by (try simp only [List.length_append, List.length_cons, List.length_nil]); omega) (by omega)).mpr (by (try simp only [List.length_append, List.length_cons, List.length_nil]); omega)⟩
        obtain ⟨T632, h632, X632, e632, W632, st632⟩ := stC XJ515 hx hZ511 eJ515 Ar632 (j := (Int32.ofNat es1.length)) hin632 (g := (mkF m 192 #[.val (.int p1), .val (.int p2), .val (.int p3), .val (.int u0), .val (.int u1), .val (.int la), .val (.int n0), .val (.int n1), .val (.int (1 : Int32)), .val (.int v0), .val (.int v1), .val (.int lv), .val (.ref x_508), .val (.ref x_509), .val (.ref x_511), .val (.ref b513), .val (.int (Int32.ofNat es1.length)), .unset] [(.int n0), (.int (Int32.ofNat es1.length)), (.ref b513)])) rfl rfl (hb hby at_192)
        refine own_Go.st st632 ?_
        have N632 := Fr.snoc X632 NJ515 (by omega)
        have Sf634 : Safe Z consts_1 T511.vm hJ515 b513 := Safe.arv hZ511.alike fJ515_3 (by decide)
        have z632 : hJ515.size ≤ h632.size := Nat.le_of_eq W632.size.symm
        have f635 : Arv Z h632 b513 k513 .char (10 : Int32) ((es1 ++ [n0]).map Value.int) (.int (0 : Int32)) := own_push fJ515_3 W632 rfl (by (try simp only [List.length_append, List.length_cons, List.length_nil]); omega) (own_up hn0)
        have R632 : CHr Z consts_1 s.vm h0 T511.vm h632 := RJ515.trans (CHr.wr W632 Sf634 RJ515.1)
        show own_Go _ _ _ _ (T632.setTop (mkF m 193 #[.val (.int p1), .val (.int p2), .val (.int p3), .val (.int u0), .val (.int u1), .val (.int la), .val (.int n0), .val (.int n1), .val (.int (1 : Int32)), .val (.int v0), .val (.int v1), .val (.int lv), .val (.ref x_508), .val (.ref x_509), .val (.ref x_511), .val (.ref b513), .val (.int (Int32.ofNat es1.length)), .unset] []))
        refine own_Go.st (fun _ k => XS.iinc X632.here hx rfl (hb hby at_193) rfl (l' := #[.val (.int p1), .val (.int p2), .val (.int p3), .val (.int u0), .val (.int u1), .val (.int la), .val (.int n0), .val (.int n1), .val (.int (1 : Int32)), .val (.int v0), .val (.int v1), .val (.int lv), .val (.ref x_508), .val (.ref x_509), .val (.ref x_511), .val (.ref b513), .val (.int ((Int32.ofNat es1.length) + (1 : Int32))), .unset]) rfl k) ?_
        show own_Go _ _ _ _ (T632.setTop (mkF m 196 #[.val (.int p1), .val (.int p2), .val (.int p3), .val (.int u0), .val (.int u1), .val (.int la), .val (.int n0), .val (.int n1), .val (.int (1 : Int32)), .val (.int v0), .val (.int v1), .val (.int lv), .val (.ref x_508), .val (.ref x_509), .val (.ref x_511), .val (.ref b513), .val (.int ((Int32.ofNat es1.length) + (1 : Int32))), .unset] []))
        rw [own_pl1 (es := es1) (c := n0) (by (try simp only [List.length_append, List.length_cons, List.length_nil]); omega)]
        show own_Go _ _ _ _ (T632.setTop (mkF m 196 #[.val (.int p1), .val (.int p2), .val (.int p3), .val (.int u0), .val (.int u1), .val (.int la), .val (.int n0), .val (.int n1), .val (.int (1 : Int32)), .val (.int v0), .val (.int v1), .val (.int lv), .val (.ref x_508), .val (.ref x_509), .val (.ref x_511), .val (.ref b513), .val (.int (Int32.ofNat (es1 ++ [n0]).length)), .unset] []))
        refine own_Go.st (fun _ k => XS.iload X632.here hx rfl (hb hby at_196) rfl k) ?_
        show own_Go _ _ _ _ (T632.setTop (mkF m 198 #[.val (.int p1), .val (.int p2), .val (.int p3), .val (.int u0), .val (.int u1), .val (.int la), .val (.int n0), .val (.int n1), .val (.int (1 : Int32)), .val (.int v0), .val (.int v1), .val (.int lv), .val (.ref x_508), .val (.ref x_509), .val (.ref x_511), .val (.ref b513), .val (.int (Int32.ofNat (es1 ++ [n0]).length)), .unset] [(.int (1 : Int32))]))
        refine own_Go.st (fun _ k => XS.iconst X632.here hx rfl (hb hby at_198) k) ?_
        show own_Go _ _ _ _ (T632.setTop (mkF m 199 #[.val (.int p1), .val (.int p2), .val (.int p3), .val (.int u0), .val (.int u1), .val (.int la), .val (.int n0), .val (.int n1), .val (.int (1 : Int32)), .val (.int v0), .val (.int v1), .val (.int lv), .val (.ref x_508), .val (.ref x_509), .val (.ref x_511), .val (.ref b513), .val (.int (Int32.ofNat (es1 ++ [n0]).length)), .unset] [(.int (2 : Int32)), (.int (1 : Int32))]))
        refine own_Go.st (fun _ k => XS.icmpYes X632.here hx rfl (pc0 := 199) (pc' := 212) rfl (hb hby at_199) rfl (tlt (by decide : (1 : Int32) < (2 : Int32))).1 (by decide) (by decide) k) ?_
        show own_Go _ _ _ _ (T632.setTop (mkF m 212 #[.val (.int p1), .val (.int p2), .val (.int p3), .val (.int u0), .val (.int u1), .val (.int la), .val (.int n0), .val (.int n1), .val (.int (1 : Int32)), .val (.int v0), .val (.int v1), .val (.int lv), .val (.ref x_508), .val (.ref x_509), .val (.ref x_511), .val (.ref b513), .val (.int (Int32.ofNat (es1 ++ [n0]).length)), .unset] []))
        refine own_Go.st (fun _ k => XS.aload X632.here hx rfl (hb hby at_212) rfl rfl k) ?_
        show own_Go _ _ _ _ (T632.setTop (mkF m 214 #[.val (.int p1), .val (.int p2), .val (.int p3), .val (.int u0), .val (.int u1), .val (.int la), .val (.int n0), .val (.int n1), .val (.int (1 : Int32)), .val (.int v0), .val (.int v1), .val (.int lv), .val (.ref x_508), .val (.ref x_509), .val (.ref x_511), .val (.ref b513), .val (.int (Int32.ofNat (es1 ++ [n0]).length)), .unset] [(.ref b513)]))
        refine own_Go.st (fun _ k => XS.iload X632.here hx rfl (hb hby at_214) rfl k) ?_
        show own_Go _ _ _ _ (T632.setTop (mkF m 216 #[.val (.int p1), .val (.int p2), .val (.int p3), .val (.int u0), .val (.int u1), .val (.int la), .val (.int n0), .val (.int n1), .val (.int (1 : Int32)), .val (.int v0), .val (.int v1), .val (.int lv), .val (.ref x_508), .val (.ref x_509), .val (.ref x_511), .val (.ref b513), .val (.int (Int32.ofNat (es1 ++ [n0]).length)), .unset] [(.int (Int32.ofNat (es1 ++ [n0]).length)), (.ref b513)]))
        refine own_Go.st (fun _ k => XS.bipush X632.here hx rfl (hb hby at_216) k) ?_
        show own_Go _ _ _ _ (T632.setTop (mkF m 218 #[.val (.int p1), .val (.int p2), .val (.int p3), .val (.int u0), .val (.int u1), .val (.int la), .val (.int n0), .val (.int n1), .val (.int (1 : Int32)), .val (.int v0), .val (.int v1), .val (.int lv), .val (.ref x_508), .val (.ref x_509), .val (.ref x_511), .val (.ref b513), .val (.int (Int32.ofNat (es1 ++ [n0]).length)), .unset] [(.int (61 : Int32)), (.int (Int32.ofNat (es1 ++ [n0]).length)), (.ref b513)]))
        obtain ⟨c636, Ar636, q636, S636, Nn636, H636, G636⟩ := id f635
        have hin636 : ¬ ((Int32.ofNat (es1 ++ [n0]).length) < 0 ∨ c636.slots.size ≤ ((Int32.ofNat (es1 ++ [n0]).length)).toNatClampNeg) := inb_of S636 ⟨own_of0 (by (try simp only [List.length_append, List.length_cons, List.length_nil]); omega), (own_oflt (j := 10) (by (try simp only [List.length_append, List.length_cons, List.length_nil]); omega) (by omega)).mpr (by (try simp only [List.length_append, List.length_cons, List.length_nil]); omega)⟩
        obtain ⟨T636, h636, X636, e636, W636, st636⟩ := stC X632 hx hZ511 e632 Ar636 (j := (Int32.ofNat (es1 ++ [n0]).length)) hin636 (g := (mkF m 218 #[.val (.int p1), .val (.int p2), .val (.int p3), .val (.int u0), .val (.int u1), .val (.int la), .val (.int n0), .val (.int n1), .val (.int (1 : Int32)), .val (.int v0), .val (.int v1), .val (.int lv), .val (.ref x_508), .val (.ref x_509), .val (.ref x_511), .val (.ref b513), .val (.int (Int32.ofNat (es1 ++ [n0]).length)), .unset] [(.int (61 : Int32)), (.int (Int32.ofNat (es1 ++ [n0]).length)), (.ref b513)])) rfl rfl (hb hby at_218)
        refine own_Go.st st636 ?_
        have N636 := Fr.snoc X636 N632 (by omega)
        have Sf638 : Safe Z consts_1 T511.vm h632 b513 := Safe.arv hZ511.alike f635 (by decide)
        have z636 : h632.size ≤ h636.size := Nat.le_of_eq W636.size.symm
        have f639 : Arv Z h636 b513 k513 .char (10 : Int32) (((es1 ++ [n0]) ++ [(61 : Int32)]).map Value.int) (.int (0 : Int32)) := own_push f635 W636 rfl (by (try simp only [List.length_append, List.length_cons, List.length_nil]); omega) (by decide)
        have R636 : CHr Z consts_1 s.vm h0 T511.vm h636 := R632.trans (CHr.wr W636 Sf638 R632.1)
        show own_Go _ _ _ _ (T636.setTop (mkF m 219 #[.val (.int p1), .val (.int p2), .val (.int p3), .val (.int u0), .val (.int u1), .val (.int la), .val (.int n0), .val (.int n1), .val (.int (1 : Int32)), .val (.int v0), .val (.int v1), .val (.int lv), .val (.ref x_508), .val (.ref x_509), .val (.ref x_511), .val (.ref b513), .val (.int (Int32.ofNat (es1 ++ [n0]).length)), .unset] []))
        refine own_Go.st (fun _ k => XS.iinc X636.here hx rfl (hb hby at_219) rfl (l' := #[.val (.int p1), .val (.int p2), .val (.int p3), .val (.int u0), .val (.int u1), .val (.int la), .val (.int n0), .val (.int n1), .val (.int (1 : Int32)), .val (.int v0), .val (.int v1), .val (.int lv), .val (.ref x_508), .val (.ref x_509), .val (.ref x_511), .val (.ref b513), .val (.int ((Int32.ofNat (es1 ++ [n0]).length) + (1 : Int32))), .unset]) rfl k) ?_
        show own_Go _ _ _ _ (T636.setTop (mkF m 222 #[.val (.int p1), .val (.int p2), .val (.int p3), .val (.int u0), .val (.int u1), .val (.int la), .val (.int n0), .val (.int n1), .val (.int (1 : Int32)), .val (.int v0), .val (.int v1), .val (.int lv), .val (.ref x_508), .val (.ref x_509), .val (.ref x_511), .val (.ref b513), .val (.int ((Int32.ofNat (es1 ++ [n0]).length) + (1 : Int32))), .unset] []))
        rw [own_pl1 (es := (es1 ++ [n0])) (c := (61 : Int32)) (by (try simp only [List.length_append, List.length_cons, List.length_nil]); omega)]
        show own_Go _ _ _ _ (T636.setTop (mkF m 222 #[.val (.int p1), .val (.int p2), .val (.int p3), .val (.int u0), .val (.int u1), .val (.int la), .val (.int n0), .val (.int n1), .val (.int (1 : Int32)), .val (.int v0), .val (.int v1), .val (.int lv), .val (.ref x_508), .val (.ref x_509), .val (.ref x_511), .val (.ref b513), .val (.int (Int32.ofNat ((es1 ++ [n0]) ++ [(61 : Int32)]).length)), .unset] []))
        refine own_Go.st (fun _ k => XS.aload X636.here hx rfl (hb hby at_222) rfl rfl k) ?_
        show own_Go _ _ _ _ (T636.setTop (mkF m 224 #[.val (.int p1), .val (.int p2), .val (.int p3), .val (.int u0), .val (.int u1), .val (.int la), .val (.int n0), .val (.int n1), .val (.int (1 : Int32)), .val (.int v0), .val (.int v1), .val (.int lv), .val (.ref x_508), .val (.ref x_509), .val (.ref x_511), .val (.ref b513), .val (.int (Int32.ofNat ((es1 ++ [n0]) ++ [(61 : Int32)]).length)), .unset] [(.ref b513)]))
        refine own_Go.st (fun _ k => XS.iload X636.here hx rfl (hb hby at_224) rfl k) ?_
        show own_Go _ _ _ _ (T636.setTop (mkF m 226 #[.val (.int p1), .val (.int p2), .val (.int p3), .val (.int u0), .val (.int u1), .val (.int la), .val (.int n0), .val (.int n1), .val (.int (1 : Int32)), .val (.int v0), .val (.int v1), .val (.int lv), .val (.ref x_508), .val (.ref x_509), .val (.ref x_511), .val (.ref b513), .val (.int (Int32.ofNat ((es1 ++ [n0]) ++ [(61 : Int32)]).length)), .unset] [(.int (Int32.ofNat ((es1 ++ [n0]) ++ [(61 : Int32)]).length)), (.ref b513)]))
        refine own_Go.st (fun _ k => XS.bipush X636.here hx rfl (hb hby at_226) k) ?_
        show own_Go _ _ _ _ (T636.setTop (mkF m 228 #[.val (.int p1), .val (.int p2), .val (.int p3), .val (.int u0), .val (.int u1), .val (.int la), .val (.int n0), .val (.int n1), .val (.int (1 : Int32)), .val (.int v0), .val (.int v1), .val (.int lv), .val (.ref x_508), .val (.ref x_509), .val (.ref x_511), .val (.ref b513), .val (.int (Int32.ofNat ((es1 ++ [n0]) ++ [(61 : Int32)]).length)), .unset] [(.int (34 : Int32)), (.int (Int32.ofNat ((es1 ++ [n0]) ++ [(61 : Int32)]).length)), (.ref b513)]))
        obtain ⟨c640, Ar640, q640, S640, Nn640, H640, G640⟩ := id f639
        have hin640 : ¬ ((Int32.ofNat ((es1 ++ [n0]) ++ [(61 : Int32)]).length) < 0 ∨ c640.slots.size ≤ ((Int32.ofNat ((es1 ++ [n0]) ++ [(61 : Int32)]).length)).toNatClampNeg) := inb_of S640 ⟨own_of0 (by (try simp only [List.length_append, List.length_cons, List.length_nil]); omega), (own_oflt (j := 10) (by (try simp only [List.length_append, List.length_cons, List.length_nil]); omega) (by omega)).mpr (by (try simp only [List.length_append, List.length_cons, List.length_nil]); omega)⟩
        obtain ⟨T640, h640, X640, e640, W640, st640⟩ := stC X636 hx hZ511 e636 Ar640 (j := (Int32.ofNat ((es1 ++ [n0]) ++ [(61 : Int32)]).length)) hin640 (g := (mkF m 228 #[.val (.int p1), .val (.int p2), .val (.int p3), .val (.int u0), .val (.int u1), .val (.int la), .val (.int n0), .val (.int n1), .val (.int (1 : Int32)), .val (.int v0), .val (.int v1), .val (.int lv), .val (.ref x_508), .val (.ref x_509), .val (.ref x_511), .val (.ref b513), .val (.int (Int32.ofNat ((es1 ++ [n0]) ++ [(61 : Int32)]).length)), .unset] [(.int (34 : Int32)), (.int (Int32.ofNat ((es1 ++ [n0]) ++ [(61 : Int32)]).length)), (.ref b513)])) rfl rfl (hb hby at_228)
        refine own_Go.st st640 ?_
        have N640 := Fr.snoc X640 N636 (by omega)
        have Sf642 : Safe Z consts_1 T511.vm h636 b513 := Safe.arv hZ511.alike f639 (by decide)
        have z640 : h636.size ≤ h640.size := Nat.le_of_eq W640.size.symm
        have f643 : Arv Z h640 b513 k513 .char (10 : Int32) ((((es1 ++ [n0]) ++ [(61 : Int32)]) ++ [(34 : Int32)]).map Value.int) (.int (0 : Int32)) := own_push f639 W640 rfl (by (try simp only [List.length_append, List.length_cons, List.length_nil]); omega) (by decide)
        have R640 : CHr Z consts_1 s.vm h0 T511.vm h640 := R636.trans (CHr.wr W640 Sf642 R636.1)
        show own_Go _ _ _ _ (T640.setTop (mkF m 229 #[.val (.int p1), .val (.int p2), .val (.int p3), .val (.int u0), .val (.int u1), .val (.int la), .val (.int n0), .val (.int n1), .val (.int (1 : Int32)), .val (.int v0), .val (.int v1), .val (.int lv), .val (.ref x_508), .val (.ref x_509), .val (.ref x_511), .val (.ref b513), .val (.int (Int32.ofNat ((es1 ++ [n0]) ++ [(61 : Int32)]).length)), .unset] []))
        refine own_Go.st (fun _ k => XS.iinc X640.here hx rfl (hb hby at_229) rfl (l' := #[.val (.int p1), .val (.int p2), .val (.int p3), .val (.int u0), .val (.int u1), .val (.int la), .val (.int n0), .val (.int n1), .val (.int (1 : Int32)), .val (.int v0), .val (.int v1), .val (.int lv), .val (.ref x_508), .val (.ref x_509), .val (.ref x_511), .val (.ref b513), .val (.int ((Int32.ofNat ((es1 ++ [n0]) ++ [(61 : Int32)]).length) + (1 : Int32))), .unset]) rfl k) ?_
        show own_Go _ _ _ _ (T640.setTop (mkF m 232 #[.val (.int p1), .val (.int p2), .val (.int p3), .val (.int u0), .val (.int u1), .val (.int la), .val (.int n0), .val (.int n1), .val (.int (1 : Int32)), .val (.int v0), .val (.int v1), .val (.int lv), .val (.ref x_508), .val (.ref x_509), .val (.ref x_511), .val (.ref b513), .val (.int ((Int32.ofNat ((es1 ++ [n0]) ++ [(61 : Int32)]).length) + (1 : Int32))), .unset] []))
        rw [own_pl1 (es := ((es1 ++ [n0]) ++ [(61 : Int32)])) (c := (34 : Int32)) (by (try simp only [List.length_append, List.length_cons, List.length_nil]); omega)]
        show own_Go _ _ _ _ (T640.setTop (mkF m 232 #[.val (.int p1), .val (.int p2), .val (.int p3), .val (.int u0), .val (.int u1), .val (.int la), .val (.int n0), .val (.int n1), .val (.int (1 : Int32)), .val (.int v0), .val (.int v1), .val (.int lv), .val (.ref x_508), .val (.ref x_509), .val (.ref x_511), .val (.ref b513), .val (.int (Int32.ofNat (((es1 ++ [n0]) ++ [(61 : Int32)]) ++ [(34 : Int32)]).length)), .unset] []))
        have ne644 : @Ne Nat x_508 b513 := Exa.neArv fJ515_0.exa fJ515_3 (hw _ (List.mem_of_getElem? (i := 6) rfl))
        have ne645 : @Ne Nat t_508 b513 := own_Str.neTy fJ515_0 fJ515_3 (by decide)
        have f646 : own_Str Z h632 x_508 t_508 ([u0, u1].take la.toNatClampNeg) := fJ515_0.other W632 ne644 ne645
        have f647 : own_Str Z h636 x_508 t_508 ([u0, u1].take la.toNatClampNeg) := f646.other W636 ne644 ne645
        have f648 : own_Str Z h640 x_508 t_508 ([u0, u1].take la.toNatClampNeg) := f647.other W640 ne644 ne645
        have ne649 : @Ne Nat x_509 b513 := Exa.neArv fJ515_1.exa fJ515_3 (hw _ (List.mem_of_getElem? (i := 6) rfl))
        have ne650 : @Ne Nat t_509 b513 := own_Str.neTy fJ515_1 fJ515_3 (by decide)
        have f651 : own_Str Z h632 x_509 t_509 ([n0, n1].take (1 : Int32).toNatClampNeg) := fJ515_1.other W632 ne649 ne650
        have f652 : own_Str Z h636 x_509 t_509 ([n0, n1].take (1 : Int32).toNatClampNeg) := f651.other W636 ne649 ne650
        have f653 : own_Str Z h640 x_509 t_509 ([n0, n1].take (1 : Int32).toNatClampNeg) := f652.other W640 ne649 ne650
        have ne654 : @Ne Nat x_511 b513 := Exa.neArv fJ515_2.exa fJ515_3 (hw _ (List.mem_of_getElem? (i := 6) rfl))
        have ne655 : @Ne Nat t_511 b513 := own_Str.neTy fJ515_2 fJ515_3 (by decide)
        have f656 : own_Str Z h632 x_511 t_511 ([v0, v1].take lv.toNatClampNeg) := fJ515_2.other W632 ne654 ne655
        have f657 : own_Str Z h636 x_511 t_511 ([v0, v1].take lv.toNatClampNeg) := f656.other W636 ne654 ne655
        have f658 : own_Str Z h640 x_511 t_511 ([v0, v1].take lv.toNatClampNeg) := f657.other W640 ne654 ne655
        have K659 : Keep h0 h632 [] := KJ515.wr W632 (Or.inr (by omega))
        have K660 : Keep h0 h636 [] := K659.wr W636 (Or.inr (by omega))
        have K661 : Keep h0 h640 [] := K660.wr W640 (Or.inr (by omega))
        have f662 : Old Z Z.heap.size h632 := OJ515.wr W632 (by omega)
        have f663 : Old Z Z.heap.size h636 := f662.wr W636 (by omega)
        have f664 : Old Z Z.heap.size h640 := f663.wr W640 (by omega)
        exact HJ516 (((es1 ++ [n0]) ++ [(61 : Int32)]) ++ [(34 : Int32)]) T640 h640 _ (by rw [he_es1]; first | rfl | simp) (by (try simp only [List.length_append, List.length_cons, List.length_nil]); omega) X640 e640 N640 K661 f664 (by omega) R640 f648 f653 f658 f643
      ·
        show own_Go _ _ _ _ (TJ515.setTop (mkF m 180 #[.val (.int p1), .val (.int p2), .val (.int p3), .val (.int u0), .val (.int u1), .val (.int la), .val (.int n0), .val (.int n1), .val (.int (2 : Int32)), .val (.int v0), .val (.int v1), .val (.int lv), .val (.ref x_508), .val (.ref x_509), .val (.ref x_511), .val (.ref b513), .val (.int (Int32.ofNat es1.length)), .unset] []))
        refine own_Go.st (fun _ k => XS.iload XJ515.here hx rfl (hb hby at_180) rfl k) ?_
        show own_Go _ _ _ _ (TJ515.setTop (mkF m 182 #[.val (.int p1), .val (.int p2), .val (.int p3), .val (.int u0), .val (.int u1), .val (.int la), .val (.int n0), .val (.int n1), .val (.int (2 : Int32)), .val (.int v0), .val (.int v1), .val (.int lv), .val (.ref x_508), .val (.ref x_509), .val (.ref x_511), .val (.ref b513), .val (.int (Int32.ofNat es1.length)), .unset] [(.int (2 : Int32))]))
        refine own_Go.st (fun _ k => XS.iconst XJ515.here hx rfl (hb hby at_182) k) ?_
        show own_Go _ _ _ _ (TJ515.setTop (mkF m 183 #[.val (.int p1), .val (.int p2), .val (.int p3), .val (.int u0), .val (.int u1), .val (.int la), .val (.int n0), .val (.int n1), .val (.int (2 : Int32)), .val (.int v0), .val (.int v1), .val (.int lv), .val (.ref x_508), .val (.ref x_509), .val (.ref x_511), .val (.ref b513), .val (.int (Int32.ofNat es1.length)), .unset] [(.int (1 : Int32)), (.int (2 : Int32))]))
        refine own_Go.st (fun _ k => XS.icmpNo XJ515.here hx rfl (hb hby at_183) rfl (flt (by decide : ¬ ((2 : Int32) < (1 : Int32)))).1 k) ?_
        show own_Go _ _ _ _ (TJ515.setTop (mkF m 186 #[.val (.int p1), .val (.int p2), .val (.int p3), .val (.int u0), .val (.int u1), .val (.int la), .val (.int n0), .val (.int n1), .val (.int (2 : Int32)), .val (.int v0), .val (.int v1), .val (.int lv), .val (.ref x_508), .val (.ref x_509), .val (.ref x_511), .val (.ref b513), .val (.int (Int32.ofNat es1.length)), .unset] []))
        refine own_Go.st (fun _ k => XS.aload XJ515.here hx rfl (hb hby at_186) rfl rfl k) ?_
        show own_Go _ _ _ _ (TJ515.setTop (mkF m 188 #[.val (.int p1), .val (.int p2), .val (.int p3), .val (.int u0), .val (.int u1), .val (.int la), .val (.int n0), .val (.int n1), .val (.int (2 : Int32)), .val (.int v0), .val (.int v1), .val (.int lv), .val (.ref x_508), .val (.ref x_509), .val (.ref x_511), .val (.ref b513), .val (.int (Int32.ofNat es1.length)), .unset] [(.ref b513)]))
        refine own_Go.st (fun _ k => XS.iload XJ515.here hx rfl (hb hby at_188) rfl k) ?_
        show own_Go _ _ _ _ (TJ515.setTop (mkF m 190 #[.val (.int p1), .val (.int p2), .val (.int p3), .val (.int u0), .val (.int u1), .val (.int la), .val (.int n0), .val (.int n1), .val (.int (2 : Int32)), .val (.int v0), .val (.int v1), .val (.int lv), .val (.ref x_508), .val (.ref x_509), .val (.ref x_511), .val (.ref b513), .val (.int (Int32.ofNat es1.length)), .unset] [(.int (Int32.ofNat es1.length)), (.ref b513)]))
        refine own_Go.st (fun _ k => XS.iload XJ515.here hx rfl (hb hby at_190) rfl k) ?_
        show own_Go _ _ _ _ (TJ515.setTop (mkF m 192 #[.val (.int p1), .val (.int p2), .val (.int p3), .val (.int u0), .val (.int u1), .val (.int la), .val (.int n0), .val (.int n1), .val (.int (2 : Int32)), .val (.int v0), .val (.int v1), .val (.int lv), .val (.ref x_508), .val (.ref x_509), .val (.ref x_511), .val (.ref b513), .val (.int (Int32.ofNat es1.length)), .unset] [(.int n0), (.int (Int32.ofNat es1.length)), (.ref b513)]))
        obtain ⟨c665, Ar665, q665, S665, Nn665, H665, G665⟩ := id fJ515_3
        have hin665 : ¬ ((Int32.ofNat es1.length) < 0 ∨ c665.slots.size ≤ ((Int32.ofNat es1.length)).toNatClampNeg) := inb_of S665 ⟨own_of0 (by (try simp only [List.length_append, List.length_cons, List.length_nil]); omega), (own_oflt (j := 10) (by (try simp only [List.length_append, List.length_cons, List.length_nil]); omega) (by omega)).mpr (by (try simp only [List.length_append, List.length_cons, List.length_nil]); omega)⟩
        obtain ⟨T665, h665, X665, e665, W665, st665⟩ := stC XJ515 hx hZ511 eJ515 Ar665 (j := (Int32.ofNat es1.length)) hin665 (g := (mkF m 192 #[.val (.int p1), .val (.int p2), .val (.int p3), .val (.int u0), .val (.int u1), .val (.int la), .val (.int n0), .val (.int n1), .val (.int (2 : Int32)), .val (.int v0), .val (.int v1), .val (.int lv), .val (.ref x_508), .val (.ref x_509), .val (.ref x_511), .val (.ref b513), .val (.int (Int32.ofNat es1.length)), .unset] [(.int n0), (.int (Int32.ofNat es1.length)), (.ref b513)])) rfl rfl (hb hby at_192)
        refine own_Go.st st665 ?_
        have N665 := Fr.snoc X665 NJ515 (by omega)
        have Sf667 : Safe Z consts_1 T511.vm hJ515 b513 := Safe.arv hZ511.alike fJ515_3 (by decide)
        have z665 : hJ515.size ≤ h665.size := Nat.le_of_eq W665.size.symm
        have f668 : Arv Z h665 b513 k513 .char (10 : Int32) ((es1 ++ [n0]).map Value.int) (.int (0 : Int32)) := own_push fJ515_3 W665 rfl (by (try simp only [List.length_append, List.length_cons, List.length_nil]); omega) (own_up hn0)
        have R665 : CHr Z consts_1 s.vm h0 T511.vm h665 := RJ515.trans (CHr.wr W665 Sf667 RJ515.1)
        show own_Go _ _ _ _ (T665.setTop (mkF m 193 #[.val (.int p1), .val (.int p2), .val (.int p3), .val (.int u0), .val (.int u1), .val (.int la), .val (.int n0), .val (.int n1), .val (.int (2 : Int32)), .val (.int v0), .val (.int v1), .val (.int lv), .val (.ref x_508), .val (.ref x_509), .val (.ref x_511), .val (.ref b513), .val (.int (Int32.ofNat es1.length)), .unset] []))
        refine own_Go.st (fun _ k => XS.iinc X665.here hx rfl (hb hby at_193) rfl (l' := #[.val (.int p1), .val (.int p2), .val (.int p3), .val (.int u0), .val (.int u1), .val (.int la), .val (.int n0), .val (.int n1), .val (.int (2 : Int32)), .val (.int v0), .val (.int v1), .val (.int lv), .val (.ref x_508), .val (.ref x_509), .val (.ref x_511), .val (.ref b513), .val (.int ((Int32.ofNat es1.length) + (1 : Int32))), .unset]) rfl k) ?_
        show own_Go _ _ _ _ (T665.setTop (mkF m 196 #[.val (.int p1), .val (.int p2), .val (.int p3), .val (.int u0), .val (.int u1), .val (.int la), .val (.int n0), .val (.int n1), .val (.int (2 : Int32)), .val (.int v0), .val (.int v1), .val (.int lv), .val (.ref x_508), .val (.ref x_509), .val (.ref x_511), .val (.ref b513), .val (.int ((Int32.ofNat es1.length) + (1 : Int32))), .unset] []))
        rw [own_pl1 (es := es1) (c := n0) (by (try simp only [List.length_append, List.length_cons, List.length_nil]); omega)]
        show own_Go _ _ _ _ (T665.setTop (mkF m 196 #[.val (.int p1), .val (.int p2), .val (.int p3), .val (.int u0), .val (.int u1), .val (.int la), .val (.int n0), .val (.int n1), .val (.int (2 : Int32)), .val (.int v0), .val (.int v1), .val (.int lv), .val (.ref x_508), .val (.ref x_509), .val (.ref x_511), .val (.ref b513), .val (.int (Int32.ofNat (es1 ++ [n0]).length)), .unset] []))
        refine own_Go.st (fun _ k => XS.iload X665.here hx rfl (hb hby at_196) rfl k) ?_
        show own_Go _ _ _ _ (T665.setTop (mkF m 198 #[.val (.int p1), .val (.int p2), .val (.int p3), .val (.int u0), .val (.int u1), .val (.int la), .val (.int n0), .val (.int n1), .val (.int (2 : Int32)), .val (.int v0), .val (.int v1), .val (.int lv), .val (.ref x_508), .val (.ref x_509), .val (.ref x_511), .val (.ref b513), .val (.int (Int32.ofNat (es1 ++ [n0]).length)), .unset] [(.int (2 : Int32))]))
        refine own_Go.st (fun _ k => XS.iconst X665.here hx rfl (hb hby at_198) k) ?_
        show own_Go _ _ _ _ (T665.setTop (mkF m 199 #[.val (.int p1), .val (.int p2), .val (.int p3), .val (.int u0), .val (.int u1), .val (.int la), .val (.int n0), .val (.int n1), .val (.int (2 : Int32)), .val (.int v0), .val (.int v1), .val (.int lv), .val (.ref x_508), .val (.ref x_509), .val (.ref x_511), .val (.ref b513), .val (.int (Int32.ofNat (es1 ++ [n0]).length)), .unset] [(.int (2 : Int32)), (.int (2 : Int32))]))
        refine own_Go.st (fun _ k => XS.icmpNo X665.here hx rfl (hb hby at_199) rfl (flt (by decide : ¬ ((2 : Int32) < (2 : Int32)))).1 k) ?_
        show own_Go _ _ _ _ (T665.setTop (mkF m 202 #[.val (.int p1), .val (.int p2), .val (.int p3), .val (.int u0), .val (.int u1), .val (.int la), .val (.int n0), .val (.int n1), .val (.int (2 : Int32)), .val (.int v0), .val (.int v1), .val (.int lv), .val (.ref x_508), .val (.ref x_509), .val (.ref x_511), .val (.ref b513), .val (.int (Int32.ofNat (es1 ++ [n0]).length)), .unset] []))
        refine own_Go.st (fun _ k => XS.aload X665.here hx rfl (hb hby at_202) rfl rfl k) ?_
        show own_Go _ _ _ _ (T665.setTop (mkF m 204 #[.val (.int p1), .val (.int p2), .val (.int p3), .val (.int u0), .val (.int u1), .val (.int la), .val (.int n0), .val (.int n1), .val (.int (2 : Int32)), .val (.int v0), .val (.int v1), .val (.int lv), .val (.ref x_508), .val (.ref x_509), .val (.ref x_511), .val (.ref b513), .val (.int (Int32.ofNat (es1 ++ [n0]).length)), .unset] [(.ref b513)]))
        refine own_Go.st (fun _ k => XS.iload X665.here hx rfl (hb hby at_204) rfl k) ?_
        show own_Go _ _ _ _ (T665.setTop (mkF m 206 #[.val (.int p1), .val (.int p2), .val (.int p3), .val (.int u0), .val (.int u1), .val (.int la), .val (.int n0), .val (.int n1), .val (.int (2 : Int32)), .val (.int v0), .val (.int v1), .val (.int lv), .val (.ref x_508), .val (.ref x_509), .val (.ref x_511), .val (.ref b513), .val (.int (Int32.ofNat (es1 ++ [n0]).length)), .unset] [(.int (Int32.ofNat (es1 ++ [n0]).length)), (.ref b513)]))
        refine own_Go.st (fun _ k => XS.iload X665.here hx rfl (hb hby at_206) rfl k) ?_
        show own_Go _ _ _ _ (T665.setTop (mkF m 208 #[.val (.int p1), .val (.int p2), .val (.int p3), .val (.int u0), .val (.int u1), .val (.int la), .val (.int n0), .val (.int n1), .val (.int (2 : Int32)), .val (.int v0), .val (.int v1), .val (.int lv), .val (.ref x_508), .val (.ref x_509), .val (.ref x_511), .val (.ref b513), .val (.int (Int32.ofNat (es1 ++ [n0]).length)), .unset] [(.int n1), (.int (Int32.ofNat (es1 ++ [n0]).length)), (.ref b513)]))
        obtain ⟨c669, Ar669, q669, S669, Nn669, H669, G669⟩ := id f668
        have hin669 : ¬ ((Int32.ofNat (es1 ++ [n0]).length) < 0 ∨ c669.slots.size ≤ ((Int32.ofNat (es1 ++ [n0]).length)).toNatClampNeg) := inb_of S669 ⟨own_of0 (by (try simp only [List.length_append, List.length_cons, List.length_nil]); omega), (own_oflt (j := 10) (by (try simp only [List.length_append, List.length_cons, List.length_nil]); omega) (by omega)).mpr (by (try simp only [List.length_append, List.length_cons, List.length_nil]); omega)⟩
        obtain ⟨T669, h669, X669, e669, W669, st669⟩ := stC X665 hx hZ511 e665 Ar669 (j := (Int32.ofNat (es1 ++ [n0]).length)) hin669 (g := (mkF m 208 #[.val (.int p1), .val (.int p2), .val (.int p3), .val (.int u0), .val (.int u1), .val (.int la), .val (.int n0), .val (.int n1), .val (.int (2 : Int32)), .val (.int v0), .val (.int v1), .val (.int lv), .val (.ref x_508), .val (.ref x_509), .val (.ref x_511), .val (.ref b513), .val (.int (Int32.ofNat (es1 ++ [n0]).length)), .unset] [(.int n1), (.int (Int32.ofNat (es1 ++ [n0]).length)), (.ref b513)])) rfl rfl (hb hby at_208)
        refine own_Go.st st669 ?_
        have N669 := Fr.snoc X669 N665 (by omega)
        have Sf671 : Safe Z consts_1 T511.vm h665 b513 := Safe.arv hZ511.alike f668 (by decide)
        have z669 : h665.size ≤ h669.size := Nat.le_of_eq W669.size.symm
        have f672 : Arv Z h669 b513 k513 .char (10 : Int32) (((es1 ++ [n0]) ++ [n1]).map Value.int) (.int (0 : Int32)) := own_push f668 W669 rfl (by (try simp only [List.length_append, List.length_cons, List.length_nil]); omega) (own_up hn1)
        have R669 : CHr Z consts_1 s.vm h0 T511.vm h669 := R665.trans (CHr.wr W669 Sf671 R665.1)
        show own_Go _ _ _ _ (T669.setTop (mkF m 209 #[.val (.int p1), .val (.int p2), .val (.int p3), .val (.int u0), .val (.int u1), .val (.int la), .val (.int n0), .val (.int n1), .val (.int (2 : Int32)), .val (.int v0), .val (.int v1), .val (.int lv), .val (.ref x_508), .val (.ref x_509), .val (.ref x_511), .val (.ref b513), .val (.int (Int32.ofNat (es1 ++ [n0]).length)), .unset] []))
        refine own_Go.st (fun _ k => XS.iinc X669.here hx rfl (hb hby at_209) rfl (l' := #[.val (.int p1), .val (.int p2), .val (.int p3), .val (.int u0), .val (.int u1), .val (.int la), .val (.int n0), .val (.int n1), .val (.int (2 : Int32)), .val (.int v0), .val (.int v1), .val (.int lv), .val (.ref x_508), .val (.ref x_509), .val (.ref x_511), .val (.ref b513), .val (.int ((Int32.ofNat (es1 ++ [n0]).length) + (1 : Int32))), .unset]) rfl k) ?_
        show own_Go _ _ _ _ (T669.setTop (mkF m 212 #[.val (.int p1), .val (.int p2), .val (.int p3), .val (.int u0), .val (.int u1), .val (.int la), .val (.int n0), .val (.int n1), .val (.int (2 : Int32)), .val (.int v0), .val (.int v1), .val (.int lv), .val (.ref x_508), .val (.ref x_509), .val (.ref x_511), .val (.ref b513), .val (.int ((Int32.ofNat (es1 ++ [n0]).length) + (1 : Int32))), .unset] []))
        rw [own_pl1 (es := (es1 ++ [n0])) (c := n1) (by (try simp only [List.length_append, List.length_cons, List.length_nil]); omega)]
        show own_Go _ _ _ _ (T669.setTop (mkF m 212 #[.val (.int p1), .val (.int p2), .val (.int p3), .val (.int u0), .val (.int u1), .val (.int la), .val (.int n0), .val (.int n1), .val (.int (2 : Int32)), .val (.int v0), .val (.int v1), .val (.int lv), .val (.ref x_508), .val (.ref x_509), .val (.ref x_511), .val (.ref b513), .val (.int (Int32.ofNat ((es1 ++ [n0]) ++ [n1]).length)), .unset] []))
        refine own_Go.st (fun _ k => XS.aload X669.here hx rfl (hb hby at_212) rfl rfl k) ?_
        show own_Go _ _ _ _ (T669.setTop (mkF m 214 #[.val (.int p1), .val (.int p2), .val (.int p3), .val (.int u0), .val (.int u1), .val (.int la), .val (.int n0), .val (.int n1), .val (.int (2 : Int32)), .val (.int v0), .val (.int v1), .val (.int lv), .val (.ref x_508), .val (.ref x_509), .val (.ref x_511), .val (.ref b513), .val (.int (Int32.ofNat ((es1 ++ [n0]) ++ [n1]).length)), .unset] [(.ref b513)]))
        refine own_Go.st (fun _ k => XS.iload X669.here hx rfl (hb hby at_214) rfl k) ?_
        show own_Go _ _ _ _ (T669.setTop (mkF m 216 #[.val (.int p1), .val (.int p2), .val (.int p3), .val (.int u0), .val (.int u1), .val (.int la), .val (.int n0), .val (.int n1), .val (.int (2 : Int32)), .val (.int v0), .val (.int v1), .val (.int lv), .val (.ref x_508), .val (.ref x_509), .val (.ref x_511), .val (.ref b513), .val (.int (Int32.ofNat ((es1 ++ [n0]) ++ [n1]).length)), .unset] [(.int (Int32.ofNat ((es1 ++ [n0]) ++ [n1]).length)), (.ref b513)]))
        refine own_Go.st (fun _ k => XS.bipush X669.here hx rfl (hb hby at_216) k) ?_
        show own_Go _ _ _ _ (T669.setTop (mkF m 218 #[.val (.int p1), .val (.int p2), .val (.int p3), .val (.int u0), .val (.int u1), .val (.int la), .val (.int n0), .val (.int n1), .val (.int (2 : Int32)), .val (.int v0), .val (.int v1), .val (.int lv), .val (.ref x_508), .val (.ref x_509), .val (.ref x_511), .val (.ref b513), .val (.int (Int32.ofNat ((es1 ++ [n0]) ++ [n1]).length)), .unset] [(.int (61 : Int32)), (.int (Int32.ofNat ((es1 ++ [n0]) ++ [n1]).length)), (.ref b513)]))
        obtain ⟨c673, Ar673, q673, S673, Nn673, H673, G673⟩ := id f672
        have hin673 : ¬ ((Int32.ofNat ((es1 ++ [n0]) ++ [n1]).length) < 0 ∨ c673.slots.size ≤ ((Int32.ofNat ((es1 ++ [n0]) ++ [n1]).length)).toNatClampNeg) := inb_of S673 ⟨own_of0 (by (try simp only [List.length_append, List.length_cons, List.length_nil]); omega), (own_oflt (j := 10) (by (try simp only [List.length_append, List.length_cons, List.length_nil]); omega) (by omega)).mpr (by (try simp only [List.length_append, List.length_cons, List.length_nil]); omega)⟩
        obtain ⟨T673, h673, X673, e673, W673, st673⟩ := stC X669 hx hZ511 e669 Ar673 (j := (Int32.ofNat ((es1 ++ [n0]) ++ [n1]).length)) hin673 (g := (mkF m 218 #[.val (.int p1), .val (.int p2), .val (.int p3), .val (.int u0), .val (.int u1), .val (.int la), .val (.int n0), .val (.int n1), .val (.int (2 : Int32)), .val (.int v0), .val (.int v1), .val (.int lv), .val (.ref x_508), .val (.ref x_509), .val (.ref x_511), .val (.ref b513), .val (.int (Int32.ofNat ((es1 ++ [n0]) ++ [n1]).length)), .unset] [(.int (61 : Int32)), (.int (Int32.ofNat ((es1 ++ [n0]) ++ [n1]).length)), (.ref b513)])) rfl rfl (hb hby at_218)
        refine own_Go.st st673 ?_
        have N673 := Fr.snoc X673 N669 (by omega)
        have Sf675 : Safe Z consts_1 T511.vm h669 b513 := Safe.arv hZ511.alike f672 (by decide)
        have z673 : h669.size ≤ h673.size := Nat.le_of_eq W673.size.symm
        have f676 : Arv Z h673 b513 k513 .char (10 : Int32) ((((es1 ++ [n0]) ++ [n1]) ++ [(61 : Int32)]).map Value.int) (.int (0 : Int32)) := own_push f672 W673 rfl (by (try simp only [List.length_append, List.length_cons, List.length_nil]); omega) (by decide)
        have R673 : CHr Z consts_1 s.vm h0 T511.vm h673 := R669.trans (CHr.wr W673 Sf675 R669.1)
        show own_Go _ _ _ _ (T673.setTop (mkF m 219 #[.val (.int p1), .val (.int p2), .val (.int p3), .val (.int u0), .val (.int u1), .val (.int la), .val (.int n0), .val (.int n1), .val (.int (2 : Int32)), .val (.int v0), .val (.int v1), .val (.int lv), .val (.ref x_508), .val (.ref x_509), .val (.ref x_511), .val (.ref b513), .val (.int (Int32.ofNat ((es1 ++ [n0]) ++ [n1]).length)), .unset] []))
        refine own_Go.st (fun _ k => XS.iinc X673.here hx rfl (hb hby at_219) rfl (l' := #[.val (.int p1), .val (.int p2), .val (.int p3), .val (.int u0), .val (.int u1), .val (.int la), .val (.int n0), .val (.int n1), .val (.int (2 : Int32)), .val (.int v0), .val (.int v1), .val (.int lv), .val (.ref x_508), .val (.ref x_509), .val (.ref x_511), .val (.ref b513), .val (.int ((Int32.ofNat ((es1 ++ [n0]) ++ [n1]).length) + (1 : Int32))), .unset]) rfl k) ?_
        show own_Go _ _ _ _ (T673.setTop (mkF m 222 #[.val (.int p1), .val (.int p2), .val (.int p3), .val (.int u0), .val (.int u1), .val (.int la), .val (.int n0), .val (.int n1), .val (.int (2 : Int32)), .val (.int v0), .val (.int v1), .val (.int lv), .val (.ref x_508), .val (.ref x_509), .val (.ref x_511), .val (.ref b513), .val (.int ((Int32.ofNat ((es1 ++ [n0]) ++ [n1]).length) + (1 : Int32))), .unset] []))
        rw [own_pl1 (es := ((es1 ++ [n0]) ++ [n1])) (c := (61 : Int32)) (by (try simp only [List.length_append, List.length_cons, List.length_nil]); omega)]
        show own_Go _ _ _ _ (T673.setTop (mkF m 222 #[.val (.int p1), .val (.int p2), .val (.int p3), .val (.int u0), .val (.int u1), .val (.int la), .val (.int n0), .val (.int n1), .val (.int (2 : Int32)), .val (.int v0), .val (.int v1), .val (.int lv), .val (.ref x_508), .val (.ref x_509), .val (.ref x_511), .val (.ref b513), .val (.int (Int32.ofNat (((es1 ++ [n0]) ++ [n1]) ++ [(61 : Int32)]).length)), .unset] []))
        refine own_Go.st (fun _ k => XS.aload X673.here hx rfl (hb hby at_222) rfl rfl k) ?_
        show own_Go _ _ _ _ (T673.setTop (mkF m 224 #[.val (.int p1), .val (.int p2), .val (.int p3), .val (.int u0), .val (.int u1), .val (.int la), .val (.int n0), .val (.int n1), .val (.int (2 : Int32)), .val (.int v0), .val (.int v1), .val (.int lv), .val (.ref x_508), .val (.ref x_509), .val (.ref x_511), .val (.ref b513), .val (.int (Int32.ofNat (((es1 ++ [n0]) ++ [n1]) ++ [(61 : Int32)]).length)), .unset] [(.ref b513)]))
        refine own_Go.st (fun _ k => XS.iload X673.here hx rfl (hb hby at_224) rfl k) ?_
        show own_Go _ _ _ _ (T673.setTop (mkF m 226 #[.val (.int p1), .val (.int p2), .val (.int p3), .val (.int u0), .val (.int u1), .val (.int la), .val (.int n0), .val (.int n1), .val (.int (2 : Int32)), .val (.int v0), .val (.int v1), .val (.int lv), .val (.ref x_508), .val (.ref x_509), .val (.ref x_511), .val (.ref b513), .val (.int (Int32.ofNat (((es1 ++ [n0]) ++ [n1]) ++ [(61 : Int32)]).length)), .unset] [(.int (Int32.ofNat (((es1 ++ [n0]) ++ [n1]) ++ [(61 : Int32)]).length)), (.ref b513)]))
        refine own_Go.st (fun _ k => XS.bipush X673.here hx rfl (hb hby at_226) k) ?_
        show own_Go _ _ _ _ (T673.setTop (mkF m 228 #[.val (.int p1), .val (.int p2), .val (.int p3), .val (.int u0), .val (.int u1), .val (.int la), .val (.int n0), .val (.int n1), .val (.int (2 : Int32)), .val (.int v0), .val (.int v1), .val (.int lv), .val (.ref x_508), .val (.ref x_509), .val (.ref x_511), .val (.ref b513), .val (.int (Int32.ofNat (((es1 ++ [n0]) ++ [n1]) ++ [(61 : Int32)]).length)), .unset] [(.int (34 : Int32)), (.int (Int32.ofNat (((es1 ++ [n0]) ++ [n1]) ++ [(61 : Int32)]).length)), (.ref b513)]))
        obtain ⟨c677, Ar677, q677, S677, Nn677, H677, G677⟩ := id f676
        have hin677 : ¬ ((Int32.ofNat (((es1 ++ [n0]) ++ [n1]) ++ [(61 : Int32)]).length) < 0 ∨ c677.slots.size ≤ ((Int32.ofNat (((es1 ++ [n0]) ++ [n1]) ++ [(61 : Int32)]).length)).toNatClampNeg) := inb_of S677 ⟨own_of0 (by (try simp only [List.length_append, List.length_cons, List.length_nil]); omega), (own_oflt (j := 10) (by (try simp only [List.length_append, List.length_cons, List.length_nil]); omega) (by omega)).mpr (by (try simp only [List.length_append, List.length_cons, List.length_nil]); omega)⟩
        obtain ⟨T677, h677, X677, e677, W677, st677⟩ := stC X673 hx hZ511 e673 Ar677 (j := (Int32.ofNat (((es1 ++ [n0]) ++ [n1]) ++ [(61 : Int32)]).length)) hin677 (g := (mkF m 228 #[.val (.int p1), .val (.int p2), .val (.int p3), .val (.int u0), .val (.int u1), .val (.int la), .val (.int n0), .val (.int n1), .val (.int (2 : Int32)), .val (.int v0), .val (.int v1), .val (.int lv), .val (.ref x_508), .val (.ref x_509), .val (.ref x_511), .val (.ref b513), .val (.int (Int32.ofNat (((es1 ++ [n0]) ++ [n1]) ++ [(61 : Int32)]).length)), .unset] [(.int (34 : Int32)), (.int (Int32.ofNat (((es1 ++ [n0]) ++ [n1]) ++ [(61 : Int32)]).length)), (.ref b513)])) rfl rfl (hb hby at_228)
        refine own_Go.st st677 ?_
        have N677 := Fr.snoc X677 N673 (by omega)
        have Sf679 : Safe Z consts_1 T511.vm h673 b513 := Safe.arv hZ511.alike f676 (by decide)
        have z677 : h673.size ≤ h677.size := Nat.le_of_eq W677.size.symm
        have f680 : Arv Z h677 b513 k513 .char (10 : Int32) (((((es1 ++ [n0]) ++ [n1]) ++ [(61 : Int32)]) ++ [(34 : Int32)]).map Value.int) (.int (0 : Int32)) := own_push f676 W677 rfl (by (try simp only [List.length_append, List.length_cons, List.length_nil]); omega) (by decide)
        have R677 : CHr Z consts_1 s.vm h0 T511.vm h677 := R673.trans (CHr.wr W677 Sf679 R673.1)
        show own_Go _ _ _ _ (T677.setTop (mkF m 229 #[.val (.int p1), .val (.int p2), .val (.int p3), .val (.int u0), .val (.int u1), .val (.int la), .val (.int n0), .val (.int n1), .val (.int (2 : Int32)), .val (.int v0), .val (.int v1), .val (.int lv), .val (.ref x_508), .val (.ref x_509), .val (.ref x_511), .val (.ref b513), .val (.int (Int32.ofNat (((es1 ++ [n0]) ++ [n1]) ++ [(61 : Int32)]).length)), .unset] []))
        refine own_Go.st (fun _ k => XS.iinc X677.here hx rfl (hb hby at_229) rfl (l' := #[.val (.int p1), .val (.int p2), .val (.int p3), .val (.int u0), .val (.int u1), .val (.int la), .val (.int n0), .val (.int n1), .val (.int (2 : Int32)), .val (.int v0), .val (.int v1), .val (.int lv), .val (.ref x_508), .val (.ref x_509), .val (.ref x_511), .val (.ref b513), .val (.int ((Int32.ofNat (((es1 ++ [n0]) ++ [n1]) ++ [(61 : Int32)]).length) + (1 : Int32))), .unset]) rfl k) ?_
        show own_Go _ _ _ _ (T677.setTop (mkF m 232 #[.val (.int p1), .val (.int p2), .val (.int p3), .val (.int u0), .val (.int u1), .val (.int la), .val (.int n0), .val (.int n1), .val (.int (2 : Int32)), .val (.int v0), .val (.int v1), .val (.int lv), .val (.ref x_508), .val (.ref x_509), .val (.ref x_511), .val (.ref b513), .val (.int ((Int32.ofNat (((es1 ++ [n0]) ++ [n1]) ++ [(61 : Int32)]).length) + (1 : Int32))), .unset] []))
        rw [own_pl1 (es := (((es1 ++ [n0]) ++ [n1]) ++ [(61 : Int32)])) (c := (34 : Int32)) (by (try simp only [List.length_append, List.length_cons, List.length_nil]); omega)]
        show own_Go _ _ _ _ (T677.setTop (mkF m 232 #[.val (.int p1), .val (.int p2), .val (.int p3), .val (.int u0), .val (.int u1), .val (.int la), .val (.int n0), .val (.int n1), .val (.int (2 : Int32)), .val (.int v0), .val (.int v1), .val (.int lv), .val (.ref x_508), .val (.ref x_509), .val (.ref x_511), .val (.ref b513), .val (.int (Int32.ofNat ((((es1 ++ [n0]) ++ [n1]) ++ [(61 : Int32)]) ++ [(34 : Int32)]).length)), .unset] []))
        have ne681 : @Ne Nat x_508 b513 := Exa.neArv fJ515_0.exa fJ515_3 (hw _ (List.mem_of_getElem? (i := 6) rfl))
        have ne682 : @Ne Nat t_508 b513 := own_Str.neTy fJ515_0 fJ515_3 (by decide)
        have f683 : own_Str Z h665 x_508 t_508 ([u0, u1].take la.toNatClampNeg) := fJ515_0.other W665 ne681 ne682
        have f684 : own_Str Z h669 x_508 t_508 ([u0, u1].take la.toNatClampNeg) := f683.other W669 ne681 ne682
        have f685 : own_Str Z h673 x_508 t_508 ([u0, u1].take la.toNatClampNeg) := f684.other W673 ne681 ne682
        have f686 : own_Str Z h677 x_508 t_508 ([u0, u1].take la.toNatClampNeg) := f685.other W677 ne681 ne682
        have ne687 : @Ne Nat x_509 b513 := Exa.neArv fJ515_1.exa fJ515_3 (hw _ (List.mem_of_getElem? (i := 6) rfl))
        have ne688 : @Ne Nat t_509 b513 := own_Str.neTy fJ515_1 fJ515_3 (by decide)
        have f689 : own_Str Z h665 x_509 t_509 ([n0, n1].take (2 : Int32).toNatClampNeg) := fJ515_1.other W665 ne687 ne688
        have f690 : own_Str Z h669 x_509 t_509 ([n0, n1].take (2 : Int32).toNatClampNeg) := f689.other W669 ne687 ne688
        have f691 : own_Str Z h673 x_509 t_509 ([n0, n1].take (2 : Int32).toNatClampNeg) := f690.other W673 ne687 ne688
        have f692 : own_Str Z h677 x_509 t_509 ([n0, n1].take (2 : Int32).toNatClampNeg) := f691.other W677 ne687 ne688
        have ne693 : @Ne Nat x_511 b513 := Exa.neArv fJ515_2.exa fJ515_3 (hw _ (List.mem_of_getElem? (i := 6) rfl))
        have ne694 : @Ne Nat t_511 b513 := own_Str.neTy fJ515_2 fJ515_3 (by decide)
        have f695 : own_Str Z h665 x_511 t_511 ([v0, v1].take lv.toNatClampNeg) := fJ515_2.other W665 ne693 ne694
        have f696 : own_Str Z h669 x_511 t_511 ([v0, v1].take lv.toNatClampNeg) := f695.other W669 ne693 ne694
        have f697 : own_Str Z h673 x_511 t_511 ([v0, v1].take lv.toNatClampNeg) := f696.other W673 ne693 ne694
        have f698 : own_Str Z h677 x_511 t_511 ([v0, v1].take lv.toNatClampNeg) := f697.other W677 ne693 ne694
        have K699 : Keep h0 h665 [] := KJ515.wr W665 (Or.inr (by omega))
        have K700 : Keep h0 h669 [] := K699.wr W669 (Or.inr (by omega))
        have K701 : Keep h0 h673 [] := K700.wr W673 (Or.inr (by omega))
        have K702 : Keep h0 h677 [] := K701.wr W677 (Or.inr (by omega))
        have f703 : Old Z Z.heap.size h665 := OJ515.wr W665 (by omega)
        have f704 : Old Z Z.heap.size h669 := f703.wr W669 (by omega)
        have f705 : Old Z Z.heap.size h673 := f704.wr W673 (by omega)
        have f706 : Old Z Z.heap.size h677 := f705.wr W677 (by omega)
        exact HJ516 ((((es1 ++ [n0]) ++ [n1]) ++ [(61 : Int32)]) ++ [(34 : Int32)]) T677 h677 _ (by rw [he_es1]; first | rfl | simp) (by (try simp only [List.length_append, List.length_cons, List.length_nil]); omega) X677 e677 N677 K702 f706 (by omega) R677 f686 f692 f698 f680
    rcases hla with rfl | rfl | rfl
    ·
      show own_Go _ _ _ _ (T513.setTop (mkF m 133 #[.val (.int p1), .val (.int p2), .val (.int p3), .val (.int u0), .val (.int u1), .val (.int (0 : Int32)), .val (.int n0), .val (.int n1), .val (.int ln), .val (.int v0), .val (.int v1), .val (.int lv), .val (.ref x_508), .val (.ref x_509), .val (.ref x_511), .val (.ref b513), .val (.int (0 : Int32)), .unset] []))
      refine own_Go.st (fun _ k => XS.iload X513.here hx rfl (hb hby at_133) rfl k) ?_
      show own_Go _ _ _ _ (T513.setTop (mkF m 135 #[.val (.int p1), .val (.int p2), .val (.int p3), .val (.int u0), .val (.int u1), .val (.int (0 : Int32)), .val (.int n0), .val (.int n1), .val (.int ln), .val (.int v0), .val (.int v1), .val (.int lv), .val (.ref x_508), .val (.ref x_509), .val (.ref x_511), .val (.ref b513), .val (.int (0 : Int32)), .unset] [(.int (0 : Int32))]))
      refine own_Go.st (fun _ k => XS.iconst X513.here hx rfl (hb hby at_135) k) ?_
      show own_Go _ _ _ _ (T513.setTop (mkF m 136 #[.val (.int p1), .val (.int p2), .val (.int p3), .val (.int u0), .val (.int u1), .val (.int (0 : Int32)), .val (.int n0), .val (.int n1), .val (.int ln), .val (.int v0), .val (.int v1), .val (.int lv), .val (.ref x_508), .val (.ref x_509), .val (.ref x_511), .val (.ref b513), .val (.int (0 : Int32)), .unset] [(.int (1 : Int32)), (.int (0 : Int32))]))
      refine own_Go.st (fun _ k => XS.icmpYes X513.here hx rfl (pc0 := 136) (pc' := 148) rfl (hb hby at_136) rfl (tlt (by decide : (0 : Int32) < (1 : Int32))).1 (by decide) (by decide) k) ?_
      show own_Go _ _ _ _ (T513.setTop (mkF m 148 #[.val (.int p1), .val (.int p2), .val (.int p3), .val (.int u0), .val (.int u1), .val (.int (0 : Int32)), .val (.int n0), .val (.int n1), .val (.int ln), .val (.int v0), .val (.int v1), .val (.int lv), .val (.ref x_508), .val (.ref x_509), .val (.ref x_511), .val (.ref b513), .val (.int (0 : Int32)), .unset] []))
      refine own_Go.st (fun _ k => XS.iload X513.here hx rfl (hb hby at_148) rfl k) ?_
      show own_Go _ _ _ _ (T513.setTop (mkF m 150 #[.val (.int p1), .val (.int p2), .val (.int p3), .val (.int u0), .val (.int u1), .val (.int (0 : Int32)), .val (.int n0), .val (.int n1), .val (.int ln), .val (.int v0), .val (.int v1), .val (.int lv), .val (.ref x_508), .val (.ref x_509), .val (.ref x_511), .val (.ref b513), .val (.int (0 : Int32)), .unset] [(.int (0 : Int32))]))
      refine own_Go.st (fun _ k => XS.iconst X513.here hx rfl (hb hby at_150) k) ?_
      show own_Go _ _ _ _ (T513.setTop (mkF m 151 #[.val (.int p1), .val (.int p2), .val (.int p3), .val (.int u0), .val (.int u1), .val (.int (0 : Int32)), .val (.int n0), .val (.int n1), .val (.int ln), .val (.int v0), .val (.int v1), .val (.int lv), .val (.ref x_508), .val (.ref x_509), .val (.ref x_511), .val (.ref b513), .val (.int (0 : Int32)), .unset] [(.int (2 : Int32)), (.int (0 : Int32))]))
      refine own_Go.st (fun _ k => XS.icmpYes X513.here hx rfl (pc0 := 151) (pc' := 164) rfl (hb hby at_151) rfl (tlt (by decide : (0 : Int32) < (2 : Int32))).1 (by decide) (by decide) k) ?_
      show own_Go _ _ _ _ (T513.setTop (mkF m 164 #[.val (.int p1), .val (.int p2), .val (.int p3), .val (.int u0), .val (.int u1), .val (.int (0 : Int32)), .val (.int n0), .val (.int n1), .val (.int ln), .val (.int v0), .val (.int v1), .val (.int lv), .val (.ref x_508), .val (.ref x_509), .val (.ref x_511), .val (.ref b513), .val (.int (0 : Int32)), .unset] []))
      refine own_Go.st (fun _ k => XS.iload X513.here hx rfl (hb hby at_164) rfl k) ?_
      show own_Go _ _ _ _ (T513.setTop (mkF m 166 #[.val (.int p1), .val (.int p2), .val (.int p3), .val (.int u0), .val (.int u1), .val (.int (0 : Int32)), .val (.int n0), .val (.int n1), .val (.int ln), .val (.int v0), .val (.int v1), .val (.int lv), .val (.ref x_508), .val (.ref x_509), .val (.ref x_511), .val (.ref b513), .val (.int (0 : Int32)), .unset] [(.int (0 : Int32))]))
      refine own_Go.st (fun _ k => XS.iconst X513.here hx rfl (hb hby at_166) k) ?_
      show own_Go _ _ _ _ (T513.setTop (mkF m 167 #[.val (.int p1), .val (.int p2), .val (.int p3), .val (.int u0), .val (.int u1), .val (.int (0 : Int32)), .val (.int n0), .val (.int n1), .val (.int ln), .val (.int v0), .val (.int v1), .val (.int lv), .val (.ref x_508), .val (.ref x_509), .val (.ref x_511), .val (.ref b513), .val (.int (0 : Int32)), .unset] [(.int (1 : Int32)), (.int (0 : Int32))]))
      refine own_Go.st (fun _ k => XS.icmpYes X513.here hx rfl (pc0 := 167) (pc' := 180) rfl (hb hby at_167) rfl (tlt (by decide : (0 : Int32) < (1 : Int32))).1 (by decide) (by decide) k) ?_
      show own_Go _ _ _ _ (T513.setTop (mkF m 180 #[.val (.int p1), .val (.int p2), .val (.int p3), .val (.int u0), .val (.int u1), .val (.int (0 : Int32)), .val (.int n0), .val (.int n1), .val (.int ln), .val (.int v0), .val (.int v1), .val (.int lv), .val (.ref x_508), .val (.ref x_509), .val (.ref x_511), .val (.ref b513), .val (.int (0 : Int32)), .unset] []))
      have f707 : own_Str Z T509.heap x_508 t_508 ([u0, u1].take (0 : Int32).toNatClampNeg) := f508_0.keep K509 nin0 nin0
      have f708 : own_Str Z T511.heap x_508 t_508 ([u0, u1].take (0 : Int32).toNatClampNeg) := f707.keep K511 nin0 nin0
      have f709 : own_Str Z h513 x_508 t_508 ([u0, u1].take (0 : Int32).toNatClampNeg) := f708.ext E513
      have f710 : own_Str Z T511.heap x_509 t_509 ([n0, n1].take ln.toNatClampNeg) := f509_0.keep K511 nin0 nin0
      have f711 : own_Str Z h513 x_509 t_509 ([n0, n1].take ln.toNatClampNeg) := f710.ext E513
      have f712 : own_Str Z h513 x_511 t_511 ([v0, v1].take lv.toNatClampNeg) := f511_0.ext E513
      have f713 : Arv Z h513 b513 k513 .char (10 : Int32) (([] : List Int32).map Value.int) (.int (0 : Int32)) := Arv.pad f514 (fun i => (pad_rep (([] : List Int32).map Value.int) (.int (0 : Int32)) 10 i).symm)
      have K714 : Keep h0 T508.heap [] := (Keep.refl h0 []).trans K508 all0
      have K715 : Keep h0 T509.heap [] := K714.trans K509 all0
      have K716 : Keep h0 T511.heap [] := K715.trans K511 all0
      have K717 : Keep h0 h513 [] := K716.ext E513
      have f718 : Old Z Z.heap.size T511.heap := f512.keep K511 all0
      have f719 : Old Z Z.heap.size h513 := f718.ext E513
      exact HJ515 ([] : List Int32) T513 h513 _ rfl (Nat.le_of_ble_eq_true rfl) X513 e513 N511 K717 f719 (by omega) R513 f709 f711 f712 f713
    ·
      show own_Go _ _ _ _ (T513.setTop (mkF m 133 #[.val (.int p1), .val (.int p2), .val (.int p3), .val (.int u0), .val (.int u1), .val (.int (1 : Int32)), .val (.int n0), .val (.int n1), .val (.int ln), .val (.int v0), .val (.int v1), .val (.int lv), .val (.ref x_508), .val (.ref x_509), .val (.ref x_511), .val (.ref b513), .val (.int (0 : Int32)), .unset] []))
      refine own_Go.st (fun _ k => XS.iload X513.here hx rfl (hb hby at_133) rfl k) ?_
      show own_Go _ _ _ _ (T513.setTop (mkF m 135 #[.val (.int p1), .val (.int p2), .val (.int p3), .val (.int u0), .val (.int u1), .val (.int (1 : Int32)), .val (.int n0), .val (.int n1), .val (.int ln), .val (.int v0), .val (.int v1), .val (.int lv), .val (.ref x_508), .val (.ref x_509), .val (.ref x_511), .val (.ref b513), .val (.int (0 : Int32)), .unset] [(.int (1 : Int32))]))
      refine own_Go.st (fun _ k => XS.iconst X513.here hx rfl (hb hby at_135) k) ?_
      show own_Go _ _ _ _ (T513.setTop (mkF m 136 #[.val (.int p1), .val (.int p2), .val (.int p3), .val (.int u0), .val (.int u1), .val (.int (1 : Int32)), .val (.int n0), .val (.int n1), .val (.int ln), .val (.int v0), .val (.int v1), .val (.int lv), .val (.ref x_508), .val (.ref x_509), .val (.ref x_511), .val (.ref b513), .val (.int (0 : Int32)), .unset] [(.int (1 : Int32)), (.int (1 : Int32))]))
      refine own_Go.st (fun _ k => XS.icmpNo X513.here hx rfl (hb hby at_136) rfl (flt (by decide : ¬ ((1 : Int32) < (1 : Int32)))).1 k) ?_
      show own_Go _ _ _ _ (T513.setTop (mkF m 139 #[.val (.int p1), .val (.int p2), .val (.int p3), .val (.int u0), .val (.int u1), .val (.int (1 : Int32)), .val (.int n0), .val (.int n1), .val (.int ln), .val (.int v0), .val (.int v1), .val (.int lv), .val (.ref x_508), .val (.ref x_509), .val (.ref x_511), .val (.ref b513), .val (.int (0 : Int32)), .unset] []))
      refine own_Go.st (fun _ k => XS.aload X513.here hx rfl (hb hby at_139) rfl rfl k) ?_
      show own_Go _ _ _ _ (T513.setTop (mkF m 141 #[.val (.int p1), .val (.int p2), .val (.int p3), .val (.int u0), .val (.int u1), .val (.int (1 : Int32)), .val (.int n0), .val (.int n1), .val (.int ln), .val (.int v0), .val (.int v1), .val (.int lv), .val (.ref x_508), .val (.ref x_509), .val (.ref x_511), .val (.ref b513), .val (.int (0 : Int32)), .unset] [(.ref b513)]))
      refine own_Go.st (fun _ k => XS.iload X513.here hx rfl (hb hby at_141) rfl k) ?_
      show own_Go _ _ _ _ (T513.setTop (mkF m 143 #[.val (.int p1), .val (.int p2), .val (.int p3), .val (.int u0), .val (.int u1), .val (.int (1 : Int32)), .val (.int n0), .val (.int n1), .val (.int ln), .val (.int v0), .val (.int v1), .val (.int lv), .val (.ref x_508), .val (.ref x_509), .val (.ref x_511), .val (.ref b513), .val (.int (0 : Int32)), .unset] [(.int (0 : Int32)), (.ref b513)]))
      refine own_Go.st (fun _ k => XS.iloadN X513.here hx rfl (hb hby at_143) rfl k) ?_
      show own_Go _ _ _ _ (T513.setTop (mkF m 144 #[.val (.int p1), .val (.int p2), .val (.int p3), .val (.int u0), .val (.int u1), .val (.int (1 : Int32)), .val (.int n0), .val (.int n1), .val (.int ln), .val (.int v0), .val (.int v1), .val (.int lv), .val (.ref x_508), .val (.ref x_509), .val (.ref x_511), .val (.ref b513), .val (.int (0 : Int32)), .unset] [(.int u0), (.int (0 : Int32)), (.ref b513)]))
      obtain ⟨c720, Ar720, q720, S720, Nn720, H720, G720⟩ := id f514
      have hin720 : ¬ ((0 : Int32) < 0 ∨ c720.slots.size ≤ ((0 : Int32)).toNatClampNeg) := inb_of S720 ⟨by decide, by decide⟩
      obtain ⟨T720, h720, X720, e720, W720, st720⟩ := stC X513 hx hZ511 e513 Ar720 (j := (0 : Int32)) hin720 (g := (mkF m 144 #[.val (.int p1), .val (.int p2), .val (.int p3), .val (.int u0), .val (.int u1), .val (.int (1 : Int32)), .val (.int n0), .val (.int n1), .val (.int ln), .val (.int v0), .val (.int v1), .val (.int lv), .val (.ref x_508), .val (.ref x_509), .val (.ref x_511), .val (.ref b513), .val (.int (0 : Int32)), .unset] [(.int u0), (.int (0 : Int32)), (.ref b513)])) rfl rfl (hb hby at_144)
      refine own_Go.st st720 ?_
      have N720 := Fr.snoc X720 N511 (by omega)
      have Sf722 : Safe Z consts_1 T511.vm h513 b513 := Safe.arv hZ511.alike f514 (by decide)
      have z720 : h513.size ≤ h720.size := Nat.le_of_eq W720.size.symm
      have f721 := Arv.set Ar720 q720 S720 Nn720 H720 G720 (fits_nar_char _) W720 0 rfl (Nat.le_of_ble_eq_true rfl)
      rw [own_nar (own_up hu0)] at f721
      have f723 : Arv Z h720 b513 k513 .char (10 : Int32) [(.int u0), (.int (0 : Int32)), (.int (0 : Int32)), (.int (0 : Int32)), (.int (0 : Int32)), (.int (0 : Int32)), (.int (0 : Int32)), (.int (0 : Int32)), (.int (0 : Int32)), (.int (0 : Int32))] (.int (0 : Int32)) := f721
      have R720 : CHr Z consts_1 s.vm h0 T511.vm h720 := R513.trans (CHr.wr W720 Sf722 R513.1)
      show own_Go _ _ _ _ (T720.setTop (mkF m 145 #[.val (.int p1), .val (.int p2), .val (.int p3), .val (.int u0), .val (.int u1), .val (.int (1 : Int32)), .val (.int n0), .val (.int n1), .val (.int ln), .val (.int v0), .val (.int v1), .val (.int lv), .val (.ref x_508), .val (.ref x_509), .val (.ref x_511), .val (.ref b513), .val (.int (0 : Int32)), .unset] []))
      refine own_Go.st (fun _ k => XS.iinc X720.here hx rfl (hb hby at_145) rfl (l' := #[.val (.int p1), .val (.int p2), .val (.int p3), .val (.int u0), .val (.int u1), .val (.int (1 : Int32)), .val (.int n0), .val (.int n1), .val (.int ln), .val (.int v0), .val (.int v1), .val (.int lv), .val (.ref x_508), .val (.ref x_509), .val (.ref x_511), .val (.ref b513), .val (.int (1 : Int32)), .unset]) rfl k) ?_
      show own_Go _ _ _ _ (T720.setTop (mkF m 148 #[.val (.int p1), .val (.int p2), .val (.int p3), .val (.int u0), .val (.int u1), .val (.int (1 : Int32)), .val (.int n0), .val (.int n1), .val (.int ln), .val (.int v0), .val (.int v1), .val (.int lv), .val (.ref x_508), .val (.ref x_509), .val (.ref x_511), .val (.ref b513), .val (.int (1 : Int32)), .unset] []))
      refine own_Go.st (fun _ k => XS.iload X720.here hx rfl (hb hby at_148) rfl k) ?_
      show own_Go _ _ _ _ (T720.setTop (mkF m 150 #[.val (.int p1), .val (.int p2), .val (.int p3), .val (.int u0), .val (.int u1), .val (.int (1 : Int32)), .val (.int n0), .val (.int n1), .val (.int ln), .val (.int v0), .val (.int v1), .val (.int lv), .val (.ref x_508), .val (.ref x_509), .val (.ref x_511), .val (.ref b513), .val (.int (1 : Int32)), .unset] [(.int (1 : Int32))]))
      refine own_Go.st (fun _ k => XS.iconst X720.here hx rfl (hb hby at_150) k) ?_
      show own_Go _ _ _ _ (T720.setTop (mkF m 151 #[.val (.int p1), .val (.int p2), .val (.int p3), .val (.int u0), .val (.int u1), .val (.int (1 : Int32)), .val (.int n0), .val (.int n1), .val (.int ln), .val (.int v0), .val (.int v1), .val (.int lv), .val (.ref x_508), .val (.ref x_509), .val (.ref x_511), .val (.ref b513), .val (.int (1 : Int32)), .unset] [(.int (2 : Int32)), (.int (1 : Int32))]))
      refine own_Go.st (fun _ k => XS.icmpYes X720.here hx rfl (pc0 := 151) (pc' := 164) rfl (hb hby at_151) rfl (tlt (by decide : (1 : Int32) < (2 : Int32))).1 (by decide) (by decide) k) ?_
      show own_Go _ _ _ _ (T720.setTop (mkF m 164 #[.val (.int p1), .val (.int p2), .val (.int p3), .val (.int u0), .val (.int u1), .val (.int (1 : Int32)), .val (.int n0), .val (.int n1), .val (.int ln), .val (.int v0), .val (.int v1), .val (.int lv), .val (.ref x_508), .val (.ref x_509), .val (.ref x_511), .val (.ref b513), .val (.int (1 : Int32)), .unset] []))
      refine own_Go.st (fun _ k => XS.iload X720.here hx rfl (hb hby at_164) rfl k) ?_
      show own_Go _ _ _ _ (T720.setTop (mkF m 166 #[.val (.int p1), .val (.int p2), .val (.int p3), .val (.int u0), .val (.int u1), .val (.int (1 : Int32)), .val (.int n0), .val (.int n1), .val (.int ln), .val (.int v0), .val (.int v1), .val (.int lv), .val (.ref x_508), .val (.ref x_509), .val (.ref x_511), .val (.ref b513), .val (.int (1 : Int32)), .unset] [(.int (1 : Int32))]))
      refine own_Go.st (fun _ k => XS.iconst X720.here hx rfl (hb hby at_166) k) ?_
      show own_Go _ _ _ _ (T720.setTop (mkF m 167 #[.val (.int p1), .val (.int p2), .val (.int p3), .val (.int u0), .val (.int u1), .val (.int (1 : Int32)), .val (.int n0), .val (.int n1), .val (.int ln), .val (.int v0), .val (.int v1), .val (.int lv), .val (.ref x_508), .val (.ref x_509), .val (.ref x_511), .val (.ref b513), .val (.int (1 : Int32)), .unset] [(.int (1 : Int32)), (.int (1 : Int32))]))
      refine own_Go.st (fun _ k => XS.icmpNo X720.here hx rfl (hb hby at_167) rfl (flt (by decide : ¬ ((1 : Int32) < (1 : Int32)))).1 k) ?_
      show own_Go _ _ _ _ (T720.setTop (mkF m 170 #[.val (.int p1), .val (.int p2), .val (.int p3), .val (.int u0), .val (.int u1), .val (.int (1 : Int32)), .val (.int n0), .val (.int n1), .val (.int ln), .val (.int v0), .val (.int v1), .val (.int lv), .val (.ref x_508), .val (.ref x_509), .val (.ref x_511), .val (.ref b513), .val (.int (1 : Int32)), .unset] []))
      refine own_Go.st (fun _ k => XS.aload X720.here hx rfl (hb hby at_170) rfl rfl k) ?_
      show own_Go _ _ _ _ (T720.setTop (mkF m 172 #[.val (.int p1), .val (.int p2), .val (.int p3), .val (.int u0), .val (.int u1), .val (.int (1 : Int32)), .val (.int n0), .val (.int n1), .val (.int ln), .val (.int v0), .val (.int v1), .val (.int lv), .val (.ref x_508), .val (.ref x_509), .val (.ref x_511), .val (.ref b513), .val (.int (1 : Int32)), .unset] [(.ref b513)]))
      refine own_Go.st (fun _ k => XS.iload X720.here hx rfl (hb hby at_172) rfl k) ?_
      show own_Go _ _ _ _ (T720.setTop (mkF m 174 #[.val (.int p1), .val (.int p2), .val (.int p3), .val (.int u0), .val (.int u1), .val (.int (1 : Int32)), .val (.int n0), .val (.int n1), .val (.int ln), .val (.int v0), .val (.int v1), .val (.int lv), .val (.ref x_508), .val (.ref x_509), .val (.ref x_511), .val (.ref b513), .val (.int (1 : Int32)), .unset] [(.int (1 : Int32)), (.ref b513)]))
      refine own_Go.st (fun _ k => XS.bipush X720.here hx rfl (hb hby at_174) k) ?_
      show own_Go _ _ _ _ (T720.setTop (mkF m 176 #[.val (.int p1), .val (.int p2), .val (.int p3), .val (.int u0), .val (.int u1), .val (.int (1 : Int32)), .val (.int n0), .val (.int n1), .val (.int ln), .val (.int v0), .val (.int v1), .val (.int lv), .val (.ref x_508), .val (.ref x_509), .val (.ref x_511), .val (.ref b513), .val (.int (1 : Int32)), .unset] [(.int (44 : Int32)), (.int (1 : Int32)), (.ref b513)]))
      obtain ⟨c724, Ar724, q724, S724, Nn724, H724, G724⟩ := id f723
      have hin724 : ¬ ((1 : Int32) < 0 ∨ c724.slots.size ≤ ((1 : Int32)).toNatClampNeg) := inb_of S724 ⟨by decide, by decide⟩
      obtain ⟨T724, h724, X724, e724, W724, st724⟩ := stC X720 hx hZ511 e720 Ar724 (j := (1 : Int32)) hin724 (g := (mkF m 176 #[.val (.int p1), .val (.int p2), .val (.int p3), .val (.int u0), .val (.int u1), .val (.int (1 : Int32)), .val (.int n0), .val (.int n1), .val (.int ln), .val (.int v0), .val (.int v1), .val (.int lv), .val (.ref x_508), .val (.ref x_509), .val (.ref x_511), .val (.ref b513), .val (.int (1 : Int32)), .unset] [(.int (44 : Int32)), (.int (1 : Int32)), (.ref b513)])) rfl rfl (hb hby at_176)
      refine own_Go.st st724 ?_
      have N724 := Fr.snoc X724 N720 (by omega)
      have Sf726 : Safe Z consts_1 T511.vm h720 b513 := Safe.arv hZ511.alike f723 (by decide)
      have z724 : h720.size ≤ h724.size := Nat.le_of_eq W724.size.symm
      have f725 := Arv.set Ar724 q724 S724 Nn724 H724 G724 (fits_nar_char _) W724 1 rfl (Nat.le_of_ble_eq_true rfl)
      have f727 : Arv Z h724 b513 k513 .char (10 : Int32) [(.int u0), (.int (44 : Int32)), (.int (0 : Int32)), (.int (0 : Int32)), (.int (0 : Int32)), (.int (0 : Int32)), (.int (0 : Int32)), (.int (0 : Int32)), (.int (0 : Int32)), (.int (0 : Int32))] (.int (0 : Int32)) := f725
      have R724 : CHr Z consts_1 s.vm h0 T511.vm h724 := R720.trans (CHr.wr W724 Sf726 R720.1)
      show own_Go _ _ _ _ (T724.setTop (mkF m 177 #[.val (.int p1), .val (.int p2), .val (.int p3), .val (.int u0), .val (.int u1), .val (.int (1 : Int32)), .val (.int n0), .val (.int n1), .val (.int ln), .val (.int v0), .val (.int v1), .val (.int lv), .val (.ref x_508), .val (.ref x_509), .val (.ref x_511), .val (.ref b513), .val (.int (1 : Int32)), .unset] []))
      refine own_Go.st (fun _ k => XS.iinc X724.here hx rfl (hb hby at_177) rfl (l' := #[.val (.int p1), .val (.int p2), .val (.int p3), .val (.int u0), .val (.int u1), .val (.int (1 : Int32)), .val (.int n0), .val (.int n1), .val (.int ln), .val (.int v0), .val (.int v1), .val (.int lv), .val (.ref x_508), .val (.ref x_509), .val (.ref x_511), .val (.ref b513), .val (.int (2 : Int32)), .unset]) rfl k) ?_
      show own_Go _ _ _ _ (T724.setTop (mkF m 180 #[.val (.int p1), .val (.int p2), .val (.int p3), .val (.int u0), .val (.int u1), .val (.int (1 : Int32)), .val (.int n0), .val (.int n1), .val (.int ln), .val (.int v0), .val (.int v1), .val (.int lv), .val (.ref x_508), .val (.ref x_509), .val (.ref x_511), .val (.ref b513), .val (.int (2 : Int32)), .unset] []))
      have f728 : own_Str Z T509.heap x_508 t_508 ([u0, u1].take (1 : Int32).toNatClampNeg) := f508_0.keep K509 nin0 nin0
      have f729 : own_Str Z T511.heap x_508 t_508 ([u0, u1].take (1 : Int32).toNatClampNeg) := f728.keep K511 nin0 nin0
      have f730 : own_Str Z h513 x_508 t_508 ([u0, u1].take (1 : Int32).toNatClampNeg) := f729.ext E513
      have ne731 : @Ne Nat x_508 b513 := Exa.neArv f730.exa f514 (hw _ (List.mem_of_getElem? (i := 6) rfl))
      have ne732 : @Ne Nat t_508 b513 := own_Str.neTy f730 f514 (by decide)
      have f733 : own_Str Z h720 x_508 t_508 ([u0, u1].take (1 : Int32).toNatClampNeg) := f730.other W720 ne731 ne732
      have f734 : own_Str Z h724 x_508 t_508 ([u0, u1].take (1 : Int32).toNatClampNeg) := f733.other W724 ne731 ne732
      have f735 : own_Str Z T511.heap x_509 t_509 ([n0, n1].take ln.toNatClampNeg) := f509_0.keep K511 nin0 nin0
      have f736 : own_Str Z h513 x_509 t_509 ([n0, n1].take ln.toNatClampNeg) := f735.ext E513
      have ne737 : @Ne Nat x_509 b513 := Exa.neArv f736.exa f514 (hw _ (List.mem_of_getElem? (i := 6) rfl))
      have ne738 : @Ne Nat t_509 b513 := own_Str.neTy f736 f514 (by decide)
      have f739 : own_Str Z h720 x_509 t_509 ([n0, n1].take ln.toNatClampNeg) := f736.other W720 ne737 ne738
      have f740 : own_Str Z h724 x_509 t_509 ([n0, n1].take ln.toNatClampNeg) := f739.other W724 ne737 ne738
      have f741 : own_Str Z h513 x_511 t_511 ([v0, v1].take lv.toNatClampNeg) := f511_0.ext E513
      have ne742 : @Ne Nat x_511 b513 := Exa.neArv f741.exa f514 (hw _ (List.mem_of_getElem? (i := 6) rfl))
      have ne743 : @Ne Nat t_511 b513 := own_Str.neTy f741 f514 (by decide)
      have f744 : own_Str Z h720 x_511 t_511 ([v0, v1].take lv.toNatClampNeg) := f741.other W720 ne742 ne743
      have f745 : own_Str Z h724 x_511 t_511 ([v0, v1].take lv.toNatClampNeg) := f744.other W724 ne742 ne743
      have f746 : Arv Z h724 b513 k513 .char (10 : Int32) (([u0, (44 : Int32)] : List Int32).map Value.int) (.int (0 : Int32)) := Arv.pad f727 (fun i => (pad_rep (([u0, (44 : Int32)] : List Int32).map Value.int) (.int (0 : Int32)) 8 i).symm)
      have K747 : Keep h0 T508.heap [] := (Keep.refl h0 []).trans K508 all0
      have K748 : Keep h0 T509.heap [] := K747.trans K509 all0
      have K749 : Keep h0 T511.heap [] := K748.trans K511 all0
      have K750 : Keep h0 h513 [] := K749.ext E513
      have K751 : Keep h0 h720 [] := K750.wr W720 (Or.inr (by omega))
      have K752 : Keep h0 h724 [] := K751.wr W724 (Or.inr (by omega))
      have f753 : Old Z Z.heap.size T511.heap := f512.keep K511 all0
      have f754 : Old Z Z.heap.size h513 := f753.ext E513
      have f755 : Old Z Z.heap.size h720 := f754.wr W720 (by omega)
      have f756 : Old Z Z.heap.size h724 := f755.wr W724 (by omega)
      exact HJ515 ([u0, (44 : Int32)] : List Int32) T724 h724 _ rfl (Nat.le_of_ble_eq_true rfl) X724 e724 N724 K752 f756 (by omega) R724 f734 f740 f745 f746
    ·
      show own_Go _ _ _ _ (T513.setTop (mkF m 133 #[.val (.int p1), .val (.int p2), .val (.int p3), .val (.int u0), .val (.int u1), .val (.int (2 : Int32)), .val (.int n0), .val (.int n1), .val (.int ln), .val (.int v0), .val (.int v1), .val (.int lv), .val (.ref x_508), .val (.ref x_509), .val (.ref x_511), .val (.ref b513), .val (.int (0 : Int32)), .unset] []))
      refine own_Go.st (fun _ k => XS.iload X513.here hx rfl (hb hby at_133) rfl k) ?_
      show own_Go _ _ _ _ (T513.setTop (mkF m 135 #[.val (.int p1), .val (.int p2), .val (.int p3), .val (.int u0), .val (.int u1), .val (.int (2 : Int32)), .val (.int n0), .val (.int n1), .val (.int ln), .val (.int v0), .val (.int v1), .val (.int lv), .val (.ref x_508), .val (.ref x_509), .val (.ref x_511), .val (.ref b513), .val (.int (0 : Int32)), .unset] [(.int (2 : Int32))]))
      refine own_Go.st (fun _ k => XS.iconst X513.here hx rfl (hb hby at_135) k) ?_
      show own_Go _ _ _ _ (T513.setTop (mkF m 136 #[.val (.int p1), .val (.int p2), .val (.int p3), .val (.int u0), .val (.int u1), .val (.int (2 : Int32)), .val (.int n0), .val (.int n1), .val (.int ln), .val (.int v0), .val (.int v1), .val (.int lv), .val (.ref x_508), .val (.ref x_509), .val (.ref x_511), .val (.ref b513), .val (.int (0 : Int32)), .unset] [(.int (1 : Int32)), (.int (2 : Int32))]))
      refine own_Go.st (fun _ k => XS.icmpNo X513.here hx rfl (hb hby at_136) rfl (flt (by decide : ¬ ((2 : Int32) < (1 : Int32)))).1 k) ?_
      show own_Go _ _ _ _ (T513.setTop (mkF m 139 #[.val (.int p1), .val (.int p2), .val (.int p3), .val (.int u0), .val (.int u1), .val (.int (2 : Int32)), .val (.int n0), .val (.int n1), .val (.int ln), .val (.int v0), .val (.int v1), .val (.int lv), .val (.ref x_508), .val (.ref x_509), .val (.ref x_511), .val (.ref b513), .val (.int (0 : Int32)), .unset] []))
      refine own_Go.st (fun _ k => XS.aload X513.here hx rfl (hb hby at_139) rfl rfl k) ?_
      show own_Go _ _ _ _ (T513.setTop (mkF m 141 #[.val (.int p1), .val (.int p2), .val (.int p3), .val (.int u0), .val (.int u1), .val (.int (2 : Int32)), .val (.int n0), .val (.int n1), .val (.int ln), .val (.int v0), .val (.int v1), .val (.int lv), .val (.ref x_508), .val (.ref x_509), .val (.ref x_511), .val (.ref b513), .val (.int (0 : Int32)), .unset] [(.ref b513)]))
      refine own_Go.st (fun _ k => XS.iload X513.here hx rfl (hb hby at_141) rfl k) ?_
      show own_Go _ _ _ _ (T513.setTop (mkF m 143 #[.val (.int p1), .val (.int p2), .val (.int p3), .val (.int u0), .val (.int u1), .val (.int (2 : Int32)), .val (.int n0), .val (.int n1), .val (.int ln), .val (.int v0), .val (.int v1), .val (.int lv), .val (.ref x_508), .val (.ref x_509), .val (.ref x_511), .val (.ref b513), .val (.int (0 : Int32)), .unset] [(.int (0 : Int32)), (.ref b513)]))
      refine own_Go.st (fun _ k => XS.iloadN X513.here hx rfl (hb hby at_143) rfl k) ?_
      show own_Go _ _ _ _ (T513.setTop (mkF m 144 #[.val (.int p1), .val (.int p2), .val (.int p3), .val (.int u0), .val (.int u1), .val (.int (2 : Int32)), .val (.int n0), .val (.int n1), .val (.int ln), .val (.int v0), .val (.int v1), .val (.int lv), .val (.ref x_508), .val (.ref x_509), .val (.ref x_511), .val (.ref b513), .val (.int (0 : Int32)), .unset] [(.int u0), (.int (0 : Int32)), (.ref b513)]))
      obtain ⟨c757, Ar757, q757, S757, Nn757, H757, G757⟩ := id f514
      have hin757 : ¬ ((0 : Int32) < 0 ∨ c757.slots.size ≤ ((0 : Int32)).toNatClampNeg) := inb_of S757 ⟨by decide, by decide⟩
      obtain ⟨T757, h757, X757, e757, W757, st757⟩ := stC X513 hx hZ511 e513 Ar757 (j := (0 : Int32)) hin757 (g := (mkF m 144 #[.val (.int p1), .val (.int p2), .val (.int p3), .val (.int u0), .val (.int u1), .val (.int (2 : Int32)), .val (.int n0), .val (.int n1), .val (.int ln), .val (.int v0), .val (.int v1), .val (.int lv), .val (.ref x_508), .val (.ref x_509), .val (.ref x_511), .val (.ref b513), .val (.int (0 : Int32)), .unset] [(.int u0), (.int (0 : Int32)), (.ref b513)])) rfl rfl (hb hby at_144)
      refine own_Go.st st757 ?_
      have N757 := Fr.snoc X757 N511 (by omega)
      have Sf759 : Safe Z consts_1 T511.vm h513 b513 := Safe.arv hZ511.alike f514 (by decide)
      have z757 : h513.size ≤ h757.size := Nat.le_of_eq W757.size.symm
      have f758 := Arv.set Ar757 q757 S757 Nn757 H757 G757 (fits_nar_char _) W757 0 rfl (Nat.le_of_ble_eq_true rfl)
      rw [own_nar (own_up hu0)] at f758
      have f760 : Arv Z h757 b513 k513 .char (10 : Int32) [(.int u0), (.int (0 : Int32)), (.int (0 : Int32)), (.int (0 : Int32)), (.int (0 : Int32)), (.int (0 : Int32)), (.int (0 : Int32)), (.int (0 : Int32)), (.int (0 : Int32)), (.int (0 : Int32))] (.int (0 : Int32)) := f758
      have R757 : CHr Z consts_1 s.vm h0 T511.vm h757 := R513.trans (CHr.wr W757 Sf759 R513.1)
      show own_Go _ _ _ _ (T757.setTop (mkF m 145 #[.val (.int p1), .val (.int p2), .val (.int p3), .val (.int u0), .val (.int u1), .val (.int (2 : Int32)), .val (.int n0), .val (.int n1), .val (.int ln), .val (.int v0), .val (.int v1), .val (.int lv), .val (.ref x_508), .val (.ref x_509), .val (.ref x_511), .val (.ref b513), .val (.int (0 : Int32)), .unset] []))
      refine own_Go.st (fun _ k => XS.iinc X757.here hx rfl (hb hby at_145) rfl (l' := #[.val (.int p1), .val (.int p2), .val (.int p3), .val (.int u0), .val (.int u1), .val (.int (2 : Int32)), .val (.int n0), .val (.int n1), .val (.int ln), .val (.int v0), .val (.int v1), .val (.int lv), .val (.ref x_508), .val (.ref x_509), .val (.ref x_511), .val (.ref b513), .val (.int (1 : Int32)), .unset]) rfl k) ?_
      show own_Go _ _ _ _ (T757.setTop (mkF m 148 #[.val (.int p1), .val (.int p2), .val (.int p3), .val (.int u0), .val (.int u1), .val (.int (2 : Int32)), .val (.int n0), .val (.int n1), .val (.int ln), .val (.int v0), .val (.int v1), .val (.int lv), .val (.ref x_508), .val (.ref x_509), .val (.ref x_511), .val (.ref b513), .val (.int (1 : Int32)), .unset] []))
      refine own_Go.st (fun _ k => XS.iload X757.here hx rfl (hb hby at_148) rfl k) ?_
      show own_Go _ _ _ _ (T757.setTop (mkF m 150 #[.val (.int p1), .val (.int p2), .val (.int p3), .val (.int u0), .val (.int u1), .val (.int (2 : Int32)), .val (.int n0), .val (.int n1), .val (.int ln), .val (.int v0), .val (.int v1), .val (.int lv), .val (.ref x_508), .val (.ref x_509), .val (.ref x_511), .val (.ref b513), .val (.int (1 : Int32)), .unset] [(.int (2 : Int32))]))
      refine own_Go.st (fun _ k => XS.iconst X757.here hx rfl (hb hby at_150) k) ?_
      show own_Go _ _ _ _ (T757.setTop (mkF m 151 #[.val (.int p1), .val (.int p2), .val (.int p3), .val (.int u0), .val (.int u1), .val (.int (2 : Int32)), .val (.int n0), .val (.int n1), .val (.int ln), .val (.int v0), .val (.int v1), .val (.int lv), .val (.ref x_508), .val (.ref x_509), .val (.ref x_511), .val (.ref b513), .val (.int (1 : Int32)), .unset] [(.int (2 : Int32)), (.int (2 : Int32))]))
      refine own_Go.st (fun _ k => XS.icmpNo X757.here hx rfl (hb hby at_151) rfl (flt (by decide : ¬ ((2 : Int32) < (2 : Int32)))).1 k) ?_
      show own_Go _ _ _ _ (T757.setTop (mkF m 154 #[.val (.int p1), .val (.int p2), .val (.int p3), .val (.int u0), .val (.int u1), .val (.int (2 : Int32)), .val (.int n0), .val (.int n1), .val (.int ln), .val (.int v0), .val (.int v1), .val (.int lv), .val (.ref x_508), .val (.ref x_509), .val (.ref x_511), .val (.ref b513), .val (.int (1 : Int32)), .unset] []))
      refine own_Go.st (fun _ k => XS.aload X757.here hx rfl (hb hby at_154) rfl rfl k) ?_
      show own_Go _ _ _ _ (T757.setTop (mkF m 156 #[.val (.int p1), .val (.int p2), .val (.int p3), .val (.int u0), .val (.int u1), .val (.int (2 : Int32)), .val (.int n0), .val (.int n1), .val (.int ln), .val (.int v0), .val (.int v1), .val (.int lv), .val (.ref x_508), .val (.ref x_509), .val (.ref x_511), .val (.ref b513), .val (.int (1 : Int32)), .unset] [(.ref b513)]))
      refine own_Go.st (fun _ k => XS.iload X757.here hx rfl (hb hby at_156) rfl k) ?_
      show own_Go _ _ _ _ (T757.setTop (mkF m 158 #[.val (.int p1), .val (.int p2), .val (.int p3), .val (.int u0), .val (.int u1), .val (.int (2 : Int32)), .val (.int n0), .val (.int n1), .val (.int ln), .val (.int v0), .val (.int v1), .val (.int lv), .val (.ref x_508), .val (.ref x_509), .val (.ref x_511), .val (.ref b513), .val (.int (1 : Int32)), .unset] [(.int (1 : Int32)), (.ref b513)]))
      refine own_Go.st (fun _ k => XS.iload X757.here hx rfl (hb hby at_158) rfl k) ?_
      show own_Go _ _ _ _ (T757.setTop (mkF m 160 #[.val (.int p1), .val (.int p2), .val (.int p3), .val (.int u0), .val (.int u1), .val (.int (2 : Int32)), .val (.int n0), .val (.int n1), .val (.int ln), .val (.int v0), .val (.int v1), .val (.int lv), .val (.ref x_508), .val (.ref x_509), .val (.ref x_511), .val (.ref b513), .val (.int (1 : Int32)), .unset] [(.int u1), (.int (1 : Int32)), (.ref b513)]))
      obtain ⟨c761, Ar761, q761, S761, Nn761, H761, G761⟩ := id f760
      have hin761 : ¬ ((1 : Int32) < 0 ∨ c761.slots.size ≤ ((1 : Int32)).toNatClampNeg) := inb_of S761 ⟨by decide, by decide⟩
      obtain ⟨T761, h761, X761, e761, W761, st761⟩ := stC X757 hx hZ511 e757 Ar761 (j := (1 : Int32)) hin761 (g := (mkF m 160 #[.val (.int p1), .val (.int p2), .val (.int p3), .val (.int u0), .val (.int u1), .val (.int (2 : Int32)), .val (.int n0), .val (.int n1), .val (.int ln), .val (.int v0), .val (.int v1), .val (.int lv), .val (.ref x_508), .val (.ref x_509), .val (.ref x_511), .val (.ref b513), .val (.int (1 : Int32)), .unset] [(.int u1), (.int (1 : Int32)), (.ref b513)])) rfl rfl (hb hby at_160)
      refine own_Go.st st761 ?_
      have N761 := Fr.snoc X761 N757 (by omega)
      have Sf763 : Safe Z consts_1 T511.vm h757 b513 := Safe.arv hZ511.alike f760 (by decide)
      have z761 : h757.size ≤ h761.size := Nat.le_of_eq W761.size.symm
      have f762 := Arv.set Ar761 q761 S761 Nn761 H761 G761 (fits_nar_char _) W761 1 rfl (Nat.le_of_ble_eq_true rfl)
      rw [own_nar (own_up hu1)] at f762
      have f764 : Arv Z h761 b513 k513 .char (10 : Int32) [(.int u0), (.int u1), (.int (0 : Int32)), (.int (0 : Int32)), (.int (0 : Int32)), (.int (0 : Int32)), (.int (0 : Int32)), (.int (0 : Int32)), (.int (0 : Int32)), (.int (0 : Int32))] (.int (0 : Int32)) := f762
      have R761 : CHr Z consts_1 s.vm h0 T511.vm h761 := R757.trans (CHr.wr W761 Sf763 R757.1)
      show own_Go _ _ _ _ (T761.setTop (mkF m 161 #[.val (.int p1), .val (.int p2), .val (.int p3), .val (.int u0), .val (.int u1), .val (.int (2 : Int32)), .val (.int n0), .val (.int n1), .val (.int ln), .val (.int v0), .val (.int v1), .val (.int lv), .val (.ref x_508), .val (.ref x_509), .val (.ref x_511), .val (.ref b513), .val (.int (1 : Int32)), .unset] []))
      refine own_Go.st (fun _ k => XS.iinc X761.here hx rfl (hb hby at_161) rfl (l' := #[.val (.int p1), .val (.int p2), .val (.int p3), .val (.int u0), .val (.int u1), .val (.int (2 : Int32)), .val (.int n0), .val (.int n1), .val (.int ln), .val (.int v0), .val (.int v1), .val (.int lv), .val (.ref x_508), .val (.ref x_509), .val (.ref x_511), .val (.ref b513), .val (.int (2 : Int32)), .unset]) rfl k) ?_
      show own_Go _ _ _ _ (T761.setTop (mkF m 164 #[.val (.int p1), .val (.int p2), .val (.int p3), .val (.int u0), .val (.int u1), .val (.int (2 : Int32)), .val (.int n0), .val (.int n1), .val (.int ln), .val (.int v0), .val (.int v1), .val (.int lv), .val (.ref x_508), .val (.ref x_509), .val (.ref x_511), .val (.ref b513), .val (.int (2 : Int32)), .unset] []))
      refine own_Go.st (fun _ k => XS.iload X761.here hx rfl (hb hby at_164) rfl k) ?_
      show own_Go _ _ _ _ (T761.setTop (mkF m 166 #[.val (.int p1), .val (.int p2), .val (.int p3), .val (.int u0), .val (.int u1), .val (.int (2 : Int32)), .val (.int n0), .val (.int n1), .val (.int ln), .val (.int v0), .val (.int v1), .val (.int lv), .val (.ref x_508), .val (.ref x_509), .val (.ref x_511), .val (.ref b513), .val (.int (2 : Int32)), .unset] [(.int (2 : Int32))]))
      refine own_Go.st (fun _ k => XS.iconst X761.here hx rfl (hb hby at_166) k) ?_
      show own_Go _ _ _ _ (T761.setTop (mkF m 167 #[.val (.int p1), .val (.int p2), .val (.int p3), .val (.int u0), .val (.int u1), .val (.int (2 : Int32)), .val (.int n0), .val (.int n1), .val (.int ln), .val (.int v0), .val (.int v1), .val (.int lv), .val (.ref x_508), .val (.ref x_509), .val (.ref x_511), .val (.ref b513), .val (.int (2 : Int32)), .unset] [(.int (1 : Int32)), (.int (2 : Int32))]))
      refine own_Go.st (fun _ k => XS.icmpNo X761.here hx rfl (hb hby at_167) rfl (flt (by decide : ¬ ((2 : Int32) < (1 : Int32)))).1 k) ?_
      show own_Go _ _ _ _ (T761.setTop (mkF m 170 #[.val (.int p1), .val (.int p2), .val (.int p3), .val (.int u0), .val (.int u1), .val (.int (2 : Int32)), .val (.int n0), .val (.int n1), .val (.int ln), .val (.int v0), .val (.int v1), .val (.int lv), .val (.ref x_508), .val (.ref x_509), .val (.ref x_511), .val (.ref b513), .val (.int (2 : Int32)), .unset] []))
      refine own_Go.st (fun _ k => XS.aload X761.here hx rfl (hb hby at_170) rfl rfl k) ?_
      show own_Go _ _ _ _ (T761.setTop (mkF m 172 #[.val (.int p1), .val (.int p2), .val (.int p3), .val (.int u0), .val (.int u1), .val (.int (2 : Int32)), .val (.int n0), .val (.int n1), .val (.int ln), .val (.int v0), .val (.int v1), .val (.int lv), .val (.ref x_508), .val (.ref x_509), .val (.ref x_511), .val (.ref b513), .val (.int (2 : Int32)), .unset] [(.ref b513)]))
      refine own_Go.st (fun _ k => XS.iload X761.here hx rfl (hb hby at_172) rfl k) ?_
      show own_Go _ _ _ _ (T761.setTop (mkF m 174 #[.val (.int p1), .val (.int p2), .val (.int p3), .val (.int u0), .val (.int u1), .val (.int (2 : Int32)), .val (.int n0), .val (.int n1), .val (.int ln), .val (.int v0), .val (.int v1), .val (.int lv), .val (.ref x_508), .val (.ref x_509), .val (.ref x_511), .val (.ref b513), .val (.int (2 : Int32)), .unset] [(.int (2 : Int32)), (.ref b513)]))
      refine own_Go.st (fun _ k => XS.bipush X761.here hx rfl (hb hby at_174) k) ?_
      show own_Go _ _ _ _ (T761.setTop (mkF m 176 #[.val (.int p1), .val (.int p2), .val (.int p3), .val (.int u0), .val (.int u1), .val (.int (2 : Int32)), .val (.int n0), .val (.int n1), .val (.int ln), .val (.int v0), .val (.int v1), .val (.int lv), .val (.ref x_508), .val (.ref x_509), .val (.ref x_511), .val (.ref b513), .val (.int (2 : Int32)), .unset] [(.int (44 : Int32)), (.int (2 : Int32)), (.ref b513)]))
      obtain ⟨c765, Ar765, q765, S765, Nn765, H765, G765⟩ := id f764
      have hin765 : ¬ ((2 : Int32) < 0 ∨ c765.slots.size ≤ ((2 : Int32)).toNatClampNeg) := inb_of S765 ⟨by decide, by decide⟩
      obtain ⟨T765, h765, X765, e765, W765, st765⟩ := stC X761 hx hZ511 e761 Ar765 (j := (2 : Int32)) hin765 (g := (mkF m 176 #[.val (.int p1), .val (.int p2), .val (.int p3), .val (.int u0), .val (.int u1), .val (.int (2 : Int32)), .val (.int n0), .val (.int n1), .val (.int ln), .val (.int v0), .val (.int v1), .val (.int lv), .val (.ref x_508), .val (.ref x_509), .val (.ref x_511), .val (.ref b513), .val (.int (2 : Int32)), .unset] [(.int (44 : Int32)), (.int (2 : Int32)), (.ref b513)])) rfl rfl (hb hby at_176)
      refine own_Go.st st765 ?_
      have N765 := Fr.snoc X765 N761 (by omega)
      have Sf767 : Safe Z consts_1 T511.vm h761 b513 := Safe.arv hZ511.alike f764 (by decide)
      have z765 : h761.size ≤ h765.size := Nat.le_of_eq W765.size.symm
      have f766 := Arv.set Ar765 q765 S765 Nn765 H765 G765 (fits_nar_char _) W765 2 rfl (Nat.le_of_ble_eq_true rfl)
      have f768 : Arv Z h765 b513 k513 .char (10 : Int32) [(.int u0), (.int u1), (.int (44 : Int32)), (.int (0 : Int32)), (.int (0 : Int32)), (.int (0 : Int32)), (.int (0 : Int32)), (.int (0 : Int32)), (.int (0 : Int32)), (.int (0 : Int32))] (.int (0 : Int32)) := f766
      have R765 : CHr Z consts_1 s.vm h0 T511.vm h765 := R761.trans (CHr.wr W765 Sf767 R761.1)
      show own_Go _ _ _ _ (T765.setTop (mkF m 177 #[.val (.int p1), .val (.int p2), .val (.int p3), .val (.int u0), .val (.int u1), .val (.int (2 : Int32)), .val (.int n0), .val (.int n1), .val (.int ln), .val (.int v0), .val (.int v1), .val (.int lv), .val (.ref x_508), .val (.ref x_509), .val (.ref x_511), .val (.ref b513), .val (.int (2 : Int32)), .unset] []))
      refine own_Go.st (fun _ k => XS.iinc X765.here hx rfl (hb hby at_177) rfl (l' := #[.val (.int p1), .val (.int p2), .val (.int p3), .val (.int u0), .val (.int u1), .val (.int (2 : Int32)), .val (.int n0), .val (.int n1), .val (.int ln), .val (.int v0), .val (.int v1), .val (.int lv), .val (.ref x_508), .val (.ref x_509), .val (.ref x_511), .val (.ref b513), .val (.int (3 : Int32)), .unset]) rfl k) ?_
      show own_Go _ _ _ _ (T765.setTop (mkF m 180 #[.val (.int p1), .val (.int p2), .val (.int p3), .val (.int u0), .val (.int u1), .val (.int (2 : Int32)), .val (.int n0), .val (.int n1), .val (.int ln), .val (.int v0), .val (.int v1), .val (.int lv), .val (.ref x_508), .val (.ref x_509), .val (.ref x_511), .val (.ref b513), .val (.int (3 : Int32)), .unset] []))
      have f769 : own_Str Z T509.heap x_508 t_508 ([u0, u1].take (2 : Int32).toNatClampNeg) := f508_0.keep K509 nin0 nin0
      have f770 : own_Str Z T511.heap x_508 t_508 ([u0, u1].take (2 : Int32).toNatClampNeg) := f769.keep K511 nin0 nin0
      have f771 : own_Str Z h513 x_508 t_508 ([u0, u1].take (2 : Int32).toNatClampNeg) := f770.ext E513
      have ne772 : @Ne Nat x_508 b513 := Exa.neArv f771.exa f514 (hw _ (List.mem_of_getElem? (i := 6) rfl))
      have ne773 : @Ne Nat t_508 b513 := own_Str.neTy f771 f514 (by decide)
      have f774 : own_Str Z h757 x_508 t_508 ([u0, u1].take (2 : Int32).toNatClampNeg) := f771.other W757 ne772 ne773
      have f775 : own_Str Z h761 x_508 t_508 ([u0, u1].take (2 : Int32).toNatClampNeg) := f774.other W761 ne772 ne773
      have f776 : own_Str Z h765 x_508 t_508 ([u0, u1].take (2 : Int32).toNatClampNeg) := f775.other W765 ne772 ne773
      have f777 : own_Str Z T511.heap x_509 t_509 ([n0, n1].take ln.toNatClampNeg) := f509_0.keep K511 nin0 nin0
      have f778 : own_Str Z h513 x_509 t_509 ([n0, n1].take ln.toNatClampNeg) := f777.ext E513
      have ne779 : @Ne Nat x_509 b513 := Exa.neArv f778.exa f514 (hw _ (List.mem_of_getElem? (i := 6) rfl))
      have ne780 : @Ne Nat t_509 b513 := own_Str.neTy f778 f514 (by decide)
      have f781 : own_Str Z h757 x_509 t_509 ([n0, n1].take ln.toNatClampNeg) := f778.other W757 ne779 ne780
      have f782 : own_Str Z h761 x_509 t_509 ([n0, n1].take ln.toNatClampNeg) := f781.other W761 ne779 ne780
      have f783 : own_Str Z h765 x_509 t_509 ([n0, n1].take ln.toNatClampNeg) := f782.other W765 ne779 ne780
      have f784 : own_Str Z h513 x_511 t_511 ([v0, v1].take lv.toNatClampNeg) := f511_0.ext E513
      have ne785 : @Ne Nat x_511 b513 := Exa.neArv f784.exa f514 (hw _ (List.mem_of_getElem? (i := 6) rfl))
      have ne786 : @Ne Nat t_511 b513 := own_Str.neTy f784 f514 (by decide)
      have f787 : own_Str Z h757 x_511 t_511 ([v0, v1].take lv.toNatClampNeg) := f784.other W757 ne785 ne786
      have f788 : own_Str Z h761 x_511 t_511 ([v0, v1].take lv.toNatClampNeg) := f787.other W761 ne785 ne786
      have f789 : own_Str Z h765 x_511 t_511 ([v0, v1].take lv.toNatClampNeg) := f788.other W765 ne785 ne786
      have f790 : Arv Z h765 b513 k513 .char (10 : Int32) (([u0, u1, (44 : Int32)] : List Int32).map Value.int) (.int (0 : Int32)) := Arv.pad f768 (fun i => (pad_rep (([u0, u1, (44 : Int32)] : List Int32).map Value.int) (.int (0 : Int32)) 7 i).symm)
      have K791 : Keep h0 T508.heap [] := (Keep.refl h0 []).trans K508 all0
      have K792 : Keep h0 T509.heap [] := K791.trans K509 all0
      have K793 : Keep h0 T511.heap [] := K792.trans K511 all0
      have K794 : Keep h0 h513 [] := K793.ext E513
      have K795 : Keep h0 h757 [] := K794.wr W757 (Or.inr (by omega))
      have K796 : Keep h0 h761 [] := K795.wr W761 (Or.inr (by omega))
      have K797 : Keep h0 h765 [] := K796.wr W765 (Or.inr (by omega))
      have f798 : Old Z Z.heap.size T511.heap := f512.keep K511 all0
      have f799 : Old Z Z.heap.size h513 := f798.ext E513
      have f800 : Old Z Z.heap.size h757 := f799.wr W757 (by omega)
      have f801 : Old Z Z.heap.size h761 := f800.wr W761 (by omega)
      have f802 : Old Z Z.heap.size h765 := f801.wr W765 (by omega)
      exact HJ515 ([u0, u1, (44 : Int32)] : List Int32) T765 h765 _ rfl (Nat.le_of_ble_eq_true rfl) X765 e765 N765 K797 f802 (by omega) R765 f776 f783 f789 f790
  refine own_Go.st (fun _ k => XS.iloadN X0.here hx rfl (hb hby at_0) rfl k) ?_
  show own_Go _ _ _ _ (s₁.setTop (mkF m 1 #[.val (.int p1), .val (.int p2), .val (.int p3), .unset, .unset, .unset, .unset, .unset, .unset, .unset, .unset, .unset, .unset, .unset, .unset, .unset, .unset, .unset] [(.int p1)]))
  refine own_Go.st (fun _ k => XS.sipush X0.here hx rfl (hb hby at_1) k) ?_
  show own_Go _ _ _ _ (s₁.setTop (mkF m 4 #[.val (.int p1), .val (.int p2), .val (.int p3), .unset, .unset, .unset, .unset, .unset, .unset, .unset, .unset, .unset, .unset, .unset, .unset, .unset, .unset, .unset] [(.int (255 : Int32)), (.int p1)]))
  refine own_Go.st (fun _ k => XS.iand X0.here hx rfl (hb hby at_4) rfl k) ?_
  show own_Go _ _ _ _ (s₁.setTop (mkF m 5 #[.val (.int p1), .val (.int p2), .val (.int p3), .unset, .unset, .unset, .unset, .unset, .unset, .unset, .unset, .unset, .unset, .unset, .unset, .unset, .unset, .unset] [(.int (p1 &&& (255 : Int32)))]))
  refine own_Go.st (fun _ k => XS.i2c X0.here hx rfl (hb hby at_5) rfl k) ?_
  show own_Go _ _ _ _ (s₁.setTop (mkF m 6 #[.val (.int p1), .val (.int p2), .val (.int p3), .unset, .unset, .unset, .unset, .unset, .unset, .unset, .unset, .unset, .unset, .unset, .unset, .unset, .unset, .unset] [(.int ((p1 &&& (255 : Int32)).toUInt32.toUInt16.toUInt32.toInt32))]))
  refine own_Go.st (fun _ k => XS.istoreN X0.here hx rfl (hb hby at_6) rfl (l' := #[.val (.int p1), .val (.int p2), .val (.int p3), .val (.int ((p1 &&& (255 : Int32)).toUInt32.toUInt16.toUInt32.toInt32)), .unset, .unset, .unset, .unset, .unset, .unset, .unset, .unset, .unset, .unset, .unset, .unset, .unset, .unset]) rfl k) ?_
  show own_Go _ _ _ _ (s₁.setTop (mkF m 7 #[.val (.int p1), .val (.int p2), .val (.int p3), .val (.int ((p1 &&& (255 : Int32)).toUInt32.toUInt16.toUInt32.toInt32)), .unset, .unset, .unset, .unset, .unset, .unset, .unset, .unset, .unset, .unset, .unset, .unset, .unset, .unset] []))
  refine own_Go.st (fun _ k => XS.iloadN X0.here hx rfl (hb hby at_7) rfl k) ?_
  show own_Go _ _ _ _ (s₁.setTop (mkF m 8 #[.val (.int p1), .val (.int p2), .val (.int p3), .val (.int ((p1 &&& (255 : Int32)).toUInt32.toUInt16.toUInt32.toInt32)), .unset, .unset, .unset, .unset, .unset, .unset, .unset, .unset, .unset, .unset, .unset, .unset, .unset, .unset] [(.int p1)]))
  refine own_Go.st (fun _ k => XS.bipush X0.here hx rfl (hb hby at_8) k) ?_
  show own_Go _ _ _ _ (s₁.setTop (mkF m 10 #[.val (.int p1), .val (.int p2), .val (.int p3), .val (.int ((p1 &&& (255 : Int32)).toUInt32.toUInt16.toUInt32.toInt32)), .unset, .unset, .unset, .unset, .unset, .unset, .unset, .unset, .unset, .unset, .unset, .unset, .unset, .unset] [(.int (8 : Int32)), (.int p1)]))
  refine own_Go.st (fun _ k => XS.iushr X0.here hx rfl (hb hby at_10) rfl k) ?_
  show own_Go _ _ _ _ (s₁.setTop (mkF m 11 #[.val (.int p1), .val (.int p2), .val (.int p3), .val (.int ((p1 &&& (255 : Int32)).toUInt32.toUInt16.toUInt32.toInt32)), .unset, .unset, .unset, .unset, .unset, .unset, .unset, .unset, .unset, .unset, .unset, .unset, .unset, .unset] [(.int ((p1.toUInt32 >>> ((8 : Int32) &&& 31).toUInt32).toInt32))]))
  refine own_Go.st (fun _ k => XS.sipush X0.here hx rfl (hb hby at_11) k) ?_
  show own_Go _ _ _ _ (s₁.setTop (mkF m 14 #[.val (.int p1), .val (.int p2), .val (.int p3), .val (.int ((p1 &&& (255 : Int32)).toUInt32.toUInt16.toUInt32.toInt32)), .unset, .unset, .unset, .unset, .unset, .unset, .unset, .unset, .unset, .unset, .unset, .unset, .unset, .unset] [(.int (255 : Int32)), (.int ((p1.toUInt32 >>> ((8 : Int32) &&& 31).toUInt32).toInt32))]))
  refine own_Go.st (fun _ k => XS.iand X0.here hx rfl (hb hby at_14) rfl k) ?_
  show own_Go _ _ _ _ (s₁.setTop (mkF m 15 #[.val (.int p1), .val (.int p2), .val (.int p3), .val (.int ((p1 &&& (255 : Int32)).toUInt32.toUInt16.toUInt32.toInt32)), .unset, .unset, .unset, .unset, .unset, .unset, .unset, .unset, .unset, .unset, .unset, .unset, .unset, .unset] [(.int (((p1.toUInt32 >>> ((8 : Int32) &&& 31).toUInt32).toInt32) &&& (255 : Int32)))]))
  refine own_Go.st (fun _ k => XS.i2c X0.here hx rfl (hb hby at_15) rfl k) ?_
  show own_Go _ _ _ _ (s₁.setTop (mkF m 16 #[.val (.int p1), .val (.int p2), .val (.int p3), .val (.int ((p1 &&& (255 : Int32)).toUInt32.toUInt16.toUInt32.toInt32)), .unset, .unset, .unset, .unset, .unset, .unset, .unset, .unset, .unset, .unset, .unset, .unset, .unset, .unset] [(.int ((((p1.toUInt32 >>> ((8 : Int32) &&& 31).toUInt32).toInt32) &&& (255 : Int32)).toUInt32.toUInt16.toUInt32.toInt32))]))
  refine own_Go.st (fun _ k => XS.istore X0.here hx rfl (hb hby at_16) rfl (l' := #[.val (.int p1), .val (.int p2), .val (.int p3), .val (.int ((p1 &&& (255 : Int32)).toUInt32.toUInt16.toUInt32.toInt32)), .val (.int ((((p1.toUInt32 >>> ((8 : Int32) &&& 31).toUInt32).toInt32) &&& (255 : Int32)).toUInt32.toUInt16.toUInt32.toInt32)), .unset, .unset, .unset, .unset, .unset, .unset, .unset, .unset, .unset, .unset, .unset, .unset, .unset]) rfl k) ?_
  show own_Go _ _ _ _ (s₁.setTop (mkF m 18 #[.val (.int p1), .val (.int p2), .val (.int p3), .val (.int ((p1 &&& (255 : Int32)).toUInt32.toUInt16.toUInt32.toInt32)), .val (.int ((((p1.toUInt32 >>> ((8 : Int32) &&& 31).toUInt32).toInt32) &&& (255 : Int32)).toUInt32.toUInt16.toUInt32.toInt32)), .unset, .unset, .unset, .unset, .unset, .unset, .unset, .unset, .unset, .unset, .unset, .unset, .unset] []))
  refine own_Go.st (fun _ k => XS.iloadN X0.here hx rfl (hb hby at_18) rfl k) ?_
  show own_Go _ _ _ _ (s₁.setTop (mkF m 19 #[.val (.int p1), .val (.int p2), .val (.int p3), .val (.int ((p1 &&& (255 : Int32)).toUInt32.toUInt16.toUInt32.toInt32)), .val (.int ((((p1.toUInt32 >>> ((8 : Int32) &&& 31).toUInt32).toInt32) &&& (255 : Int32)).toUInt32.toUInt16.toUInt32.toInt32)), .unset, .unset, .unset, .unset, .unset, .unset, .unset, .unset, .unset, .unset, .unset, .unset, .unset] [(.int p1)]))
  refine own_Go.st (fun _ k => XS.bipush X0.here hx rfl (hb hby at_19) k) ?_
  show own_Go _ _ _ _ (s₁.setTop (mkF m 21 #[.val (.int p1), .val (.int p2), .val (.int p3), .val (.int ((p1 &&& (255 : Int32)).toUInt32.toUInt16.toUInt32.toInt32)), .val (.int ((((p1.toUInt32 >>> ((8 : Int32) &&& 31).toUInt32).toInt32) &&& (255 : Int32)).toUInt32.toUInt16.toUInt32.toInt32)), .unset, .unset, .unset, .unset, .unset, .unset, .unset, .unset, .unset, .unset, .unset, .unset, .unset] [(.int (16 : Int32)), (.int p1)]))
  refine own_Go.st (fun _ k => XS.iushr X0.here hx rfl (hb hby at_21) rfl k) ?_
  show own_Go _ _ _ _ (s₁.setTop (mkF m 22 #[.val (.int p1), .val (.int p2), .val (.int p3), .val (.int ((p1 &&& (255 : Int32)).toUInt32.toUInt16.toUInt32.toInt32)), .val (.int ((((p1.toUInt32 >>> ((8 : Int32) &&& 31).toUInt32).toInt32) &&& (255 : Int32)).toUInt32.toUInt16.toUInt32.toInt32)), .unset, .unset, .unset, .unset, .unset, .unset, .unset, .unset, .unset, .unset, .unset, .unset, .unset] [(.int ((p1.toUInt32 >>> ((16 : Int32) &&& 31).toUInt32).toInt32))]))
  refine own_Go.st (fun _ k => XS.sipush X0.here hx rfl (hb hby at_22) k) ?_
  show own_Go _ _ _ _ (s₁.setTop (mkF m 25 #[.val (.int p1), .val (.int p2), .val (.int p3), .val (.int ((p1 &&& (255 : Int32)).toUInt32.toUInt16.toUInt32.toInt32)), .val (.int ((((p1.toUInt32 >>> ((8 : Int32) &&& 31).toUInt32).toInt32) &&& (255 : Int32)).toUInt32.toUInt16.toUInt32.toInt32)), .unset, .unset, .unset, .unset, .unset, .unset, .unset, .unset, .unset, .unset, .unset, .unset, .unset] [(.int (255 : Int32)), (.int ((p1.toUInt32 >>> ((16 : Int32) &&& 31).toUInt32).toInt32))]))
  refine own_Go.st (fun _ k => XS.iand X0.here hx rfl (hb hby at_25) rfl k) ?_
  show own_Go _ _ _ _ (s₁.setTop (mkF m 26 #[.val (.int p1), .val (.int p2), .val (.int p3), .val (.int ((p1 &&& (255 : Int32)).toUInt32.toUInt16.toUInt32.toInt32)), .val (.int ((((p1.toUInt32 >>> ((8 : Int32) &&& 31).toUInt32).toInt32) &&& (255 : Int32)).toUInt32.toUInt16.toUInt32.toInt32)), .unset, .unset, .unset, .unset, .unset, .unset, .unset, .unset, .unset, .unset, .unset, .unset, .unset] [(.int (((p1.toUInt32 >>> ((16 : Int32) &&& 31).toUInt32).toInt32) &&& (255 : Int32)))]))
  refine own_Go.st (fun _ k => XS.iconst X0.here hx rfl (hb hby at_26) k) ?_
  show own_Go _ _ _ _ (s₁.setTop (mkF m 27 #[.val (.int p1), .val (.int p2), .val (.int p3), .val (.int ((p1 &&& (255 : Int32)).toUInt32.toUInt16.toUInt32.toInt32)), .val (.int ((((p1.toUInt32 >>> ((8 : Int32) &&& 31).toUInt32).toInt32) &&& (255 : Int32)).toUInt32.toUInt16.toUInt32.toInt32)), .unset, .unset, .unset, .unset, .unset, .unset, .unset, .unset, .unset, .unset, .unset, .unset, .unset] [(.int (3 : Int32)), (.int (((p1.toUInt32 >>> ((16 : Int32) &&& 31).toUInt32).toInt32) &&& (255 : Int32)))]))
  refine own_Go.st (fun _ k => iremM (g := (mkF m 27 #[.val (.int p1), .val (.int p2), .val (.int p3), .val (.int ((p1 &&& (255 : Int32)).toUInt32.toUInt16.toUInt32.toInt32)), .val (.int ((((p1.toUInt32 >>> ((8 : Int32) &&& 31).toUInt32).toInt32) &&& (255 : Int32)).toUInt32.toUInt16.toUInt32.toInt32)), .unset, .unset, .unset, .unset, .unset, .unset, .unset, .unset, .unset, .unset, .unset, .unset, .unset] [(.int (3 : Int32)), (.int (((p1.toUInt32 >>> ((16 : Int32) &&& 31).toUInt32).toInt32) &&& (255 : Int32)))])) X0 hx rfl (hb hby at_27) rfl (by decide) k) ?_
  show own_Go _ _ _ _ (s₁.setTop (mkF m 28 #[.val (.int p1), .val (.int p2), .val (.int p3), .val (.int ((p1 &&& (255 : Int32)).toUInt32.toUInt16.toUInt32.toInt32)), .val (.int ((((p1.toUInt32 >>> ((8 : Int32) &&& 31).toUInt32).toInt32) &&& (255 : Int32)).toUInt32.toUInt16.toUInt32.toInt32)), .unset, .unset, .unset, .unset, .unset, .unset, .unset, .unset, .unset, .unset, .unset, .unset, .unset] [(.int ((((p1.toUInt32 >>> ((16 : Int32) &&& 31).toUInt32).toInt32) &&& (255 : Int32)) % (3 : Int32)))]))
  refine own_Go.st (fun _ k => XS.istore X0.here hx rfl (hb hby at_28) rfl (l' := #[.val (.int p1), .val (.int p2), .val (.int p3), .val (.int ((p1 &&& (255 : Int32)).toUInt32.toUInt16.toUInt32.toInt32)), .val (.int ((((p1.toUInt32 >>> ((8 : Int32) &&& 31).toUInt32).toInt32) &&& (255 : Int32)).toUInt32.toUInt16.toUInt32.toInt32)), .val (.int ((((p1.toUInt32 >>> ((16 : Int32) &&& 31).toUInt32).toInt32) &&& (255 : Int32)) % (3 : Int32))), .unset, .unset, .unset, .unset, .unset, .unset, .unset, .unset, .unset, .unset, .unset, .unset]) rfl k) ?_
  show own_Go _ _ _ _ (s₁.setTop (mkF m 30 #[.val (.int p1), .val (.int p2), .val (.int p3), .val (.int ((p1 &&& (255 : Int32)).toUInt32.toUInt16.toUInt32.toInt32)), .val (.int ((((p1.toUInt32 >>> ((8 : Int32) &&& 31).toUInt32).toInt32) &&& (255 : Int32)).toUInt32.toUInt16.toUInt32.toInt32)), .val (.int ((((p1.toUInt32 >>> ((16 : Int32) &&& 31).toUInt32).toInt32) &&& (255 : Int32)) % (3 : Int32))), .unset, .unset, .unset, .unset, .unset, .unset, .unset, .unset, .unset, .unset, .unset, .unset] []))
  refine own_Go.st (fun _ k => XS.iloadN X0.here hx rfl (hb hby at_30) rfl k) ?_
  show own_Go _ _ _ _ (s₁.setTop (mkF m 31 #[.val (.int p1), .val (.int p2), .val (.int p3), .val (.int ((p1 &&& (255 : Int32)).toUInt32.toUInt16.toUInt32.toInt32)), .val (.int ((((p1.toUInt32 >>> ((8 : Int32) &&& 31).toUInt32).toInt32) &&& (255 : Int32)).toUInt32.toUInt16.toUInt32.toInt32)), .val (.int ((((p1.toUInt32 >>> ((16 : Int32) &&& 31).toUInt32).toInt32) &&& (255 : Int32)) % (3 : Int32))), .unset, .unset, .unset, .unset, .unset, .unset, .unset, .unset, .unset, .unset, .unset, .unset] [(.int p2)]))
  refine own_Go.st (fun _ k => XS.sipush X0.here hx rfl (hb hby at_31) k) ?_
  show own_Go _ _ _ _ (s₁.setTop (mkF m 34 #[.val (.int p1), .val (.int p2), .val (.int p3), .val (.int ((p1 &&& (255 : Int32)).toUInt32.toUInt16.toUInt32.toInt32)), .val (.int ((((p1.toUInt32 >>> ((8 : Int32) &&& 31).toUInt32).toInt32) &&& (255 : Int32)).toUInt32.toUInt16.toUInt32.toInt32)), .val (.int ((((p1.toUInt32 >>> ((16 : Int32) &&& 31).toUInt32).toInt32) &&& (255 : Int32)) % (3 : Int32))), .unset, .unset, .unset, .unset, .unset, .unset, .unset, .unset, .unset, .unset, .unset, .unset] [(.int (255 : Int32)), (.int p2)]))
  refine own_Go.st (fun _ k => XS.iand X0.here hx rfl (hb hby at_34) rfl k) ?_
  show own_Go _ _ _ _ (s₁.setTop (mkF m 35 #[.val (.int p1), .val (.int p2), .val (.int p3), .val (.int ((p1 &&& (255 : Int32)).toUInt32.toUInt16.toUInt32.toInt32)), .val (.int ((((p1.toUInt32 >>> ((8 : Int32) &&& 31).toUInt32).toInt32) &&& (255 : Int32)).toUInt32.toUInt16.toUInt32.toInt32)), .val (.int ((((p1.toUInt32 >>> ((16 : Int32) &&& 31).toUInt32).toInt32) &&& (255 : Int32)) % (3 : Int32))), .unset, .unset, .unset, .unset, .unset, .unset, .unset, .unset, .unset, .unset, .unset, .unset] [(.int (p2 &&& (255 : Int32)))]))
  refine own_Go.st (fun _ k => XS.i2c X0.here hx rfl (hb hby at_35) rfl k) ?_
  show own_Go _ _ _ _ (s₁.setTop (mkF m 36 #[.val (.int p1), .val (.int p2), .val (.int p3), .val (.int ((p1 &&& (255 : Int32)).toUInt32.toUInt16.toUInt32.toInt32)), .val (.int ((((p1.toUInt32 >>> ((8 : Int32) &&& 31).toUInt32).toInt32) &&& (255 : Int32)).toUInt32.toUInt16.toUInt32.toInt32)), .val (.int ((((p1.toUInt32 >>> ((16 : Int32) &&& 31).toUInt32).toInt32) &&& (255 : Int32)) % (3 : Int32))), .unset, .unset, .unset, .unset, .unset, .unset, .unset, .unset, .unset, .unset, .unset, .unset] [(.int ((p2 &&& (255 : Int32)).toUInt32.toUInt16.toUInt32.toInt32))]))
  refine own_Go.st (fun _ k => XS.istore X0.here hx rfl (hb hby at_36) rfl (l' := #[.val (.int p1), .val (.int p2), .val (.int p3), .val (.int ((p1 &&& (255 : Int32)).toUInt32.toUInt16.toUInt32.toInt32)), .val (.int ((((p1.toUInt32 >>> ((8 : Int32) &&& 31).toUInt32).toInt32) &&& (255 : Int32)).toUInt32.toUInt16.toUInt32.toInt32)), .val (.int ((((p1.toUInt32 >>> ((16 : Int32) &&& 31).toUInt32).toInt32) &&& (255 : Int32)) % (3 : Int32))), .val (.int ((p2 &&& (255 : Int32)).toUInt32.toUInt16.toUInt32.toInt32)), .unset, .unset, .unset, .unset, .unset, .unset, .unset, .unset, .unset, .unset, .unset]) rfl k) ?_
  show own_Go _ _ _ _ (s₁.setTop (mkF m 38 #[.val (.int p1), .val (.int p2), .val (.int p3), .val (.int ((p1 &&& (255 : Int32)).toUInt32.toUInt16.toUInt32.toInt32)), .val (.int ((((p1.toUInt32 >>> ((8 : Int32) &&& 31).toUInt32).toInt32) &&& (255 : Int32)).toUInt32.toUInt16.toUInt32.toInt32)), .val (.int ((((p1.toUInt32 >>> ((16 : Int32) &&& 31).toUInt32).toInt32) &&& (255 : Int32)) % (3 : Int32))), .val (.int ((p2 &&& (255 : Int32)).toUInt32.toUInt16.toUInt32.toInt32)), .unset, .unset, .unset, .unset, .unset, .unset, .unset, .unset, .unset, .unset, .unset] []))
  refine own_Go.st (fun _ k => XS.iloadN X0.here hx rfl (hb hby at_38) rfl k) ?_
  show own_Go _ _ _ _ (s₁.setTop (mkF m 39 #[.val (.int p1), .val (.int p2), .val (.int p3), .val (.int ((p1 &&& (255 : Int32)).toUInt32.toUInt16.toUInt32.toInt32)), .val (.int ((((p1.toUInt32 >>> ((8 : Int32) &&& 31).toUInt32).toInt32) &&& (255 : Int32)).toUInt32.toUInt16.toUInt32.toInt32)), .val (.int ((((p1.toUInt32 >>> ((16 : Int32) &&& 31).toUInt32).toInt32) &&& (255 : Int32)) % (3 : Int32))), .val (.int ((p2 &&& (255 : Int32)).toUInt32.toUInt16.toUInt32.toInt32)), .unset, .unset, .unset, .unset, .unset, .unset, .unset, .unset, .unset, .unset, .unset] [(.int p2)]))
  refine own_Go.st (fun _ k => XS.bipush X0.here hx rfl (hb hby at_39) k) ?_
  show own_Go _ _ _ _ (s₁.setTop (mkF m 41 #[.val (.int p1), .val (.int p2), .val (.int p3), .val (.int ((p1 &&& (255 : Int32)).toUInt32.toUInt16.toUInt32.toInt32)), .val (.int ((((p1.toUInt32 >>> ((8 : Int32) &&& 31).toUInt32).toInt32) &&& (255 : Int32)).toUInt32.toUInt16.toUInt32.toInt32)), .val (.int ((((p1.toUInt32 >>> ((16 : Int32) &&& 31).toUInt32).toInt32) &&& (255 : Int32)) % (3 : Int32))), .val (.int ((p2 &&& (255 : Int32)).toUInt32.toUInt16.toUInt32.toInt32)), .unset, .unset, .unset, .unset, .unset, .unset, .unset, .unset, .unset, .unset, .unset] [(.int (8 : Int32)), (.int p2)]))
  refine own_Go.st (fun _ k => XS.iushr X0.here hx rfl (hb hby at_41) rfl k) ?_
  show own_Go _ _ _ _ (s₁.setTop (mkF m 42 #[.val (.int p1), .val (.int p2), .val (.int p3), .val (.int ((p1 &&& (255 : Int32)).toUInt32.toUInt16.toUInt32.toInt32)), .val (.int ((((p1.toUInt32 >>> ((8 : Int32) &&& 31).toUInt32).toInt32) &&& (255 : Int32)).toUInt32.toUInt16.toUInt32.toInt32)), .val (.int ((((p1.toUInt32 >>> ((16 : Int32) &&& 31).toUInt32).toInt32) &&& (255 : Int32)) % (3 : Int32))), .val (.int ((p2 &&& (255 : Int32)).toUInt32.toUInt16.toUInt32.toInt32)), .unset, .unset, .unset, .unset, .unset, .unset, .unset, .unset, .unset, .unset, .unset] [(.int ((p2.toUInt32 >>> ((8 : Int32) &&& 31).toUInt32).toInt32))]))
  refine own_Go.st (fun _ k => XS.sipush X0.here hx rfl (hb hby at_42) k) ?_
  show own_Go _ _ _ _ (s₁.setTop (mkF m 45 #[.val (.int p1), .val (.int p2), .val (.int p3), .val (.int ((p1 &&& (255 : Int32)).toUInt32.toUInt16.toUInt32.toInt32)), .val (.int ((((p1.toUInt32 >>> ((8 : Int32) &&& 31).toUInt32).toInt32) &&& (255 : Int32)).toUInt32.toUInt16.toUInt32.toInt32)), .val (.int ((((p1.toUInt32 >>> ((16 : Int32) &&& 31).toUInt32).toInt32) &&& (255 : Int32)) % (3 : Int32))), .val (.int ((p2 &&& (255 : Int32)).toUInt32.toUInt16.toUInt32.toInt32)), .unset, .unset, .unset, .unset, .unset, .unset, .unset, .unset, .unset, .unset, .unset] [(.int (255 : Int32)), (.int ((p2.toUInt32 >>> ((8 : Int32) &&& 31).toUInt32).toInt32))]))
  refine own_Go.st (fun _ k => XS.iand X0.here hx rfl (hb hby at_45) rfl k) ?_
  show own_Go _ _ _ _ (s₁.setTop (mkF m 46 #[.val (.int p1), .val (.int p2), .val (.int p3), .val (.int ((p1 &&& (255 : Int32)).toUInt32.toUInt16.toUInt32.toInt32)), .val (.int ((((p1.toUInt32 >>> ((8 : Int32) &&& 31).toUInt32).toInt32) &&& (255 : Int32)).toUInt32.toUInt16.toUInt32.toInt32)), .val (.int ((((p1.toUInt32 >>> ((16 : Int32) &&& 31).toUInt32).toInt32) &&& (255 : Int32)) % (3 : Int32))), .val (.int ((p2 &&& (255 : Int32)).toUInt32.toUInt16.toUInt32.toInt32)), .unset, .unset, .unset, .unset, .unset, .unset, .unset, .unset, .unset, .unset, .unset] [(.int (((p2.toUInt32 >>> ((8 : Int32) &&& 31).toUInt32).toInt32) &&& (255 : Int32)))]))
  refine own_Go.st (fun _ k => XS.i2c X0.here hx rfl (hb hby at_46) rfl k) ?_
  show own_Go _ _ _ _ (s₁.setTop (mkF m 47 #[.val (.int p1), .val (.int p2), .val (.int p3), .val (.int ((p1 &&& (255 : Int32)).toUInt32.toUInt16.toUInt32.toInt32)), .val (.int ((((p1.toUInt32 >>> ((8 : Int32) &&& 31).toUInt32).toInt32) &&& (255 : Int32)).toUInt32.toUInt16.toUInt32.toInt32)), .val (.int ((((p1.toUInt32 >>> ((16 : Int32) &&& 31).toUInt32).toInt32) &&& (255 : Int32)) % (3 : Int32))), .val (.int ((p2 &&& (255 : Int32)).toUInt32.toUInt16.toUInt32.toInt32)), .unset, .unset, .unset, .unset, .unset, .unset, .unset, .unset, .unset, .unset, .unset] [(.int ((((p2.toUInt32 >>> ((8 : Int32) &&& 31).toUInt32).toInt32) &&& (255 : Int32)).toUInt32.toUInt16.toUInt32.toInt32))]))
  refine own_Go.st (fun _ k => XS.istore X0.here hx rfl (hb hby at_47) rfl (l' := #[.val (.int p1), .val (.int p2), .val (.int p3), .val (.int ((p1 &&& (255 : Int32)).toUInt32.toUInt16.toUInt32.toInt32)), .val (.int ((((p1.toUInt32 >>> ((8 : Int32) &&& 31).toUInt32).toInt32) &&& (255 : Int32)).toUInt32.toUInt16.toUInt32.toInt32)), .val (.int ((((p1.toUInt32 >>> ((16 : Int32) &&& 31).toUInt32).toInt32) &&& (255 : Int32)) % (3 : Int32))), .val (.int ((p2 &&& (255 : Int32)).toUInt32.toUInt16.toUInt32.toInt32)), .val (.int ((((p2.toUInt32 >>> ((8 : Int32) &&& 31).toUInt32).toInt32) &&& (255 : Int32)).toUInt32.toUInt16.toUInt32.toInt32)), .unset, .unset, .unset, .unset, .unset, .unset, .unset, .unset, .unset, .unset]) rfl k) ?_
  show own_Go _ _ _ _ (s₁.setTop (mkF m 49 #[.val (.int p1), .val (.int p2), .val (.int p3), .val (.int ((p1 &&& (255 : Int32)).toUInt32.toUInt16.toUInt32.toInt32)), .val (.int ((((p1.toUInt32 >>> ((8 : Int32) &&& 31).toUInt32).toInt32) &&& (255 : Int32)).toUInt32.toUInt16.toUInt32.toInt32)), .val (.int ((((p1.toUInt32 >>> ((16 : Int32) &&& 31).toUInt32).toInt32) &&& (255 : Int32)) % (3 : Int32))), .val (.int ((p2 &&& (255 : Int32)).toUInt32.toUInt16.toUInt32.toInt32)), .val (.int ((((p2.toUInt32 >>> ((8 : Int32) &&& 31).toUInt32).toInt32) &&& (255 : Int32)).toUInt32.toUInt16.toUInt32.toInt32)), .unset, .unset, .unset, .unset, .unset, .unset, .unset, .unset, .unset, .unset] []))
  refine own_Go.st (fun _ k => XS.iloadN X0.here hx rfl (hb hby at_49) rfl k) ?_
  show own_Go _ _ _ _ (s₁.setTop (mkF m 50 #[.val (.int p1), .val (.int p2), .val (.int p3), .val (.int ((p1 &&& (255 : Int32)).toUInt32.toUInt16.toUInt32.toInt32)), .val (.int ((((p1.toUInt32 >>> ((8 : Int32) &&& 31).toUInt32).toInt32) &&& (255 : Int32)).toUInt32.toUInt16.toUInt32.toInt32)), .val (.int ((((p1.toUInt32 >>> ((16 : Int32) &&& 31).toUInt32).toInt32) &&& (255 : Int32)) % (3 : Int32))), .val (.int ((p2 &&& (255 : Int32)).toUInt32.toUInt16.toUInt32.toInt32)), .val (.int ((((p2.toUInt32 >>> ((8 : Int32) &&& 31).toUInt32).toInt32) &&& (255 : Int32)).toUInt32.toUInt16.toUInt32.toInt32)), .unset, .unset, .unset, .unset, .unset, .unset, .unset, .unset, .unset, .unset] [(.int p2)]))
  refine own_Go.st (fun _ k => XS.bipush X0.here hx rfl (hb hby at_50) k) ?_
  show own_Go _ _ _ _ (s₁.setTop (mkF m 52 #[.val (.int p1), .val (.int p2), .val (.int p3), .val (.int ((p1 &&& (255 : Int32)).toUInt32.toUInt16.toUInt32.toInt32)), .val (.int ((((p1.toUInt32 >>> ((8 : Int32) &&& 31).toUInt32).toInt32) &&& (255 : Int32)).toUInt32.toUInt16.toUInt32.toInt32)), .val (.int ((((p1.toUInt32 >>> ((16 : Int32) &&& 31).toUInt32).toInt32) &&& (255 : Int32)) % (3 : Int32))), .val (.int ((p2 &&& (255 : Int32)).toUInt32.toUInt16.toUInt32.toInt32)), .val (.int ((((p2.toUInt32 >>> ((8 : Int32) &&& 31).toUInt32).toInt32) &&& (255 : Int32)).toUInt32.toUInt16.toUInt32.toInt32)), .unset, .unset, .unset, .unset, .unset, .unset, .unset, .unset, .unset, .unset] [(.int (16 : Int32)), (.int p2)]))
  refine own_Go.st (fun _ k => XS.iushr X0.here hx rfl (hb hby at_52) rfl k) ?_
  show own_Go _ _ _ _ (s₁.setTop (mkF m 53 #[.val (.int p1), .val (.int p2), .val (.int p3), .val (.int ((p1 &&& (255 : Int32)).toUInt32.toUInt16.toUInt32.toInt32)), .val (.int ((((p1.toUInt32 >>> ((8 : Int32) &&& 31).toUInt32).toInt32) &&& (255 : Int32)).toUInt32.toUInt16.toUInt32.toInt32)), .val (.int ((((p1.toUInt32 >>> ((16 : Int32) &&& 31).toUInt32).toInt32) &&& (255 : Int32)) % (3 : Int32))), .val (.int ((p2 &&& (255 : Int32)).toUInt32.toUInt16.toUInt32.toInt32)), .val (.int ((((p2.toUInt32 >>> ((8 : Int32) &&& 31).toUInt32).toInt32) &&& (255 : Int32)).toUInt32.toUInt16.toUInt32.toInt32)), .unset, .unset, .unset, .unset, .unset, .unset, .unset, .unset, .unset, .unset] [(.int ((p2.toUInt32 >>> ((16 : Int32) &&& 31).toUInt32).toInt32))]))
  refine own_Go.st (fun _ k => XS.sipush X0.here hx rfl (hb hby at_53) k) ?_
  show own_Go _ _ _ _ (s₁.setTop (mkF m 56 #[.val (.int p1), .val (.int p2), .val (.int p3), .val (.int ((p1 &&& (255 : Int32)).toUInt32.toUInt16.toUInt32.toInt32)), .val (.int ((((p1.toUInt32 >>> ((8 : Int32) &&& 31).toUInt32).toInt32) &&& (255 : Int32)).toUInt32.toUInt16.toUInt32.toInt32)), .val (.int ((((p1.toUInt32 >>> ((16 : Int32) &&& 31).toUInt32).toInt32) &&& (255 : Int32)) % (3 : Int32))), .val (.int ((p2 &&& (255 : Int32)).toUInt32.toUInt16.toUInt32.toInt32)), .val (.int ((((p2.toUInt32 >>> ((8 : Int32) &&& 31).toUInt32).toInt32) &&& (255 : Int32)).toUInt32.toUInt16.toUInt32.toInt32)), .unset, .unset, .unset, .unset, .unset, .unset, .unset, .unset, .unset, .unset] [(.int (255 : Int32)), (.int ((p2.toUInt32 >>> ((16 : Int32) &&& 31).toUInt32).toInt32))]))
  refine own_Go.st (fun _ k => XS.iand X0.here hx rfl (hb hby at_56) rfl k) ?_
  show own_Go _ _ _ _ (s₁.setTop (mkF m 57 #[.val (.int p1), .val (.int p2), .val (.int p3), .val (.int ((p1 &&& (255 : Int32)).toUInt32.toUInt16.toUInt32.toInt32)), .val (.int ((((p1.toUInt32 >>> ((8 : Int32) &&& 31).toUInt32).toInt32) &&& (255 : Int32)).toUInt32.toUInt16.toUInt32.toInt32)), .val (.int ((((p1.toUInt32 >>> ((16 : Int32) &&& 31).toUInt32).toInt32) &&& (255 : Int32)) % (3 : Int32))), .val (.int ((p2 &&& (255 : Int32)).toUInt32.toUInt16.toUInt32.toInt32)), .val (.int ((((p2.toUInt32 >>> ((8 : Int32) &&& 31).toUInt32).toInt32) &&& (255 : Int32)).toUInt32.toUInt16.toUInt32.toInt32)), .unset, .unset, .unset, .unset, .unset, .unset, .unset, .unset, .unset, .unset] [(.int (((p2.toUInt32 >>> ((16 : Int32) &&& 31).toUInt32).toInt32) &&& (255 : Int32)))]))
  refine own_Go.st (fun _ k => XS.iconst X0.here hx rfl (hb hby at_57) k) ?_
  show own_Go _ _ _ _ (s₁.setTop (mkF m 58 #[.val (.int p1), .val (.int p2), .val (.int p3), .val (.int ((p1 &&& (255 : Int32)).toUInt32.toUInt16.toUInt32.toInt32)), .val (.int ((((p1.toUInt32 >>> ((8 : Int32) &&& 31).toUInt32).toInt32) &&& (255 : Int32)).toUInt32.toUInt16.toUInt32.toInt32)), .val (.int ((((p1.toUInt32 >>> ((16 : Int32) &&& 31).toUInt32).toInt32) &&& (255 : Int32)) % (3 : Int32))), .val (.int ((p2 &&& (255 : Int32)).toUInt32.toUInt16.toUInt32.toInt32)), .val (.int ((((p2.toUInt32 >>> ((8 : Int32) &&& 31).toUInt32).toInt32) &&& (255 : Int32)).toUInt32.toUInt16.toUInt32.toInt32)), .unset, .unset, .unset, .unset, .unset, .unset, .unset, .unset, .unset, .unset] [(.int (3 : Int32)), (.int (((p2.toUInt32 >>> ((16 : Int32) &&& 31).toUInt32).toInt32) &&& (255 : Int32)))]))
  refine own_Go.st (fun _ k => iremM (g := (mkF m 58 #[.val (.int p1), .val (.int p2), .val (.int p3), .val (.int ((p1 &&& (255 : Int32)).toUInt32.toUInt16.toUInt32.toInt32)), .val (.int ((((p1.toUInt32 >>> ((8 : Int32) &&& 31).toUInt32).toInt32) &&& (255 : Int32)).toUInt32.toUInt16.toUInt32.toInt32)), .val (.int ((((p1.toUInt32 >>> ((16 : Int32) &&& 31).toUInt32).toInt32) &&& (255 : Int32)) % (3 : Int32))), .val (.int ((p2 &&& (255 : Int32)).toUInt32.toUInt16.toUInt32.toInt32)), .val (.int ((((p2.toUInt32 >>> ((8 : Int32) &&& 31).toUInt32).toInt32) &&& (255 : Int32)).toUInt32.toUInt16.toUInt32.toInt32)), .unset, .unset, .unset, .unset, .unset, .unset, .unset, .unset, .unset, .unset] [(.int (3 : Int32)), (.int (((p2.toUInt32 >>> ((16 : Int32) &&& 31).toUInt32).toInt32) &&& (255 : Int32)))])) X0 hx rfl (hb hby at_58) rfl (by decide) k) ?_
  show own_Go _ _ _ _ (s₁.setTop (mkF m 59 #[.val (.int p1), .val (.int p2), .val (.int p3), .val (.int ((p1 &&& (255 : Int32)).toUInt32.toUInt16.toUInt32.toInt32)), .val (.int ((((p1.toUInt32 >>> ((8 : Int32) &&& 31).toUInt32).toInt32) &&& (255 : Int32)).toUInt32.toUInt16.toUInt32.toInt32)), .val (.int ((((p1.toUInt32 >>> ((16 : Int32) &&& 31).toUInt32).toInt32) &&& (255 : Int32)) % (3 : Int32))), .val (.int ((p2 &&& (255 : Int32)).toUInt32.toUInt16.toUInt32.toInt32)), .val (.int ((((p2.toUInt32 >>> ((8 : Int32) &&& 31).toUInt32).toInt32) &&& (255 : Int32)).toUInt32.toUInt16.toUInt32.toInt32)), .unset, .unset, .unset, .unset, .unset, .unset, .unset, .unset, .unset, .unset] [(.int ((((p2.toUInt32 >>> ((16 : Int32) &&& 31).toUInt32).toInt32) &&& (255 : Int32)) % (3 : Int32)))]))
  refine own_Go.st (fun _ k => XS.istore X0.here hx rfl (hb hby at_59) rfl (l' := #[.val (.int p1), .val (.int p2), .val (.int p3), .val (.int ((p1 &&& (255 : Int32)).toUInt32.toUInt16.toUInt32.toInt32)), .val (.int ((((p1.toUInt32 >>> ((8 : Int32) &&& 31).toUInt32).toInt32) &&& (255 : Int32)).toUInt32.toUInt16.toUInt32.toInt32)), .val (.int ((((p1.toUInt32 >>> ((16 : Int32) &&& 31).toUInt32).toInt32) &&& (255 : Int32)) % (3 : Int32))), .val (.int ((p2 &&& (255 : Int32)).toUInt32.toUInt16.toUInt32.toInt32)), .val (.int ((((p2.toUInt32 >>> ((8 : Int32) &&& 31).toUInt32).toInt32) &&& (255 : Int32)).toUInt32.toUInt16.toUInt32.toInt32)), .val (.int ((((p2.toUInt32 >>> ((16 : Int32) &&& 31).toUInt32).toInt32) &&& (255 : Int32)) % (3 : Int32))), .unset, .unset, .unset, .unset, .unset, .unset, .unset, .unset, .unset]) rfl k) ?_
  show own_Go _ _ _ _ (s₁.setTop (mkF m 61 #[.val (.int p1), .val (.int p2), .val (.int p3), .val (.int ((p1 &&& (255 : Int32)).toUInt32.toUInt16.toUInt32.toInt32)), .val (.int ((((p1.toUInt32 >>> ((8 : Int32) &&& 31).toUInt32).toInt32) &&& (255 : Int32)).toUInt32.toUInt16.toUInt32.toInt32)), .val (.int ((((p1.toUInt32 >>> ((16 : Int32) &&& 31).toUInt32).toInt32) &&& (255 : Int32)) % (3 : Int32))), .val (.int ((p2 &&& (255 : Int32)).toUInt32.toUInt16.toUInt32.toInt32)), .val (.int ((((p2.toUInt32 >>> ((8 : Int32) &&& 31).toUInt32).toInt32) &&& (255 : Int32)).toUInt32.toUInt16.toUInt32.toInt32)), .val (.int ((((p2.toUInt32 >>> ((16 : Int32) &&& 31).toUInt32).toInt32) &&& (255 : Int32)) % (3 : Int32))), .unset, .unset, .unset, .unset, .unset, .unset, .unset, .unset, .unset] []))
  refine own_Go.st (fun _ k => XS.iloadN X0.here hx rfl (hb hby at_61) rfl k) ?_
  show own_Go _ _ _ _ (s₁.setTop (mkF m 62 #[.val (.int p1), .val (.int p2), .val (.int p3), .val (.int ((p1 &&& (255 : Int32)).toUInt32.toUInt16.toUInt32.toInt32)), .val (.int ((((p1.toUInt32 >>> ((8 : Int32) &&& 31).toUInt32).toInt32) &&& (255 : Int32)).toUInt32.toUInt16.toUInt32.toInt32)), .val (.int ((((p1.toUInt32 >>> ((16 : Int32) &&& 31).toUInt32).toInt32) &&& (255 : Int32)) % (3 : Int32))), .val (.int ((p2 &&& (255 : Int32)).toUInt32.toUInt16.toUInt32.toInt32)), .val (.int ((((p2.toUInt32 >>> ((8 : Int32) &&& 31).toUInt32).toInt32) &&& (255 : Int32)).toUInt32.toUInt16.toUInt32.toInt32)), .val (.int ((((p2.toUInt32 >>> ((16 : Int32) &&& 31).toUInt32).toInt32) &&& (255 : Int32)) % (3 : Int32))), .unset, .unset, .unset, .unset, .unset, .unset, .unset, .unset, .unset] [(.int p3)]))
  refine own_Go.st (fun _ k => XS.sipush X0.here hx rfl (hb hby at_62) k) ?_
  show own_Go _ _ _ _ (s₁.setTop (mkF m 65 #[.val (.int p1), .val (.int p2), .val (.int p3), .val (.int ((p1 &&& (255 : Int32)).toUInt32.toUInt16.toUInt32.toInt32)), .val (.int ((((p1.toUInt32 >>> ((8 : Int32) &&& 31).toUInt32).toInt32) &&& (255 : Int32)).toUInt32.toUInt16.toUInt32.toInt32)), .val (.int ((((p1.toUInt32 >>> ((16 : Int32) &&& 31).toUInt32).toInt32) &&& (255 : Int32)) % (3 : Int32))), .val (.int ((p2 &&& (255 : Int32)).toUInt32.toUInt16.toUInt32.toInt32)), .val (.int ((((p2.toUInt32 >>> ((8 : Int32) &&& 31).toUInt32).toInt32) &&& (255 : Int32)).toUInt32.toUInt16.toUInt32.toInt32)), .val (.int ((((p2.toUInt32 >>> ((16 : Int32) &&& 31).toUInt32).toInt32) &&& (255 : Int32)) % (3 : Int32))), .unset, .unset, .unset, .unset, .unset, .unset, .unset, .unset, .unset] [(.int (255 : Int32)), (.int p3)]))
  refine own_Go.st (fun _ k => XS.iand X0.here hx rfl (hb hby at_65) rfl k) ?_
  show own_Go _ _ _ _ (s₁.setTop (mkF m 66 #[.val (.int p1), .val (.int p2), .val (.int p3), .val (.int ((p1 &&& (255 : Int32)).toUInt32.toUInt16.toUInt32.toInt32)), .val (.int ((((p1.toUInt32 >>> ((8 : Int32) &&& 31).toUInt32).toInt32) &&& (255 : Int32)).toUInt32.toUInt16.toUInt32.toInt32)), .val (.int ((((p1.toUInt32 >>> ((16 : Int32) &&& 31).toUInt32).toInt32) &&& (255 : Int32)) % (3 : Int32))), .val (.int ((p2 &&& (255 : Int32)).toUInt32.toUInt16.toUInt32.toInt32)), .val (.int ((((p2.toUInt32 >>> ((8 : Int32) &&& 31).toUInt32).toInt32) &&& (255 : Int32)).toUInt32.toUInt16.toUInt32.toInt32)), .val (.int ((((p2.toUInt32 >>> ((16 : Int32) &&& 31).toUInt32).toInt32) &&& (255 : Int32)) % (3 : Int32))), .unset, .unset, .unset, .unset, .unset, .unset, .unset, .unset, .unset] [(.int (p3 &&& (255 : Int32)))]))
  refine own_Go.st (fun _ k => XS.i2c X0.here hx rfl (hb hby at_66) rfl k) ?_
  show own_Go _ _ _ _ (s₁.setTop (mkF m 67 #[.val (.int p1), .val (.int p2), .val (.int p3), .val (.int ((p1 &&& (255 : Int32)).toUInt32.toUInt16.toUInt32.toInt32)), .val (.int ((((p1.toUInt32 >>> ((8 : Int32) &&& 31).toUInt32).toInt32) &&& (255 : Int32)).toUInt32.toUInt16.toUInt32.toInt32)), .val (.int ((((p1.toUInt32 >>> ((16 : Int32) &&& 31).toUInt32).toInt32) &&& (255 : Int32)) % (3 : Int32))), .val (.int ((p2 &&& (255 : Int32)).toUInt32.toUInt16.toUInt32.toInt32)), .val (.int ((((p2.toUInt32 >>> ((8 : Int32) &&& 31).toUInt32).toInt32) &&& (255 : Int32)).toUInt32.toUInt16.toUInt32.toInt32)), .val (.int ((((p2.toUInt32 >>> ((16 : Int32) &&& 31).toUInt32).toInt32) &&& (255 : Int32)) % (3 : Int32))), .unset, .unset, .unset, .unset, .unset, .unset, .unset, .unset, .unset] [(.int ((p3 &&& (255 : Int32)).toUInt32.toUInt16.toUInt32.toInt32))]))
  refine own_Go.st (fun _ k => XS.istore X0.here hx rfl (hb hby at_67) rfl (l' := #[.val (.int p1), .val (.int p2), .val (.int p3), .val (.int ((p1 &&& (255 : Int32)).toUInt32.toUInt16.toUInt32.toInt32)), .val (.int ((((p1.toUInt32 >>> ((8 : Int32) &&& 31).toUInt32).toInt32) &&& (255 : Int32)).toUInt32.toUInt16.toUInt32.toInt32)), .val (.int ((((p1.toUInt32 >>> ((16 : Int32) &&& 31).toUInt32).toInt32) &&& (255 : Int32)) % (3 : Int32))), .val (.int ((p2 &&& (255 : Int32)).toUInt32.toUInt16.toUInt32.toInt32)), .val (.int ((((p2.toUInt32 >>> ((8 : Int32) &&& 31).toUInt32).toInt32) &&& (255 : Int32)).toUInt32.toUInt16.toUInt32.toInt32)), .val (.int ((((p2.toUInt32 >>> ((16 : Int32) &&& 31).toUInt32).toInt32) &&& (255 : Int32)) % (3 : Int32))), .val (.int ((p3 &&& (255 : Int32)).toUInt32.toUInt16.toUInt32.toInt32)), .unset, .unset, .unset, .unset, .unset, .unset, .unset, .unset]) rfl k) ?_
  show own_Go _ _ _ _ (s₁.setTop (mkF m 69 #[.val (.int p1), .val (.int p2), .val (.int p3), .val (.int ((p1 &&& (255 : Int32)).toUInt32.toUInt16.toUInt32.toInt32)), .val (.int ((((p1.toUInt32 >>> ((8 : Int32) &&& 31).toUInt32).toInt32) &&& (255 : Int32)).toUInt32.toUInt16.toUInt32.toInt32)), .val (.int ((((p1.toUInt32 >>> ((16 : Int32) &&& 31).toUInt32).toInt32) &&& (255 : Int32)) % (3 : Int32))), .val (.int ((p2 &&& (255 : Int32)).toUInt32.toUInt16.toUInt32.toInt32)), .val (.int ((((p2.toUInt32 >>> ((8 : Int32) &&& 31).toUInt32).toInt32) &&& (255 : Int32)).toUInt32.toUInt16.toUInt32.toInt32)), .val (.int ((((p2.toUInt32 >>> ((16 : Int32) &&& 31).toUInt32).toInt32) &&& (255 : Int32)) % (3 : Int32))), .val (.int ((p3 &&& (255 : Int32)).toUInt32.toUInt16.toUInt32.toInt32)), .unset, .unset, .unset, .unset, .unset, .unset, .unset, .unset] []))
  refine own_Go.st (fun _ k => XS.iloadN X0.here hx rfl (hb hby at_69) rfl k) ?_
  show own_Go _ _ _ _ (s₁.setTop (mkF m 70 #[.val (.int p1), .val (.int p2), .val (.int p3), .val (.int ((p1 &&& (255 : Int32)).toUInt32.toUInt16.toUInt32.toInt32)), .val (.int ((((p1.toUInt32 >>> ((8 : Int32) &&& 31).toUInt32).toInt32) &&& (255 : Int32)).toUInt32.toUInt16.toUInt32.toInt32)), .val (.int ((((p1.toUInt32 >>> ((16 : Int32) &&& 31).toUInt32).toInt32) &&& (255 : Int32)) % (3 : Int32))), .val (.int ((p2 &&& (255 : Int32)).toUInt32.toUInt16.toUInt32.toInt32)), .val (.int ((((p2.toUInt32 >>> ((8 : Int32) &&& 31).toUInt32).toInt32) &&& (255 : Int32)).toUInt32.toUInt16.toUInt32.toInt32)), .val (.int ((((p2.toUInt32 >>> ((16 : Int32) &&& 31).toUInt32).toInt32) &&& (255 : Int32)) % (3 : Int32))), .val (.int ((p3 &&& (255 : Int32)).toUInt32.toUInt16.toUInt32.toInt32)), .unset, .unset, .unset, .unset, .unset, .unset, .unset, .unset] [(.int p3)]))
  refine own_Go.st (fun _ k => XS.bipush X0.here hx rfl (hb hby at_70) k) ?_
  show own_Go _ _ _ _ (s₁.setTop (mkF m 72 #[.val (.int p1), .val (.int p2), .val (.int p3), .val (.int ((p1 &&& (255 : Int32)).toUInt32.toUInt16.toUInt32.toInt32)), .val (.int ((((p1.toUInt32 >>> ((8 : Int32) &&& 31).toUInt32).toInt32) &&& (255 : Int32)).toUInt32.toUInt16.toUInt32.toInt32)), .val (.int ((((p1.toUInt32 >>> ((16 : Int32) &&& 31).toUInt32).toInt32) &&& (255 : Int32)) % (3 : Int32))), .val (.int ((p2 &&& (255 : Int32)).toUInt32.toUInt16.toUInt32.toInt32)), .val (.int ((((p2.toUInt32 >>> ((8 : Int32) &&& 31).toUInt32).toInt32) &&& (255 : Int32)).toUInt32.toUInt16.toUInt32.toInt32)), .val (.int ((((p2.toUInt32 >>> ((16 : Int32) &&& 31).toUInt32).toInt32) &&& (255 : Int32)) % (3 : Int32))), .val (.int ((p3 &&& (255 : Int32)).toUInt32.toUInt16.toUInt32.toInt32)), .unset, .unset, .unset, .unset, .unset, .unset, .unset, .unset] [(.int (8 : Int32)), (.int p3)]))
  refine own_Go.st (fun _ k => XS.iushr X0.here hx rfl (hb hby at_72) rfl k) ?_
  show own_Go _ _ _ _ (s₁.setTop (mkF m 73 #[.val (.int p1), .val (.int p2), .val (.int p3), .val (.int ((p1 &&& (255 : Int32)).toUInt32.toUInt16.toUInt32.toInt32)), .val (.int ((((p1.toUInt32 >>> ((8 : Int32) &&& 31).toUInt32).toInt32) &&& (255 : Int32)).toUInt32.toUInt16.toUInt32.toInt32)), .val (.int ((((p1.toUInt32 >>> ((16 : Int32) &&& 31).toUInt32).toInt32) &&& (255 : Int32)) % (3 : Int32))), .val (.int ((p2 &&& (255 : Int32)).toUInt32.toUInt16.toUInt32.toInt32)), .val (.int ((((p2.toUInt32 >>> ((8 : Int32) &&& 31).toUInt32).toInt32) &&& (255 : Int32)).toUInt32.toUInt16.toUInt32.toInt32)), .val (.int ((((p2.toUInt32 >>> ((16 : Int32) &&& 31).toUInt32).toInt32) &&& (255 : Int32)) % (3 : Int32))), .val (.int ((p3 &&& (255 : Int32)).toUInt32.toUInt16.toUInt32.toInt32)), .unset, .unset, .unset, .unset, .unset, .unset, .unset, .unset] [(.int ((p3.toUInt32 >>> ((8 : Int32) &&& 31).toUInt32).toInt32))]))
  refine own_Go.st (fun _ k => XS.sipush X0.here hx rfl (hb hby at_73) k) ?_
  show own_Go _ _ _ _ (s₁.setTop (mkF m 76 #[.val (.int p1), .val (.int p2), .val (.int p3), .val (.int ((p1 &&& (255 : Int32)).toUInt32.toUInt16.toUInt32.toInt32)), .val (.int ((((p1.toUInt32 >>> ((8 : Int32) &&& 31).toUInt32).toInt32) &&& (255 : Int32)).toUInt32.toUInt16.toUInt32.toInt32)), .val (.int ((((p1.toUInt32 >>> ((16 : Int32) &&& 31).toUInt32).toInt32) &&& (255 : Int32)) % (3 : Int32))), .val (.int ((p2 &&& (255 : Int32)).toUInt32.toUInt16.toUInt32.toInt32)), .val (.int ((((p2.toUInt32 >>> ((8 : Int32) &&& 31).toUInt32).toInt32) &&& (255 : Int32)).toUInt32.toUInt16.toUInt32.toInt32)), .val (.int ((((p2.toUInt32 >>> ((16 : Int32) &&& 31).toUInt32).toInt32) &&& (255 : Int32)) % (3 : Int32))), .val (.int ((p3 &&& (255 : Int32)).toUInt32.toUInt16.toUInt32.toInt32)), .unset, .unset, .unset, .unset, .unset, .unset, .unset, .unset] [(.int (255 : Int32)), (.int ((p3.toUInt32 >>> ((8 : Int32) &&& 31).toUInt32).toInt32))]))
  refine own_Go.st (fun _ k => XS.iand X0.here hx rfl (hb hby at_76) rfl k) ?_
  show own_Go _ _ _ _ (s₁.setTop (mkF m 77 #[.val (.int p1), .val (.int p2), .val (.int p3), .val (.int ((p1 &&& (255 : Int32)).toUInt32.toUInt16.toUInt32.toInt32)), .val (.int ((((p1.toUInt32 >>> ((8 : Int32) &&& 31).toUInt32).toInt32) &&& (255 : Int32)).toUInt32.toUInt16.toUInt32.toInt32)), .val (.int ((((p1.toUInt32 >>> ((16 : Int32) &&& 31).toUInt32).toInt32) &&& (255 : Int32)) % (3 : Int32))), .val (.int ((p2 &&& (255 : Int32)).toUInt32.toUInt16.toUInt32.toInt32)), .val (.int ((((p2.toUInt32 >>> ((8 : Int32) &&& 31).toUInt32).toInt32) &&& (255 : Int32)).toUInt32.toUInt16.toUInt32.toInt32)), .val (.int ((((p2.toUInt32 >>> ((16 : Int32) &&& 31).toUInt32).toInt32) &&& (255 : Int32)) % (3 : Int32))), .val (.int ((p3 &&& (255 : Int32)).toUInt32.toUInt16.toUInt32.toInt32)), .unset, .unset, .unset, .unset, .unset, .unset, .unset, .unset] [(.int (((p3.toUInt32 >>> ((8 : Int32) &&& 31).toUInt32).toInt32) &&& (255 : Int32)))]))
  refine own_Go.st (fun _ k => XS.i2c X0.here hx rfl (hb hby at_77) rfl k) ?_
  show own_Go _ _ _ _ (s₁.setTop (mkF m 78 #[.val (.int p1), .val (.int p2), .val (.int p3), .val (.int ((p1 &&& (255 : Int32)).toUInt32.toUInt16.toUInt32.toInt32)), .val (.int ((((p1.toUInt32 >>> ((8 : Int32) &&& 31).toUInt32).toInt32) &&& (255 : Int32)).toUInt32.toUInt16.toUInt32.toInt32)), .val (.int ((((p1.toUInt32 >>> ((16 : Int32) &&& 31).toUInt32).toInt32) &&& (255 : Int32)) % (3 : Int32))), .val (.int ((p2 &&& (255 : Int32)).toUInt32.toUInt16.toUInt32.toInt32)), .val (.int ((((p2.toUInt32 >>> ((8 : Int32) &&& 31).toUInt32).toInt32) &&& (255 : Int32)).toUInt32.toUInt16.toUInt32.toInt32)), .val (.int ((((p2.toUInt32 >>> ((16 : Int32) &&& 31).toUInt32).toInt32) &&& (255 : Int32)) % (3 : Int32))), .val (.int ((p3 &&& (255 : Int32)).toUInt32.toUInt16.toUInt32.toInt32)), .unset, .unset, .unset, .unset, .unset, .unset, .unset, .unset] [(.int ((((p3.toUInt32 >>> ((8 : Int32) &&& 31).toUInt32).toInt32) &&& (255 : Int32)).toUInt32.toUInt16.toUInt32.toInt32))]))
  refine own_Go.st (fun _ k => XS.istore X0.here hx rfl (hb hby at_78) rfl (l' := #[.val (.int p1), .val (.int p2), .val (.int p3), .val (.int ((p1 &&& (255 : Int32)).toUInt32.toUInt16.toUInt32.toInt32)), .val (.int ((((p1.toUInt32 >>> ((8 : Int32) &&& 31).toUInt32).toInt32) &&& (255 : Int32)).toUInt32.toUInt16.toUInt32.toInt32)), .val (.int ((((p1.toUInt32 >>> ((16 : Int32) &&& 31).toUInt32).toInt32) &&& (255 : Int32)) % (3 : Int32))), .val (.int ((p2 &&& (255 : Int32)).toUInt32.toUInt16.toUInt32.toInt32)), .val (.int ((((p2.toUInt32 >>> ((8 : Int32) &&& 31).toUInt32).toInt32) &&& (255 : Int32)).toUInt32.toUInt16.toUInt32.toInt32)), .val (.int ((((p2.toUInt32 >>> ((16 : Int32) &&& 31).toUInt32).toInt32) &&& (255 : Int32)) % (3 : Int32))), .val (.int ((p3 &&& (255 : Int32)).toUInt32.toUInt16.toUInt32.toInt32)), .val (.int ((((p3.toUInt32 >>> ((8 : Int32) &&& 31).toUInt32).toInt32) &&& (255 : Int32)).toUInt32.toUInt16.toUInt32.toInt32)), .unset, .unset, .unset, .unset, .unset, .unset, .unset]) rfl k) ?_
  show own_Go _ _ _ _ (s₁.setTop (mkF m 80 #[.val (.int p1), .val (.int p2), .val (.int p3), .val (.int ((p1 &&& (255 : Int32)).toUInt32.toUInt16.toUInt32.toInt32)), .val (.int ((((p1.toUInt32 >>> ((8 : Int32) &&& 31).toUInt32).toInt32) &&& (255 : Int32)).toUInt32.toUInt16.toUInt32.toInt32)), .val (.int ((((p1.toUInt32 >>> ((16 : Int32) &&& 31).toUInt32).toInt32) &&& (255 : Int32)) % (3 : Int32))), .val (.int ((p2 &&& (255 : Int32)).toUInt32.toUInt16.toUInt32.toInt32)), .val (.int ((((p2.toUInt32 >>> ((8 : Int32) &&& 31).toUInt32).toInt32) &&& (255 : Int32)).toUInt32.toUInt16.toUInt32.toInt32)), .val (.int ((((p2.toUInt32 >>> ((16 : Int32) &&& 31).toUInt32).toInt32) &&& (255 : Int32)) % (3 : Int32))), .val (.int ((p3 &&& (255 : Int32)).toUInt32.toUInt16.toUInt32.toInt32)), .val (.int ((((p3.toUInt32 >>> ((8 : Int32) &&& 31).toUInt32).toInt32) &&& (255 : Int32)).toUInt32.toUInt16.toUInt32.toInt32)), .unset, .unset, .unset, .unset, .unset, .unset, .unset] []))
  refine own_Go.st (fun _ k => XS.iloadN X0.here hx rfl (hb hby at_80) rfl k) ?_
  show own_Go _ _ _ _ (s₁.setTop (mkF m 81 #[.val (.int p1), .val (.int p2), .val (.int p3), .val (.int ((p1 &&& (255 : Int32)).toUInt32.toUInt16.toUInt32.toInt32)), .val (.int ((((p1.toUInt32 >>> ((8 : Int32) &&& 31).toUInt32).toInt32) &&& (255 : Int32)).toUInt32.toUInt16.toUInt32.toInt32)), .val (.int ((((p1.toUInt32 >>> ((16 : Int32) &&& 31).toUInt32).toInt32) &&& (255 : Int32)) % (3 : Int32))), .val (.int ((p2 &&& (255 : Int32)).toUInt32.toUInt16.toUInt32.toInt32)), .val (.int ((((p2.toUInt32 >>> ((8 : Int32) &&& 31).toUInt32).toInt32) &&& (255 : Int32)).toUInt32.toUInt16.toUInt32.toInt32)), .val (.int ((((p2.toUInt32 >>> ((16 : Int32) &&& 31).toUInt32).toInt32) &&& (255 : Int32)) % (3 : Int32))), .val (.int ((p3 &&& (255 : Int32)).toUInt32.toUInt16.toUInt32.toInt32)), .val (.int ((((p3.toUInt32 >>> ((8 : Int32) &&& 31).toUInt32).toInt32) &&& (255 : Int32)).toUInt32.toUInt16.toUInt32.toInt32)), .unset, .unset, .unset, .unset, .unset, .unset, .unset] [(.int p3)]))
  refine own_Go.st (fun _ k => XS.bipush X0.here hx rfl (hb hby at_81) k) ?_
  show own_Go _ _ _ _ (s₁.setTop (mkF m 83 #[.val (.int p1), .val (.int p2), .val (.int p3), .val (.int ((p1 &&& (255 : Int32)).toUInt32.toUInt16.toUInt32.toInt32)), .val (.int ((((p1.toUInt32 >>> ((8 : Int32) &&& 31).toUInt32).toInt32) &&& (255 : Int32)).toUInt32.toUInt16.toUInt32.toInt32)), .val (.int ((((p1.toUInt32 >>> ((16 : Int32) &&& 31).toUInt32).toInt32) &&& (255 : Int32)) % (3 : Int32))), .val (.int ((p2 &&& (255 : Int32)).toUInt32.toUInt16.toUInt32.toInt32)), .val (.int ((((p2.toUInt32 >>> ((8 : Int32) &&& 31).toUInt32).toInt32) &&& (255 : Int32)).toUInt32.toUInt16.toUInt32.toInt32)), .val (.int ((((p2.toUInt32 >>> ((16 : Int32) &&& 31).toUInt32).toInt32) &&& (255 : Int32)) % (3 : Int32))), .val (.int ((p3 &&& (255 : Int32)).toUInt32.toUInt16.toUInt32.toInt32)), .val (.int ((((p3.toUInt32 >>> ((8 : Int32) &&& 31).toUInt32).toInt32) &&& (255 : Int32)).toUInt32.toUInt16.toUInt32.toInt32)), .unset, .unset, .unset, .unset, .unset, .unset, .unset] [(.int (16 : Int32)), (.int p3)]))
  refine own_Go.st (fun _ k => XS.iushr X0.here hx rfl (hb hby at_83) rfl k) ?_
  show own_Go _ _ _ _ (s₁.setTop (mkF m 84 #[.val (.int p1), .val (.int p2), .val (.int p3), .val (.int ((p1 &&& (255 : Int32)).toUInt32.toUInt16.toUInt32.toInt32)), .val (.int ((((p1.toUInt32 >>> ((8 : Int32) &&& 31).toUInt32).toInt32) &&& (255 : Int32)).toUInt32.toUInt16.toUInt32.toInt32)), .val (.int ((((p1.toUInt32 >>> ((16 : Int32) &&& 31).toUInt32).toInt32) &&& (255 : Int32)) % (3 : Int32))), .val (.int ((p2 &&& (255 : Int32)).toUInt32.toUInt16.toUInt32.toInt32)), .val (.int ((((p2.toUInt32 >>> ((8 : Int32) &&& 31).toUInt32).toInt32) &&& (255 : Int32)).toUInt32.toUInt16.toUInt32.toInt32)), .val (.int ((((p2.toUInt32 >>> ((16 : Int32) &&& 31).toUInt32).toInt32) &&& (255 : Int32)) % (3 : Int32))), .val (.int ((p3 &&& (255 : Int32)).toUInt32.toUInt16.toUInt32.toInt32)), .val (.int ((((p3.toUInt32 >>> ((8 : Int32) &&& 31).toUInt32).toInt32) &&& (255 : Int32)).toUInt32.toUInt16.toUInt32.toInt32)), .unset, .unset, .unset, .unset, .unset, .unset, .unset] [(.int ((p3.toUInt32 >>> ((16 : Int32) &&& 31).toUInt32).toInt32))]))
  refine own_Go.st (fun _ k => XS.sipush X0.here hx rfl (hb hby at_84) k) ?_
  show own_Go _ _ _ _ (s₁.setTop (mkF m 87 #[.val (.int p1), .val (.int p2), .val (.int p3), .val (.int ((p1 &&& (255 : Int32)).toUInt32.toUInt16.toUInt32.toInt32)), .val (.int ((((p1.toUInt32 >>> ((8 : Int32) &&& 31).toUInt32).toInt32) &&& (255 : Int32)).toUInt32.toUInt16.toUInt32.toInt32)), .val (.int ((((p1.toUInt32 >>> ((16 : Int32) &&& 31).toUInt32).toInt32) &&& (255 : Int32)) % (3 : Int32))), .val (.int ((p2 &&& (255 : Int32)).toUInt32.toUInt16.toUInt32.toInt32)), .val (.int ((((p2.toUInt32 >>> ((8 : Int32) &&& 31).toUInt32).toInt32) &&& (255 : Int32)).toUInt32.toUInt16.toUInt32.toInt32)), .val (.int ((((p2.toUInt32 >>> ((16 : Int32) &&& 31).toUInt32).toInt32) &&& (255 : Int32)) % (3 : Int32))), .val (.int ((p3 &&& (255 : Int32)).toUInt32.toUInt16.toUInt32.toInt32)), .val (.int ((((p3.toUInt32 >>> ((8 : Int32) &&& 31).toUInt32).toInt32) &&& (255 : Int32)).toUInt32.toUInt16.toUInt32.toInt32)), .unset, .unset, .unset, .unset, .unset, .unset, .unset] [(.int (255 : Int32)), (.int ((p3.toUInt32 >>> ((16 : Int32) &&& 31).toUInt32).toInt32))]))
  refine own_Go.st (fun _ k => XS.iand X0.here hx rfl (hb hby at_87) rfl k) ?_
  show own_Go _ _ _ _ (s₁.setTop (mkF m 88 #[.val (.int p1), .val (.int p2), .val (.int p3), .val (.int ((p1 &&& (255 : Int32)).toUInt32.toUInt16.toUInt32.toInt32)), .val (.int ((((p1.toUInt32 >>> ((8 : Int32) &&& 31).toUInt32).toInt32) &&& (255 : Int32)).toUInt32.toUInt16.toUInt32.toInt32)), .val (.int ((((p1.toUInt32 >>> ((16 : Int32) &&& 31).toUInt32).toInt32) &&& (255 : Int32)) % (3 : Int32))), .val (.int ((p2 &&& (255 : Int32)).toUInt32.toUInt16.toUInt32.toInt32)), .val (.int ((((p2.toUInt32 >>> ((8 : Int32) &&& 31).toUInt32).toInt32) &&& (255 : Int32)).toUInt32.toUInt16.toUInt32.toInt32)), .val (.int ((((p2.toUInt32 >>> ((16 : Int32) &&& 31).toUInt32).toInt32) &&& (255 : Int32)) % (3 : Int32))), .val (.int ((p3 &&& (255 : Int32)).toUInt32.toUInt16.toUInt32.toInt32)), .val (.int ((((p3.toUInt32 >>> ((8 : Int32) &&& 31).toUInt32).toInt32) &&& (255 : Int32)).toUInt32.toUInt16.toUInt32.toInt32)), .unset, .unset, .unset, .unset, .unset, .unset, .unset] [(.int (((p3.toUInt32 >>> ((16 : Int32) &&& 31).toUInt32).toInt32) &&& (255 : Int32)))]))
  refine own_Go.st (fun _ k => XS.iconst X0.here hx rfl (hb hby at_88) k) ?_
  show own_Go _ _ _ _ (s₁.setTop (mkF m 89 #[.val (.int p1), .val (.int p2), .val (.int p3), .val (.int ((p1 &&& (255 : Int32)).toUInt32.toUInt16.toUInt32.toInt32)), .val (.int ((((p1.toUInt32 >>> ((8 : Int32) &&& 31).toUInt32).toInt32) &&& (255 : Int32)).toUInt32.toUInt16.toUInt32.toInt32)), .val (.int ((((p1.toUInt32 >>> ((16 : Int32) &&& 31).toUInt32).toInt32) &&& (255 : Int32)) % (3 : Int32))), .val (.int ((p2 &&& (255 : Int32)).toUInt32.toUInt16.toUInt32.toInt32)), .val (.int ((((p2.toUInt32 >>> ((8 : Int32) &&& 31).toUInt32).toInt32) &&& (255 : Int32)).toUInt32.toUInt16.toUInt32.toInt32)), .val (.int ((((p2.toUInt32 >>> ((16 : Int32) &&& 31).toUInt32).toInt32) &&& (255 : Int32)) % (3 : Int32))), .val (.int ((p3 &&& (255 : Int32)).toUInt32.toUInt16.toUInt32.toInt32)), .val (.int ((((p3.toUInt32 >>> ((8 : Int32) &&& 31).toUInt32).toInt32) &&& (255 : Int32)).toUInt32.toUInt16.toUInt32.toInt32)), .unset, .unset, .unset, .unset, .unset, .unset, .unset] [(.int (3 : Int32)), (.int (((p3.toUInt32 >>> ((16 : Int32) &&& 31).toUInt32).toInt32) &&& (255 : Int32)))]))
  refine own_Go.st (fun _ k => iremM (g := (mkF m 89 #[.val (.int p1), .val (.int p2), .val (.int p3), .val (.int ((p1 &&& (255 : Int32)).toUInt32.toUInt16.toUInt32.toInt32)), .val (.int ((((p1.toUInt32 >>> ((8 : Int32) &&& 31).toUInt32).toInt32) &&& (255 : Int32)).toUInt32.toUInt16.toUInt32.toInt32)), .val (.int ((((p1.toUInt32 >>> ((16 : Int32) &&& 31).toUInt32).toInt32) &&& (255 : Int32)) % (3 : Int32))), .val (.int ((p2 &&& (255 : Int32)).toUInt32.toUInt16.toUInt32.toInt32)), .val (.int ((((p2.toUInt32 >>> ((8 : Int32) &&& 31).toUInt32).toInt32) &&& (255 : Int32)).toUInt32.toUInt16.toUInt32.toInt32)), .val (.int ((((p2.toUInt32 >>> ((16 : Int32) &&& 31).toUInt32).toInt32) &&& (255 : Int32)) % (3 : Int32))), .val (.int ((p3 &&& (255 : Int32)).toUInt32.toUInt16.toUInt32.toInt32)), .val (.int ((((p3.toUInt32 >>> ((8 : Int32) &&& 31).toUInt32).toInt32) &&& (255 : Int32)).toUInt32.toUInt16.toUInt32.toInt32)), .unset, .unset, .unset, .unset, .unset, .unset, .unset] [(.int (3 : Int32)), (.int (((p3.toUInt32 >>> ((16 : Int32) &&& 31).toUInt32).toInt32) &&& (255 : Int32)))])) X0 hx rfl (hb hby at_89) rfl (by decide) k) ?_
  show own_Go _ _ _ _ (s₁.setTop (mkF m 90 #[.val (.int p1), .val (.int p2), .val (.int p3), .val (.int ((p1 &&& (255 : Int32)).toUInt32.toUInt16.toUInt32.toInt32)), .val (.int ((((p1.toUInt32 >>> ((8 : Int32) &&& 31).toUInt32).toInt32) &&& (255 : Int32)).toUInt32.toUInt16.toUInt32.toInt32)), .val (.int ((((p1.toUInt32 >>> ((16 : Int32) &&& 31).toUInt32).toInt32) &&& (255 : Int32)) % (3 : Int32))), .val (.int ((p2 &&& (255 : Int32)).toUInt32.toUInt16.toUInt32.toInt32)), .val (.int ((((p2.toUInt32 >>> ((8 : Int32) &&& 31).toUInt32).toInt32) &&& (255 : Int32)).toUInt32.toUInt16.toUInt32.toInt32)), .val (.int ((((p2.toUInt32 >>> ((16 : Int32) &&& 31).toUInt32).toInt32) &&& (255 : Int32)) % (3 : Int32))), .val (.int ((p3 &&& (255 : Int32)).toUInt32.toUInt16.toUInt32.toInt32)), .val (.int ((((p3.toUInt32 >>> ((8 : Int32) &&& 31).toUInt32).toInt32) &&& (255 : Int32)).toUInt32.toUInt16.toUInt32.toInt32)), .unset, .unset, .unset, .unset, .unset, .unset, .unset] [(.int ((((p3.toUInt32 >>> ((16 : Int32) &&& 31).toUInt32).toInt32) &&& (255 : Int32)) % (3 : Int32)))]))
  refine own_Go.st (fun _ k => XS.istore X0.here hx rfl (hb hby at_90) rfl (l' := #[.val (.int p1), .val (.int p2), .val (.int p3), .val (.int ((p1 &&& (255 : Int32)).toUInt32.toUInt16.toUInt32.toInt32)), .val (.int ((((p1.toUInt32 >>> ((8 : Int32) &&& 31).toUInt32).toInt32) &&& (255 : Int32)).toUInt32.toUInt16.toUInt32.toInt32)), .val (.int ((((p1.toUInt32 >>> ((16 : Int32) &&& 31).toUInt32).toInt32) &&& (255 : Int32)) % (3 : Int32))), .val (.int ((p2 &&& (255 : Int32)).toUInt32.toUInt16.toUInt32.toInt32)), .val (.int ((((p2.toUInt32 >>> ((8 : Int32) &&& 31).toUInt32).toInt32) &&& (255 : Int32)).toUInt32.toUInt16.toUInt32.toInt32)), .val (.int ((((p2.toUInt32 >>> ((16 : Int32) &&& 31).toUInt32).toInt32) &&& (255 : Int32)) % (3 : Int32))), .val (.int ((p3 &&& (255 : Int32)).toUInt32.toUInt16.toUInt32.toInt32)), .val (.int ((((p3.toUInt32 >>> ((8 : Int32) &&& 31).toUInt32).toInt32) &&& (255 : Int32)).toUInt32.toUInt16.toUInt32.toInt32)), .val (.int ((((p3.toUInt32 >>> ((16 : Int32) &&& 31).toUInt32).toInt32) &&& (255 : Int32)) % (3 : Int32))), .unset, .unset, .unset, .unset, .unset, .unset]) rfl k) ?_
  show own_Go _ _ _ _ (s₁.setTop (mkF m 92 #[.val (.int p1), .val (.int p2), .val (.int p3), .val (.int ((p1 &&& (255 : Int32)).toUInt32.toUInt16.toUInt32.toInt32)), .val (.int ((((p1.toUInt32 >>> ((8 : Int32) &&& 31).toUInt32).toInt32) &&& (255 : Int32)).toUInt32.toUInt16.toUInt32.toInt32)), .val (.int ((((p1.toUInt32 >>> ((16 : Int32) &&& 31).toUInt32).toInt32) &&& (255 : Int32)) % (3 : Int32))), .val (.int ((p2 &&& (255 : Int32)).toUInt32.toUInt16.toUInt32.toInt32)), .val (.int ((((p2.toUInt32 >>> ((8 : Int32) &&& 31).toUInt32).toInt32) &&& (255 : Int32)).toUInt32.toUInt16.toUInt32.toInt32)), .val (.int ((((p2.toUInt32 >>> ((16 : Int32) &&& 31).toUInt32).toInt32) &&& (255 : Int32)) % (3 : Int32))), .val (.int ((p3 &&& (255 : Int32)).toUInt32.toUInt16.toUInt32.toInt32)), .val (.int ((((p3.toUInt32 >>> ((8 : Int32) &&& 31).toUInt32).toInt32) &&& (255 : Int32)).toUInt32.toUInt16.toUInt32.toInt32)), .val (.int ((((p3.toUInt32 >>> ((16 : Int32) &&& 31).toUInt32).toInt32) &&& (255 : Int32)) % (3 : Int32))), .unset, .unset, .unset, .unset, .unset, .unset] []))
  exact J507 ((p1 &&& (255 : Int32)).toUInt32.toUInt16.toUInt32.toInt32) ((((p1.toUInt32 >>> ((8 : Int32) &&& 31).toUInt32).toInt32) &&& (255 : Int32)).toUInt32.toUInt16.toUInt32.toInt32) ((((p1.toUInt32 >>> ((16 : Int32) &&& 31).toUInt32).toInt32) &&& (255 : Int32)) % (3 : Int32)) ((p2 &&& (255 : Int32)).toUInt32.toUInt16.toUInt32.toInt32) ((((p2.toUInt32 >>> ((8 : Int32) &&& 31).toUInt32).toInt32) &&& (255 : Int32)).toUInt32.toUInt16.toUInt32.toInt32) ((((p2.toUInt32 >>> ((16 : Int32) &&& 31).toUInt32).toInt32) &&& (255 : Int32)) % (3 : Int32)) ((p3 &&& (255 : Int32)).toUInt32.toUInt16.toUInt32.toInt32) ((((p3.toUInt32 >>> ((8 : Int32) &&& 31).toUInt32).toInt32) &&& (255 : Int32)).toUInt32.toUInt16.toUInt32.toInt32) ((((p3.toUInt32 >>> ((16 : Int32) &&& 31).toUInt32).toInt32) &&& (255 : Int32)) % (3 : Int32)) ⟨own_ch255 _, own_ch255 _, own_n3 _, own_ch255 _, own_ch255 _, own_n3 _, own_ch255 _, own_ch255 _, own_n3 _⟩
set_option maxRecDepth 65536 in
set_option maxHeartbeats 40000000 in
theorem comes_1 {Post : Tables → Env → Array Value → State → Outcome → State → Prop} (hpost : ∀ tb e args s v u, (limb_1_1.after args s (.returned v) u = true ∧ limb_1_2.after args s (.returned v) u = true ∧ True) → ReturnedEndW s (.returned v) u (Jvm.fieldLocs frame_1_writes args s ++ Jvm.arrayLocs frame_1_arrays args s ++ Jvm.staticLocs frame_1_statics s) 56 4416 → Post tb e args s (.returned v) u) :
    ArmFor flags0 classFile x code maxLocals ret World_1 tables_1 room_1 Calls_1 rest_1 Pre_1 Post := by
  intro l hfl _ _ p e ha hc hk s m args below hf hA hF happ hP
  obtain ⟨hcalls, hrest, hpre⟩ := hP
  obtain ⟨-, -, -, hnamed, -, -, -, hat⟩ := (Spec.applies_iff hf).mp happ
  obtain ⟨hg, hn⟩ := and_e (Cond.before_iff.mp (show (Jvm.Cond.and given_1 narrow_1).before args s = true from hpre))
  obtain ⟨g0, r0⟩ := and_e hg
  obtain ⟨g1, r1⟩ := and_e r0
  obtain ⟨g2, r2⟩ := and_e r1
  obtain ⟨w0, w1, w2, rfl⟩ : ∃ w0 w1 w2 : Value, args = #[w0, w1, w2] := by
    have hs : args.size = 3 := by simpa [Cond.value, given_1] using g0
    obtain ⟨L⟩ := args
    match L, hs with
    | [w0, w1, w2], _ => exact ⟨w0, w1, w2, rfl⟩
  have hw := fun d (hd : d ∈ tables_1) => atoms_spec (ws := Jvm.Cond.code x code maxLocals ret :: tables_1) hat d (List.mem_cons_of_mem _ hd)
  obtain ⟨hsets, hown0⟩ := atoms_of _ (rest_1_c_eq ▸ (show rest_1_c.before _ s = true from hrest))
  have hfit : Fit s := fun {y c} hc i hi => by
    obtain ⟨ha, rfl⟩ := Array.getElem?_eq_some_iff.mp hc
    have q := List.all_eq_true.mp ((Array.all_eq_true_iff_forall_mem.mp hF) _ (Array.getElem_mem ha)) i (List.mem_range.mpr hi)
    simpa [Array.getElem?_eq_getElem hi] using q
  obtain ⟨i0, e0⟩ := is_v g1
  obtain rfl : w0 = (.int i0) := Option.some.inj e0
  obtain ⟨i1, e1⟩ := is_v g2
  obtain rfl : w1 = (.int i1) := Option.some.inj e1
  obtain ⟨i2, e2⟩ := is_v r2
  obtain rfl : w2 = (.int i2) := Option.some.inj e2
  obtain ⟨zc, ez⟩ := is_v (Cond.before_iff.mp (hsets _ (List.mem_of_getElem? (i := 1) rfl)))
  have st_zc : Sta s s.heap "java/lang/String" "COMPACT_STRINGS" "Z" (.int zc) := Sta.start ez (Or.inl (hsets _ (List.mem_of_getElem? (i := 0) rfl)))
  have hzc : ¬ (zc = (0 : Int32)) := gotF (Cond.eq_ints ez (Term.int_eval (0))) (not_v (Cond.before_iff.mp (hsets _ (List.mem_of_getElem? (i := 2) rfl))))
  obtain ⟨fm, ef, hfm⟩ := isR_v (Cond.before_iff.mp (hsets _ (List.mem_of_getElem? (i := 8) rfl)))
  have st_fm : Sta s s.heap "jdk/internal/util/Preconditions" "SIOOBE_FORMATTER" "Ljava/util/function/BiFunction;" fm := Sta.start ef (Or.inl (hsets _ (List.mem_of_getElem? (i := 7) rfl)))
  have hEL : EW s _ consts_1 := (EW.cons (hw _ (List.mem_of_getElem? (i := 87) rfl)) (by decide) (EW.cons (hw _ (List.mem_of_getElem? (i := 88) rfl)) (by decide) (EW.cons (hw _ (List.mem_of_getElem? (i := 180) rfl)) (by decide) (EW.cons (hw _ (List.mem_of_getElem? (i := 4) rfl)) (by decide) EW.nil))))
  have hC0 : CHv s consts_1 s.vm s.heap := CHv.start hEL (fun p hp => hcalls.1 p hp) (hsets _ (List.mem_of_getElem? (i := 2) rfl)) (hw _ (List.mem_of_getElem? (i := 7) rfl)) (hw _ (List.mem_of_getElem? (i := 6) rfl))
  obtain ⟨n, o, h1, h2, h3, _, L, rfl, ⟨rfl, N, -⟩, -, hq⟩ := rm_law l s _ hw tables_1 i0 i1 i2 zc fm s.heap hEL (Old.start s) st_zc st_fm hzc hfm p e ha hc hk s m _ below hf ((Spec.applies_iff_loose hf).mp happ).1 ⟨rfl, State.Warmed39.refl s, rfl, hC0⟩ trivial
  refine ⟨n, _, h1, h2, h3, hpost _ _ _ _ _ _ ⟨Cond.after_iff.mpr rfl, Cond.after_iff.mpr (eq_i res_at (Term.int_eval (1)) rfl), trivial⟩ ⟨hq.1, hq.2.1, hq.2.2.1, (hq.2.2.2.sift fun y hy => Or.inr (N y hy)).mono (by decide) (by decide)⟩⟩
theorem main_1_1 : Claimed_1_1 := comes_1 fun _ _ _ _ _ _ h hF => ⟨h.1, hF⟩
theorem main_1_2 : Claimed_1_2 := comes_1 fun _ _ _ _ _ _ h hF => ⟨h.2.1, hF⟩
end Jvm.Pilot.@@N@@
namespace Jvm.Pilot.@@N@@
open Jvm Jvm.ClassFile Sem Op Lib Jvm.Free Jvm.Stand Jvm.Pilot.@@N@@.Jvm.D
/-! MADE BY PROGRAM (witnessworld.py) out of the Statement's table words and the real class files: 26 classes; the members and pool entries that the words name. The judged class is class 1, her method 1. -/
namespace start1
open Jvm.ClassFile
def u (s : String) : CpInfo := .utf8 (stringToUtf16 s)
/-- a pool by its gaps: so many unusable entries, then the entry; so many at the end -/
def gap : Nat → List CpInfo → List CpInfo
  | 0, r => r
  | n + 1, r => .unusable :: gap n r
def poolList (es : List (Nat × CpInfo)) (last : Nat) : List CpInfo := es.foldr (fun e r => gap e.1 (e.2 :: r)) (gap last [])
def pool (es : List (Nat × CpInfo)) (last : Nat) : Array CpInfo := ⟨poolList es last⟩
def fileOf (pool : Array CpInfo) (this : Nat) (attrs : Array Attribute := #[]) (ms : Array MethodInfo := #[]) (fl : Nat := 33) (sup : Nat := 0) (ifs : Array Nat := #[]) (fds : Array FieldInfo := #[]) : ClassFile where
  minorVersion := 0
  majorVersion := 65
  constantPool := pool
  accessFlags := fl
  thisClass := this
  superClass := sup
  interfaces := ifs
  fields := fds
  methods := ms
  attributes := attrs
def plain (name : String) (sup : Option ClassId) : Class where
  name := name
  kind := .ordinary
  loader := none
  accessFlags := 33
  super := sup
  interfaces := #[]
  cf := none
  fields := #[]
  methods := #[]
  instanceTypes := #[]
  staticTypes := #[]
  resolved := #[]
  callSites := []
  init := .initialized
  statics := none
  mirror := none

def pool0 : Array CpInfo := pool [(5, u "<init>"), (0, u "()V"), (1, .class_ 10), (1, u "java/lang/Object")] 113

def k0c0 : Code := { maxStack := 0, maxLocals := 1, code := object_method_1_code, exceptionTable := #[], attributes := #[] }
def k0m0 : Method := { name := "<init>", desc := "()V", sig := { parameters := [], returnType := none }, accessFlags := 1, code := some k0c0 }
/-- java/lang/Object -/
def k0 : Class := { plain "java/lang/Object" none with
  accessFlags := 33
  interfaces := #[]
  cf := some (fileOf pool0 8 #[] #[{ accessFlags := 1, nameIndex := 5, descriptorIndex := 6, attributes := #[] }] 33 0 #[] #[])
  fields := #[]
  methods := #[k0m0]
  instanceTypes := #[]
  staticTypes := #[]
  resolved := Array.replicate 124 none
  statics := none }

def pool1 : Array CpInfo := pool [(2, .class_ 4), (1, u "java/lang/Object"), (0, u "<init>"), (0, u "()V"), (0, .methodref 8 9), (0, .class_ 10), (0, .nameAndType 11 12), (0, u "com/example/net30/net30/metrics/FamilyWithLabelPinLaw"), (0, u "str"), (0, u "(CCI)Ljava/lang/String;"), (0, .methodref 14 15), (0, .class_ 16), (0, .nameAndType 17 18), (0, u "com/example/net30/net30/metrics/Family"), (0, u "withLabel"), (0, u "(Ljava/lang/String;Ljava/lang/String;Ljava/lang/String;)Ljava/lang/String;"), (0, .methodref 20 21), (0, .class_ 22), (0, .nameAndType 23 24), (0, u "java/lang/String"), (0, u "length"), (0, u "()I"), (0, .methodref 8 26), (0, .nameAndType 27 28), (0, u "at"), (0, u "(Ljava/lang/String;[CII)Z"), (0, .methodref 20 30), (0, .nameAndType 31 32), (0, u "charAt"), (0, u "(I)C"), (0, .string 34), (0, u ""), (0, .methodref 20 36), (0, .nameAndType 37 38), (0, u "valueOf"), (0, u "(C)Ljava/lang/String;"), (0, .methodref 20 40), (0, .nameAndType 5 41), (0, u "([C)V"), (2, u "law"), (0, u "(III)Z")] 5

def k1m0 : Method := { name := "<init>", desc := "()V", sig := { parameters := [], returnType := none }, accessFlags := 1, code := none }
def k1c1 : Code := { maxStack := 4, maxLocals := 18, code := code, exceptionTable := #[], attributes := #[] }
def k1m1 : Method := { name := "law", desc := "(III)Z", sig := { parameters := [.int, .int, .int], returnType := some .boolean }, accessFlags := 9, code := some k1c1 }
def k1c2 : Code := { maxStack := 3, maxLocals := 4, code := method_3_code, exceptionTable := #[], attributes := #[] }
def k1m2 : Method := { name := "at", desc := "(Ljava/lang/String;[CII)Z", sig := { parameters := [(.object "java/lang/String"), (.array .char), .int, .int], returnType := some .boolean }, accessFlags := 10, code := some k1c2 }
def k1c3 : Code := { maxStack := 6, maxLocals := 3, code := method_4_code, exceptionTable := #[], attributes := #[] }
def k1m3 : Method := { name := "str", desc := "(CCI)Ljava/lang/String;", sig := { parameters := [.char, .char, .int], returnType := some (.object "java/lang/String") }, accessFlags := 10, code := some k1c3 }
/-- com/example/net30/net30/metrics/FamilyWithLabelPinLaw -/
def k1 : Class := { plain "com/example/net30/net30/metrics/FamilyWithLabelPinLaw" (some 0) with
  accessFlags := 49
  interfaces := #[]
  cf := some (fileOf pool1 8 #[] #[{ accessFlags := 1, nameIndex := 5, descriptorIndex := 6, attributes := #[] }, { accessFlags := 9, nameIndex := 44, descriptorIndex := 45, attributes := #[] }, { accessFlags := 10, nameIndex := 27, descriptorIndex := 28, attributes := #[] }, { accessFlags := 10, nameIndex := 11, descriptorIndex := 12, attributes := #[] }] 49 2 #[] #[])
  fields := #[]
  methods := #[k1m0, k1m1, k1m2, k1m3]
  instanceTypes := #[]
  staticTypes := #[]
  resolved := Array.replicate 51 none
  statics := none }

def pool2 : Array CpInfo := pool [(1, .class_ 2), (0, u "java/io/Serializable"), (0, .class_ 4), (0, u "java/lang/Object")] 2

/-- java/io/Serializable -/
def k2 : Class := { plain "java/io/Serializable" (some 0) with
  accessFlags := 1537
  interfaces := #[]
  cf := some (fileOf pool2 1 #[] #[] 1537 3 #[] #[])
  fields := #[]
  methods := #[]
  instanceTypes := #[]
  staticTypes := #[]
  resolved := Array.replicate 7 none
  statics := none }

def pool3 : Array CpInfo := pool [(1, .class_ 2), (0, u "java/lang/Comparable"), (0, .class_ 4), (0, u "java/lang/Object")] 7

/-- java/lang/Comparable -/
def k3 : Class := { plain "java/lang/Comparable" (some 0) with
  accessFlags := 1537
  interfaces := #[]
  cf := some (fileOf pool3 1 #[] #[] 1537 3 #[] #[])
  fields := #[]
  methods := #[]
  instanceTypes := #[]
  staticTypes := #[]
  resolved := Array.replicate 12 none
  statics := none }

def pool4 : Array CpInfo := pool [(2, .class_ 4), (1, u "java/lang/CharSequence"), (42, .class_ 48), (0, u "java/lang/CharSequence$1CodePointIterator"), (10, .class_ 60), (0, u "java/lang/CharSequence$1CharIterator"), (5, .class_ 67), (0, u "java/lang/Object")] 63

/-- java/lang/CharSequence -/
def k4 : Class := { plain "java/lang/CharSequence" (some 0) with
  accessFlags := 1537
  interfaces := #[]
  cf := some (fileOf pool4 2 #[.nestMembers #[47, 59]] #[] 1537 66 #[] #[])
  fields := #[]
  methods := #[]
  instanceTypes := #[]
  staticTypes := #[]
  resolved := Array.replicate 131 none
  statics := none }

def pool5 : Array CpInfo := pool [(1, .class_ 2), (0, u "java/lang/constant/Constable"), (0, .class_ 4), (0, u "java/lang/Object")] 6

/-- java/lang/constant/Constable -/
def k5 : Class := { plain "java/lang/constant/Constable" (some 0) with
  accessFlags := 1537
  interfaces := #[]
  cf := some (fileOf pool5 1 #[] #[] 1537 3 #[] #[])
  fields := #[]
  methods := #[]
  instanceTypes := #[]
  staticTypes := #[]
  resolved := Array.replicate 11 none
  statics := none }

def pool6 : Array CpInfo := pool [(1, .class_ 2), (0, u "java/lang/constant/ConstantDesc"), (0, .class_ 4), (0, u "java/lang/Object")] 32

/-- java/lang/constant/ConstantDesc -/
def k6 : Class := { plain "java/lang/constant/ConstantDesc" (some 0) with
  accessFlags := 1537
  interfaces := #[]
  cf := some (fileOf pool6 1 #[] #[] 1537 3 #[] #[])
  fields := #[]
  methods := #[]
  instanceTypes := #[]
  staticTypes := #[]
  resolved := Array.replicate 37 none
  statics := none }

def pool7 : Array CpInfo := pool [(1, .methodref 2 3), (0, .class_ 4), (0, .nameAndType 5 6), (0, u "java/lang/Object"), (0, u "<init>"), (0, u "()V"), (2, .fieldref 10 11), (0, .class_ 12), (0, .nameAndType 13 14), (0, u "java/lang/String"), (0, u "value"), (0, u "[B"), (0, .fieldref 10 16), (0, .nameAndType 17 18), (0, u "coder"), (0, u "B"), (2, u "hash"), (0, u "I"), (2, u "hashIsZero"), (0, u "Z"), (0, .methodref 10 28), (0, .nameAndType 5 29), (0, u "([CIILjava/lang/Void;)V"), (8, .fieldref 10 39), (0, .nameAndType 40 26), (0, u "COMPACT_STRINGS"), (1, .class_ 44), (1, u "java/lang/StringUTF16"), (0, u "compress"), (1, .methodref 42 48), (0, .nameAndType 49 50), (0, u "coderFromArrayLen"), (0, u "([BI)B"), (2, u "toBytes"), (0, .methodref 55 56), (0, .class_ 57), (0, .nameAndType 58 59), (0, u "java/util/Arrays"), (0, u "copyOfRange"), (0, u "([BII)[B"), (47, .class_ 109), (1, u "java/lang/StringLatin1"), (32, u "()Z"), (34, .methodref 42 178), (0, .nameAndType 45 179), (0, u "([CII)[B"), (13, .class_ 195), (1, u "java/lang/System"), (13, .methodref 10 210), (0, .nameAndType 5 211), (0, u "([BB)V"), (0, .methodref 193 213), (0, .nameAndType 214 215), (0, u "arraycopy"), (0, u "(Ljava/lang/Object;ILjava/lang/Object;II)V"), (118, u "()I"), (0, .methodref 10 336), (0, .nameAndType 17 337), (0, u "()B"), (2, u "()[B"), (22, u "([BI)C"), (5, u "(C)Z"), (21, u "(II)V"), (35, u "(I)C"), (61, .methodref 10 490), (0, .nameAndType 5 491), (0, u "(Ljava/lang/AbstractStringBuilder;Ljava/lang/Void;)V"), (0, .methodref 10 493), (0, .nameAndType 494 142), (0, u "isLatin1"), (0, .methodref 107 496), (0, .nameAndType 497 363), (0, u "charAt"), (3, u "checkIndex"), (4, .nameAndType 507 334), (0, u "length"), (24, u "getBytes"), (16, .methodref 550 506), (0, .class_ 551), (0, u "java/lang/AbstractStringBuilder"), (0, .methodref 550 553), (0, .nameAndType 554 340), (0, u "getValue"), (20, .class_ 576), (0, u "java/lang/CharSequence"), (22, u "CASE_INSENSITIVE_ORDER"), (0, u "Ljava/util/Comparator;"), (91, u "isEmpty"), (89, u "valueOf"), (0, u "(C)Ljava/lang/String;"), (37, u "([BIB)V"), (188, u "([C)V"), (4, .methodref 107 1016), (0, .nameAndType 1017 369), (0, u "canEncode"), (0, .methodref 107 1019), (0, .nameAndType 53 1020), (0, u "(C)[B"), (26, .methodref 550 493), (5, .fieldref 1054 1055), (0, .class_ 1056), (0, .nameAndType 1057 1058), (0, u "jdk/internal/util/Preconditions"), (0, u "SIOOBE_FORMATTER"), (0, u "Ljava/util/function/BiFunction;"), (0, .methodref 1054 1060), (0, .nameAndType 501 1061), (0, u "(IILjava/util/function/BiFunction;)I"), (39, u "serialPersistentFields"), (0, u "[Ljava/io/ObjectStreamField;"), (0, .class_ 1104), (0, u "java/lang/String$CaseInsensitiveComparator"), (1, .class_ 1107), (0, u "java/io/Serializable"), (0, .class_ 1109), (0, u "java/lang/Comparable"), (0, .class_ 1111), (0, u "java/lang/constant/Constable"), (0, .class_ 1113), (0, u "java/lang/constant/ConstantDesc"), (2, u "serialVersionUID"), (0, u "J"), (3, u "REPL"), (0, u "C"), (2, u "LATIN1"), (1, u "UTF16"), (105, u "(Ljava/lang/StringBuilder;)V")] 217

def k7m0 : Method := { name := "<init>", desc := "()V", sig := { parameters := [], returnType := none }, accessFlags := 1, code := none }
def k7c1 : Code := { maxStack := 5, maxLocals := 2, code := jdk_42_method_3_code, exceptionTable := #[], attributes := #[] }
def k7m1 : Method := { name := "<init>", desc := "([C)V", sig := { parameters := [(.array .char)], returnType := none }, accessFlags := 1, code := some k7c1 }
def k7c2 : Code := { maxStack := 3, maxLocals := 2, code := jdk_42_method_53_code, exceptionTable := #[], attributes := #[] }
def k7m2 : Method := { name := "<init>", desc := "(Ljava/lang/StringBuilder;)V", sig := { parameters := [(.object "java/lang/StringBuilder")], returnType := none }, accessFlags := 1, code := some k7c2 }
def k7c3 : Code := { maxStack := 2, maxLocals := 1, code := jdk_42_method_54_code, exceptionTable := #[], attributes := #[] }
def k7m3 : Method := { name := "length", desc := "()I", sig := { parameters := [], returnType := some .int }, accessFlags := 1, code := some k7c3 }
def k7c4 : Code := { maxStack := 1, maxLocals := 1, code := jdk_42_method_55_code, exceptionTable := #[], attributes := #[] }
def k7m4 : Method := { name := "isEmpty", desc := "()Z", sig := { parameters := [], returnType := some .boolean }, accessFlags := 1, code := some k7c4 }
def k7c5 : Code := { maxStack := 2, maxLocals := 2, code := jdk_42_method_56_code, exceptionTable := #[], attributes := #[] }
def k7m5 : Method := { name := "charAt", desc := "(I)C", sig := { parameters := [.int], returnType := some .char }, accessFlags := 1, code := some k7c5 }
def k7c6 : Code := { maxStack := 4, maxLocals := 1, code := jdk_42_method_139_code, exceptionTable := #[], attributes := #[] }
def k7m6 : Method := { name := "valueOf", desc := "(C)Ljava/lang/String;", sig := { parameters := [.char], returnType := some (.object "java/lang/String") }, accessFlags := 9, code := some k7c6 }
def k7c7 : Code := { maxStack := 5, maxLocals := 4, code := jdk_42_method_147_code, exceptionTable := #[], attributes := #[] }
def k7m7 : Method := { name := "getBytes", desc := "([BIB)V", sig := { parameters := [(.array .byte), .int, .byte], returnType := none }, accessFlags := 0, code := some k7c7 }
def k7c8 : Code := { maxStack := 4, maxLocals := 6, code := jdk_42_method_149_code, exceptionTable := #[], attributes := #[] }
def k7m8 : Method := { name := "<init>", desc := "([CIILjava/lang/Void;)V", sig := { parameters := [(.array .char), .int, .int, (.object "java/lang/Void")], returnType := none }, accessFlags := 2, code := some k7c8 }
def k7c9 : Code := { maxStack := 5, maxLocals := 5, code := jdk_42_method_150_code, exceptionTable := #[], attributes := #[] }
def k7m9 : Method := { name := "<init>", desc := "(Ljava/lang/AbstractStringBuilder;Ljava/lang/Void;)V", sig := { parameters := [(.object "java/lang/AbstractStringBuilder"), (.object "java/lang/Void")], returnType := none }, accessFlags := 0, code := some k7c9 }
def k7c10 : Code := { maxStack := 2, maxLocals := 3, code := jdk_42_method_151_code, exceptionTable := #[], attributes := #[] }
def k7m10 : Method := { name := "<init>", desc := "([BB)V", sig := { parameters := [(.array .byte), .byte], returnType := none }, accessFlags := 0, code := some k7c10 }
def k7c11 : Code := { maxStack := 1, maxLocals := 1, code := jdk_42_method_152_code, exceptionTable := #[], attributes := #[] }
def k7m11 : Method := { name := "coder", desc := "()B", sig := { parameters := [], returnType := some .byte }, accessFlags := 0, code := some k7c11 }
def k7c12 : Code := { maxStack := 1, maxLocals := 1, code := jdk_42_method_154_code, exceptionTable := #[], attributes := #[] }
def k7m12 : Method := { name := "isLatin1", desc := "()Z", sig := { parameters := [], returnType := some .boolean }, accessFlags := 0, code := some k7c12 }
def k7c13 : Code := { maxStack := 3, maxLocals := 2, code := jdk_42_method_155_code, exceptionTable := #[], attributes := #[] }
def k7m13 : Method := { name := "checkIndex", desc := "(II)V", sig := { parameters := [.int, .int], returnType := none }, accessFlags := 8, code := some k7c13 }
/-- java/lang/String -/
def k7 : Class := { plain "java/lang/String" (some 0) with
  accessFlags := 49
  interfaces := #[2, 3, 4, 5, 6]
  cf := some (fileOf pool7 10 #[.nestMembers #[1103]] #[{ accessFlags := 1, nameIndex := 5, descriptorIndex := 6, attributes := #[] }, { accessFlags := 1, nameIndex := 5, descriptorIndex := 1010, attributes := #[] }, { accessFlags := 1, nameIndex := 5, descriptorIndex := 1233, attributes := #[] }, { accessFlags := 1, nameIndex := 507, descriptorIndex := 334, attributes := #[] }, { accessFlags := 1, nameIndex := 692, descriptorIndex := 142, attributes := #[] }, { accessFlags := 1, nameIndex := 497, descriptorIndex := 427, attributes := #[] }, { accessFlags := 9, nameIndex := 782, descriptorIndex := 783, attributes := #[] }, { accessFlags := 0, nameIndex := 532, descriptorIndex := 821, attributes := #[] }, { accessFlags := 2, nameIndex := 5, descriptorIndex := 29, attributes := #[] }, { accessFlags := 0, nameIndex := 5, descriptorIndex := 491, attributes := #[] }, { accessFlags := 0, nameIndex := 5, descriptorIndex := 211, attributes := #[] }, { accessFlags := 0, nameIndex := 17, descriptorIndex := 337, attributes := #[] }, { accessFlags := 0, nameIndex := 494, descriptorIndex := 142, attributes := #[] }, { accessFlags := 8, nameIndex := 501, descriptorIndex := 391, attributes := #[] }] 49 2 #[1106, 1108, 575, 1110, 1112] #[{ accessFlags := 18, nameIndex := 13, descriptorIndex := 14, attributes := #[] }, { accessFlags := 18, nameIndex := 17, descriptorIndex := 18, attributes := #[] }, { accessFlags := 2, nameIndex := 21, descriptorIndex := 22, attributes := #[] }, { accessFlags := 2, nameIndex := 25, descriptorIndex := 26, attributes := #[] }, { accessFlags := 26, nameIndex := 1116, descriptorIndex := 1117, attributes := #[] }, { accessFlags := 24, nameIndex := 40, descriptorIndex := 26, attributes := #[] }, { accessFlags := 26, nameIndex := 1101, descriptorIndex := 1102, attributes := #[] }, { accessFlags := 26, nameIndex := 1121, descriptorIndex := 1122, attributes := #[] }, { accessFlags := 25, nameIndex := 599, descriptorIndex := 600, attributes := #[] }, { accessFlags := 24, nameIndex := 1125, descriptorIndex := 18, attributes := #[] }, { accessFlags := 24, nameIndex := 1127, descriptorIndex := 18, attributes := #[] }])
  fields := #[{ name := "value", type := (.array .byte), accessFlags := 18, slot := 0, constantValue := 0 }, { name := "coder", type := .byte, accessFlags := 18, slot := 1, constantValue := 0 }, { name := "hash", type := .int, accessFlags := 2, slot := 2, constantValue := 0 }, { name := "hashIsZero", type := .boolean, accessFlags := 2, slot := 3, constantValue := 0 }, { name := "serialVersionUID", type := .long, accessFlags := 26, slot := 0, constantValue := 0 }, { name := "COMPACT_STRINGS", type := .boolean, accessFlags := 24, slot := 1, constantValue := 0 }, { name := "serialPersistentFields", type := (.array (.object "java/io/ObjectStreamField")), accessFlags := 26, slot := 2, constantValue := 0 }, { name := "REPL", type := .char, accessFlags := 26, slot := 3, constantValue := 0 }, { name := "CASE_INSENSITIVE_ORDER", type := (.object "java/util/Comparator"), accessFlags := 25, slot := 4, constantValue := 0 }, { name := "LATIN1", type := .byte, accessFlags := 24, slot := 5, constantValue := 0 }, { name := "UTF16", type := .byte, accessFlags := 24, slot := 6, constantValue := 0 }]
  methods := #[k7m0, k7m1, k7m2, k7m3, k7m4, k7m5, k7m6, k7m7, k7m8, k7m9, k7m10, k7m11, k7m12, k7m13]
  instanceTypes := #[(.array .byte), .byte, .int, .boolean]
  staticTypes := #[.long, .boolean, (.array (.object "java/io/ObjectStreamField")), .char, (.object "java/util/Comparator"), .byte, .byte]
  resolved := Array.replicate 1451 none
  statics := some 0 }

def pool8 : Array CpInfo := pool [(2, .class_ 4), (0, .nameAndType 5 6), (0, u "java/lang/Object"), (0, u "<init>"), (0, u "()V"), (4, .class_ 13), (1, u "com/example/net30/net30/metrics/Family"), (0, u "series"), (0, u "Ljava/util/Map;"), (2, u "name"), (0, u "Ljava/lang/String;"), (2, u "help"), (2, u "type"), (8, u "labelNames"), (0, u "Ljava/util/List;"), (6, .class_ 43), (0, u "java/lang/StringBuilder"), (0, .methodref 42 3), (0, .methodref 42 46), (0, .nameAndType 47 48), (0, u "append"), (0, u "(Ljava/lang/String;)Ljava/lang/StringBuilder;"), (7, .methodref 42 57), (0, .nameAndType 58 59), (0, u "toString"), (0, u "()Ljava/lang/String;"), (27, .class_ 89), (1, u "java/lang/String"), (9, .nameAndType 100 101), (0, u "isEmpty"), (0, u "()Z"), (14, u "BY_VALUES"), (0, u "Ljava/util/Comparator;"), (37, .methodref 87 99), (0, .string 157), (0, u "=\""), (0, .string 159), (0, u "\""), (0, .string 161), (0, u ","), (10, u "withLabel"), (0, u "(Ljava/lang/String;Ljava/lang/String;Ljava/lang/String;)Ljava/lang/String;")] 84

def k8c0 : Code := { maxStack := 2, maxLocals := 4, code := prog_4_method_7_code, exceptionTable := #[], attributes := #[] }
def k8m0 : Method := { name := "withLabel", desc := "(Ljava/lang/String;Ljava/lang/String;Ljava/lang/String;)Ljava/lang/String;", sig := { parameters := [(.object "java/lang/String"), (.object "java/lang/String"), (.object "java/lang/String")], returnType := some (.object "java/lang/String") }, accessFlags := 8, code := some k8c0 }
/-- com/example/net30/net30/metrics/Family -/
def k8 : Class := { plain "com/example/net30/net30/metrics/Family" (some 0) with
  accessFlags := 1056
  interfaces := #[]
  cf := some (fileOf pool8 11 #[] #[{ accessFlags := 8, nameIndex := 172, descriptorIndex := 173, attributes := #[] }] 1056 2 #[] #[{ accessFlags := 26, nameIndex := 116, descriptorIndex := 117, attributes := #[] }, { accessFlags := 16, nameIndex := 18, descriptorIndex := 19, attributes := #[] }, { accessFlags := 18, nameIndex := 22, descriptorIndex := 19, attributes := #[] }, { accessFlags := 18, nameIndex := 25, descriptorIndex := 19, attributes := #[] }, { accessFlags := 18, nameIndex := 34, descriptorIndex := 35, attributes := #[] }, { accessFlags := 18, nameIndex := 14, descriptorIndex := 15, attributes := #[] }])
  fields := #[{ name := "BY_VALUES", type := (.object "java/util/Comparator"), accessFlags := 26, slot := 0, constantValue := 0 }, { name := "name", type := (.object "java/lang/String"), accessFlags := 16, slot := 0, constantValue := 0 }, { name := "help", type := (.object "java/lang/String"), accessFlags := 18, slot := 1, constantValue := 0 }, { name := "type", type := (.object "java/lang/String"), accessFlags := 18, slot := 2, constantValue := 0 }, { name := "labelNames", type := (.object "java/util/List"), accessFlags := 18, slot := 3, constantValue := 0 }, { name := "series", type := (.object "java/util/Map"), accessFlags := 18, slot := 4, constantValue := 0 }]
  methods := #[k8m0]
  instanceTypes := #[(.object "java/lang/String"), (.object "java/lang/String"), (.object "java/lang/String"), (.object "java/util/List"), (.object "java/util/Map")]
  staticTypes := #[(.object "java/util/Comparator")]
  resolved := Array.replicate 258 none
  statics := none }

def pool9 : Array CpInfo := pool [(1, .class_ 2), (0, u "java/lang/Appendable"), (0, .class_ 4), (0, u "java/lang/Object")] 9

/-- java/lang/Appendable -/
def k9 : Class := { plain "java/lang/Appendable" (some 0) with
  accessFlags := 1537
  interfaces := #[]
  cf := some (fileOf pool9 1 #[] #[] 1537 3 #[] #[])
  fields := #[]
  methods := #[]
  instanceTypes := #[]
  staticTypes := #[]
  resolved := Array.replicate 14 none
  statics := none }

def pool10 : Array CpInfo := pool [(1, .class_ 2), (0, u "java/lang/String"), (0, .methodref 4 5), (0, .class_ 6), (0, .nameAndType 7 8), (0, u "java/lang/Object"), (0, u "<init>"), (0, u "()V"), (1, .class_ 12), (1, u "java/lang/AbstractStringBuilder"), (0, u "EMPTYVALUE"), (0, u "[B"), (0, .fieldref 10 16), (0, .nameAndType 17 14), (0, u "value"), (0, .fieldref 1 19), (0, .nameAndType 20 21), (0, u "COMPACT_STRINGS"), (0, u "Z"), (0, .fieldref 10 23), (0, .nameAndType 24 25), (0, u "coder"), (0, u "B"), (6, .methodref 1 33), (0, .nameAndType 34 35), (0, u "length"), (0, u "()I"), (4, .methodref 1 41), (0, .nameAndType 24 42), (0, u "()B"), (2, u "append"), (0, u "(Ljava/lang/String;)Ljava/lang/AbstractStringBuilder;"), (1, .class_ 49), (0, u "java/lang/CharSequence"), (19, u "(Ljava/lang/String;)V"), (5, u "maybeLatin1"), (3, .fieldref 10 80), (0, .nameAndType 81 82), (0, u "count"), (0, u "I"), (2, u "isLatin1"), (0, u "()Z"), (13, .methodref 10 101), (0, .nameAndType 102 103), (0, u "ensureCapacityInternal"), (0, u "(I)V"), (104, .methodref 10 209), (0, .nameAndType 210 211), (0, u "putStringAt"), (0, u "(ILjava/lang/String;)V"), (5, u "inflateIfNeededFor"), (2, .nameAndType 221 222), (0, u "getBytes"), (0, u "([BIB)V"), (174, .methodref 10 398), (0, .nameAndType 217 69), (0, .methodref 1 220), (3, u "()[B"), (40, .class_ 445), (0, u "java/lang/Appendable"), (106, u "getValue")] 56

def k10m0 : Method := { name := "<init>", desc := "()V", sig := { parameters := [], returnType := none }, accessFlags := 0, code := none }
def k10c1 : Code := { maxStack := 2, maxLocals := 2, code := jdk_68_method_2_code, exceptionTable := #[], attributes := #[] }
def k10m1 : Method := { name := "<init>", desc := "(I)V", sig := { parameters := [.int], returnType := none }, accessFlags := 0, code := some k10c1 }
def k10c2 : Code := { maxStack := 1, maxLocals := 1, code := jdk_68_method_6_code, exceptionTable := #[], attributes := #[] }
def k10m2 : Method := { name := "length", desc := "()I", sig := { parameters := [], returnType := some .int }, accessFlags := 1, code := some k10c2 }
def k10c3 : Code := { maxStack := 4, maxLocals := 3, code := jdk_68_method_9_code, exceptionTable := #[], attributes := #[] }
def k10m3 : Method := { name := "ensureCapacityInternal", desc := "(I)V", sig := { parameters := [.int], returnType := none }, accessFlags := 2, code := some k10c3 }
def k10c4 : Code := { maxStack := 3, maxLocals := 3, code := jdk_68_method_22_code, exceptionTable := #[], attributes := #[] }
def k10m4 : Method := { name := "append", desc := "(Ljava/lang/String;)Ljava/lang/AbstractStringBuilder;", sig := { parameters := [(.object "java/lang/String")], returnType := some (.object "java/lang/AbstractStringBuilder") }, accessFlags := 1, code := some k10c4 }
def k10c5 : Code := { maxStack := 1, maxLocals := 1, code := jdk_68_method_64_code, exceptionTable := #[], attributes := #[] }
def k10m5 : Method := { name := "getValue", desc := "()[B", sig := { parameters := [], returnType := some (.array .byte) }, accessFlags := 16, code := some k10c5 }
def k10c6 : Code := { maxStack := 1, maxLocals := 1, code := jdk_68_method_68_code, exceptionTable := #[], attributes := #[] }
def k10m6 : Method := { name := "isLatin1", desc := "()Z", sig := { parameters := [], returnType := some .boolean }, accessFlags := 16, code := some k10c6 }
def k10c7 : Code := { maxStack := 2, maxLocals := 2, code := jdk_68_method_71_code, exceptionTable := #[], attributes := #[] }
def k10m7 : Method := { name := "inflateIfNeededFor", desc := "(Ljava/lang/String;)V", sig := { parameters := [(.object "java/lang/String")], returnType := none }, accessFlags := 2, code := some k10c7 }
def k10c8 : Code := { maxStack := 4, maxLocals := 3, code := jdk_68_method_73_code, exceptionTable := #[], attributes := #[] }
def k10m8 : Method := { name := "putStringAt", desc := "(ILjava/lang/String;)V", sig := { parameters := [.int, (.object "java/lang/String")], returnType := none }, accessFlags := 2, code := some k10c8 }
/-- java/lang/AbstractStringBuilder -/
def k10 : Class := { plain "java/lang/AbstractStringBuilder" (some 0) with
  accessFlags := 1056
  interfaces := #[9, 4]
  cf := some (fileOf pool10 10 #[] #[{ accessFlags := 0, nameIndex := 7, descriptorIndex := 8, attributes := #[] }, { accessFlags := 0, nameIndex := 7, descriptorIndex := 103, attributes := #[] }, { accessFlags := 1, nameIndex := 34, descriptorIndex := 35, attributes := #[] }, { accessFlags := 2, nameIndex := 102, descriptorIndex := 103, attributes := #[] }, { accessFlags := 1, nameIndex := 45, descriptorIndex := 46, attributes := #[] }, { accessFlags := 16, nameIndex := 552, descriptorIndex := 403, attributes := #[] }, { accessFlags := 16, nameIndex := 85, descriptorIndex := 86, attributes := #[] }, { accessFlags := 2, nameIndex := 217, descriptorIndex := 69, attributes := #[] }, { accessFlags := 2, nameIndex := 210, descriptorIndex := 211, attributes := #[] }] 1056 4 #[444, 48] #[{ accessFlags := 0, nameIndex := 17, descriptorIndex := 14, attributes := #[] }, { accessFlags := 0, nameIndex := 24, descriptorIndex := 25, attributes := #[] }, { accessFlags := 0, nameIndex := 75, descriptorIndex := 21, attributes := #[] }, { accessFlags := 0, nameIndex := 81, descriptorIndex := 82, attributes := #[] }, { accessFlags := 26, nameIndex := 13, descriptorIndex := 14, attributes := #[] }])
  fields := #[{ name := "value", type := (.array .byte), accessFlags := 0, slot := 0, constantValue := 0 }, { name := "coder", type := .byte, accessFlags := 0, slot := 1, constantValue := 0 }, { name := "maybeLatin1", type := .boolean, accessFlags := 0, slot := 2, constantValue := 0 }, { name := "count", type := .int, accessFlags := 0, slot := 3, constantValue := 0 }, { name := "EMPTYVALUE", type := (.array .byte), accessFlags := 26, slot := 0, constantValue := 0 }]
  methods := #[k10m0, k10m1, k10m2, k10m3, k10m4, k10m5, k10m6, k10m7, k10m8]
  instanceTypes := #[(.array .byte), .byte, .boolean, .int]
  staticTypes := #[(.array .byte)]
  resolved := Array.replicate 609 none
  statics := none }

def pool11 : Array CpInfo := pool [(1, .methodref 2 3), (0, .class_ 4), (0, .nameAndType 5 6), (0, u "java/lang/AbstractStringBuilder"), (0, u "<init>"), (0, u "(I)V"), (11, .class_ 20), (1, u "java/lang/String"), (3, .class_ 26), (1, u "java/lang/StringBuilder"), (0, u "append"), (0, u "(Ljava/lang/String;)Ljava/lang/StringBuilder;"), (0, .methodref 2 30), (0, .nameAndType 27 31), (0, u "(Ljava/lang/String;)Ljava/lang/AbstractStringBuilder;"), (105, .methodref 18 138), (0, .nameAndType 5 139), (0, u "(Ljava/lang/StringBuilder;)V"), (5, u "()V"), (10, u "()I"), (186, .methodref 2 344), (0, .nameAndType 345 156), (0, u "length"), (3, .class_ 350), (0, u "java/lang/Appendable"), (0, .class_ 352), (0, u "java/io/Serializable"), (0, .class_ 354), (0, u "java/lang/Comparable"), (0, .class_ 356), (0, u "java/lang/CharSequence"), (0, u "serialVersionUID"), (0, u "J"), (40, u "toString"), (0, u "()Ljava/lang/String;")] 21

def k11c0 : Code := { maxStack := 2, maxLocals := 1, code := jdk_67_method_1_code, exceptionTable := #[], attributes := #[] }
def k11m0 : Method := { name := "<init>", desc := "()V", sig := { parameters := [], returnType := none }, accessFlags := 1, code := some k11c0 }
def k11c1 : Code := { maxStack := 2, maxLocals := 2, code := jdk_67_method_7_code, exceptionTable := #[], attributes := #[] }
def k11m1 : Method := { name := "append", desc := "(Ljava/lang/String;)Ljava/lang/StringBuilder;", sig := { parameters := [(.object "java/lang/String")], returnType := some (.object "java/lang/StringBuilder") }, accessFlags := 1, code := some k11c1 }
def k11c2 : Code := { maxStack := 3, maxLocals := 1, code := jdk_67_method_42_code, exceptionTable := #[], attributes := #[] }
def k11m2 : Method := { name := "toString", desc := "()Ljava/lang/String;", sig := { parameters := [], returnType := some (.object "java/lang/String") }, accessFlags := 1, code := some k11c2 }
def k11c3 : Code := { maxStack := 1, maxLocals := 1, code := jdk_67_method_93_code, exceptionTable := #[], attributes := #[] }
def k11m3 : Method := { name := "length", desc := "()I", sig := { parameters := [], returnType := some .int }, accessFlags := 4161, code := some k11c3 }
/-- java/lang/StringBuilder -/
def k11 : Class := { plain "java/lang/StringBuilder" (some 10) with
  accessFlags := 49
  interfaces := #[9, 2, 3, 4]
  cf := some (fileOf pool11 24 #[] #[{ accessFlags := 1, nameIndex := 5, descriptorIndex := 145, attributes := #[] }, { accessFlags := 1, nameIndex := 27, descriptorIndex := 28, attributes := #[] }, { accessFlags := 1, nameIndex := 399, descriptorIndex := 400, attributes := #[] }, { accessFlags := 4161, nameIndex := 345, descriptorIndex := 156, attributes := #[] }] 49 2 #[349, 351, 353, 355] #[{ accessFlags := 24, nameIndex := 357, descriptorIndex := 358, attributes := #[] }])
  fields := #[{ name := "serialVersionUID", type := .long, accessFlags := 24, slot := 0, constantValue := 0 }]
  methods := #[k11m0, k11m1, k11m2, k11m3]
  instanceTypes := #[(.array .byte), .byte, .boolean, .int]
  staticTypes := #[.long]
  resolved := Array.replicate 422 none
  statics := none }

def pool12 : Array CpInfo := pool [(2, .class_ 4), (1, u "java/lang/Object"), (0, u "<init>"), (0, u "()V"), (1, .class_ 10), (1, u "java/lang/System"), (0, u "allowSecurityManager"), (0, u "I"), (16, u "cons"), (0, u "Ljava/io/Console;"), (77, .class_ 110), (1, u "java/lang/System$CallersHolder"), (43, u "initialErrStream"), (0, u "Ljava/io/PrintStream;"), (19, u "security"), (0, u "Ljava/lang/SecurityManager;"), (31, .class_ 209), (0, u "java/lang/System$1"), (7, u "props"), (0, u "Ljava/util/Properties;"), (2, u "lineSeparator"), (0, u "Ljava/lang/String;"), (96, .class_ 321), (1, u "java/lang/System$LoggerFinder"), (5, .class_ 328), (0, u "java/lang/System$Logger"), (67, u "err"), (2, u "out"), (91, u "notSupportedJnuEncoding"), (15, u "in"), (17, u "initialIn"), (0, u "Ljava/io/InputStream;"), (35, u "bootLayer"), (0, u "Ljava/lang/ModuleLayer;"), (99, .class_ 664), (0, u "java/lang/System$2"), (9, u "NEVER"), (2, u "MAYBE"), (49, u "arraycopy"), (0, u "(Ljava/lang/Object;ILjava/lang/Object;II)V"), (72, .class_ 802), (0, u "java/lang/System$Logger$Level")] 31

def k12m0 : Method := { name := "<init>", desc := "()V", sig := { parameters := [], returnType := none }, accessFlags := 2, code := none }
def k12m1 : Method := { name := "arraycopy", desc := "(Ljava/lang/Object;ILjava/lang/Object;II)V", sig := { parameters := [(.object "java/lang/Object"), .int, (.object "java/lang/Object"), .int, .int], returnType := none }, accessFlags := 265, code := none }
/-- java/lang/System -/
def k12 : Class := { plain "java/lang/System" (some 0) with
  accessFlags := 49
  interfaces := #[]
  cf := some (fileOf pool12 8 #[.nestMembers #[319, 327, 801, 108, 663, 208]] #[{ accessFlags := 2, nameIndex := 5, descriptorIndex := 6, attributes := #[] }, { accessFlags := 265, nameIndex := 727, descriptorIndex := 728, attributes := #[] }] 49 2 #[] #[{ accessFlags := 25, nameIndex := 507, descriptorIndex := 526, attributes := #[] }, { accessFlags := 25, nameIndex := 399, descriptorIndex := 155, attributes := #[] }, { accessFlags := 25, nameIndex := 396, descriptorIndex := 155, attributes := #[] }, { accessFlags := 10, nameIndex := 525, descriptorIndex := 526, attributes := #[] }, { accessFlags := 26, nameIndex := 674, descriptorIndex := 12, attributes := #[] }, { accessFlags := 26, nameIndex := 677, descriptorIndex := 12, attributes := #[] }, { accessFlags := 10, nameIndex := 11, descriptorIndex := 12, attributes := #[] }, { accessFlags := 74, nameIndex := 175, descriptorIndex := 176, attributes := #[] }, { accessFlags := 10, nameIndex := 491, descriptorIndex := 222, attributes := #[] }, { accessFlags := 74, nameIndex := 29, descriptorIndex := 30, attributes := #[] }, { accessFlags := 74, nameIndex := 154, descriptorIndex := 155, attributes := #[] }, { accessFlags := 10, nameIndex := 217, descriptorIndex := 218, attributes := #[] }, { accessFlags := 10, nameIndex := 221, descriptorIndex := 222, attributes := #[] }, { accessFlags := 8, nameIndex := 562, descriptorIndex := 563, attributes := #[] }])
  fields := #[{ name := "in", type := (.object "java/io/InputStream"), accessFlags := 25, slot := 0, constantValue := 0 }, { name := "out", type := (.object "java/io/PrintStream"), accessFlags := 25, slot := 1, constantValue := 0 }, { name := "err", type := (.object "java/io/PrintStream"), accessFlags := 25, slot := 2, constantValue := 0 }, { name := "initialIn", type := (.object "java/io/InputStream"), accessFlags := 10, slot := 3, constantValue := 0 }, { name := "NEVER", type := .int, accessFlags := 26, slot := 4, constantValue := 0 }, { name := "MAYBE", type := .int, accessFlags := 26, slot := 5, constantValue := 0 }, { name := "allowSecurityManager", type := .int, accessFlags := 10, slot := 6, constantValue := 0 }, { name := "security", type := (.object "java/lang/SecurityManager"), accessFlags := 74, slot := 7, constantValue := 0 }, { name := "notSupportedJnuEncoding", type := (.object "java/lang/String"), accessFlags := 10, slot := 8, constantValue := 0 }, { name := "cons", type := (.object "java/io/Console"), accessFlags := 74, slot := 9, constantValue := 0 }, { name := "initialErrStream", type := (.object "java/io/PrintStream"), accessFlags := 74, slot := 10, constantValue := 0 }, { name := "props", type := (.object "java/util/Properties"), accessFlags := 10, slot := 11, constantValue := 0 }, { name := "lineSeparator", type := (.object "java/lang/String"), accessFlags := 10, slot := 12, constantValue := 0 }, { name := "bootLayer", type := (.object "java/lang/ModuleLayer"), accessFlags := 8, slot := 13, constantValue := 0 }]
  methods := #[k12m0, k12m1]
  instanceTypes := #[]
  staticTypes := #[(.object "java/io/InputStream"), (.object "java/io/PrintStream"), (.object "java/io/PrintStream"), (.object "java/io/InputStream"), .int, .int, .int, (.object "java/lang/SecurityManager"), (.object "java/lang/String"), (.object "java/io/Console"), (.object "java/io/PrintStream"), (.object "java/util/Properties"), (.object "java/lang/String"), (.object "java/lang/ModuleLayer")]
  resolved := Array.replicate 834 none
  statics := none }

def pool13 : Array CpInfo := pool [(2, .class_ 4), (1, u "java/lang/Object"), (0, u "<init>"), (0, u "()V"), (7, .class_ 16), (1, u "java/util/Arrays"), (57, .class_ 76), (1, u "java/util/Arrays$NaturalOrder"), (36, .class_ 115), (1, u "java/util/Arrays$LegacyMergeSort"), (1, u "Z"), (21, u "copyOfRange"), (10, .methodref 151 152), (0, .class_ 153), (0, .nameAndType 154 155), (0, u "java/lang/System"), (0, u "arraycopy"), (0, u "(Ljava/lang/Object;ILjava/lang/Object;II)V"), (148, .methodref 305 306), (0, .class_ 307), (0, .nameAndType 308 309), (0, u "java/lang/Math"), (0, u "min"), (0, u "(II)I"), (29, .methodref 14 340), (0, .nameAndType 341 342), (0, u "copyOfRangeByte"), (0, u "([BII)[B"), (0, .methodref 14 344), (0, .nameAndType 345 346), (0, u "checkLength"), (0, u "(II)V"), (28, .class_ 376), (0, u "java/util/Arrays$ArrayList"), (68, u "$assertionsDisabled"), (269, u "MIN_ARRAY_SORT_GRAN"), (0, u "I"), (2, u "INSERTIONSORT_THRESHOLD"), (255, .class_ 976), (0, u "java/util/Arrays$ArrayItr")] 52

def k13m0 : Method := { name := "<init>", desc := "()V", sig := { parameters := [], returnType := none }, accessFlags := 2, code := none }
def k13c1 : Code := { maxStack := 4, maxLocals := 2, code := jdk_65_method_131_code, exceptionTable := #[], attributes := #[] }
def k13m1 : Method := { name := "checkLength", desc := "(II)V", sig := { parameters := [.int, .int], returnType := none }, accessFlags := 10, code := some k13c1 }
def k13c2 : Code := { maxStack := 3, maxLocals := 3, code := jdk_65_method_132_code, exceptionTable := #[], attributes := #[] }
def k13m2 : Method := { name := "copyOfRange", desc := "([BII)[B", sig := { parameters := [(.array .byte), .int, .int], returnType := some (.array .byte) }, accessFlags := 9, code := some k13c2 }
def k13c3 : Code := { maxStack := 6, maxLocals := 5, code := jdk_65_method_133_code, exceptionTable := #[], attributes := #[] }
def k13m3 : Method := { name := "copyOfRangeByte", desc := "([BII)[B", sig := { parameters := [(.array .byte), .int, .int], returnType := some (.array .byte) }, accessFlags := 10, code := some k13c3 }
/-- java/util/Arrays -/
def k13 : Class := { plain "java/util/Arrays" (some 0) with
  accessFlags := 49
  interfaces := #[]
  cf := some (fileOf pool13 14 #[.nestMembers #[975, 375, 113, 74]] #[{ accessFlags := 2, nameIndex := 5, descriptorIndex := 6, attributes := #[] }, { accessFlags := 10, nameIndex := 345, descriptorIndex := 346, attributes := #[] }, { accessFlags := 9, nameIndex := 139, descriptorIndex := 342, attributes := #[] }, { accessFlags := 10, nameIndex := 341, descriptorIndex := 342, attributes := #[] }] 49 2 #[] #[{ accessFlags := 26, nameIndex := 715, descriptorIndex := 716, attributes := #[] }, { accessFlags := 26, nameIndex := 719, descriptorIndex := 716, attributes := #[] }, { accessFlags := 4120, nameIndex := 445, descriptorIndex := 117, attributes := #[] }])
  fields := #[{ name := "MIN_ARRAY_SORT_GRAN", type := .int, accessFlags := 26, slot := 0, constantValue := 0 }, { name := "INSERTIONSORT_THRESHOLD", type := .int, accessFlags := 26, slot := 1, constantValue := 0 }, { name := "$assertionsDisabled", type := .boolean, accessFlags := 4120, slot := 2, constantValue := 0 }]
  methods := #[k13m0, k13m1, k13m2, k13m3]
  instanceTypes := #[]
  staticTypes := #[.int, .int, .boolean]
  resolved := Array.replicate 1029 none
  statics := none }

def pool14 : Array CpInfo := pool [(1, .class_ 2), (0, u "java/lang/Math"), (1, .class_ 6), (1, u "java/lang/Object"), (0, u "<init>"), (0, u "()V"), (89, .class_ 100), (1, u "java/lang/Math$RandomNumberGeneratorHolder"), (71, u "negativeZeroFloatBits"), (0, u "J"), (2, u "negativeZeroDoubleBits"), (24, u "min"), (43, u "$assertionsDisabled"), (0, u "Z"), (88, u "(II)I"), (2, u "twoToTheDoubleScaleDown"), (0, u "D"), (4, u "twoToTheDoubleScaleUp"), (9, u "E"), (3, u "PI"), (2, u "TAU"), (2, u "DEGREES_TO_RADIANS"), (0, u "RADIANS_TO_DEGREES")] 94

def k14m0 : Method := { name := "<init>", desc := "()V", sig := { parameters := [], returnType := none }, accessFlags := 2, code := none }
def k14c1 : Code := { maxStack := 2, maxLocals := 2, code := jdk_29_method_69_code, exceptionTable := #[], attributes := #[] }
def k14m1 : Method := { name := "min", desc := "(II)I", sig := { parameters := [.int, .int], returnType := some .int }, accessFlags := 9, code := some k14c1 }
/-- java/lang/Math -/
def k14 : Class := { plain "java/lang/Math" (some 0) with
  accessFlags := 49
  interfaces := #[]
  cf := some (fileOf pool14 1 #[.nestMembers #[98]] #[{ accessFlags := 2, nameIndex := 7, descriptorIndex := 8, attributes := #[] }, { accessFlags := 9, nameIndex := 201, descriptorIndex := 335, attributes := #[] }] 49 4 #[] #[{ accessFlags := 25, nameIndex := 354, descriptorIndex := 339, attributes := #[] }, { accessFlags := 25, nameIndex := 358, descriptorIndex := 339, attributes := #[] }, { accessFlags := 25, nameIndex := 361, descriptorIndex := 339, attributes := #[] }, { accessFlags := 26, nameIndex := 364, descriptorIndex := 339, attributes := #[] }, { accessFlags := 26, nameIndex := 365, descriptorIndex := 339, attributes := #[] }, { accessFlags := 26, nameIndex := 172, descriptorIndex := 173, attributes := #[] }, { accessFlags := 26, nameIndex := 176, descriptorIndex := 173, attributes := #[] }, { accessFlags := 8, nameIndex := 344, descriptorIndex := 339, attributes := #[] }, { accessFlags := 8, nameIndex := 338, descriptorIndex := 339, attributes := #[] }, { accessFlags := 4120, nameIndex := 245, descriptorIndex := 246, attributes := #[] }])
  fields := #[{ name := "E", type := .double, accessFlags := 25, slot := 0, constantValue := 0 }, { name := "PI", type := .double, accessFlags := 25, slot := 1, constantValue := 0 }, { name := "TAU", type := .double, accessFlags := 25, slot := 2, constantValue := 0 }, { name := "DEGREES_TO_RADIANS", type := .double, accessFlags := 26, slot := 3, constantValue := 0 }, { name := "RADIANS_TO_DEGREES", type := .double, accessFlags := 26, slot := 4, constantValue := 0 }, { name := "negativeZeroFloatBits", type := .long, accessFlags := 26, slot := 5, constantValue := 0 }, { name := "negativeZeroDoubleBits", type := .long, accessFlags := 26, slot := 6, constantValue := 0 }, { name := "twoToTheDoubleScaleUp", type := .double, accessFlags := 8, slot := 7, constantValue := 0 }, { name := "twoToTheDoubleScaleDown", type := .double, accessFlags := 8, slot := 8, constantValue := 0 }, { name := "$assertionsDisabled", type := .boolean, accessFlags := 4120, slot := 9, constantValue := 0 }]
  methods := #[k14m0, k14m1]
  instanceTypes := #[]
  staticTypes := #[.double, .double, .double, .double, .double, .long, .long, .double, .double, .boolean]
  resolved := Array.replicate 460 none
  statics := none }

def pool15 : Array CpInfo := pool [(1, .class_ 2), (0, u "java/lang/String"), (1, .class_ 6), (1, u "java/lang/Object"), (0, u "<init>"), (0, u "()V"), (0, .methodref 1 10), (0, .nameAndType 11 12), (0, u "checkIndex"), (0, u "(II)V"), (1, .class_ 16), (1, u "java/lang/StringLatin1"), (36, u "([BI)C"), (36, u "canEncode"), (14, u "(C)Z"), (15, u "$assertionsDisabled"), (0, u "Z"), (98, .class_ 223), (1, u "java/lang/StringLatin1$LinesSpliterator"), (28, u "charAt"), (127, u "toBytes"), (1, u "(C)[B"), (7, .class_ 391), (0, u "java/lang/StringLatin1$CharsSpliterator")] 3

def k15m0 : Method := { name := "<init>", desc := "()V", sig := { parameters := [], returnType := none }, accessFlags := 0, code := none }
def k15c1 : Code := { maxStack := 2, maxLocals := 2, code := jdk_43_method_2_code, exceptionTable := #[], attributes := #[] }
def k15m1 : Method := { name := "charAt", desc := "([BI)C", sig := { parameters := [(.array .byte), .int], returnType := some .char }, accessFlags := 9, code := some k15c1 }
def k15c2 : Code := { maxStack := 2, maxLocals := 1, code := jdk_43_method_3_code, exceptionTable := #[], attributes := #[] }
def k15m2 : Method := { name := "canEncode", desc := "(C)Z", sig := { parameters := [.char], returnType := some .boolean }, accessFlags := 9, code := some k15c2 }
def k15c3 : Code := { maxStack := 4, maxLocals := 1, code := jdk_43_method_46_code, exceptionTable := #[], attributes := #[] }
def k15m3 : Method := { name := "toBytes", desc := "(C)[B", sig := { parameters := [.char], returnType := some (.array .byte) }, accessFlags := 9, code := some k15c3 }
/-- java/lang/StringLatin1 -/
def k15 : Class := { plain "java/lang/StringLatin1" (some 0) with
  accessFlags := 48
  interfaces := #[]
  cf := some (fileOf pool15 14 #[.nestMembers #[390, 221]] #[{ accessFlags := 0, nameIndex := 7, descriptorIndex := 8, attributes := #[] }, { accessFlags := 9, nameIndex := 252, descriptorIndex := 53, attributes := #[] }, { accessFlags := 9, nameIndex := 90, descriptorIndex := 105, attributes := #[] }, { accessFlags := 9, nameIndex := 380, descriptorIndex := 382, attributes := #[] }] 48 4 #[] #[{ accessFlags := 4120, nameIndex := 121, descriptorIndex := 122, attributes := #[] }])
  fields := #[{ name := "$assertionsDisabled", type := .boolean, accessFlags := 4120, slot := 0, constantValue := 0 }]
  methods := #[k15m0, k15m1, k15m2, k15m3]
  instanceTypes := #[]
  staticTypes := #[.boolean]
  resolved := Array.replicate 395 none
  statics := none }

def pool16 : Array CpInfo := pool [(2, .class_ 4), (1, u "java/lang/Object"), (0, u "<init>"), (0, u "()V"), (17, .class_ 26), (1, u "jdk/internal/util/Preconditions"), (6, u "checkIndex"), (21, .class_ 56), (0, u "jdk/internal/util/Preconditions$4"), (57, .class_ 115), (0, u "jdk/internal/util/Preconditions$1"), (7, u "SIOOBE_FORMATTER"), (0, u "Ljava/util/function/BiFunction;"), (0, .class_ 126), (0, u "jdk/internal/util/Preconditions$2"), (3, u "AIOOBE_FORMATTER"), (0, .class_ 132), (0, u "jdk/internal/util/Preconditions$3"), (3, u "IOOBE_FORMATTER"), (41, u "(IILjava/util/function/BiFunction;)I")] 15

def k16m0 : Method := { name := "<init>", desc := "()V", sig := { parameters := [], returnType := none }, accessFlags := 1, code := none }
def k16c1 : Code := { maxStack := 3, maxLocals := 3, code := jdk_41_method_11_code, exceptionTable := #[], attributes := #[] }
def k16m1 : Method := { name := "checkIndex", desc := "(IILjava/util/function/BiFunction;)I", sig := { parameters := [.int, .int, (.object "java/util/function/BiFunction")], returnType := some .int }, accessFlags := 9, code := some k16c1 }
/-- jdk/internal/util/Preconditions -/
def k16 : Class := { plain "jdk/internal/util/Preconditions" (some 0) with
  accessFlags := 33
  interfaces := #[]
  cf := some (fileOf pool16 24 #[.nestMembers #[55, 131, 125, 114]] #[{ accessFlags := 1, nameIndex := 5, descriptorIndex := 6, attributes := #[] }, { accessFlags := 9, nameIndex := 33, descriptorIndex := 178, attributes := #[] }] 33 2 #[] #[{ accessFlags := 25, nameIndex := 123, descriptorIndex := 124, attributes := #[] }, { accessFlags := 25, nameIndex := 130, descriptorIndex := 124, attributes := #[] }, { accessFlags := 25, nameIndex := 136, descriptorIndex := 124, attributes := #[] }])
  fields := #[{ name := "SIOOBE_FORMATTER", type := (.object "java/util/function/BiFunction"), accessFlags := 25, slot := 0, constantValue := 0 }, { name := "AIOOBE_FORMATTER", type := (.object "java/util/function/BiFunction"), accessFlags := 25, slot := 1, constantValue := 0 }, { name := "IOOBE_FORMATTER", type := (.object "java/util/function/BiFunction"), accessFlags := 25, slot := 2, constantValue := 0 }]
  methods := #[k16m0, k16m1]
  instanceTypes := #[]
  staticTypes := #[(.object "java/util/function/BiFunction"), (.object "java/util/function/BiFunction"), (.object "java/util/function/BiFunction")]
  resolved := Array.replicate 194 none
  statics := some 1 }

def pool17 : Array CpInfo := pool [(6, .class_ 8), (1, u "java/lang/Object"), (0, u "<init>"), (0, u "()V"), (1, .class_ 14), (1, u "java/lang/StringUTF16"), (31, u "$assertionsDisabled"), (0, u "Z"), (13, u "HI_BYTE_SHIFT"), (0, u "I"), (2, u "LO_BYTE_SHIFT"), (49, .methodref 12 116), (0, .nameAndType 117 118), (0, u "compress"), (0, u "([CI[BII)I"), (3, u "([CII)[B"), (138, u "coderFromArrayLen"), (0, u "([BI)B"), (106, .class_ 371), (1, u "java/lang/StringUTF16$LinesSpliterator"), (58, u "MAX_LENGTH"), (196, .class_ 628), (0, u "java/lang/StringUTF16$CodePointsSpliterator"), (0, .class_ 630), (0, u "java/lang/StringUTF16$CharsSpliterator")] 4

def k17m0 : Method := { name := "<init>", desc := "()V", sig := { parameters := [], returnType := none }, accessFlags := 0, code := none }
def k17c1 : Code := { maxStack := 2, maxLocals := 2, code := jdk_52_method_15_code, exceptionTable := #[], attributes := #[] }
def k17m1 : Method := { name := "coderFromArrayLen", desc := "([BI)B", sig := { parameters := [(.array .byte), .int], returnType := some .byte }, accessFlags := 8, code := some k17c1 }
def k17c2 : Code := { maxStack := 5, maxLocals := 6, code := jdk_52_method_16_code, exceptionTable := #[], attributes := #[] }
def k17m2 : Method := { name := "compress", desc := "([CII)[B", sig := { parameters := [(.array .char), .int, .int], returnType := some (.array .byte) }, accessFlags := 9, code := some k17c2 }
def k17c3 : Code := { maxStack := 3, maxLocals := 7, code := jdk_52_method_21_code, exceptionTable := #[], attributes := #[] }
def k17m3 : Method := { name := "compress", desc := "([CI[BII)I", sig := { parameters := [(.array .char), .int, (.array .byte), .int, .int], returnType := some .int }, accessFlags := 9, code := some k17c3 }
/-- java/lang/StringUTF16 -/
def k17 : Class := { plain "java/lang/StringUTF16" (some 0) with
  accessFlags := 48
  interfaces := #[]
  cf := some (fileOf pool17 12 #[.nestMembers #[627, 629, 369]] #[{ accessFlags := 0, nameIndex := 9, descriptorIndex := 10, attributes := #[] }, { accessFlags := 8, nameIndex := 261, descriptorIndex := 262, attributes := #[] }, { accessFlags := 9, nameIndex := 117, descriptorIndex := 122, attributes := #[] }, { accessFlags := 9, nameIndex := 117, descriptorIndex := 118, attributes := #[] }] 48 6 #[] #[{ accessFlags := 26, nameIndex := 61, descriptorIndex := 62, attributes := #[] }, { accessFlags := 26, nameIndex := 65, descriptorIndex := 62, attributes := #[] }, { accessFlags := 24, nameIndex := 430, descriptorIndex := 62, attributes := #[] }, { accessFlags := 4120, nameIndex := 46, descriptorIndex := 47, attributes := #[] }])
  fields := #[{ name := "HI_BYTE_SHIFT", type := .int, accessFlags := 26, slot := 0, constantValue := 0 }, { name := "LO_BYTE_SHIFT", type := .int, accessFlags := 26, slot := 1, constantValue := 0 }, { name := "MAX_LENGTH", type := .int, accessFlags := 24, slot := 2, constantValue := 0 }, { name := "$assertionsDisabled", type := .boolean, accessFlags := 4120, slot := 3, constantValue := 0 }]
  methods := #[k17m0, k17m1, k17m2, k17m3]
  instanceTypes := #[]
  staticTypes := #[.int, .int, .int, .boolean]
  resolved := Array.replicate 635 none
  statics := none }

def pool18 : Array CpInfo := pool [(9, u "<init>"), (6, .class_ 18), (1, u "java/lang/Object"), (0, u "()V"), (1, .class_ 23), (1, u "jdk/internal/util/ArraysSupport"), (0, u "LOG2_ARRAY_LONG_INDEX_SCALE"), (0, u "I"), (2, u "U"), (0, u "Ljdk/internal/misc/Unsafe;"), (8, u "BIG_ENDIAN"), (0, u "Z"), (8, u "LOG2_BYTE_BIT_SIZE"), (4, u "LOG2_ARRAY_INT_INDEX_SCALE"), (54, u "JLA"), (0, u "Ljdk/internal/access/JavaLangAccess;"), (11, u "LOG2_ARRAY_BOOLEAN_INDEX_SCALE"), (9, u "LOG2_ARRAY_BYTE_INDEX_SCALE"), (5, u "LOG2_ARRAY_CHAR_INDEX_SCALE"), (5, u "LOG2_ARRAY_SHORT_INDEX_SCALE"), (18, u "LOG2_ARRAY_FLOAT_INDEX_SCALE"), (24, u "LOG2_ARRAY_DOUBLE_INDEX_SCALE"), (89, u "T_BOOLEAN"), (2, u "T_CHAR"), (1, u "T_FLOAT"), (1, u "T_DOUBLE"), (1, u "T_BYTE"), (1, u "T_SHORT"), (1, u "T_INT"), (1, u "T_LONG"), (1, u "SOFT_MAX_ARRAY_LENGTH")] 83

def k18m0 : Method := { name := "<init>", desc := "()V", sig := { parameters := [], returnType := none }, accessFlags := 2, code := none }
/-- jdk/internal/util/ArraysSupport -/
def k18 : Class := { plain "jdk/internal/util/ArraysSupport" (some 0) with
  accessFlags := 33
  interfaces := #[]
  cf := some (fileOf pool18 21 #[] #[{ accessFlags := 2, nameIndex := 9, descriptorIndex := 19, attributes := #[] }] 33 16 #[] #[{ accessFlags := 24, nameIndex := 28, descriptorIndex := 29, attributes := #[] }, { accessFlags := 26, nameIndex := 38, descriptorIndex := 39, attributes := #[] }, { accessFlags := 25, nameIndex := 121, descriptorIndex := 25, attributes := #[] }, { accessFlags := 25, nameIndex := 131, descriptorIndex := 25, attributes := #[] }, { accessFlags := 25, nameIndex := 137, descriptorIndex := 25, attributes := #[] }, { accessFlags := 25, nameIndex := 143, descriptorIndex := 25, attributes := #[] }, { accessFlags := 25, nameIndex := 53, descriptorIndex := 25, attributes := #[] }, { accessFlags := 25, nameIndex := 24, descriptorIndex := 25, attributes := #[] }, { accessFlags := 25, nameIndex := 162, descriptorIndex := 25, attributes := #[] }, { accessFlags := 25, nameIndex := 187, descriptorIndex := 25, attributes := #[] }, { accessFlags := 26, nameIndex := 48, descriptorIndex := 25, attributes := #[] }, { accessFlags := 25, nameIndex := 277, descriptorIndex := 25, attributes := #[] }, { accessFlags := 25, nameIndex := 280, descriptorIndex := 25, attributes := #[] }, { accessFlags := 25, nameIndex := 282, descriptorIndex := 25, attributes := #[] }, { accessFlags := 25, nameIndex := 284, descriptorIndex := 25, attributes := #[] }, { accessFlags := 25, nameIndex := 286, descriptorIndex := 25, attributes := #[] }, { accessFlags := 25, nameIndex := 288, descriptorIndex := 25, attributes := #[] }, { accessFlags := 25, nameIndex := 290, descriptorIndex := 25, attributes := #[] }, { accessFlags := 25, nameIndex := 292, descriptorIndex := 25, attributes := #[] }, { accessFlags := 26, nameIndex := 108, descriptorIndex := 109, attributes := #[] }, { accessFlags := 25, nameIndex := 294, descriptorIndex := 25, attributes := #[] }])
  fields := #[{ name := "U", type := (.object "jdk/internal/misc/Unsafe"), accessFlags := 24, slot := 0, constantValue := 0 }, { name := "BIG_ENDIAN", type := .boolean, accessFlags := 26, slot := 1, constantValue := 0 }, { name := "LOG2_ARRAY_BOOLEAN_INDEX_SCALE", type := .int, accessFlags := 25, slot := 2, constantValue := 0 }, { name := "LOG2_ARRAY_BYTE_INDEX_SCALE", type := .int, accessFlags := 25, slot := 3, constantValue := 0 }, { name := "LOG2_ARRAY_CHAR_INDEX_SCALE", type := .int, accessFlags := 25, slot := 4, constantValue := 0 }, { name := "LOG2_ARRAY_SHORT_INDEX_SCALE", type := .int, accessFlags := 25, slot := 5, constantValue := 0 }, { name := "LOG2_ARRAY_INT_INDEX_SCALE", type := .int, accessFlags := 25, slot := 6, constantValue := 0 }, { name := "LOG2_ARRAY_LONG_INDEX_SCALE", type := .int, accessFlags := 25, slot := 7, constantValue := 0 }, { name := "LOG2_ARRAY_FLOAT_INDEX_SCALE", type := .int, accessFlags := 25, slot := 8, constantValue := 0 }, { name := "LOG2_ARRAY_DOUBLE_INDEX_SCALE", type := .int, accessFlags := 25, slot := 9, constantValue := 0 }, { name := "LOG2_BYTE_BIT_SIZE", type := .int, accessFlags := 26, slot := 10, constantValue := 0 }, { name := "T_BOOLEAN", type := .int, accessFlags := 25, slot := 11, constantValue := 0 }, { name := "T_CHAR", type := .int, accessFlags := 25, slot := 12, constantValue := 0 }, { name := "T_FLOAT", type := .int, accessFlags := 25, slot := 13, constantValue := 0 }, { name := "T_DOUBLE", type := .int, accessFlags := 25, slot := 14, constantValue := 0 }, { name := "T_BYTE", type := .int, accessFlags := 25, slot := 15, constantValue := 0 }, { name := "T_SHORT", type := .int, accessFlags := 25, slot := 16, constantValue := 0 }, { name := "T_INT", type := .int, accessFlags := 25, slot := 17, constantValue := 0 }, { name := "T_LONG", type := .int, accessFlags := 25, slot := 18, constantValue := 0 }, { name := "JLA", type := (.object "jdk/internal/access/JavaLangAccess"), accessFlags := 26, slot := 19, constantValue := 0 }, { name := "SOFT_MAX_ARRAY_LENGTH", type := .int, accessFlags := 25, slot := 20, constantValue := 0 }]
  methods := #[k18m0]
  instanceTypes := #[]
  staticTypes := #[(.object "jdk/internal/misc/Unsafe"), .boolean, .int, .int, .int, .int, .int, .int, .int, .int, .int, .int, .int, .int, .int, .int, .int, .int, .int, (.object "jdk/internal/access/JavaLangAccess"), .int]
  resolved := Array.replicate 378 none
  statics := none }

def pool19 : Array CpInfo := pool [(1, u "java/lang/Cloneable"), (0, .class_ 1), (0, u "java/lang/Object"), (0, .class_ 3)] 3

/-- java/lang/Cloneable -/
def k19 : Class := { plain "java/lang/Cloneable" (some 0) with
  accessFlags := 1537
  interfaces := #[]
  cf := some (fileOf pool19 2 #[] #[] 1537 4 #[] #[])
  fields := #[]
  methods := #[]
  instanceTypes := #[]
  staticTypes := #[]
  resolved := Array.replicate 8 none
  statics := none }

/-- the primitive byte -/
def k20 : Class := { plain "byte" none with kind := .primitive 'B', accessFlags := 0x411 }
/-- [B -/
def k21 : Class := { plain "[B" (some 0) with kind := .array 20 .byte, interfaces := #[19, 2], accessFlags := 1041 }

/-- the primitive char -/
def k22 : Class := { plain "char" none with kind := .primitive 'C', accessFlags := 0x411 }
/-- [C -/
def k23 : Class := { plain "[C" (some 0) with kind := .array 22 .char, interfaces := #[19, 2], accessFlags := 1041 }

/-- the primitive int -/
def k24 : Class := { plain "int" none with kind := .primitive 'I', accessFlags := 0x411 }
/-- [I -/
def k25 : Class := { plain "[I" (some 0) with kind := .array 24 .int, interfaces := #[19, 2], accessFlags := 1041 }

def heap : Heap := #[{ cls := 7, slots := #[.long 0, .int 1, .null, .int 0, .null, .int 0, .int 0], vm := .statics 7 },
  { cls := 16, slots := #[.null, .null, .null], vm := .statics 16 }]
def classes : Array Class := #[k0, k1, k2, k3, k4, k5, k6, k7, k8, k9, k10, k11, k12, k13, k14, k15, k16, k17, k18, k19, k20, k21, k22, k23, k24, k25]
def interned : List (Array UInt16 × Addr) := []
def slotsUsed : Nat := 10
def theMethod : MethodId := ⟨1, 1⟩
def args0 : Array Value := #[.int 65, .int 66, .int 67]
def aboutOver (below : List Frame) : State where
  vm := { classes := classes, interned := interned.toArray }
  heap := heap
  slotsUsed := slotsUsed
  threads := #[{ frames := .invoking theMethod args0 :: below }]
def below0 : List Frame := [.native { method := ⟨0, 0⟩, args := #[] }]
def about1 : State := aboutOver below0
def p0 : Program := .bare "" "" ""
def e0 : Env := launch0.env 0 0 0
theorem w_frames : about1.frames = Frame.invoking theMethod args0 :: below0 := rfl
set_option maxRecDepth 65536 in
theorem w_args : argsFit about1.vm theMethod args0 = true := by decide +kernel
set_option maxRecDepth 65536 in
theorem w_heap : heapFits about1 = true := by decide +kernel
set_option maxRecDepth 65536 in
theorem w_runnable : about1.curStatus? = some .runnable := by decide +kernel
set_option maxRecDepth 65536 in
theorem w_alone : about1.alone = true := by decide +kernel
set_option maxRecDepth 65536 in
theorem w_named : about1.methodNamed? x = some theMethod := by decide +kernel
set_option maxRecDepth 65536 in
theorem w_hears : about1.hears theMethod below0 = true := by decide +kernel
set_option maxRecDepth 65536 in
theorem w_ripe : about1.ripe theMethod args0 below0 = true := by decide +kernel
theorem w_running : about1.status = .running := rfl
set_option maxRecDepth 65536 in
theorem w_room : about1.hasRoom e0.platform room_1 = true :=
  launch0.hasRoom_least _ room_1 (by decide +kernel) (by decide +kernel) (by decide +kernel) (by decide +kernel) (by decide +kernel) (by decide +kernel)
theorem allAtoms_all (ts : List Jvm.Cond) (a : Array Jvm.Value) (st : Jvm.State) : (allAtoms ts).before a st = ts.all (fun c => c.before a st) := by
  induction ts with
  | nil => rfl
  | cons c t ih =>
    show (Jvm.Cond.and c (allAtoms t)).before a st = _
    rw [Jvm.Cond.before_and, ih, List.all_cons]
def words1 : List Jvm.Cond := Jvm.Cond.code x code maxLocals ret :: tables_1
/-- a 'code' word, met by the world's own term for the bytes: nothing is compared byte by byte -/
theorem code_word {y : MethodName} {bytes : ByteArray} {mx : Nat} {rt : Option FieldType} {a : Array Value} {s : State} {m : MethodId} {meth : Method} {c : Code} (h1 : s.methodNamed? y = some m) (h2 : s.vm.method? m = some meth) (h3 : meth.code = some c) (h4 : c.code = bytes)
    (h5 : (c.maxLocals == mx && c.exceptionTable.isEmpty && decide (c.maxStack ≤ mostOperands) && decide (meth.sig.returnType = rt) && !meth.locks && decide (parseMethodDescriptor y.desc = some meth.sig)) = true) : (Jvm.Cond.code y bytes mx rt).before a s = true := by
  simp only [Bool.and_eq_true, beq_iff_eq, Bool.not_eq_true', decide_eq_true_eq] at h5
  obtain ⟨⟨⟨⟨⟨g1, g2⟩, g3⟩, g4⟩, g5⟩, g6⟩ := h5
  simp [Cond.before, Cond.holds, Cond.value, h1, h2, h3, h4, g1, g2, g3, g4, g5, g6]
def isCode : Jvm.Cond → Bool
  | .code _ _ _ _ => true
  | _ => false
theorem all_split {L : List Jvm.Cond} {P : Jvm.Cond → Bool} (h1 : L.all (fun c => isCode c || P c) = true) (h2 : ∀ c ∈ L.filter isCode, P c = true) : L.all P = true := by
  refine List.all_eq_true.mpr fun c hc => ?_
  have h := List.all_eq_true.mp h1 c hc
  rcases Bool.eq_false_or_eq_true (isCode c) with hi | hi
  · exact h2 c (List.mem_filter.mpr ⟨hc, hi⟩)
  · simpa [hi] using h
set_option maxRecDepth 65536 in
theorem w_c0 : (Jvm.Cond.code x code maxLocals ret).before args0 about1 = true := code_word (m := ⟨1, 1⟩) (meth := k1m1) (c := k1c1) (by decide +kernel) rfl rfl rfl (by decide +kernel)
set_option maxRecDepth 65536 in
theorem w_c1 : (Jvm.Cond.code ({ cls := "com/example/net30/net30/metrics/FamilyWithLabelPinLaw", name := "str", desc := "(CCI)Ljava/lang/String;" } : Jvm.MethodName) method_4_code (3 : Nat) (Option.some (Jvm.ClassFile.FieldType.object "java/lang/String"))).before args0 about1 = true := code_word (m := ⟨1, 3⟩) (meth := k1m3) (c := k1c3) (by decide +kernel) rfl rfl rfl (by decide +kernel)
set_option maxRecDepth 65536 in
theorem w_c2 : (Jvm.Cond.code ({ cls := "com/example/net30/net30/metrics/Family", name := "withLabel", desc := "(Ljava/lang/String;Ljava/lang/String;Ljava/lang/String;)Ljava/lang/String;" } : Jvm.MethodName) prog_4_method_7_code (4 : Nat) (Option.some (Jvm.ClassFile.FieldType.object "java/lang/String"))).before args0 about1 = true := code_word (m := ⟨8, 0⟩) (meth := k8m0) (c := k8c0) (by decide +kernel) rfl rfl rfl (by decide +kernel)
set_option maxRecDepth 65536 in
theorem w_c3 : (Jvm.Cond.code ({ cls := "java/lang/StringBuilder", name := "<init>", desc := "()V" } : Jvm.MethodName) jdk_67_method_1_code (1 : Nat) (Option.none : Option Jvm.ClassFile.FieldType)).before args0 about1 = true := code_word (m := ⟨11, 0⟩) (meth := k11m0) (c := k11c0) (by decide +kernel) rfl rfl rfl (by decide +kernel)
set_option maxRecDepth 65536 in
theorem w_c4 : (Jvm.Cond.code ({ cls := "java/lang/AbstractStringBuilder", name := "<init>", desc := "(I)V" } : Jvm.MethodName) jdk_68_method_2_code (2 : Nat) (Option.none : Option Jvm.ClassFile.FieldType)).before args0 about1 = true := code_word (m := ⟨10, 1⟩) (meth := k10m1) (c := k10c1) (by decide +kernel) rfl rfl rfl (by decide +kernel)
set_option maxRecDepth 65536 in
theorem w_c5 : (Jvm.Cond.code ({ cls := "java/lang/Object", name := "<init>", desc := "()V" } : Jvm.MethodName) object_method_1_code (1 : Nat) (Option.none : Option Jvm.ClassFile.FieldType)).before args0 about1 = true := code_word (m := ⟨0, 0⟩) (meth := k0m0) (c := k0c0) (by decide +kernel) rfl rfl rfl (by decide +kernel)
set_option maxRecDepth 65536 in
theorem w_c6 : (Jvm.Cond.code ({ cls := "java/lang/StringBuilder", name := "append", desc := "(Ljava/lang/String;)Ljava/lang/StringBuilder;" } : Jvm.MethodName) jdk_67_method_7_code (2 : Nat) (Option.some (Jvm.ClassFile.FieldType.object "java/lang/StringBuilder"))).before args0 about1 = true := code_word (m := ⟨11, 1⟩) (meth := k11m1) (c := k11c1) (by decide +kernel) rfl rfl rfl (by decide +kernel)
set_option maxRecDepth 65536 in
theorem w_c7 : (Jvm.Cond.code ({ cls := "java/lang/AbstractStringBuilder", name := "append", desc := "(Ljava/lang/String;)Ljava/lang/AbstractStringBuilder;" } : Jvm.MethodName) jdk_68_method_22_code (3 : Nat) (Option.some (Jvm.ClassFile.FieldType.object "java/lang/AbstractStringBuilder"))).before args0 about1 = true := code_word (m := ⟨10, 4⟩) (meth := k10m4) (c := k10c4) (by decide +kernel) rfl rfl rfl (by decide +kernel)
set_option maxRecDepth 65536 in
theorem w_c8 : (Jvm.Cond.code ({ cls := "java/lang/String", name := "length", desc := "()I" } : Jvm.MethodName) jdk_42_method_54_code (1 : Nat) (Option.some Jvm.ClassFile.FieldType.int)).before args0 about1 = true := code_word (m := ⟨7, 3⟩) (meth := k7m3) (c := k7c3) (by decide +kernel) rfl rfl rfl (by decide +kernel)
set_option maxRecDepth 65536 in
theorem w_c9 : (Jvm.Cond.code ({ cls := "java/lang/String", name := "coder", desc := "()B" } : Jvm.MethodName) jdk_42_method_152_code (1 : Nat) (Option.some Jvm.ClassFile.FieldType.byte)).before args0 about1 = true := code_word (m := ⟨7, 11⟩) (meth := k7m11) (c := k7c11) (by decide +kernel) rfl rfl rfl (by decide +kernel)
set_option maxRecDepth 65536 in
theorem w_c10 : (Jvm.Cond.code ({ cls := "java/lang/AbstractStringBuilder", name := "ensureCapacityInternal", desc := "(I)V" } : Jvm.MethodName) jdk_68_method_9_code (3 : Nat) (Option.none : Option Jvm.ClassFile.FieldType)).before args0 about1 = true := code_word (m := ⟨10, 3⟩) (meth := k10m3) (c := k10c3) (by decide +kernel) rfl rfl rfl (by decide +kernel)
set_option maxRecDepth 65536 in
theorem w_c11 : (Jvm.Cond.code ({ cls := "java/lang/AbstractStringBuilder", name := "putStringAt", desc := "(ILjava/lang/String;)V" } : Jvm.MethodName) jdk_68_method_73_code (3 : Nat) (Option.none : Option Jvm.ClassFile.FieldType)).before args0 about1 = true := code_word (m := ⟨10, 8⟩) (meth := k10m8) (c := k10c8) (by decide +kernel) rfl rfl rfl (by decide +kernel)
set_option maxRecDepth 65536 in
theorem w_c12 : (Jvm.Cond.code ({ cls := "java/lang/AbstractStringBuilder", name := "inflateIfNeededFor", desc := "(Ljava/lang/String;)V" } : Jvm.MethodName) jdk_68_method_71_code (2 : Nat) (Option.none : Option Jvm.ClassFile.FieldType)).before args0 about1 = true := code_word (m := ⟨10, 7⟩) (meth := k10m7) (c := k10c7) (by decide +kernel) rfl rfl rfl (by decide +kernel)
set_option maxRecDepth 65536 in
theorem w_c13 : (Jvm.Cond.code ({ cls := "java/lang/String", name := "getBytes", desc := "([BIB)V" } : Jvm.MethodName) jdk_42_method_147_code (4 : Nat) (Option.none : Option Jvm.ClassFile.FieldType)).before args0 about1 = true := code_word (m := ⟨7, 7⟩) (meth := k7m7) (c := k7c7) (by decide +kernel) rfl rfl rfl (by decide +kernel)
set_option maxRecDepth 65536 in
theorem w_c14 : (Jvm.Cond.code ({ cls := "java/lang/StringBuilder", name := "toString", desc := "()Ljava/lang/String;" } : Jvm.MethodName) jdk_67_method_42_code (1 : Nat) (Option.some (Jvm.ClassFile.FieldType.object "java/lang/String"))).before args0 about1 = true := code_word (m := ⟨11, 2⟩) (meth := k11m2) (c := k11c2) (by decide +kernel) rfl rfl rfl (by decide +kernel)
set_option maxRecDepth 65536 in
theorem w_c15 : (Jvm.Cond.code ({ cls := "java/lang/String", name := "<init>", desc := "(Ljava/lang/StringBuilder;)V" } : Jvm.MethodName) jdk_42_method_53_code (2 : Nat) (Option.none : Option Jvm.ClassFile.FieldType)).before args0 about1 = true := code_word (m := ⟨7, 2⟩) (meth := k7m2) (c := k7c2) (by decide +kernel) rfl rfl rfl (by decide +kernel)
set_option maxRecDepth 65536 in
theorem w_c16 : (Jvm.Cond.code ({ cls := "java/lang/String", name := "<init>", desc := "(Ljava/lang/AbstractStringBuilder;Ljava/lang/Void;)V" } : Jvm.MethodName) jdk_42_method_150_code (5 : Nat) (Option.none : Option Jvm.ClassFile.FieldType)).before args0 about1 = true := code_word (m := ⟨7, 9⟩) (meth := k7m9) (c := k7c9) (by decide +kernel) rfl rfl rfl (by decide +kernel)
set_option maxRecDepth 65536 in
theorem w_c17 : (Jvm.Cond.code ({ cls := "java/lang/AbstractStringBuilder", name := "getValue", desc := "()[B" } : Jvm.MethodName) jdk_68_method_64_code (1 : Nat) (Option.some (Jvm.ClassFile.FieldType.array Jvm.ClassFile.FieldType.byte))).before args0 about1 = true := code_word (m := ⟨10, 5⟩) (meth := k10m5) (c := k10c5) (by decide +kernel) rfl rfl rfl (by decide +kernel)
set_option maxRecDepth 65536 in
theorem w_c18 : (Jvm.Cond.code ({ cls := "java/lang/StringBuilder", name := "length", desc := "()I" } : Jvm.MethodName) jdk_67_method_93_code (1 : Nat) (Option.some Jvm.ClassFile.FieldType.int)).before args0 about1 = true := code_word (m := ⟨11, 3⟩) (meth := k11m3) (c := k11c3) (by decide +kernel) rfl rfl rfl (by decide +kernel)
set_option maxRecDepth 65536 in
theorem w_c19 : (Jvm.Cond.code ({ cls := "java/lang/AbstractStringBuilder", name := "length", desc := "()I" } : Jvm.MethodName) jdk_68_method_6_code (1 : Nat) (Option.some Jvm.ClassFile.FieldType.int)).before args0 about1 = true := code_word (m := ⟨10, 2⟩) (meth := k10m2) (c := k10c2) (by decide +kernel) rfl rfl rfl (by decide +kernel)
set_option maxRecDepth 65536 in
theorem w_c20 : (Jvm.Cond.code ({ cls := "java/lang/AbstractStringBuilder", name := "isLatin1", desc := "()Z" } : Jvm.MethodName) jdk_68_method_68_code (1 : Nat) (Option.some Jvm.ClassFile.FieldType.boolean)).before args0 about1 = true := code_word (m := ⟨10, 6⟩) (meth := k10m6) (c := k10c6) (by decide +kernel) rfl rfl rfl (by decide +kernel)
set_option maxRecDepth 65536 in
theorem w_c21 : (Jvm.Cond.code ({ cls := "java/util/Arrays", name := "copyOfRange", desc := "([BII)[B" } : Jvm.MethodName) jdk_65_method_132_code (3 : Nat) (Option.some (Jvm.ClassFile.FieldType.array Jvm.ClassFile.FieldType.byte))).before args0 about1 = true := code_word (m := ⟨13, 2⟩) (meth := k13m2) (c := k13c2) (by decide +kernel) rfl rfl rfl (by decide +kernel)
set_option maxRecDepth 65536 in
theorem w_c22 : (Jvm.Cond.code ({ cls := "java/util/Arrays", name := "copyOfRangeByte", desc := "([BII)[B" } : Jvm.MethodName) jdk_65_method_133_code (5 : Nat) (Option.some (Jvm.ClassFile.FieldType.array Jvm.ClassFile.FieldType.byte))).before args0 about1 = true := code_word (m := ⟨13, 3⟩) (meth := k13m3) (c := k13c3) (by decide +kernel) rfl rfl rfl (by decide +kernel)
set_option maxRecDepth 65536 in
theorem w_c23 : (Jvm.Cond.code ({ cls := "java/util/Arrays", name := "checkLength", desc := "(II)V" } : Jvm.MethodName) jdk_65_method_131_code (2 : Nat) (Option.none : Option Jvm.ClassFile.FieldType)).before args0 about1 = true := code_word (m := ⟨13, 1⟩) (meth := k13m1) (c := k13c1) (by decide +kernel) rfl rfl rfl (by decide +kernel)
set_option maxRecDepth 65536 in
theorem w_c24 : (Jvm.Cond.code ({ cls := "java/lang/Math", name := "min", desc := "(II)I" } : Jvm.MethodName) jdk_29_method_69_code (2 : Nat) (Option.some Jvm.ClassFile.FieldType.int)).before args0 about1 = true := code_word (m := ⟨14, 1⟩) (meth := k14m1) (c := k14c1) (by decide +kernel) rfl rfl rfl (by decide +kernel)
set_option maxRecDepth 65536 in
theorem w_c25 : (Jvm.Cond.code ({ cls := "java/lang/String", name := "isEmpty", desc := "()Z" } : Jvm.MethodName) jdk_42_method_55_code (1 : Nat) (Option.some Jvm.ClassFile.FieldType.boolean)).before args0 about1 = true := code_word (m := ⟨7, 4⟩) (meth := k7m4) (c := k7c4) (by decide +kernel) rfl rfl rfl (by decide +kernel)
set_option maxRecDepth 65536 in
theorem w_c26 : (Jvm.Cond.code ({ cls := "com/example/net30/net30/metrics/FamilyWithLabelPinLaw", name := "at", desc := "(Ljava/lang/String;[CII)Z" } : Jvm.MethodName) method_3_code (4 : Nat) (Option.some Jvm.ClassFile.FieldType.boolean)).before args0 about1 = true := code_word (m := ⟨1, 2⟩) (meth := k1m2) (c := k1c2) (by decide +kernel) rfl rfl rfl (by decide +kernel)
set_option maxRecDepth 65536 in
theorem w_c27 : (Jvm.Cond.code ({ cls := "java/lang/String", name := "charAt", desc := "(I)C" } : Jvm.MethodName) jdk_42_method_56_code (2 : Nat) (Option.some Jvm.ClassFile.FieldType.char)).before args0 about1 = true := code_word (m := ⟨7, 5⟩) (meth := k7m5) (c := k7c5) (by decide +kernel) rfl rfl rfl (by decide +kernel)
set_option maxRecDepth 65536 in
theorem w_c28 : (Jvm.Cond.code ({ cls := "java/lang/String", name := "isLatin1", desc := "()Z" } : Jvm.MethodName) jdk_42_method_154_code (1 : Nat) (Option.some Jvm.ClassFile.FieldType.boolean)).before args0 about1 = true := code_word (m := ⟨7, 12⟩) (meth := k7m12) (c := k7c12) (by decide +kernel) rfl rfl rfl (by decide +kernel)
set_option maxRecDepth 65536 in
theorem w_c29 : (Jvm.Cond.code ({ cls := "java/lang/StringLatin1", name := "charAt", desc := "([BI)C" } : Jvm.MethodName) jdk_43_method_2_code (2 : Nat) (Option.some Jvm.ClassFile.FieldType.char)).before args0 about1 = true := code_word (m := ⟨15, 1⟩) (meth := k15m1) (c := k15c1) (by decide +kernel) rfl rfl rfl (by decide +kernel)
set_option maxRecDepth 65536 in
theorem w_c30 : (Jvm.Cond.code ({ cls := "java/lang/String", name := "checkIndex", desc := "(II)V" } : Jvm.MethodName) jdk_42_method_155_code (2 : Nat) (Option.none : Option Jvm.ClassFile.FieldType)).before args0 about1 = true := code_word (m := ⟨7, 13⟩) (meth := k7m13) (c := k7c13) (by decide +kernel) rfl rfl rfl (by decide +kernel)
set_option maxRecDepth 65536 in
theorem w_c31 : (Jvm.Cond.code ({ cls := "jdk/internal/util/Preconditions", name := "checkIndex", desc := "(IILjava/util/function/BiFunction;)I" } : Jvm.MethodName) jdk_41_method_11_code (3 : Nat) (Option.some Jvm.ClassFile.FieldType.int)).before args0 about1 = true := code_word (m := ⟨16, 1⟩) (meth := k16m1) (c := k16c1) (by decide +kernel) rfl rfl rfl (by decide +kernel)
set_option maxRecDepth 65536 in
theorem w_c32 : (Jvm.Cond.code ({ cls := "java/lang/String", name := "valueOf", desc := "(C)Ljava/lang/String;" } : Jvm.MethodName) jdk_42_method_139_code (1 : Nat) (Option.some (Jvm.ClassFile.FieldType.object "java/lang/String"))).before args0 about1 = true := code_word (m := ⟨7, 6⟩) (meth := k7m6) (c := k7c6) (by decide +kernel) rfl rfl rfl (by decide +kernel)
set_option maxRecDepth 65536 in
theorem w_c33 : (Jvm.Cond.code ({ cls := "java/lang/StringLatin1", name := "canEncode", desc := "(C)Z" } : Jvm.MethodName) jdk_43_method_3_code (1 : Nat) (Option.some Jvm.ClassFile.FieldType.boolean)).before args0 about1 = true := code_word (m := ⟨15, 2⟩) (meth := k15m2) (c := k15c2) (by decide +kernel) rfl rfl rfl (by decide +kernel)
set_option maxRecDepth 65536 in
theorem w_c34 : (Jvm.Cond.code ({ cls := "java/lang/StringLatin1", name := "toBytes", desc := "(C)[B" } : Jvm.MethodName) jdk_43_method_46_code (1 : Nat) (Option.some (Jvm.ClassFile.FieldType.array Jvm.ClassFile.FieldType.byte))).before args0 about1 = true := code_word (m := ⟨15, 3⟩) (meth := k15m3) (c := k15c3) (by decide +kernel) rfl rfl rfl (by decide +kernel)
set_option maxRecDepth 65536 in
theorem w_c35 : (Jvm.Cond.code ({ cls := "java/lang/String", name := "<init>", desc := "([BB)V" } : Jvm.MethodName) jdk_42_method_151_code (3 : Nat) (Option.none : Option Jvm.ClassFile.FieldType)).before args0 about1 = true := code_word (m := ⟨7, 10⟩) (meth := k7m10) (c := k7c10) (by decide +kernel) rfl rfl rfl (by decide +kernel)
set_option maxRecDepth 65536 in
theorem w_c36 : (Jvm.Cond.code ({ cls := "java/lang/String", name := "<init>", desc := "([C)V" } : Jvm.MethodName) jdk_42_method_3_code (2 : Nat) (Option.none : Option Jvm.ClassFile.FieldType)).before args0 about1 = true := code_word (m := ⟨7, 1⟩) (meth := k7m1) (c := k7c1) (by decide +kernel) rfl rfl rfl (by decide +kernel)
set_option maxRecDepth 65536 in
theorem w_c37 : (Jvm.Cond.code ({ cls := "java/lang/String", name := "<init>", desc := "([CIILjava/lang/Void;)V" } : Jvm.MethodName) jdk_42_method_149_code (6 : Nat) (Option.none : Option Jvm.ClassFile.FieldType)).before args0 about1 = true := code_word (m := ⟨7, 8⟩) (meth := k7m8) (c := k7c8) (by decide +kernel) rfl rfl rfl (by decide +kernel)
set_option maxRecDepth 65536 in
theorem w_c38 : (Jvm.Cond.code ({ cls := "java/lang/StringUTF16", name := "compress", desc := "([CII)[B" } : Jvm.MethodName) jdk_52_method_16_code (6 : Nat) (Option.some (Jvm.ClassFile.FieldType.array Jvm.ClassFile.FieldType.byte))).before args0 about1 = true := code_word (m := ⟨17, 2⟩) (meth := k17m2) (c := k17c2) (by decide +kernel) rfl rfl rfl (by decide +kernel)
set_option maxRecDepth 65536 in
theorem w_c39 : (Jvm.Cond.code ({ cls := "java/lang/StringUTF16", name := "compress", desc := "([CI[BII)I" } : Jvm.MethodName) jdk_52_method_21_code (7 : Nat) (Option.some Jvm.ClassFile.FieldType.int)).before args0 about1 = true := code_word (m := ⟨17, 3⟩) (meth := k17m3) (c := k17c3) (by decide +kernel) rfl rfl rfl (by decide +kernel)
set_option maxRecDepth 65536 in
theorem w_c40 : (Jvm.Cond.code ({ cls := "java/lang/StringUTF16", name := "coderFromArrayLen", desc := "([BI)B" } : Jvm.MethodName) jdk_52_method_15_code (2 : Nat) (Option.some Jvm.ClassFile.FieldType.byte)).before args0 about1 = true := code_word (m := ⟨17, 1⟩) (meth := k17m1) (c := k17c1) (by decide +kernel) rfl rfl rfl (by decide +kernel)
def codes1 : List Jvm.Cond := [Jvm.Cond.code x code maxLocals ret, Jvm.Cond.code ({ cls := "com/example/net30/net30/metrics/FamilyWithLabelPinLaw", name := "str", desc := "(CCI)Ljava/lang/String;" } : Jvm.MethodName) method_4_code (3 : Nat) (Option.some (Jvm.ClassFile.FieldType.object "java/lang/String")), Jvm.Cond.code ({ cls := "com/example/net30/net30/metrics/Family", name := "withLabel", desc := "(Ljava/lang/String;Ljava/lang/String;Ljava/lang/String;)Ljava/lang/String;" } : Jvm.MethodName) prog_4_method_7_code (4 : Nat) (Option.some (Jvm.ClassFile.FieldType.object "java/lang/String")), Jvm.Cond.code ({ cls := "java/lang/StringBuilder", name := "<init>", desc := "()V" } : Jvm.MethodName) jdk_67_method_1_code (1 : Nat) (Option.none : Option Jvm.ClassFile.FieldType), Jvm.Cond.code ({ cls := "java/lang/AbstractStringBuilder", name := "<init>", desc := "(I)V" } : Jvm.MethodName) jdk_68_method_2_code (2 : Nat) (Option.none : Option Jvm.ClassFile.FieldType), Jvm.Cond.code ({ cls := "java/lang/Object", name := "<init>", desc := "()V" } : Jvm.MethodName) object_method_1_code (1 : Nat) (Option.none : Option Jvm.ClassFile.FieldType), Jvm.Cond.code ({ cls := "java/lang/StringBuilder", name := "append", desc := "(Ljava/lang/String;)Ljava/lang/StringBuilder;" } : Jvm.MethodName) jdk_67_method_7_code (2 : Nat) (Option.some (Jvm.ClassFile.FieldType.object "java/lang/StringBuilder")), Jvm.Cond.code ({ cls := "java/lang/AbstractStringBuilder", name := "append", desc := "(Ljava/lang/String;)Ljava/lang/AbstractStringBuilder;" } : Jvm.MethodName) jdk_68_method_22_code (3 : Nat) (Option.some (Jvm.ClassFile.FieldType.object "java/lang/AbstractStringBuilder")), Jvm.Cond.code ({ cls := "java/lang/String", name := "length", desc := "()I" } : Jvm.MethodName) jdk_42_method_54_code (1 : Nat) (Option.some Jvm.ClassFile.FieldType.int), Jvm.Cond.code ({ cls := "java/lang/String", name := "coder", desc := "()B" } : Jvm.MethodName) jdk_42_method_152_code (1 : Nat) (Option.some Jvm.ClassFile.FieldType.byte), Jvm.Cond.code ({ cls := "java/lang/AbstractStringBuilder", name := "ensureCapacityInternal", desc := "(I)V" } : Jvm.MethodName) jdk_68_method_9_code (3 : Nat) (Option.none : Option Jvm.ClassFile.FieldType), Jvm.Cond.code ({ cls := "java/lang/AbstractStringBuilder", name := "putStringAt", desc := "(ILjava/lang/String;)V" } : Jvm.MethodName) jdk_68_method_73_code (3 : Nat) (Option.none : Option Jvm.ClassFile.FieldType), Jvm.Cond.code ({ cls := "java/lang/AbstractStringBuilder", name := "inflateIfNeededFor", desc := "(Ljava/lang/String;)V" } : Jvm.MethodName) jdk_68_method_71_code (2 : Nat) (Option.none : Option Jvm.ClassFile.FieldType), Jvm.Cond.code ({ cls := "java/lang/String", name := "getBytes", desc := "([BIB)V" } : Jvm.MethodName) jdk_42_method_147_code (4 : Nat) (Option.none : Option Jvm.ClassFile.FieldType), Jvm.Cond.code ({ cls := "java/lang/StringBuilder", name := "toString", desc := "()Ljava/lang/String;" } : Jvm.MethodName) jdk_67_method_42_code (1 : Nat) (Option.some (Jvm.ClassFile.FieldType.object "java/lang/String")), Jvm.Cond.code ({ cls := "java/lang/String", name := "<init>", desc := "(Ljava/lang/StringBuilder;)V" } : Jvm.MethodName) jdk_42_method_53_code (2 : Nat) (Option.none : Option Jvm.ClassFile.FieldType), Jvm.Cond.code ({ cls := "java/lang/String", name := "<init>", desc := "(Ljava/lang/AbstractStringBuilder;Ljava/lang/Void;)V" } : Jvm.MethodName) jdk_42_method_150_code (5 : Nat) (Option.none : Option Jvm.ClassFile.FieldType), Jvm.Cond.code ({ cls := "java/lang/AbstractStringBuilder", name := "getValue", desc := "()[B" } : Jvm.MethodName) jdk_68_method_64_code (1 : Nat) (Option.some (Jvm.ClassFile.FieldType.array Jvm.ClassFile.FieldType.byte)), Jvm.Cond.code ({ cls := "java/lang/StringBuilder", name := "length", desc := "()I" } : Jvm.MethodName) jdk_67_method_93_code (1 : Nat) (Option.some Jvm.ClassFile.FieldType.int), Jvm.Cond.code ({ cls := "java/lang/AbstractStringBuilder", name := "length", desc := "()I" } : Jvm.MethodName) jdk_68_method_6_code (1 : Nat) (Option.some Jvm.ClassFile.FieldType.int), Jvm.Cond.code ({ cls := "java/lang/AbstractStringBuilder", name := "isLatin1", desc := "()Z" } : Jvm.MethodName) jdk_68_method_68_code (1 : Nat) (Option.some Jvm.ClassFile.FieldType.boolean), Jvm.Cond.code ({ cls := "java/util/Arrays", name := "copyOfRange", desc := "([BII)[B" } : Jvm.MethodName) jdk_65_method_132_code (3 : Nat) (Option.some (Jvm.ClassFile.FieldType.array Jvm.ClassFile.FieldType.byte)), Jvm.Cond.code ({ cls := "java/util/Arrays", name := "copyOfRangeByte", desc := "([BII)[B" } : Jvm.MethodName) jdk_65_method_133_code (5 : Nat) (Option.some (Jvm.ClassFile.FieldType.array Jvm.ClassFile.FieldType.byte)), Jvm.Cond.code ({ cls := "java/util/Arrays", name := "checkLength", desc := "(II)V" } : Jvm.MethodName) jdk_65_method_131_code (2 : Nat) (Option.none : Option Jvm.ClassFile.FieldType), Jvm.Cond.code ({ cls := "java/lang/Math", name := "min", desc := "(II)I" } : Jvm.MethodName) jdk_29_method_69_code (2 : Nat) (Option.some Jvm.ClassFile.FieldType.int), Jvm.Cond.code ({ cls := "java/lang/String", name := "isEmpty", desc := "()Z" } : Jvm.MethodName) jdk_42_method_55_code (1 : Nat) (Option.some Jvm.ClassFile.FieldType.boolean), Jvm.Cond.code ({ cls := "com/example/net30/net30/metrics/FamilyWithLabelPinLaw", name := "at", desc := "(Ljava/lang/String;[CII)Z" } : Jvm.MethodName) method_3_code (4 : Nat) (Option.some Jvm.ClassFile.FieldType.boolean), Jvm.Cond.code ({ cls := "java/lang/String", name := "charAt", desc := "(I)C" } : Jvm.MethodName) jdk_42_method_56_code (2 : Nat) (Option.some Jvm.ClassFile.FieldType.char), Jvm.Cond.code ({ cls := "java/lang/String", name := "isLatin1", desc := "()Z" } : Jvm.MethodName) jdk_42_method_154_code (1 : Nat) (Option.some Jvm.ClassFile.FieldType.boolean), Jvm.Cond.code ({ cls := "java/lang/StringLatin1", name := "charAt", desc := "([BI)C" } : Jvm.MethodName) jdk_43_method_2_code (2 : Nat) (Option.some Jvm.ClassFile.FieldType.char), Jvm.Cond.code ({ cls := "java/lang/String", name := "checkIndex", desc := "(II)V" } : Jvm.MethodName) jdk_42_method_155_code (2 : Nat) (Option.none : Option Jvm.ClassFile.FieldType), Jvm.Cond.code ({ cls := "jdk/internal/util/Preconditions", name := "checkIndex", desc := "(IILjava/util/function/BiFunction;)I" } : Jvm.MethodName) jdk_41_method_11_code (3 : Nat) (Option.some Jvm.ClassFile.FieldType.int), Jvm.Cond.code ({ cls := "java/lang/String", name := "valueOf", desc := "(C)Ljava/lang/String;" } : Jvm.MethodName) jdk_42_method_139_code (1 : Nat) (Option.some (Jvm.ClassFile.FieldType.object "java/lang/String")), Jvm.Cond.code ({ cls := "java/lang/StringLatin1", name := "canEncode", desc := "(C)Z" } : Jvm.MethodName) jdk_43_method_3_code (1 : Nat) (Option.some Jvm.ClassFile.FieldType.boolean), Jvm.Cond.code ({ cls := "java/lang/StringLatin1", name := "toBytes", desc := "(C)[B" } : Jvm.MethodName) jdk_43_method_46_code (1 : Nat) (Option.some (Jvm.ClassFile.FieldType.array Jvm.ClassFile.FieldType.byte)), Jvm.Cond.code ({ cls := "java/lang/String", name := "<init>", desc := "([BB)V" } : Jvm.MethodName) jdk_42_method_151_code (3 : Nat) (Option.none : Option Jvm.ClassFile.FieldType), Jvm.Cond.code ({ cls := "java/lang/String", name := "<init>", desc := "([C)V" } : Jvm.MethodName) jdk_42_method_3_code (2 : Nat) (Option.none : Option Jvm.ClassFile.FieldType), Jvm.Cond.code ({ cls := "java/lang/String", name := "<init>", desc := "([CIILjava/lang/Void;)V" } : Jvm.MethodName) jdk_42_method_149_code (6 : Nat) (Option.none : Option Jvm.ClassFile.FieldType), Jvm.Cond.code ({ cls := "java/lang/StringUTF16", name := "compress", desc := "([CII)[B" } : Jvm.MethodName) jdk_52_method_16_code (6 : Nat) (Option.some (Jvm.ClassFile.FieldType.array Jvm.ClassFile.FieldType.byte)), Jvm.Cond.code ({ cls := "java/lang/StringUTF16", name := "compress", desc := "([CI[BII)I" } : Jvm.MethodName) jdk_52_method_21_code (7 : Nat) (Option.some Jvm.ClassFile.FieldType.int), Jvm.Cond.code ({ cls := "java/lang/StringUTF16", name := "coderFromArrayLen", desc := "([BI)B" } : Jvm.MethodName) jdk_52_method_15_code (2 : Nat) (Option.some Jvm.ClassFile.FieldType.byte)]
set_option maxRecDepth 65536 in
theorem codes_eq : words1.filter isCode = codes1 := rfl
theorem w_codes : ∀ c ∈ words1.filter isCode, c.before args0 about1 = true := by
  rw [codes_eq]
  intro c hc
  simp only [codes1, List.mem_cons, List.not_mem_nil, or_false] at hc
  rcases hc with rfl | rfl | rfl | rfl | rfl | rfl | rfl | rfl | rfl | rfl | rfl | rfl | rfl | rfl | rfl | rfl | rfl | rfl | rfl | rfl | rfl | rfl | rfl | rfl | rfl | rfl | rfl | rfl | rfl | rfl | rfl | rfl | rfl | rfl | rfl | rfl | rfl | rfl | rfl | rfl | rfl
  · exact w_c0
  · exact w_c1
  · exact w_c2
  · exact w_c3
  · exact w_c4
  · exact w_c5
  · exact w_c6
  · exact w_c7
  · exact w_c8
  · exact w_c9
  · exact w_c10
  · exact w_c11
  · exact w_c12
  · exact w_c13
  · exact w_c14
  · exact w_c15
  · exact w_c16
  · exact w_c17
  · exact w_c18
  · exact w_c19
  · exact w_c20
  · exact w_c21
  · exact w_c22
  · exact w_c23
  · exact w_c24
  · exact w_c25
  · exact w_c26
  · exact w_c27
  · exact w_c28
  · exact w_c29
  · exact w_c30
  · exact w_c31
  · exact w_c32
  · exact w_c33
  · exact w_c34
  · exact w_c35
  · exact w_c36
  · exact w_c37
  · exact w_c38
  · exact w_c39
  · exact w_c40
set_option maxRecDepth 65536 in
theorem w_t1 : (words1.take 24).all (fun c => isCode c || c.before args0 about1) = true := by decide +kernel
set_option maxRecDepth 65536 in
theorem w_t2 : ((words1.drop 24).take 24).all (fun c => isCode c || c.before args0 about1) = true := by decide +kernel
set_option maxRecDepth 65536 in
theorem w_t3 : (((words1.drop 24).drop 24).take 24).all (fun c => isCode c || c.before args0 about1) = true := by decide +kernel
set_option maxRecDepth 65536 in
theorem w_t4 : ((((words1.drop 24).drop 24).drop 24).take 24).all (fun c => isCode c || c.before args0 about1) = true := by decide +kernel
set_option maxRecDepth 65536 in
theorem w_t5 : (((((words1.drop 24).drop 24).drop 24).drop 24).take 24).all (fun c => isCode c || c.before args0 about1) = true := by decide +kernel
set_option maxRecDepth 65536 in
theorem w_t6 : ((((((words1.drop 24).drop 24).drop 24).drop 24).drop 24).take 24).all (fun c => isCode c || c.before args0 about1) = true := by decide +kernel
set_option maxRecDepth 65536 in
theorem w_t7 : (((((((words1.drop 24).drop 24).drop 24).drop 24).drop 24).drop 24).take 24).all (fun c => isCode c || c.before args0 about1) = true := by decide +kernel
set_option maxRecDepth 65536 in
theorem w_t8 : ((((((((words1.drop 24).drop 24).drop 24).drop 24).drop 24).drop 24).drop 24).take 24).all (fun c => isCode c || c.before args0 about1) = true := by decide +kernel
set_option maxRecDepth 65536 in
theorem w_t9 : ((((((((words1.drop 24).drop 24).drop 24).drop 24).drop 24).drop 24).drop 24).drop 24).all (fun c => isCode c || c.before args0 about1) = true := by decide +kernel
theorem w_tables : (allAtoms (Jvm.Cond.code x code maxLocals ret :: tables_1)).before args0 about1 = true := by
  rw [allAtoms_all]
  show words1.all (fun c => c.before args0 about1) = true
  refine all_split ?_ w_codes
  rw [← List.take_append_drop 24 words1, List.all_append, w_t1, ← List.take_append_drop 24 (words1.drop 24), List.all_append, w_t2, ← List.take_append_drop 24 ((words1.drop 24).drop 24), List.all_append, w_t3, ← List.take_append_drop 24 (((words1.drop 24).drop 24).drop 24), List.all_append, w_t4, ← List.take_append_drop 24 ((((words1.drop 24).drop 24).drop 24).drop 24), List.all_append, w_t5, ← List.take_append_drop 24 (((((words1.drop 24).drop 24).drop 24).drop 24).drop 24), List.all_append, w_t6, ← List.take_append_drop 24 ((((((words1.drop 24).drop 24).drop 24).drop 24).drop 24).drop 24), List.all_append, w_t7, ← List.take_append_drop 24 (((((((words1.drop 24).drop 24).drop 24).drop 24).drop 24).drop 24).drop 24), List.all_append, w_t8, w_t9]
  rfl
set_option maxRecDepth 65536 in
theorem w_rest : rest_1_c.before args0 about1 = true := by decide +kernel
set_option maxRecDepth 65536 in
theorem w_case : (Jvm.Cond.and given_1 narrow_1).before args0 about1 = true := by decide +kernel
set_option maxRecDepth 65536 in
theorem w_consts : constsHeld consts_1 about1 := Jvm.Lit.constsHeldB_iff.mp (by decide +kernel)
theorem w_applies : (headSpec (Jvm.Cond.code x code maxLocals ret :: tables_1) room_1).applies x e0.platform about1 = true :=
  (Spec.applies_iff w_frames).mpr ⟨w_running, w_runnable, w_alone, w_named, w_hears, w_ripe, w_room, w_tables⟩
theorem atStart : AtStart classFile x code maxLocals ret World_1 tables_1 room_1 Calls_1 rest_1 Pre_1 launch0 p0 e0 about1 theMethod args0 below0 :=
  ⟨lists_1, trivial, launch0.admits_env _ _ _, launch0.least_env, fairChoices_fair.cas, fairChoices_fair.clock, w_frames, w_args, w_heap, w_applies, ⟨w_consts, trivial⟩, w_rest, w_case⟩
end start1
theorem witness_1 : WitnessClaimed_1 := ⟨start1.p0, start1.e0, start1.about1, start1.theMethod, start1.args0, start1.below0, start1.atStart⟩
end Jvm.Pilot.@@N@@
