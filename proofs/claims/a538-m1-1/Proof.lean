import JvmDerived
import JvmDerived.Pilot.@@N@@Statement
import JvmDerived.Pilot.@@N@@Code
set_option linter.unusedVariables false
set_option linter.unusedSimpArgs false

/- laws to paste: Road.backV, Road.eqW, Road.codOf (cut by pick.py; bodies as the Statement names them) -/
namespace Jvm.Pilot.@@N@@
namespace StrChars
open Jvm Sem ClassFile Op Lib Jvm.Stand Jvm.Free.XT Jvm.Free.ALB Jvm.Free.JM Jvm.Free
open Jvm.Lib.Cold (StaticIs)
/-- a char array whose places are chars -/
def Ch (a : Addr) (A : Cell) (U : State) : Prop := Arr .char a A U ∧ Typed .char A
theorem Ch.mv {a : Addr} {A : Cell} {U U' : State} (h : Ch a A U) (hal : U.vm.Alike U'.vm) (hh : U'.heap = U.heap) : Ch a A U' := ⟨h.1.mv hal hh, h.2⟩
theorem Ch.keep {a : Addr} {A : Cell} {U U' : State} (h : Ch a A U) (hal : U.vm.Alike U'.vm) (hk : U'.heap[a]? = some A) : Ch a A U' := ⟨h.1.keep hal hk, h.2⟩
/-- what place i of a char[]'s cell holds -/
def cv (A : Cell) (i : Nat) : Int32 := match A.slots[i]? with | some (.int x) => x | _ => 0
theorem Ch.get {a : Addr} {A : Cell} {U : State} (h : Ch a A U) {i : Nat} (hi : i < A.slots.size) : A.slots[i]? = some (.int (cv A i)) := by
  have e := Array.getElem?_eq_getElem hi
  have f := h.2 i _ e
  unfold cv; rw [e]
  generalize A.slots[i] = v at f
  cases v <;> simp [fits] at f ⊢
/-- the byte that i2b leaves of a char -/
def lo8 (x : Int32) : Int32 := x.toInt8.toInt32
theorem fits_lo8 (y : Int32) : fits .byte (.int (lo8 y)) = true := by
  have h1 := y.toInt8.le_toInt
  have h2 := y.toInt8.toInt_lt
  simp only [lo8, fits, Bool.and_eq_true, decide_eq_true_eq, Int32.le_iff_toInt_le, Int8.toInt_toInt32, show (-128 : Int32).toInt = -128 from by decide, show (127 : Int32).toInt = 127 from by decide]
  omega
/-- A' is A but that each place j of lo .. hi - 1 holds f j -/
def Laid (A A' : Cell) (lo hi : Nat) (f : Nat → Value) : Prop := A'.cls = A.cls ∧ A'.vm = A.vm ∧ A'.slots.size = A.slots.size ∧ ∀ i, A'.slots[i]? = if lo ≤ i ∧ i < hi then some (f i) else A.slots[i]?
theorem Laid.zero (A : Cell) (lo : Nat) (f : Nat → Value) : Laid A A lo (lo + 0) f := ⟨rfl, rfl, rfl, fun i => by rw [if_neg (by omega)]⟩
theorem Laid.step {A Ak : Cell} {lo k : Nat} {f : Nat → Value} {v : Value} (h : Laid A Ak lo k f) (hlo : lo ≤ k) (hk : k < Ak.slots.size) (hv : v = f k) : Laid A (Ak.setSlot k v) lo (k + 1) f := by
  refine ⟨h.1, h.2.1, by simpa [Cell.setSlot] using h.2.2.1, fun i => ?_⟩
  by_cases e : k = i
  · subst e; rw [Cell.slots_setSlot_self v hk, if_pos (by omega), hv]
  · rw [Cell.slots_setSlot_ne v e, h.2.2.2 i]
    by_cases q : lo ≤ i ∧ i < k
    · rw [if_pos q, if_pos (by omega)]
    · rw [if_neg q, if_neg (by omega)]
def U16 : String := "java/lang/StringUTF16"
namespace Cmp5
def yN : MethodName := ⟨"java/lang/StringUTF16", "compress", "([CI[BII)I"⟩
abbrev yB : ByteArray := jdk_52_method_21_code
theorem d0 : decode yB 0 = .ok (.iconst 0, 1) := by decide +kernel
theorem d1 : decode yB 1 = .ok (.istore 5, 2) := by decide +kernel
theorem d3 : decode yB 3 = .ok (.iload 5, 2) := by decide +kernel
theorem d5 : decode yB 5 = .ok (.iload 4, 2) := by decide +kernel
theorem d7 : decode yB 7 = .ok (.if_icmp (.ge) 37, 3) := by decide +kernel
theorem d10 : decode yB 10 = .ok (.aload_n 0, 1) := by decide +kernel
theorem d11 : decode yB 11 = .ok (.iload_n 1, 1) := by decide +kernel
theorem d12 : decode yB 12 = .ok (.caload, 1) := by decide +kernel
theorem d13 : decode yB 13 = .ok (.istore 6, 2) := by decide +kernel
theorem d15 : decode yB 15 = .ok (.iload 6, 2) := by decide +kernel
theorem d17 : decode yB 17 = .ok (.sipush 255, 3) := by decide +kernel
theorem d20 : decode yB 20 = .ok (.if_icmp (.le) 6, 3) := by decide +kernel
theorem d26 : decode yB 26 = .ok (.aload_n 2, 1) := by decide +kernel
theorem d27 : decode yB 27 = .ok (.iload_n 3, 1) := by decide +kernel
theorem d28 : decode yB 28 = .ok (.iload 6, 2) := by decide +kernel
theorem d30 : decode yB 30 = .ok (.i2b, 1) := by decide +kernel
theorem d31 : decode yB 31 = .ok (.bastore, 1) := by decide +kernel
theorem d32 : decode yB 32 = .ok (.iinc 1 1, 3) := by decide +kernel
theorem d35 : decode yB 35 = .ok (.iinc 3 1, 3) := by decide +kernel
theorem d38 : decode yB 38 = .ok (.iinc 5 1, 3) := by decide +kernel
theorem d41 : decode yB 41 = .ok (.goto (-38), 3) := by decide +kernel
theorem d44 : decode yB 44 = .ok (.iload 4, 2) := by decide +kernel
theorem d46 : decode yB 46 = .ok (.ireturn, 1) := by decide +kernel
def site : List Cond := []
def tab : Cond := tabOf yN yB 7 (some .int) site
def P (b : Addr) (A : Cell) (d : Addr) (B : Cell) (o q len : Nat) (args : Array Value) (s : State) : Prop := args = #[.ref b, .int (Int32.ofNat o), .ref d, .int (Int32.ofNat q), .int (Int32.ofNat len)] ∧ Ch b A s ∧ Arr .byte d B s ∧ b ≠ d ∧ o + len ≤ A.slots.size ∧ q + len ≤ B.slots.size ∧ ∀ i, i < len → ¬ 255 < cv A (o + i)
def E (b : Addr) (A : Cell) (d : Addr) (B : Cell) (o q len : Nat) (r : Option Value) (s u : State) : Prop := r = some (.int (Int32.ofNat len)) ∧ ∃ B', Put d B' s u ∧ Laid B B' q (q + len) (fun j => Value.int (lo8 (cv A (o + (j - q)))))
/-- no char of the range above 255: len; the places written hold each char's low byte -/
theorem law (l : Launch) (b : Addr) (A : Cell) (d : Addr) (B : Cell) (o q len : Nat) : Law l yN 5 5 0 0 yB 7 (some .int) site (P b A d B o q len) (E b A d B o q len) (copyLocs d q len) 0 0 := by
  refine Law.of_walk (plainFor_of_name (by decide +kernel)) (by decide +kernel) (by decide +kernel) (by decide) (fun _ _ h => by rw [h.1]; rfl) (fun _ U U' hal hh h => ⟨h.1, h.2.1.mv hal hh, h.2.2.1.mv hal hh, h.2.2.2⟩) (fun r U U' V V' h1 hal h2 h => ⟨h.1, h.2.elim fun B' q => ⟨B', q.1.mv h1 h2, q.2⟩⟩) ?_
  intro p e s m args below meth c s₁ X0 hexec hbytes hml hret hlk hnm hown hh0 W hP
  obtain ⟨rfl, hA, hB, hne, l1, l2, hp⟩ := hP
  have c1 : Steps p.tables e below (s₁.setTop (entryFrame m #[.ref b, .int (Int32.ofNat o), .ref d, .int (Int32.ofNat q), .int (Int32.ofNat len)] 7)) (s₁.setTop (mkF m 0 #[.val (.ref b), .val (.int (Int32.ofNat o)), .val (.ref d), .val (.int (Int32.ofNat q)), .val (.int (Int32.ofNat len)), .unset, .unset] [])) := entry rfl
  have hA0 := hA.1.mv X0.warmed.alike hh0
  have hB0 := hB.mv X0.warmed.alike hh0
  have a31 := hA.1.2.2.2
  have c2 : Steps p.tables e below (s₁.setTop (entryFrame m #[.ref b, .int (Int32.ofNat o), .ref d, .int (Int32.ofNat q), .int (Int32.ofNat len)] 7)) (s₁.setTop (mkF m 3 #[.val (.ref b), .val (.int (Int32.ofNat o)), .val (.ref d), .val (.int (Int32.ofNat q)), .val (.int (Int32.ofNat len)), .val (.int 0), .unset] [])) := c1.trans (by
    refine iconstV X0.here hexec rfl 0 (hb hbytes d0) (by decide) ?_
    refine XS.istore X0.here hexec rfl (hb hbytes d1) rfl rfl ?_
    exact Steps.refl _)
  have loop : ∀ (r i : Nat), i + r = len → ∀ (z : Slot), (z = .unset ∨ ∃ w, z = .val w ∧ w.category = 1) → ∀ (Tl : State) (Bk : Cell), Stand p l e { frames := 0, locals := 0, cells := 0, slots := 0 } s m #[.ref b, .int (Int32.ofNat o), .ref d, .int (Int32.ofNat q), .int (Int32.ofNat len)] below meth c Tl ([] ++ copyLocs d q i) 0 0 → Put d Bk s₁ Tl → Laid B Bk q (q + i) (fun j => Value.int (lo8 (cv A (o + (j - q))))) →
      Steps p.tables e below (s₁.setTop (entryFrame m #[.ref b, .int (Int32.ofNat o), .ref d, .int (Int32.ofNat q), .int (Int32.ofNat len)] 7)) (Tl.setTop (mkF m 3 #[.val (.ref b), .val (.int (Int32.ofNat (o + i))), .val (.ref d), .val (.int (Int32.ofNat (q + i))), .val (.int (Int32.ofNat len)), .val (.int (Int32.ofNat i)), z] [])) → ∃ (T' : State) (B' : Cell) (z' : Slot), Stand p l e { frames := 0, locals := 0, cells := 0, slots := 0 } s m #[.ref b, .int (Int32.ofNat o), .ref d, .int (Int32.ofNat q), .int (Int32.ofNat len)] below meth c T' ([] ++ copyLocs d q len) 0 0 ∧ Put d B' s₁ T' ∧ Laid B B' q (q + len) (fun j => Value.int (lo8 (cv A (o + (j - q))))) ∧
      Steps p.tables e below (s₁.setTop (entryFrame m #[.ref b, .int (Int32.ofNat o), .ref d, .int (Int32.ofNat q), .int (Int32.ofNat len)] 7)) (T'.setTop (mkF m 3 #[.val (.ref b), .val (.int (Int32.ofNat (o + len))), .val (.ref d), .val (.int (Int32.ofNat (q + len))), .val (.int (Int32.ofNat len)), .val (.int (Int32.ofNat len)), z'] [])) := by
    intro r
    induction r with
    | zero =>
      intro i hi z hz Tl Bk Xl pl fl cl
      have hil : i = len := by omega
      rw [hil] at Xl fl cl
      exact ⟨Tl, Bk, z, Xl, pl, fl, cl⟩
    | succ r ih =>
      intro i hi z hz Tl Bk Xl pl fl cl
      have all := X0.warmed.alike.symm.trans Xl.warmed.alike
      have hAl := hA0.keep all (pl.other hne hA0.1)
      have hBk := hB0.like all pl.1 fl.1 fl.2.1 fl.2.2.1
      have hlt : q + i < Bk.slots.size := by rw [fl.2.2.1]; omega
      have c3 : Steps p.tables e below (s₁.setTop (entryFrame m #[.ref b, .int (Int32.ofNat o), .ref d, .int (Int32.ofNat q), .int (Int32.ofNat len)] 7)) (Tl.setTop (mkF m 12 #[.val (.ref b), .val (.int (Int32.ofNat (o + i))), .val (.ref d), .val (.int (Int32.ofNat (q + i))), .val (.int (Int32.ofNat len)), .val (.int (Int32.ofNat i)), z] [.int (Int32.ofNat (o + i)), .ref b])) := cl.trans (by
        refine XS.iload Xl.here hexec rfl (hb hbytes d3) rfl ?_
        refine XS.iload Xl.here hexec rfl (hb hbytes d5) rfl ?_
        refine XS.icmpNo Xl.here hexec rfl (hb hbytes d7) rfl (ii_ge_f (lt32 (by omega) (by omega))) ?_
        refine XS.aloadN Xl.here hexec rfl (hb hbytes d10) rfl rfl ?_
        refine XS.iloadN Xl.here hexec rfl (hb hbytes d11) rfl ?_
        exact Steps.refl _)
      have c4 : Steps p.tables e below (s₁.setTop (entryFrame m #[.ref b, .int (Int32.ofNat o), .ref d, .int (Int32.ofNat q), .int (Int32.ofNat len)] 7)) (Tl.setTop (mkF m 13 #[.val (.ref b), .val (.int (Int32.ofNat (o + i))), .val (.ref d), .val (.int (Int32.ofNat (q + i))), .val (.int (Int32.ofNat len)), .val (.int (Int32.ofNat i)), z] [.int (cv A (o + i))])) := c3.trans (by
        refine Xl.aget hexec hAl rfl (hA.get (i := o + i) (by omega)) rfl rfl (hb hbytes d12) ?_
        exact Steps.refl _)
      have c5 : Steps p.tables e below (s₁.setTop (entryFrame m #[.ref b, .int (Int32.ofNat o), .ref d, .int (Int32.ofNat q), .int (Int32.ofNat len)] 7)) (Tl.setTop (mkF m 15 #[.val (.ref b), .val (.int (Int32.ofNat (o + i))), .val (.ref d), .val (.int (Int32.ofNat (q + i))), .val (.int (Int32.ofNat len)), .val (.int (Int32.ofNat i)), .val (.int (cv A (o + i)))] [])) := c4.trans (by
        refine XS.istoreS Xl.here hexec rfl (hb hbytes d13) rfl rfl hz ?_
        exact Steps.refl _)
      have c6 : Steps p.tables e below (s₁.setTop (entryFrame m #[.ref b, .int (Int32.ofNat o), .ref d, .int (Int32.ofNat q), .int (Int32.ofNat len)] 7)) (Tl.setTop (mkF m 31 #[.val (.ref b), .val (.int (Int32.ofNat (o + i))), .val (.ref d), .val (.int (Int32.ofNat (q + i))), .val (.int (Int32.ofNat len)), .val (.int (Int32.ofNat i)), .val (.int (cv A (o + i)))] [.int (lo8 (cv A (o + i))), .int (Int32.ofNat (q + i)), .ref d])) := c5.trans (by
        refine XS.iload Xl.here hexec rfl (hb hbytes d15) rfl ?_
        refine sipushV Xl.here hexec rfl 255 (hb hbytes d17) (by decide) ?_
        refine XS.icmpYes Xl.here hexec rfl (pc0 := 20) rfl (hb hbytes d20) rfl (ii_le_t (hp i (by omega))) (by decide) rfl ?_
        refine XS.aloadN Xl.here hexec rfl (hb hbytes d26) rfl rfl ?_
        refine XS.iloadN Xl.here hexec rfl (hb hbytes d27) rfl ?_
        refine XS.iload Xl.here hexec rfl (hb hbytes d28) rfl ?_
        refine i2b Xl.here hexec rfl (hb hbytes d30) rfl ?_
        exact Steps.refl _)
      obtain ⟨T7, X7, p7, st7⟩ := Xl.aput hexec hBk rfl hlt rfl (fits_lo8 (cv A (o + i))) (g := (mkF m 31 #[.val (.ref b), .val (.int (Int32.ofNat (o + i))), .val (.ref d), .val (.int (Int32.ofNat (q + i))), .val (.int (Int32.ofNat len)), .val (.int (Int32.ofNat i)), .val (.int (cv A (o + i)))] [.int (lo8 (cv A (o + i))), .int (Int32.ofNat (q + i)), .ref d])) rfl (rest := []) rfl (hb hbytes d31)
      have c8 : Steps p.tables e below (s₁.setTop (entryFrame m #[.ref b, .int (Int32.ofNat o), .ref d, .int (Int32.ofNat q), .int (Int32.ofNat len)] 7)) (T7.setTop (mkF m 32 #[.val (.ref b), .val (.int (Int32.ofNat (o + i))), .val (.ref d), .val (.int (Int32.ofNat (q + i))), .val (.int (Int32.ofNat len)), .val (.int (Int32.ofNat i)), .val (.int (cv A (o + i)))] [])) := c6.trans (st7 _ (Steps.refl _))
      have c9 : Steps p.tables e below (s₁.setTop (entryFrame m #[.ref b, .int (Int32.ofNat o), .ref d, .int (Int32.ofNat q), .int (Int32.ofNat len)] 7)) (T7.setTop (mkF m 3 #[.val (.ref b), .val (.int (Int32.ofNat (o + i) + 1)), .val (.ref d), .val (.int (Int32.ofNat (q + i) + 1)), .val (.int (Int32.ofNat len)), .val (.int (Int32.ofNat i + 1)), .val (.int (cv A (o + i)))] [])) := c8.trans (by
        refine iincV X7.here hexec rfl 1 (hb hbytes d32) (by decide) rfl rfl ?_
        refine iincV X7.here hexec rfl 1 (hb hbytes d35) (by decide) rfl rfl ?_
        refine iincV X7.here hexec rfl 1 (hb hbytes d38) (by decide) rfl rfl ?_
        refine XS.goto X7.here hexec rfl (pc0 := 41) rfl (hb hbytes d41) (by decide) rfl ?_
        exact Steps.refl _)
      have c10 : Steps p.tables e below (s₁.setTop (entryFrame m #[.ref b, .int (Int32.ofNat o), .ref d, .int (Int32.ofNat q), .int (Int32.ofNat len)] 7)) (T7.setTop (mkF m 3 #[.val (.ref b), .val (.int (Int32.ofNat (o + (i + 1)))), .val (.ref d), .val (.int (Int32.ofNat (q + (i + 1)))), .val (.int (Int32.ofNat len)), .val (.int (Int32.ofNat (i + 1))), .val (.int (cv A (o + i)))] [])) := by
        have := c9
        rw [succ32, succ32, succ32] at this
        exact this
      exact ih (i + 1) (by omega) _ (Or.inr ⟨_, rfl, rfl⟩) T7 _ (by rw [copyLocs_step, ← List.append_assoc]; exact X7) (pl.trans p7) (fl.step (by omega) hlt (by simp)) c10
  obtain ⟨T9, B9, z9, X9, p9, f9, g9⟩ := loop len 0 (by omega) .unset (Or.inl rfl) s₁ B (by simpa [copyLocs] using X0) ⟨hB0.1, fun _ _ => rfl, rfl⟩ (Laid.zero _ _ _) c2
  have c11 : Steps p.tables e below (s₁.setTop (entryFrame m #[.ref b, .int (Int32.ofNat o), .ref d, .int (Int32.ofNat q), .int (Int32.ofNat len)] 7)) (T9.setTop (mkF m 46 #[.val (.ref b), .val (.int (Int32.ofNat (o + len))), .val (.ref d), .val (.int (Int32.ofNat (q + len))), .val (.int (Int32.ofNat len)), .val (.int (Int32.ofNat len)), z9] [.int (Int32.ofNat len)])) := g9.trans (by
    refine XS.iload X9.here hexec rfl (hb hbytes d3) rfl ?_
    refine XS.iload X9.here hexec rfl (hb hbytes d5) rfl ?_
    refine XS.icmpYes X9.here hexec rfl (pc0 := 7) rfl (hb hbytes d7) rfl (ii_ge_t (nlt32 (by omega) (Nat.le_refl _))) (by decide) rfl ?_
    refine XS.iload X9.here hexec rfl (hb hbytes d44) rfl ?_
    exact Steps.refl _)
  exact ⟨T9, some (.int (Int32.ofNat len)), _, _, _, X9, by simp, rfl, rfl, (fun h => by cases h), ⟨rfl, B9, p9.from hh0, f9⟩, fun fs hl => c11.trans (X9.ireturnOut hexec hret rfl (Or.inl rfl) (hb hbytes d46) hl)⟩
end Cmp5
namespace Cmp3
def yN : MethodName := ⟨"java/lang/StringUTF16", "compress", "([CII)[B"⟩
abbrev yB : ByteArray := jdk_52_method_16_code
theorem d0 : decode yB 0 = .ok (.iload_n 2, 1) := by decide +kernel
theorem d1 : decode yB 1 = .ok (.newarray .byte, 2) := by decide +kernel
theorem d3 : decode yB 3 = .ok (.astore_n 3, 1) := by decide +kernel
theorem d4 : decode yB 4 = .ok (.aload_n 0, 1) := by decide +kernel
theorem d5 : decode yB 5 = .ok (.iload_n 1, 1) := by decide +kernel
theorem d6 : decode yB 6 = .ok (.aload_n 3, 1) := by decide +kernel
theorem d7 : decode yB 7 = .ok (.iconst 0, 1) := by decide +kernel
theorem d8 : decode yB 8 = .ok (.iload_n 2, 1) := by decide +kernel
theorem d9 : decode yB 9 = .ok (.invokestatic 115, 3) := by decide +kernel
theorem d12 : decode yB 12 = .ok (.istore 4, 2) := by decide +kernel
theorem d14 : decode yB 14 = .ok (.iload 4, 2) := by decide +kernel
theorem d16 : decode yB 16 = .ok (.iload_n 2, 1) := by decide +kernel
theorem d17 : decode yB 17 = .ok (.if_icmp (.eq) 40, 3) := by decide +kernel
theorem d57 : decode yB 57 = .ok (.aload_n 3, 1) := by decide +kernel
theorem d58 : decode yB 58 = .ok (.areturn, 1) := by decide +kernel
def site : List Cond := [.arrayClass .byte, Cmp5.tab] ++ staticW U16 115 Cmp5.yN
def tab : Cond := tabOf yN yB 6 (some (.array .byte)) site
def P (b : Addr) (A : Cell) (o len : Nat) (args : Array Value) (s : State) : Prop := args = #[.ref b, .int (Int32.ofNat o), .int (Int32.ofNat len)] ∧ Ch b A s ∧ o + len ≤ A.slots.size ∧ len ≤ 536870912 ∧ ∀ i, i < len → ¬ 255 < cv A (o + i)
def E (b : Addr) (A : Cell) (o len : Nat) (r : Option Value) (s u : State) : Prop := NewArr .byte "[B" len (fun j => .int (lo8 (cv A (o + j)))) r s u ∧ u.heap.size = s.heap.size + 1
/-- no char of the range above 255: a new byte[] of their low bytes -/
theorem law (l : Launch) (b : Addr) (A : Cell) (o len : Nat) : Law l yN 3 3 1 18 yB 6 (some (.array .byte)) site (P b A o len) (E b A o len) [] 1 len := by
  refine Law.of_walk (plainFor_of_name (by decide +kernel)) (by decide +kernel) (by decide +kernel) (by decide) (fun _ _ h => by rw [h.1]; rfl) (fun _ U U' hal hh h => ⟨h.1, h.2.1.mv hal hh, h.2.2⟩) (fun r U U' V V' h1 hal h2 h => ⟨NewArr.mv r U U' V V' h1 hal h2 h.1, by rw [h1, h2]; exact h.2⟩) ?_
  intro p e s m args below meth c s₁ X0 hexec hbytes hml hret hlk hnm hown hh0 W hP
  obtain ⟨rfl, hA, l1, l2, hp⟩ := hP
  have a31 := hA.1.2.2.2
  have c1 : Steps p.tables e below (s₁.setTop (entryFrame m #[.ref b, .int (Int32.ofNat o), .int (Int32.ofNat len)] 6)) (s₁.setTop (mkF m 0 #[.val (.ref b), .val (.int (Int32.ofNat o)), .val (.int (Int32.ofNat len)), .unset, .unset, .unset] [])) := entry rfl
  have c2 : Steps p.tables e below (s₁.setTop (entryFrame m #[.ref b, .int (Int32.ofNat o), .int (Int32.ofNat len)] 6)) (s₁.setTop (mkF m 1 #[.val (.ref b), .val (.int (Int32.ofNat o)), .val (.int (Int32.ofNat len)), .unset, .unset, .unset] [.int (Int32.ofNat len)])) := c1.trans (by
    refine XS.iloadN X0.here hexec rfl (hb hbytes d0) rfl ?_
    exact Steps.refl _)
  obtain ⟨T3, B3, X3, ba3, bs3, bv3, bh3, bf3, st3⟩ := X0.anew hexec (atype := .byte) (wk W (.arrayClass .byte)) rfl (by show len * 1 ≤ _; omega) (by omega) (g := (mkF m 1 #[.val (.ref b), .val (.int (Int32.ofNat o)), .val (.int (Int32.ofNat len)), .unset, .unset, .unset] [.int (Int32.ofNat len)])) rfl (hb hbytes d1) (rest := []) rfl (Nat.le_refl _) (by show 0 + len ≤ len; omega)
  rw [hh0] at ba3 st3
  have kp3 : XT.Kept s T3 := (XT.Kept.of_eq hh0).push bh3
  have hA3 := hA.keep X3.warmed.alike (kp3 _ _ hA.1.1)
  have hne : b ≠ s.heap.size := hA.1.ne
  have c4 : Steps p.tables e below (s₁.setTop (entryFrame m #[.ref b, .int (Int32.ofNat o), .int (Int32.ofNat len)] 6)) (T3.setTop (mkF m 3 #[.val (.ref b), .val (.int (Int32.ofNat o)), .val (.int (Int32.ofNat len)), .unset, .unset, .unset] [.ref s.heap.size])) := c2.trans (st3 _ (Steps.refl _))
  have c5 : Steps p.tables e below (s₁.setTop (entryFrame m #[.ref b, .int (Int32.ofNat o), .int (Int32.ofNat len)] 6)) (T3.setTop (mkF m 9 #[.val (.ref b), .val (.int (Int32.ofNat o)), .val (.int (Int32.ofNat len)), .val (.ref s.heap.size), .unset, .unset] [.int (Int32.ofNat len), .int 0, .ref s.heap.size, .int (Int32.ofNat o), .ref b])) := c4.trans (by
    refine XS.astoreN X3.here hexec rfl (hb hbytes d3) rfl rfl rfl ?_
    refine XS.aloadN X3.here hexec rfl (hb hbytes d4) rfl rfl ?_
    refine XS.iloadN X3.here hexec rfl (hb hbytes d5) rfl ?_
    refine XS.aloadN X3.here hexec rfl (hb hbytes d6) rfl rfl ?_
    refine iconstV X3.here hexec rfl 0 (hb hbytes d7) (by decide) ?_
    refine XS.iloadN X3.here hexec rfl (hb hbytes d8) rfl ?_
    exact Steps.refl _)
  obtain ⟨v6, T6, X6, E6, g6⟩ := X3.callS hexec (Cmp5.law l b A s.heap.size B3 o 0 len) hown (wks W (staticW U16 115 Cmp5.yN)) (wk W Cmp5.tab) (W := 0) (Nat.le_of_ble_eq_true rfl) (Nat.le_of_ble_eq_true rfl) (Nat.le_refl _) (by show 0 + len + 0 ≤ len; omega) (g := (mkF m 9 #[.val (.ref b), .val (.int (Int32.ofNat o)), .val (.int (Int32.ofNat len)), .val (.ref s.heap.size), .unset, .unset] [.int (Int32.ofNat len), .int (Int32.ofNat 0), .ref s.heap.size, .int (Int32.ofNat o), .ref b])) rfl (by rw [hml]; rfl) c5 (argsL := [.ref b, .int (Int32.ofNat o), .ref s.heap.size, .int (Int32.ofNat 0), .int (Int32.ofNat len)]) (rest := []) rfl rfl (by show 2 * 0 + 0 ≤ _; decide) (hb hbytes d9) (⟨rfl, hA3, ba3, hne, l1, by rw [bs3]; simp, hp⟩)
  obtain ⟨rfl, B6, p6, f6⟩ := E6
  have c7 : Steps p.tables e below (s₁.setTop (entryFrame m #[.ref b, .int (Int32.ofNat o), .int (Int32.ofNat len)] 6)) (T6.setTop (mkF m 12 #[.val (.ref b), .val (.int (Int32.ofNat o)), .val (.int (Int32.ofNat len)), .val (.ref s.heap.size), .unset, .unset] [.int (Int32.ofNat len)])) := g6
  have c8 : Steps p.tables e below (s₁.setTop (entryFrame m #[.ref b, .int (Int32.ofNat o), .int (Int32.ofNat len)] 6)) (T6.setTop (mkF m 58 #[.val (.ref b), .val (.int (Int32.ofNat o)), .val (.int (Int32.ofNat len)), .val (.ref s.heap.size), .val (.int (Int32.ofNat len)), .unset] [.ref s.heap.size])) := c7.trans (by
    refine XS.istore X6.here hexec rfl (hb hbytes d12) rfl rfl ?_
    refine XS.iload X6.here hexec rfl (hb hbytes d14) rfl ?_
    refine XS.iloadN X6.here hexec rfl (hb hbytes d16) rfl ?_
    refine XS.icmpYes X6.here hexec rfl (pc0 := 17) rfl (hb hbytes d17) rfl (ii_eq_t rfl) (by decide) rfl ?_
    refine XS.aloadN X6.here hexec rfl (hb hbytes d57) rfl rfl ?_
    exact Steps.refl _)
  have X8 := X6.wide (L' := []) (cells' := 1) (slots' := len) (fun x hx hlt => by
    simp only [List.nil_append, copyLocs, List.mem_map, List.mem_range] at hx
    obtain ⟨i, -, rfl⟩ := hx
    exact absurd hlt (Nat.lt_irrefl _)) (Nat.le_refl _) (by omega)
  exact ⟨T6, some (.ref s.heap.size), _, _, _, X8, rfl, rfl, rfl, (fun h => by cases h), ⟨⟨rfl, B6, ba3.like (X3.warmed.alike.symm.trans X6.warmed.alike) p6.1 f6.1 f6.2.1 f6.2.2.1, f6.2.1.trans bv3, by rw [X6.warmed.alike.findClass, f6.1]; exact bf3, by rw [f6.2.2.1, bs3]; simp, fun j hj => by rw [f6.2.2.2 j, if_pos (by omega)]; rfl, kp3.put p6 (Nat.le_refl _)⟩, by rw [p6.2.2, bh3, hh0]; simp⟩, fun fs hl => c8.trans (X8.areturnOut hexec rfl hret rfl (hb hbytes d58) hl)⟩
end Cmp3
namespace CodL
def yN : MethodName := ⟨"java/lang/StringUTF16", "coderFromArrayLen", "([BI)B"⟩
abbrev yB : ByteArray := jdk_52_method_15_code
theorem d0 : decode yB 0 = .ok (.iload_n 1, 1) := by decide +kernel
theorem d1 : decode yB 1 = .ok (.aload_n 0, 1) := by decide +kernel
theorem d2 : decode yB 2 = .ok (.arraylength, 1) := by decide +kernel
theorem d3 : decode yB 3 = .ok (.isub, 1) := by decide +kernel
theorem d4 : decode yB 4 = .ok (.bipush 31, 2) := by decide +kernel
theorem d6 : decode yB 6 = .ok (.iushr, 1) := by decide +kernel
theorem d7 : decode yB 7 = .ok (.i2b, 1) := by decide +kernel
theorem d8 : decode yB 8 = .ok (.ireturn, 1) := by decide +kernel
def site : List Cond := []
def tab : Cond := tabOf yN yB 2 (some .byte) site
def P (d : Addr) (B : Cell) (args : Array Value) (s : State) : Prop := args = #[.ref d, .int (Int32.ofNat B.slots.size)] ∧ Arr .byte d B s
def E (r : Option Value) (s u : State) : Prop := XT.PureE (some (.int 0)) r s u
/-- an array as long as the number of chars: LATIN1 -/
theorem law (l : Launch) (d : Addr) (B : Cell) : Law l yN 2 2 0 0 yB 2 (some .byte) site (P d B) E [] 0 0 := by
  refine Law.of_walk (plainFor_of_name (by decide +kernel)) (by decide +kernel) (by decide +kernel) (by decide) (fun _ _ h => by rw [h.1]; rfl) (fun _ U U' hal hh h => ⟨h.1, h.2.mv hal hh⟩) (fun r U U' V V' h1 hal h2 h => XT.PureE.mv r U U' V V' h1 hal h2 h) ?_
  intro p e s m args below meth c s₁ X0 hexec hbytes hml hret hlk hnm hown hh0 W hP
  obtain ⟨rfl, hB⟩ := hP
  have hB0 := hB.mv X0.warmed.alike hh0
  have c1 : Steps p.tables e below (s₁.setTop (entryFrame m #[.ref d, .int (Int32.ofNat B.slots.size)] 2)) (s₁.setTop (mkF m 0 #[.val (.ref d), .val (.int (Int32.ofNat B.slots.size))] [])) := entry rfl
  have c2 : Steps p.tables e below (s₁.setTop (entryFrame m #[.ref d, .int (Int32.ofNat B.slots.size)] 2)) (s₁.setTop (mkF m 2 #[.val (.ref d), .val (.int (Int32.ofNat B.slots.size))] [.ref d, .int (Int32.ofNat B.slots.size)])) := c1.trans (by
    refine XS.iloadN X0.here hexec rfl (hb hbytes d0) rfl ?_
    refine XS.aloadN X0.here hexec rfl (hb hbytes d1) rfl rfl ?_
    exact Steps.refl _)
  have c3 : Steps p.tables e below (s₁.setTop (entryFrame m #[.ref d, .int (Int32.ofNat B.slots.size)] 2)) (s₁.setTop (mkF m 8 #[.val (.ref d), .val (.int (Int32.ofNat B.slots.size))] [.int (lo8 (ushr (Int32.ofNat B.slots.size - Int32.ofNat B.slots.size) 31))])) := c2.trans (by
    refine X0.alen hexec hB0 rfl rfl (hb hbytes d2) ?_
    refine XS.isub X0.here hexec rfl (hb hbytes d3) rfl ?_
    refine bipushV X0.here hexec rfl 31 (hb hbytes d4) (by decide) ?_
    refine iushr X0.here hexec rfl (hb hbytes d6) rfl ?_
    refine i2b X0.here hexec rfl (hb hbytes d7) rfl ?_
    exact Steps.refl _)
  have e0 : lo8 (ushr (Int32.ofNat B.slots.size - Int32.ofNat B.slots.size) 31) = 0 := by rw [Int32.sub_self]; decide
  rw [e0] at c3
  exact ⟨s₁, some (.int 0), _, _, _, X0, rfl, rfl, rfl, (fun h => by cases h), ⟨rfl, hh0⟩, fun fs hl => c3.trans (X0.ireturnOut hexec hret rfl (Or.inr (Or.inr (Or.inl rfl))) (hb hbytes d8) hl)⟩
end CodL
/-- the String at a is Latin-1 over a new byte[] (the heap's one new cell): the low bytes of the len chars of A from o on; every cell but a is kept -/
def Got (a : Addr) (D : Cell) (fV fC : Field) (A : Cell) (o len : Nat) (r : Option Value) (s u : State) : Prop := r = none ∧ ∃ D' V : Cell, Blank "java/lang/String" a D' u ∧ Same D D' [fV.slot, fC.slot] ∧ D'.slots[fV.slot]? = some (.ref s.heap.size) ∧ D'.slots[fC.slot]? = some (.int 0) ∧ Arr .byte s.heap.size V u ∧ V.vm = .none ∧ u.vm.findClass "[B" = some V.cls ∧ V.slots.size = len ∧ (∀ j, j < len → V.slots[j]? = some (.int (lo8 (cv A (o + j))))) ∧ (∀ (y : Addr) (c : Cell), y ≠ a → s.heap[y]? = some c → u.heap[y]? = some c) ∧ u.heap.size = s.heap.size + 1
theorem Got.mv {a : Addr} {D A : Cell} {fV fC : Field} {o len : Nat} : ∀ r (U U' V V' : State), U'.heap = U.heap → V.vm.Alike V'.vm → V'.heap = V.heap → Got a D fV fC A o len r U V → Got a D fV fC A o len r U' V' :=
  fun r U U' V V' h1 hal h2 ⟨e0, D', X, a1, a2, a3, a4, a5, a6, a7, a8, a9, a10, a11⟩ => ⟨e0, D', X, a1.mv hal h2, a2, by rw [h1]; exact a3, a4, by rw [h1]; exact a5.mv hal h2, a6, by rw [hal.findClass]; exact a7, a8, a9, by rw [h1, h2]; exact a10, by rw [h1, h2]; exact a11⟩
namespace New4
def yN : MethodName := ⟨"java/lang/String", "<init>", "([CIILjava/lang/Void;)V"⟩
abbrev yB : ByteArray := jdk_42_method_149_code
theorem d0 : decode yB 0 = .ok (.aload_n 0, 1) := by decide +kernel
theorem d1 : decode yB 1 = .ok (.invokespecial 1, 3) := by decide +kernel
theorem d4 : decode yB 4 = .ok (.iload_n 3, 1) := by decide +kernel
theorem d5 : decode yB 5 = .ok (.ifCond (.ne) 22, 3) := by decide +kernel
theorem d27 : decode yB 27 = .ok (.getstatic 38, 3) := by decide +kernel
theorem d30 : decode yB 30 = .ok (.ifCond (.eq) 28, 3) := by decide +kernel
theorem d33 : decode yB 33 = .ok (.aload_n 1, 1) := by decide +kernel
theorem d34 : decode yB 34 = .ok (.iload_n 2, 1) := by decide +kernel
theorem d35 : decode yB 35 = .ok (.iload_n 3, 1) := by decide +kernel
theorem d36 : decode yB 36 = .ok (.invokestatic 177, 3) := by decide +kernel
theorem d39 : decode yB 39 = .ok (.astore 5, 2) := by decide +kernel
theorem d41 : decode yB 41 = .ok (.aload_n 0, 1) := by decide +kernel
theorem d42 : decode yB 42 = .ok (.aload 5, 2) := by decide +kernel
theorem d44 : decode yB 44 = .ok (.iload_n 3, 1) := by decide +kernel
theorem d45 : decode yB 45 = .ok (.invokestatic 47, 3) := by decide +kernel
theorem d48 : decode yB 48 = .ok (.putfield 15, 3) := by decide +kernel
theorem d51 : decode yB 51 = .ok (.aload_n 0, 1) := by decide +kernel
theorem d52 : decode yB 52 = .ok (.aload 5, 2) := by decide +kernel
theorem d54 : decode yB 54 = .ok (.putfield 9, 3) := by decide +kernel
theorem d57 : decode yB 57 = .ok (.return_, 1) := by decide +kernel
def site : List Cond := [.fieldLink "java/lang/String" 38 "java/lang/String" "COMPACT_STRINGS" "Z", Cmp3.tab, CodL.tab, .laysFinal "java/lang/String" "java/lang/String" "value" "[B", .fieldLink "java/lang/String" 9 "java/lang/String" "value" "[B", .laysFinal "java/lang/String" "java/lang/String" "coder" "B", .fieldLink "java/lang/String" 15 "java/lang/String" "coder" "B"] ++ objW "java/lang/String" 1 ++ staticW "java/lang/String" 177 Cmp3.yN ++ staticW "java/lang/String" 47 CodL.yN
def tab : Cond := tabOf yN yB 6 none site
def P (a : Addr) (D : Cell) (fV fC : Field) (b : Addr) (A : Cell) (z : Int32) (o len : Nat) (args : Array Value) (s : State) : Prop := args = #[.ref a, .ref b, .int (Int32.ofNat o), .int (Int32.ofNat len), .null] ∧ Blank "java/lang/String" a D s ∧ Found "java/lang/String" "value" "[B" fV s ∧ Found "java/lang/String" "coder" "B" fC s ∧ Ch b A s ∧ StaticIs s "java/lang/String" "COMPACT_STRINGS" "Z" (.int z) ∧ ¬ z = 0 ∧ 0 < len ∧ o + len ≤ A.slots.size ∧ len ≤ 536870912 ∧ ∀ i, i < len → ¬ 255 < cv A (o + i)
def E (a : Addr) (D : Cell) (fV fC : Field) (A : Cell) (o len : Nat) (r : Option Value) (s u : State) : Prop := Got a D fV fC A o len r s u
/-- len > 0, no char of the range above 255: a Latin-1 String of their low bytes -/
theorem law (l : Launch) (a : Addr) (D : Cell) (fV fC : Field) (b : Addr) (A : Cell) (z : Int32) (o len : Nat) : Law l yN 5 4 2 35 yB 6 none site (P a D fV fC b A z o len) (E a D fV fC A o len) [⟨a, fC.slot⟩, ⟨a, fV.slot⟩] 1 len := by
  refine Law.of_walk (plainFor_of_name (by decide +kernel)) (by decide +kernel) (by decide +kernel) (by decide) (fun _ _ h => by rw [h.1]; rfl) (fun _ U U' hal hh h => ⟨h.1, h.2.1.mv hal hh, h.2.2.1.al hal, h.2.2.2.1.al hal, h.2.2.2.2.1.mv hal hh, h.2.2.2.2.2.1.there hal hh, h.2.2.2.2.2.2⟩) (fun r U U' V V' h1 hal h2 h => Got.mv r U U' V V' h1 hal h2 h) ?_
  intro p e s m args below meth c s₁ X0 hexec hbytes hml hret hlk hnm hown hh0 W hP
  obtain ⟨rfl, hB, f1, f2, hA, s1, hz, l0, l1, l2, hp⟩ := hP
  have a31 := hA.1.2.2.2
  have c1 : Steps p.tables e below (s₁.setTop (entryFrame m #[.ref a, .ref b, .int (Int32.ofNat o), .int (Int32.ofNat len), .null] 6)) (s₁.setTop (mkF m 0 #[.val (.ref a), .val (.ref b), .val (.int (Int32.ofNat o)), .val (.int (Int32.ofNat len)), .val .null, .unset] [])) := entry rfl
  have c2 : Steps p.tables e below (s₁.setTop (entryFrame m #[.ref a, .ref b, .int (Int32.ofNat o), .int (Int32.ofNat len), .null] 6)) (s₁.setTop (mkF m 1 #[.val (.ref a), .val (.ref b), .val (.int (Int32.ofNat o)), .val (.int (Int32.ofNat len)), .val .null, .unset] [.ref a])) := c1.trans (by
    refine XS.aloadN X0.here hexec rfl (hb hbytes d0) rfl rfl ?_
    exact Steps.refl _)
  obtain ⟨T3, X3, q3, st3⟩ := X0.oinit hexec hown (wks W (objW "java/lang/String" 1)) (g := (mkF m 1 #[.val (.ref a), .val (.ref b), .val (.int (Int32.ofNat o)), .val (.int (Int32.ofNat len)), .val .null, .unset] [.ref a])) rfl (by rw [hml]; rfl) (rest := []) rfl (hb hbytes d1) (W := 0) (by show 2 * 0 + 0 ≤ _; decide) (Nat.le_of_ble_eq_true rfl) (Nat.le_of_ble_eq_true rfl)
  have hh3 := q3.trans hh0
  have c4 : Steps p.tables e below (s₁.setTop (entryFrame m #[.ref a, .ref b, .int (Int32.ofNat o), .int (Int32.ofNat len), .null] 6)) (T3.setTop (mkF m 27 #[.val (.ref a), .val (.ref b), .val (.int (Int32.ofNat o)), .val (.int (Int32.ofNat len)), .val .null, .unset] [])) := (c2.trans (st3 _ (Steps.refl _))).trans (by
    refine XS.iloadN X3.here hexec rfl (hb hbytes d4) rfl ?_
    refine XS.ifYes X3.here hexec rfl (pc0 := 5) rfl (hb hbytes d5) rfl (i0_ne_t (nz32 (by omega) l0)) (by decide) rfl ?_
    exact Steps.refl _)
  obtain ⟨T5, X5, q5, st5⟩ := X3.sget hexec hown (wk W (.fieldLink "java/lang/String" 38 "java/lang/String" "COMPACT_STRINGS" "Z")) s1 (fun _ _ h => by rw [hh3]; exact h) (g := (mkF m 27 #[.val (.ref a), .val (.ref b), .val (.int (Int32.ofNat o)), .val (.int (Int32.ofNat len)), .val .null, .unset] [])) rfl (hb hbytes d27)
  have hh5 := q5.trans hh3
  have c6 : Steps p.tables e below (s₁.setTop (entryFrame m #[.ref a, .ref b, .int (Int32.ofNat o), .int (Int32.ofNat len), .null] 6)) (T5.setTop (mkF m 30 #[.val (.ref a), .val (.ref b), .val (.int (Int32.ofNat o)), .val (.int (Int32.ofNat len)), .val .null, .unset] [.int z])) := c4.trans (st5 _ (Steps.refl _))
  have c7 : Steps p.tables e below (s₁.setTop (entryFrame m #[.ref a, .ref b, .int (Int32.ofNat o), .int (Int32.ofNat len), .null] 6)) (T5.setTop (mkF m 36 #[.val (.ref a), .val (.ref b), .val (.int (Int32.ofNat o)), .val (.int (Int32.ofNat len)), .val .null, .unset] [.int (Int32.ofNat len), .int (Int32.ofNat o), .ref b])) := c6.trans (by
    refine XS.ifNo X5.here hexec rfl (hb hbytes d30) rfl (i0_eq_f hz) ?_
    refine XS.aloadN X5.here hexec rfl (hb hbytes d33) rfl rfl ?_
    refine XS.iloadN X5.here hexec rfl (hb hbytes d34) rfl ?_
    refine XS.iloadN X5.here hexec rfl (hb hbytes d35) rfl ?_
    exact Steps.refl _)
  obtain ⟨v8, T8, X8, E8, g8⟩ := X5.callS hexec (Cmp3.law l b A o len) hown (wks W (staticW "java/lang/String" 177 Cmp3.yN)) (wk W Cmp3.tab) (W := 0) (Nat.le_of_ble_eq_true rfl) (Nat.le_of_ble_eq_true rfl) (Nat.le_refl _) (by show 0 + len ≤ len; omega) (g := (mkF m 36 #[.val (.ref a), .val (.ref b), .val (.int (Int32.ofNat o)), .val (.int (Int32.ofNat len)), .val .null, .unset] [.int (Int32.ofNat len), .int (Int32.ofNat o), .ref b])) rfl (by rw [hml]; rfl) c7 (argsL := [.ref b, .int (Int32.ofNat o), .int (Int32.ofNat len)]) (rest := []) rfl rfl (by show 2 * 0 + 0 ≤ _; decide) (hb hbytes d36) (⟨rfl, hA.mv X5.warmed.alike hh5, l1, l2, hp⟩)
  obtain ⟨e8, z8⟩ := E8
  obtain ⟨rfl, N, n1, n2, n3, n4, n5, n6⟩ := NewArr.mv _ T5 s _ _ hh5.symm (Vm.Alike.refl _) rfl e8
  rw [hh5] at z8
  have hB1 := hB.keep X8.warmed.alike (n6 _ _ hB.1)
  have hne : s.heap.size ≠ a := (Nat.ne_of_lt (Array.getElem?_eq_some_iff.mp hB.1).1).symm
  have c9 : Steps p.tables e below (s₁.setTop (entryFrame m #[.ref a, .ref b, .int (Int32.ofNat o), .int (Int32.ofNat len), .null] 6)) (T8.setTop (mkF m 39 #[.val (.ref a), .val (.ref b), .val (.int (Int32.ofNat o)), .val (.int (Int32.ofNat len)), .val .null, .unset] [.ref s.heap.size])) := g8
  have c10 : Steps p.tables e below (s₁.setTop (entryFrame m #[.ref a, .ref b, .int (Int32.ofNat o), .int (Int32.ofNat len), .null] 6)) (T8.setTop (mkF m 45 #[.val (.ref a), .val (.ref b), .val (.int (Int32.ofNat o)), .val (.int (Int32.ofNat len)), .val .null, .val (.ref s.heap.size)] [.int (Int32.ofNat N.slots.size), .ref s.heap.size, .ref a])) := by
    have hc : Steps p.tables e below (s₁.setTop (entryFrame m #[.ref a, .ref b, .int (Int32.ofNat o), .int (Int32.ofNat len), .null] 6)) (T8.setTop (mkF m 45 #[.val (.ref a), .val (.ref b), .val (.int (Int32.ofNat o)), .val (.int (Int32.ofNat len)), .val .null, .val (.ref s.heap.size)] [.int (Int32.ofNat len), .ref s.heap.size, .ref a])) := c9.trans (by
      refine XS.astore X8.here hexec rfl (hb hbytes d39) rfl rfl rfl ?_
      refine XS.aloadN X8.here hexec rfl (hb hbytes d41) rfl rfl ?_
      refine XS.aload X8.here hexec rfl (hb hbytes d42) rfl rfl ?_
      refine XS.iloadN X8.here hexec rfl (hb hbytes d44) rfl ?_
      exact Steps.refl _)
    rw [n4]; exact hc
  obtain ⟨v11, T11, X11, E11, g11⟩ := X8.callS hexec (CodL.law l s.heap.size N) hown (wks W (staticW "java/lang/String" 47 CodL.yN)) (wk W CodL.tab) (W := 1) (Nat.le_of_ble_eq_true rfl) (Nat.le_of_ble_eq_true rfl) (Nat.le_refl _) (by show 0 + len + 0 ≤ len; omega) (g := (mkF m 45 #[.val (.ref a), .val (.ref b), .val (.int (Int32.ofNat o)), .val (.int (Int32.ofNat len)), .val .null, .val (.ref s.heap.size)] [.int (Int32.ofNat N.slots.size), .ref s.heap.size, .ref a])) rfl (by rw [hml]; rfl) c10 (argsL := [.ref s.heap.size, .int (Int32.ofNat N.slots.size)]) (rest := [.ref a]) rfl rfl (by show 2 * 0 + (1 + 0) ≤ _; decide) (hb hbytes d45) (⟨rfl, n1⟩)
  obtain ⟨rfl, q11⟩ := E11
  have hB11 := hB1.mv (X8.warmed.alike.symm.trans X11.warmed.alike) q11
  have c12 : Steps p.tables e below (s₁.setTop (entryFrame m #[.ref a, .ref b, .int (Int32.ofNat o), .int (Int32.ofNat len), .null] 6)) (T11.setTop (mkF m 48 #[.val (.ref a), .val (.ref b), .val (.int (Int32.ofNat o)), .val (.int (Int32.ofNat len)), .val .null, .val (.ref s.heap.size)] [.int 0, .ref a])) := g11
  obtain ⟨T13, X13, p13, bl13, sl13, st13⟩ := X11.finit hexec hown (wk W (.fieldLink "java/lang/String" 15 "java/lang/String" "coder" "B")) (Or.inr ⟨_, (wk W (.laysFinal "java/lang/String" "java/lang/String" "coder" "B"))⟩) (Or.inl ⟨rfl, hnm⟩) f2 (Or.inl rfl) hB11 (t := .byte) (by decide +kernel) rfl (g := (mkF m 48 #[.val (.ref a), .val (.ref b), .val (.int (Int32.ofNat o)), .val (.int (Int32.ofNat len)), .val .null, .val (.ref s.heap.size)] [.int 0, .ref a])) rfl (rest := []) rfl (hb hbytes d48)
  have c14 : Steps p.tables e below (s₁.setTop (entryFrame m #[.ref a, .ref b, .int (Int32.ofNat o), .int (Int32.ofNat len), .null] 6)) (T13.setTop (mkF m 54 #[.val (.ref a), .val (.ref b), .val (.int (Int32.ofNat o)), .val (.int (Int32.ofNat len)), .val .null, .val (.ref s.heap.size)] [.ref s.heap.size, .ref a])) := (c12.trans (st13 _ (Steps.refl _))).trans (by
    refine XS.aloadN X13.here hexec rfl (hb hbytes d51) rfl rfl ?_
    refine XS.aload X13.here hexec rfl (hb hbytes d52) rfl rfl ?_
    exact Steps.refl _)
  obtain ⟨T15, X15, p15, bl15, sl15, st15⟩ := X13.finit hexec hown (wk W (.fieldLink "java/lang/String" 9 "java/lang/String" "value" "[B")) (Or.inr ⟨_, (wk W (.laysFinal "java/lang/String" "java/lang/String" "value" "[B"))⟩) (Or.inl ⟨rfl, hnm⟩) f1 (Or.inl rfl) bl13 (t := (.array .byte)) (by decide +kernel) rfl (g := (mkF m 54 #[.val (.ref a), .val (.ref b), .val (.int (Int32.ofNat o)), .val (.int (Int32.ofNat len)), .val .null, .val (.ref s.heap.size)] [.ref s.heap.size, .ref a])) rfl (rest := []) rfl (hb hbytes d54)
  have c16 : Steps p.tables e below (s₁.setTop (entryFrame m #[.ref a, .ref b, .int (Int32.ofNat o), .int (Int32.ofNat len), .null] 6)) (T15.setTop (mkF m 57 #[.val (.ref a), .val (.ref b), .val (.int (Int32.ofNat o)), .val (.int (Int32.ofNat len)), .val .null, .val (.ref s.heap.size)] [])) := c14.trans (st15 _ (Steps.refl _))
  have ap := apart (Or.inr ⟨_, (wk W (.laysFinal "java/lang/String" "java/lang/String" "value" "[B"))⟩) (Or.inr ⟨_, (wk W (.laysFinal "java/lang/String" "java/lang/String" "coder" "B"))⟩) f1 f2 (t₁ := .array .byte) (t₂ := .byte) (by decide +kernel) (by decide +kernel) (by decide)
  have al := X8.warmed.alike.symm.trans X15.warmed.alike
  have n7 : T11.heap[s.heap.size]? = some N := by rw [q11]; exact n1.1
  exact ⟨T15, none, _, _, _, X15, by simp, rfl, by omega, (fun _ => rfl), ⟨rfl, _, N, bl15, ((Same.refl D _).set _ (by simp)).set _ (by simp), sl15, (Cell.slots_setSlot_ne _ ap).trans sl13, n1.keep al (p15.other hne (p13.other hne n7)), n2, by rw [al.findClass]; exact n3, n4, n5, fun y c h1 h2 => p15.other h1 (p13.other h1 (by rw [q11]; exact n6 y c h2)), by rw [p15.2.2, p13.2.2, q11]; exact z8⟩, fun fs hl => c16.trans (X15.returnOut hexec hret (hb hbytes d57) hl)⟩
end New4
namespace New1
def yN : MethodName := ⟨"java/lang/String", "<init>", "([C)V"⟩
abbrev yB : ByteArray := jdk_42_method_3_code
theorem d0 : decode yB 0 = .ok (.aload_n 0, 1) := by decide +kernel
theorem d1 : decode yB 1 = .ok (.aload_n 1, 1) := by decide +kernel
theorem d2 : decode yB 2 = .ok (.iconst 0, 1) := by decide +kernel
theorem d3 : decode yB 3 = .ok (.aload_n 1, 1) := by decide +kernel
theorem d4 : decode yB 4 = .ok (.arraylength, 1) := by decide +kernel
theorem d5 : decode yB 5 = .ok (.aconst_null, 1) := by decide +kernel
theorem d6 : decode yB 6 = .ok (.invokespecial 27, 3) := by decide +kernel
theorem d9 : decode yB 9 = .ok (.return_, 1) := by decide +kernel
def site : List Cond := [New4.tab] ++ initW "java/lang/String" 27 New4.yN
def tab : Cond := tabOf yN yB 2 none site
def P (a : Addr) (D : Cell) (fV fC : Field) (b : Addr) (A : Cell) (z : Int32) (args : Array Value) (s : State) : Prop := args = #[.ref a, .ref b] ∧ Blank "java/lang/String" a D s ∧ Found "java/lang/String" "value" "[B" fV s ∧ Found "java/lang/String" "coder" "B" fC s ∧ Ch b A s ∧ StaticIs s "java/lang/String" "COMPACT_STRINGS" "Z" (.int z) ∧ ¬ z = 0 ∧ 0 < A.slots.size ∧ A.slots.size ≤ 536870912 ∧ ∀ i, i < A.slots.size → ¬ 255 < cv A i
def E (a : Addr) (D : Cell) (fV fC : Field) (A : Cell) (r : Option Value) (s u : State) : Prop := Got a D fV fC A 0 A.slots.size r s u
/-- new String(chars), not empty, no char above 255: a Latin-1 String of their low bytes -/
theorem law (l : Launch) (a : Addr) (D : Cell) (fV fC : Field) (b : Addr) (A : Cell) (z : Int32) : Law l yN 2 1 3 52 yB 2 none site (P a D fV fC b A z) (E a D fV fC A) [⟨a, fC.slot⟩, ⟨a, fV.slot⟩] 1 A.slots.size := by
  refine Law.of_walk (plainFor_of_name (by decide +kernel)) (by decide +kernel) (by decide +kernel) (by decide) (fun _ _ h => by rw [h.1]; rfl) (fun _ U U' hal hh h => ⟨h.1, h.2.1.mv hal hh, h.2.2.1.al hal, h.2.2.2.1.al hal, h.2.2.2.2.1.mv hal hh, h.2.2.2.2.2.1.there hal hh, h.2.2.2.2.2.2⟩) (fun r U U' V V' h1 hal h2 h => Got.mv r U U' V V' h1 hal h2 h) ?_
  intro p e s m args below meth c s₁ X0 hexec hbytes hml hret hlk hnm hown hh0 W hP
  obtain ⟨rfl, hB, f1, f2, hA, s1, hz, l0, l2, hp⟩ := hP
  have c1 : Steps p.tables e below (s₁.setTop (entryFrame m #[.ref a, .ref b] 2)) (s₁.setTop (mkF m 0 #[.val (.ref a), .val (.ref b)] [])) := entry rfl
  have c2 : Steps p.tables e below (s₁.setTop (entryFrame m #[.ref a, .ref b] 2)) (s₁.setTop (mkF m 6 #[.val (.ref a), .val (.ref b)] [.null, .int (Int32.ofNat A.slots.size), .int 0, .ref b, .ref a])) := c1.trans (by
    refine XS.aloadN X0.here hexec rfl (hb hbytes d0) rfl rfl ?_
    refine XS.aloadN X0.here hexec rfl (hb hbytes d1) rfl rfl ?_
    refine iconstV X0.here hexec rfl 0 (hb hbytes d2) (by decide) ?_
    refine XS.aloadN X0.here hexec rfl (hb hbytes d3) rfl rfl ?_
    refine X0.alen hexec (hA.1.mv X0.warmed.alike hh0) rfl rfl (hb hbytes d4) ?_
    refine XS.aconstNull X0.here hexec rfl (hb hbytes d5) ?_
    exact Steps.refl _)
  obtain ⟨v3, T3, X3, E3, g3⟩ := X0.callN hexec (New4.law l a D fV fC b A z 0 A.slots.size) rfl hown (wks W (initW "java/lang/String" 27 New4.yN)) (W New4.tab (by simp only [site, List.mem_cons, List.mem_append, true_or, or_true])) (W := 0) (Nat.le_of_ble_eq_true rfl) (Nat.le_of_ble_eq_true rfl) (Nat.le_refl _) (by show 0 + A.slots.size ≤ A.slots.size; omega) (g := (mkF m 6 #[.val (.ref a), .val (.ref b)] [.null, .int (Int32.ofNat A.slots.size), .int (Int32.ofNat 0), .ref b, .ref a])) rfl (by rw [hml]; rfl) c2 (argsL := [.ref b, .int (Int32.ofNat 0), .int (Int32.ofNat A.slots.size), .null]) (rest := []) rfl rfl (by show 2 * 0 + 0 ≤ _; decide) (hb hbytes d6) (⟨rfl, hB.mv X0.warmed.alike hh0, f1.al X0.warmed.alike, f2.al X0.warmed.alike, hA.mv X0.warmed.alike hh0, s1.there X0.warmed.alike hh0, hz, l0, by omega, l2, fun i hi => by rw [Nat.zero_add]; exact hp i hi⟩)
  have e0 := Got.mv _ s₁ s _ _ hh0.symm (Vm.Alike.refl _) rfl E3
  obtain rfl := e0.1
  have c4 : Steps p.tables e below (s₁.setTop (entryFrame m #[.ref a, .ref b] 2)) (T3.setTop (mkF m 9 #[.val (.ref a), .val (.ref b)] [])) := g3
  exact ⟨T3, none, _, _, _, X3, by simp, rfl, by omega, (fun _ => rfl), e0, fun fs hl => c4.trans (X3.returnOut hexec hret (hb hbytes d9) hl)⟩
theorem pays {l : Launch} {R : Room} {p : Program} {e : Env} {below : List Frame} {s : State} {sargs : Array Value} {len W : Nat} (a : Addr) (D : Cell) (fV fC : Field) (b : Addr) (A : Cell) (z : Int32) (htab : tab.before sargs s = true) (hfr : 4 ≤ R.frames) (hlo : W + 65 ≤ R.locals) :
    Back l R p e below s sargs yN len W (fun A₁ a₁ => A₁.cells + 1 ≤ R.cells ∧ A₁.slots + A.slots.size ≤ R.slots ∧ P a D fV fC b A z a₁ A₁.U) (fun A₁ _ v₁ B₁ => E a D fV fC A v₁ A₁.U B₁.U ∧ B₁.locs = A₁.locs ++ [⟨a, fC.slot⟩, ⟨a, fV.slot⟩] ∧ B₁.cells = A₁.cells + 1 ∧ B₁.slots = A₁.slots + A.slots.size) :=
  (law l a D fV fC b A z).pays htab hfr (by omega)
end New1
/-- the byte, read back as charAt reads it, is the char -/
theorem lo8_mask {x : Int32} (h0 : ¬ x < 0) (h1 : ¬ 255 < x) : lo8 x &&& 255 = x := by
  have t : ∀ k : Fin 256, lo8 (Int32.ofNat k.val) &&& 255 = Int32.ofNat k.val := by decide +kernel
  rw [Int32.lt_iff_toInt_lt] at h0 h1
  have e0 : (0 : Int32).toInt = 0 := rfl
  have e1 : (255 : Int32).toInt = 255 := rfl
  obtain ⟨k, hk⟩ : ∃ k : Nat, x.toInt = k := ⟨x.toInt.toNat, by omega⟩
  have hx : x = Int32.ofNat k := Int32.toInt_inj.mp (by rw [hk, Int32.toInt_ofNat_small (by omega)])
  rw [hx]
  exact t ⟨k, by omega⟩
end StrChars
namespace StrChars.Road
open Jvm Sem ClassFile Op Lib Jvm.Stand Jvm.Free Jvm.Free.XT
open Jvm.Lib.Cold (StaticIs)
abbrev ST : String := "java/lang/String"
/-- every table word that New1's law asks, flat -/
abbrev words : List Jvm.Cond := [.code New1.yN New1.yB 2 none, .initialized ST, .methodLink ST 27 New4.yN, .instanceMethod New4.yN,
  .code New4.yN New4.yB 6 none, .fieldLink ST 38 ST "COMPACT_STRINGS" "Z", .laysFinal ST ST "value" "[B", .fieldLink ST 9 ST "value" "[B", .laysFinal ST ST "coder" "B", .fieldLink ST 15 ST "coder" "B",
  .methodLink ST 1 Lib.objectInit, .instanceMethod Lib.objectInit, .code Lib.objectInit ⟨#[0xb1]⟩ 1 none, .methodLink ST 177 Cmp3.yN, .static Cmp3.yN, .methodLink ST 47 CodL.yN, .static CodL.yN,
  .code Cmp3.yN Cmp3.yB 6 (some (.array .byte)), .initialized U16, .arrayClass .byte, .methodLink U16 115 Cmp5.yN, .static Cmp5.yN, .code Cmp5.yN Cmp5.yB 7 (some .int), .code CodL.yN CodL.yB 2 (some .byte)]
theorem tab_of {a : Array Value} {s : State} (h : ∀ w ∈ words, w.before a s = true) : New1.tab.before a s = true := by
  have h5 : Cmp5.tab.before a s = true := unparts (wk h (.code Cmp5.yN Cmp5.yB 7 (some .int))) (wks h (.initialized Cmp5.yN.cls :: Cmp5.site))
  have hc : CodL.tab.before a s = true := unparts (wk h (.code CodL.yN CodL.yB 2 (some .byte))) (wks h (.initialized CodL.yN.cls :: CodL.site))
  have q5 : ∀ w ∈ Cmp5.tab :: words, w.before a s = true := fun w hw => (List.mem_cons.mp hw).elim (fun e => e ▸ h5) (h w)
  have h3 : Cmp3.tab.before a s = true := unparts (wk q5 (.code Cmp3.yN Cmp3.yB 6 (some (.array .byte)))) (wks q5 (.initialized Cmp3.yN.cls :: Cmp3.site))
  have q3 : ∀ w ∈ Cmp3.tab :: CodL.tab :: words, w.before a s = true := fun w hw => (List.mem_cons.mp hw).elim (fun e => e ▸ h3) fun hw => (List.mem_cons.mp hw).elim (fun e => e ▸ hc) (h w)
  have h4 : New4.tab.before a s = true := unparts (wk q3 (.code New4.yN New4.yB 6 none)) (wks q3 (.initialized New4.yN.cls :: New4.site))
  have q4 : ∀ w ∈ New4.tab :: words, w.before a s = true := fun w hw => (List.mem_cons.mp hw).elim (fun e => e ▸ h4) (h w)
  exact unparts (wk q4 (.code New1.yN New1.yB 2 none)) (wks q4 (.initialized New1.yN.cls :: New1.site))
/-- the words ride from the start Z to the walk's own state -/
theorem moved {Z s : State} {a0 args : Array Value} (hZ : Z.Warmed39 s.vm) (hw : ∀ d ∈ words, d.before a0 Z = true) : ∀ d ∈ words, d.before args s = true := fun d hd => by
  have q := hw d hd
  have t : ∀ d ∈ words, d = .arrayClass .byte ∨ (d.onTables && d.keepsFace) = true := by decide +kernel
  rcases t d hd with rfl | t
  · exact RoadKit.mvA hZ q
  · exact RoadKit.mv hZ q t
/-- WHAT COMES BACK, over the tables of the start Z: h the heap at the call, h' behind it -/
def Q (Z : State) (x : Addr) (A : Cell) (h : Heap) (v : Option Value) (h' : Heap) (L : List Loc) : Prop := v = none ∧ (∀ y ∈ L, y.base = x) ∧ RoadKit.Keep h h' [x] ∧ h'.size = h.size + 1 ∧ RoadKit.Exa Z h' x ST ∧ RoadKit.Fld Z h' x ST "value" "[B" (.ref h.size) ∧ RoadKit.Fld Z h' x ST "coder" "B" (.int 0) ∧
  (∃ V : Cell, RoadKit.Arr Z h' h.size V .byte ∧ V.vm = .none ∧ Z.vm.findClass "[B" = some V.cls ∧ V.slots.size = A.slots.size ∧ ∀ j, j < A.slots.size → V.slots[j]? = some (.int (lo8 (cv A j)))) ∧
  ∀ (O n d : String) (w : Value), RoadKit.Fld Z h x O n d w → RoadKit.slotOf Z O n d ≠ RoadKit.slotOf Z ST "value" "[B" → RoadKit.slotOf Z O n d ≠ RoadKit.slotOf Z ST "coder" "B" → RoadKit.Fld Z h' x O n d w
/-- **new String(chars) AT A CALL, IN THE ROAD'S FORM**: for specialBack behind newO: x the fresh String, b the char[] with the cell A -/
theorem back {p : Program} {l : Launch} {e : Env} {R : Room} {s : State} {args : Array Value} {below : List Frame} {len W : Nat} {Z : State} {a0 : Array Value} {h : Heap} (hZ : Z.Warmed39 s.vm) (hw : ∀ d ∈ words, d.before a0 Z = true) {kI : Nat} (wi : (Jvm.Cond.instantiable ST kI).before a0 Z = true)
    {x b : Addr} {A : Cell} {z : Int32} {v0 c0 : Value} (E : RoadKit.Exa Z h x ST) (V : RoadKit.Fld Z h x ST "value" "[B" v0) (C : RoadKit.Fld Z h x ST "coder" "B" c0) (K : RoadKit.Arr Z h b A .char) (hty : Typed .char A) (S : RoadKit.Sta Z h ST "COMPACT_STRINGS" "Z" (.int z)) (hz : ¬ z = 0)
    (l0 : 0 < A.slots.size) (l2 : A.slots.size ≤ 536870912) (hp : ∀ i, i < A.slots.size → ¬ 255 < cv A i) (hfr : 4 ≤ R.frames) (hlo : W + 65 ≤ R.locals) :
    Back l R p e below s args New1.yN len W (fun P a => a = #[.ref x, .ref b] ∧ P.U.heap = h ∧ P.cells + 1 ≤ R.cells ∧ P.slots + A.slots.size ≤ R.slots)
      (fun P _ v B => ∃ L, Q Z x A h v B.U.heap L ∧ B.locs = P.locs ++ L ∧ B.cells = P.cells + 1 ∧ B.slots = P.slots + A.slots.size) := by
  intro m meth c P g ig mk a X hg hsize hdg hW hn hp'
  obtain ⟨rfl, rfl, r1, r2⟩ := hp'
  have al : Z.vm.Alike P.U.vm := hZ.alike.trans X.warmed.alike
  obtain ⟨D, cfV, kV, iV, fV, hD, gV, stV, knV, obV, asV, slV⟩ := id V
  obtain ⟨D', cfC, kC, iC, fC, hD', gC, stC, -, -, asC, slC⟩ := id C
  cases hD.symm.trans hD'
  obtain ⟨D2, kD, e1, e2, e3, e4, e5⟩ := id E
  cases hD.symm.trans e1
  obtain ⟨c2, k2, i1, i2, i3, -⟩ := Cond.instantiable_spec wi
  cases e2.symm.trans i1
  cases e3.symm.trans i2
  obtain ⟨kU, u1, u2⟩ := al.2.2 _ _ e3
  have hB : Blank ST x D P.U := ⟨hD, ⟨knV, fun q hq => by rw [hq] at obV; cases obV⟩, by rw [al.findClass]; exact e2, kU, u1, by rw [u2]; exact i3, by rw [u2]; exact e5 i3⟩
  have F1 : Found ST "value" "[B" fV P.U := ⟨SBG.found_only al ⟨cfV, kV, iV, gV⟩, stV⟩
  have F2 : Found ST "coder" "B" fC P.U := ⟨SBG.found_only al ⟨cfC, kC, iC, gC⟩, stC⟩
  have hA : Ch b A P.U := ⟨⟨K.1, State.isArrayOf_alike al K.2.1, K.2.2, by omega⟩, hty⟩
  have hS : StaticIs P.U ST "COMPACT_STRINGS" "Z" (.int z) := by
    obtain ⟨cfS, iS, kS, fS, st, cS, t1, t2, t3, t4, t5, t6, t7⟩ := S
    exact StaticIs.there (s := { Z with heap := P.U.heap }) ⟨cfS, iS, kS, fS, st, cS, t1, t2, t3, t4, t5, (fun q => by rw [q] at t6; cases t6), t7⟩ al rfl
  obtain ⟨v, B, X', ⟨⟨hv, E', V', q1, q2, q3, q4, q5, q6, q7, q8, q9, q10, q11⟩, hl, hc, hs⟩, st⟩ := New1.pays x D fV fC b A z (tab_of (moved hZ hw)) hfr hlo m meth c P g ig mk _ X hg hsize hdg hW hn ⟨r1, r2, rfl, hB, F1, F2, hA, hS, hz, l0, l2, hp⟩
  have al' : Z.vm.Alike B.U.vm := hZ.alike.trans X'.warmed.alike
  have hsz : E'.slots.size = D.slots.size := by
    obtain ⟨-, -, -, kB, w1, w2, w3⟩ := q1
    obtain ⟨kB', y1, y2⟩ := al'.2.2 _ _ e3
    rw [q2.2.1] at w1
    cases w1.symm.trans y1
    rw [w3, e5 i3, y2]
  refine ⟨v, B, X', ⟨_, ⟨hv, ?_, ⟨by omega, fun y cy hy hn' => q10 y cy (by simpa using hn') hy, fun y cy hy => ?_⟩, q11, ⟨E', _, q1.1, by rw [q2.2.1]; exact e2, by rw [q2.2.1]; exact e3, by rw [q2.1]; exact obV, fun _ => by rw [hsz]; exact e5 i3⟩,
    ⟨E', cfV, kV, iV, fV, q1.1, gV, stV, by rw [q2.1]; exact knV, by rw [q2.1]; exact obV, by rw [q2.2.1]; exact asV, q3⟩, ⟨E', cfC, kC, iC, fC, q1.1, gC, stC, by rw [q2.1]; exact knV, by rw [q2.1]; exact obV, by rw [q2.2.1]; exact asC, q4⟩,
    ⟨V', ⟨q5.1, State.isArrayOf_alike al'.symm q5.2.1, q5.2.2.1⟩, q6, by rw [← al'.findClass]; exact q7, q8, fun j hj => by have := q9 j hj; rwa [Nat.zero_add] at this⟩, fun O n d w F n1 n2 => ?_⟩, hl, hc, hs⟩, st⟩
  · intro y hy
    simp only [List.mem_cons, List.not_mem_nil, or_false] at hy
    rcases hy with rfl | rfl <;> rfl
  · by_cases q : y = x
    · subst q
      cases hD.symm.trans hy
      exact ⟨E', q1.1, q2.2.1, q2.1, hsz⟩
    · exact ⟨cy, q10 y cy q hy, rfl, rfl, rfl⟩
  · obtain ⟨D3, cf, k, i, f, g1, g2, g3, g4, g5, g6, g7⟩ := F
    cases hD.symm.trans g1
    simp only [RoadKit.slotOf, g2, gV, gC, Option.map_some, Option.getD_some] at n1 n2
    exact ⟨E', cf, k, i, f, q1.1, g2, g3, by rw [q2.1]; exact g4, by rw [q2.1]; exact g5, by rw [q2.2.1]; exact g6, by rw [q2.2.2 f.slot (by simp [n1, n2])]; exact g7⟩
end StrChars.Road
namespace StrChars.Road
open Jvm Sem ClassFile Op Lib Jvm.Stand Jvm.Free Jvm.Free.XT
/-- WHAT COMES BACK, the byte[] as a list of values -/
def QA (Z : State) (x : Addr) (zn : Int32) (cs : List Int32) (h : Heap) (v : Option Value) (h' : Heap) (L : List Loc) : Prop := v = none ∧ (∀ y ∈ L, y.base = x) ∧ RoadKit.Keep h h' [x] ∧ h'.size = h.size + 1 ∧ RoadKit.Exa Z h' x ST ∧ RoadKit.Fld Z h' x ST "value" "[B" (.ref h.size) ∧ RoadKit.Fld Z h' x ST "coder" "B" (.int 0) ∧
  (∃ kb, Z.vm.findClass "[B" = some kb ∧ RoadKit.Arv Z h' h.size kb .byte zn (cs.map fun c => .int (lo8 c)) (.int 0)) ∧
  ∀ (O n d : String) (w : Value), RoadKit.Fld Z h x O n d w → RoadKit.slotOf Z O n d ≠ RoadKit.slotOf Z ST "value" "[B" → RoadKit.slotOf Z O n d ≠ RoadKit.slotOf Z ST "coder" "B" → RoadKit.Fld Z h' x O n d w
/-- **new String(chars) AT A CALL, THE ARRAYS AS LISTS**: the char[] at b holds cs, not empty, no char above 255 -/
theorem backArv {p : Program} {l : Launch} {e : Env} {R : Room} {s : State} {args : Array Value} {below : List Frame} {len W : Nat} {Z : State} {a0 : Array Value} {h : Heap} (hZ : Z.Warmed39 s.vm) (hw : ∀ d ∈ words, d.before a0 Z = true) {kI : Nat} (wi : (Jvm.Cond.instantiable ST kI).before a0 Z = true)
    {x b : Addr} {k : ClassId} {zn z : Int32} {cs : List Int32} {dv v0 c0 : Value} (E : RoadKit.Exa Z h x ST) (V : RoadKit.Fld Z h x ST "value" "[B" v0) (C : RoadKit.Fld Z h x ST "coder" "B" c0) (K : RoadKit.Arv Z h b k .char zn (cs.map Value.int) dv) (S : RoadKit.Sta Z h ST "COMPACT_STRINGS" "Z" (.int z)) (hz : ¬ z = 0)
    (hlen : zn.toNatClampNeg = cs.length) (h0 : 0 < cs.length) (hbig : cs.length ≤ 536870912) (hall : ∀ c ∈ cs, ¬ 255 < c) (hfr : 4 ≤ R.frames) (hlo : W + 65 ≤ R.locals) :
    Back l R p e below s args New1.yN len W (fun P a => a = #[.ref x, .ref b] ∧ P.U.heap = h ∧ P.cells + 1 ≤ R.cells ∧ P.slots + cs.length ≤ R.slots)
      (fun P _ v B => ∃ L, QA Z x zn cs h v B.U.heap L ∧ B.locs = P.locs ++ L ∧ B.cells = P.cells + 1 ∧ B.slots = P.slots + cs.length) := by
  obtain ⟨A, K1, K2, K3, K4, K5, K6⟩ := K
  have e : A.slots.size = cs.length := K3.trans hlen
  have hat : ∀ (i : Nat) (hi : i < cs.length), A.slots[i]? = some (.int cs[i]) := fun i hi => by rw [K5 i (by omega)]; simp [List.getD_eq_getElem?_getD, hi]
  have hcv : ∀ (i : Nat) (hi : i < cs.length), cv A i = cs[i] := fun i hi => by unfold cv; rw [hat i hi]
  have hty : Typed .char A := fun i v hv => by
    have hi : i < A.slots.size := (Array.getElem?_eq_some_iff.mp hv).1
    have q := K5 i hi
    rw [hv] at q
    rw [Option.some.inj q]
    exact K6 i hi
  refine Back.mono (back hZ hw wi E V C K1 hty S hz (by omega) (by omega) (fun i hi => by rw [hcv i (by omega)]; exact hall _ (List.getElem_mem _)) hfr hlo) (fun P a hp => ⟨hp.1, hp.2.1, hp.2.2.1, by rw [e]; exact hp.2.2.2⟩) (fun P a v B hp hq => ?_)
  obtain ⟨L, ⟨q1, q2, q3, q4, q5, q6, q7, ⟨V', v1, v2, v3, v4, v5⟩, q9⟩, hl, hc, hs⟩ := hq
  refine ⟨L, ⟨q1, q2, q3, q4, q5, q6, q7, ⟨V'.cls, v3, V', v1, rfl, by rw [v4, e, hlen], K4, fun i hi => ?_, fun i hi => ?_⟩, q9⟩, hl, hc, by rw [hs, e]⟩
  · have hi' : i < cs.length := by omega
    rw [v5 i (by omega), hcv i hi']; simp [List.getD_eq_getElem?_getD, hi']
  · have hi' : i < cs.length := by omega
    simp only [List.getD_eq_getElem?_getD, List.getElem?_map, List.getElem?_eq_getElem hi', Option.map_some, Option.getD_some]
    exact fits_lo8 _
end StrChars.Road
namespace StrChars.Road
open Jvm Sem ClassFile Op Lib Jvm.Stand Jvm.Free Jvm.Free.XT
/-- WHAT COMES BACK, in the writer's own shape -/
def QV (Z : State) (x : Addr) (N : Int32) (bs : List Int32) (h : Heap) (n0 : Nat) (v : Option Value) (h' : Heap) (L : List Loc) : Prop := v = none ∧ RoadKit.Fr n0 L ∧ RoadKit.Keep h h' [x] ∧ RoadKit.Exa Z h' x ST ∧ RoadKit.Fld Z h' x ST "coder" "B" (.int 0) ∧
  ∃ (t : Addr) (kb : ClassId), n0 ≤ t ∧ h.size ≤ t ∧ ¬ t = x ∧ RoadKit.Fld Z h' x ST "value" "[B" (.ref t) ∧ RoadKit.Arv Z h' t kb .byte N (bs.map Value.int) (.int 0)
/-- **new String(chars) AT A CALL, FOR THE WRITER**: a char[] of n known ints, each 0 to 255 -/
theorem backV {p : Program} {l : Launch} {e : Env} {R : Room} {s : State} {args : Array Value} {below : List Frame} {len W : Nat} {Z : State} {a0 : Array Value} {h : Heap} (hZ : Z.Warmed39 s.vm) (hw : ∀ d ∈ words, d.before a0 Z = true) {kI : Nat} (wi : (Jvm.Cond.instantiable ST kI).before a0 Z = true)
    {x b : Addr} {kC : ClassId} {cs bs : List Int32} {d v0 c0 : Value} {z N : Int32} {n n0 : Nat} (hx0 : n0 ≤ x) (hh0 : n0 ≤ h.size) (E : RoadKit.Exa Z h x ST) (V : RoadKit.Fld Z h x ST "value" "[B" v0) (C : RoadKit.Fld Z h x ST "coder" "B" c0) (K : RoadKit.Arv Z h b kC .char N (cs.map Value.int) d) (S : RoadKit.Sta Z h ST "COMPACT_STRINGS" "Z" (.int z)) (hz : ¬ z = 0)
    (hn : cs.length = n) (hN : N = Int32.ofNat n) (l0 : 0 < n) (l2 : n ≤ 4000) (hp : ∀ c ∈ cs, ¬ c < 0 ∧ ¬ (255 : Int32) < c) (hb : bs = cs.map (fun c => c.toInt8.toInt32)) (hfr : 4 ≤ R.frames) (hlo : W + 65 ≤ R.locals) :
    Back l R p e below s args (⟨"java/lang/String", "<init>", "([C)V"⟩ : MethodName) len W (fun P a => a = #[.ref x, .ref b] ∧ P.U.heap = h ∧ P.cells + 1 ≤ R.cells ∧ P.slots + n ≤ R.slots)
      (fun P _ v B => ∃ L, QV Z x N bs h n0 v B.U.heap L ∧ B.locs = P.locs ++ L ∧ B.cells = P.cells + 1 ∧ B.slots = P.slots + n) := by
  subst hn hN hb
  refine Back.mono (backArv hZ hw wi E V C K S hz (n32 (by omega)) l0 (by omega) (fun c hc => (hp c hc).2) hfr hlo) (fun P a hp => hp) (fun P a v B hp hq => ?_)
  obtain ⟨L, ⟨q1, q2, q3, q4, q5, q6, q7, ⟨kb, v1, v2⟩, q9⟩, hl, hc, hs⟩ := hq
  exact ⟨L, ⟨q1, fun y hy => by rw [q2 y hy]; exact hx0, q3, q5, q7, h.size, kb, hh0, Nat.le_refl _, Nat.ne_of_gt E.lt, q6, by rw [List.map_map]; exact v2⟩, hl, hc, hs⟩
end StrChars.Road
namespace StrChars
open Jvm Sem ClassFile Op Lib Jvm.Stand Jvm.Free.XT Jvm.Free.ALB Jvm.Free.JM Jvm.Free
open Jvm.Lib.Cold (StaticIs)
def hi8 (x : Int32) : Int32 := lo8 (x >>> ((8 : Int32) &&& 31))
/-- what StringUTF16.getChar makes of two bytes -/
def pairCh (u v : Int32) : Int32 := (((u &&& 255) <<< ((0 : Int32) &&& 31)) ||| ((v &&& 255) <<< ((8 : Int32) &&& 31))).toUInt32.toUInt16.toUInt32.toInt32
theorem lo8_and (x : Int32) : (lo8 x &&& 255).toBitVec.toNat = x.toBitVec.toNat % 256 := by
  have h : (lo8 x).toBitVec = (x.toBitVec.signExtend 8).signExtend 32 := by rw [lo8, Int8.toBitVec_toInt32, Int32.toBitVec_toInt8]
  rw [Int32.toBitVec_and, BitVec.toNat_and, h]
  have e : ((x.toBitVec.signExtend 8).signExtend 32).toNat % 256 = x.toBitVec.toNat % 256 := by
    rw [BitVec.toNat_signExtend]
    have hlt := x.toBitVec.isLt
    simp only [BitVec.toNat_setWidth, BitVec.toNat_signExtend]
    split <;> split <;> omega
  rw [← e]
  exact Nat.and_two_pow_sub_one_eq_mod _ 8
theorem pair_says {c : Int32} (h0 : ¬ c < 0) (h1 : ¬ 65535 < c) : pairCh (lo8 c) (hi8 c) = c := by
  rw [Int32.lt_iff_toInt_lt] at h0 h1
  have e0 : (0 : Int32).toInt = 0 := rfl
  have e1 : (65535 : Int32).toInt = 65535 := rfl
  have hc : c.toInt = c.toBitVec.toNat := by
    have := c.toBitVec.isLt
    have e : c.toInt = c.toBitVec.toInt := rfl
    rw [e] at h0 h1
    rw [e]
    rw [BitVec.toInt_eq_toNat_cond] at h0 h1 ⊢
    split at h0 <;> split <;> omega
  have hn : c.toBitVec.toNat < 65536 := by omega
  have a1 := lo8_and c
  have a2 : (hi8 c &&& 255).toBitVec.toNat = c.toBitVec.toNat / 256 := by
    rw [hi8, lo8_and]
    have e : ((8 : Int32) &&& 31) = 8 := by decide
    rw [e, Int32.toBitVec_shiftRight]
    have e2 : ((8 : Int32).toBitVec.smod 32) = 8#32 := by decide
    rw [e2, BitVec.sshiftRight_eq', BitVec.toNat_sshiftRight_of_msb_false (by rw [BitVec.msb_eq_false_iff_two_mul_lt]; omega)]
    show c.toBitVec.toNat >>> 8 % 256 = _
    rw [Nat.shiftRight_eq_div_pow]
    omega
  unfold pairCh
  apply Int32.toBitVec_inj.mp
  apply BitVec.eq_of_toNat_eq
  have f0 : ((0 : Int32) &&& 31) = 0 := by decide
  have f8 : ((8 : Int32) &&& 31) = 8 := by decide
  rw [f0, f8]
  have g : (((lo8 c &&& 255) <<< (0 : Int32)) ||| ((hi8 c &&& 255) <<< (8 : Int32))).toBitVec.toNat = c.toBitVec.toNat := by
    rw [Int32.toBitVec_or, Int32.toBitVec_shiftLeft, Int32.toBitVec_shiftLeft]
    have s0 : ((0 : Int32).toBitVec.smod 32) = 0#32 := by decide
    have s8 : ((8 : Int32).toBitVec.smod 32) = 8#32 := by decide
    rw [s0, s8, BitVec.toNat_or]
    simp only [BitVec.shiftLeft_eq', BitVec.toNat_shiftLeft, a1, a2]
    show (c.toBitVec.toNat % 256) <<< 0 % 2 ^ 32 ||| (c.toBitVec.toNat / 256) <<< 8 % 2 ^ 32 = _
    rw [Nat.shiftLeft_zero, Nat.mod_eq_of_lt (show c.toBitVec.toNat % 256 < 2 ^ 32 by omega), Nat.mod_eq_of_lt (show (c.toBitVec.toNat / 256) <<< 8 < 2 ^ 32 by rw [Nat.shiftLeft_eq]; omega), Nat.or_comm, ← Nat.shiftLeft_add_eq_or_of_lt (by omega), Nat.shiftLeft_eq]
    omega
  show BitVec.toNat (((((lo8 c &&& 255) <<< (0 : Int32)) ||| ((hi8 c &&& 255) <<< (8 : Int32))).toBitVec.setWidth 16).setWidth 32) = _
  rw [BitVec.toNat_setWidth, BitVec.toNat_setWidth, g]
  omega
end StrChars
namespace StrChars
open Jvm Sem ClassFile Op Lib Jvm.Stand Jvm.Free.XT Jvm.Free.ALB Jvm.Free.JM Jvm.Free
open Jvm.Lib.Cold (StaticIs)
/-- the array's cell V codes the n chars f 0 .. f (n - 1) by the coder cd, as the JDK does: coder 1 just where some char is above 255 -/
def Cod (cd : Int32) (n : Nat) (f : Nat → Int32) (V : Cell) : Prop := (cd = 0 ∧ V.slots.size = n ∧ ∀ j, j < n → V.slots[j]? = some (.int (lo8 (f j))) ∧ ¬ 255 < f j) ∨ (cd = 1 ∧ V.slots.size = 2 * n ∧ (∀ j, j < n → V.slots[2 * j]? = some (.int (lo8 (f j))) ∧ V.slots[2 * j + 1]? = some (.int (hi8 (f j)))) ∧ ∃ j, j < n ∧ 255 < f j)
/-- **x is a String of the n chars f 0 .. f (n - 1)**, Latin-1 or UTF-16; its array at t has the cell V -/
def Txt (x t : Addr) (V : Cell) (cd : Int32) (n : Nat) (f : Nat → Int32) (U : State) : Prop := Exact "java/lang/String" x U ∧ Has x "java/lang/String" "value" "[B" (.ref t) U ∧ Has x "java/lang/String" "coder" "B" (.int cd) U ∧ XT.Arr .byte t V U ∧ Cod cd n f V ∧ ∀ j, j < n → ¬ f j < 0 ∧ ¬ 65535 < f j
theorem Txt.mv {x t : Addr} {V : Cell} {cd : Int32} {n : Nat} {f : Nat → Int32} {U U' : State} (h : Txt x t V cd n f U) (hal : U.vm.Alike U'.vm) (hh : U'.heap = U.heap) : Txt x t V cd n f U' := ⟨h.1.mv hal hh, h.2.1.mv hal hh, h.2.2.1.mv hal hh, h.2.2.2.1.mv hal hh, h.2.2.2.2⟩
end StrChars
namespace StrChars.Road
open Jvm Sem ClassFile Op Lib Jvm.Stand Jvm.Free Jvm.Free.XT
open Jvm.Lib.Cold (StaticIs)
theorem consq {a : Array Value} {s : State} {c : Jvm.Cond} {L : List Jvm.Cond} (h0 : c.before a s = true) (h : ∀ w ∈ L, w.before a s = true) : ∀ w ∈ c :: L, w.before a s = true := fun w hw => (List.mem_cons.mp hw).elim (fun e => e ▸ h0) (h w)
/-- the bytes of the chars cs, low before high -/
def wideBytes : List Int32 → List Value
  | [] => []
  | c :: cs => .int (lo8 c) :: .int (hi8 c) :: wideBytes cs
theorem wide_lo (d : Value) : ∀ (cs : List Int32) (j : Nat), j < cs.length → (wideBytes cs).getD (2 * j) d = .int (lo8 (cs.getD j 0))
  | [], j, h => absurd h (Nat.not_lt_zero j)
  | c :: cs, 0, _ => rfl
  | c :: cs, j + 1, h => by
    have q := wide_lo d cs j (by simpa using h)
    rw [show 2 * (j + 1) = 2 * j + 1 + 1 from by omega]
    simpa [wideBytes] using q
theorem wide_hi (d : Value) : ∀ (cs : List Int32) (j : Nat), j < cs.length → (wideBytes cs).getD (2 * j + 1) d = .int (hi8 (cs.getD j 0))
  | [], j, h => absurd h (Nat.not_lt_zero j)
  | c :: cs, 0, _ => rfl
  | c :: cs, j + 1, h => by
    have q := wide_hi d cs j (by simpa using h)
    rw [show 2 * (j + 1) + 1 = 2 * j + 1 + 1 + 1 from by omega]
    simpa [wideBytes] using q
theorem low_at (d : Value) (cs : List Int32) (j : Nat) (h : j < cs.length) : (cs.map fun c => Value.int (lo8 c)).getD j d = .int (lo8 (cs.getD j 0)) := by
  simp [List.getD_eq_getElem?_getD, h]
/-- an array of N2 bytes vs codes the chars cs by the coder cd -/
def CodA (cs : List Int32) (cd N2 : Int32) (vs : List Value) : Prop := (cd = 0 ∧ N2 = Int32.ofNat cs.length ∧ vs = (cs.map fun c => Value.int (lo8 c)) ∧ ∀ c ∈ cs, ¬ 255 < c) ∨ (cd = 1 ∧ N2 = Int32.ofNat (2 * cs.length) ∧ vs = wideBytes cs ∧ ∃ c ∈ cs, 255 < c)
theorem CodA.cod {cs : List Int32} {cd N2 : Int32} {vs : List Value} {V : Cell} (h : CodA cs cd N2 vs) (hn : 2 * cs.length < 2 ^ 31) (hs : V.slots.size = N2.toNatClampNeg) (hv : RoadKit.Has V vs (.int 0)) : Cod cd cs.length (fun j => cs.getD j 0) V := by
  rcases h with ⟨rfl, rfl, rfl, h⟩ | ⟨rfl, rfl, rfl, c, hc, hw⟩
  · rw [n32 (by omega)] at hs
    exact Or.inl ⟨rfl, hs, fun j hj => ⟨by rw [hv j (by omega), low_at _ _ _ hj], by
      have e : cs.getD j 0 = cs[j] := by simp [List.getD_eq_getElem?_getD, hj]
      show ¬ 255 < cs.getD j 0
      rw [e]; exact h _ (List.getElem_mem _)⟩⟩
  · rw [n32 (by omega)] at hs
    obtain ⟨j, hj, rfl⟩ := List.getElem_of_mem hc
    exact Or.inr ⟨rfl, hs, fun j hj => ⟨by rw [hv _ (by omega), wide_lo _ _ _ hj], by rw [hv _ (by omega), wide_hi _ _ _ hj]⟩, j, hj, by
      have e : cs.getD j 0 = cs[j] := by simp [List.getD_eq_getElem?_getD, hj]
      show 255 < cs.getD j 0
      rw [e]; exact hw⟩
/-- an object of exactly java/lang/String, its two fields found: as the laws ask it -/
theorem strObj {Z U : State} {a0 : Array Value} {kI : Nat} (wi : (Jvm.Cond.instantiable ST kI).before a0 Z = true) (al : Z.vm.Alike U.vm) {x : Addr} {v0 c0 : Value} (E : RoadKit.Exa Z U.heap x ST) (V : RoadKit.Fld Z U.heap x ST "value" "[B" v0) (C : RoadKit.Fld Z U.heap x ST "coder" "B" c0) :
    ∃ (D : Cell) (fV fC : Field), Blank ST x D U ∧ Found ST "value" "[B" fV U ∧ Found ST "coder" "B" fC U ∧ D.slots[fV.slot]? = some v0 ∧ D.slots[fC.slot]? = some c0 ∧ RoadKit.slotOf Z ST "value" "[B" = fV.slot ∧ RoadKit.slotOf Z ST "coder" "B" = fC.slot := by
  obtain ⟨D, cfV, kV, iV, fV, hD, gV, stV, knV, obV, asV, slV⟩ := V
  obtain ⟨D', cfC, kC, iC, fC, hD', gC, stC, -, -, asC, slC⟩ := C
  cases hD.symm.trans hD'
  obtain ⟨D2, kD, e1, e2, e3, e4, e5⟩ := E
  cases hD.symm.trans e1
  obtain ⟨c2, k2, i1, i2, i3, -⟩ := Cond.instantiable_spec wi
  cases e2.symm.trans i1
  cases e3.symm.trans i2
  obtain ⟨kU, u1, u2⟩ := al.2.2 _ _ e3
  exact ⟨D, fV, fC, ⟨hD, ⟨knV, fun q hq => by rw [hq] at obV; cases obV⟩, by rw [al.findClass]; exact e2, kU, u1, by rw [u2]; exact i3, by rw [u2]; exact e5 i3⟩, ⟨SBG.found_only al ⟨cfV, kV, iV, gV⟩, stV⟩, ⟨SBG.found_only al ⟨cfC, kC, iC, gC⟩, stC⟩, slV, slC, by simp [RoadKit.slotOf, gV], by simp [RoadKit.slotOf, gC]⟩
theorem sta_is {Z U : State} (al : Z.vm.Alike U.vm) {C n d : String} {v : Value} (S : RoadKit.Sta Z U.heap C n d v) : StaticIs U C n d v := by
  obtain ⟨cfS, iS, kS, fS, st, cS, t1, t2, t3, t4, t5, t6, t7⟩ := S
  exact StaticIs.there (s := { Z with heap := U.heap }) ⟨cfS, iS, kS, fS, st, cS, t1, t2, t3, t4, t5, (fun q => by rw [q] at t6; cases t6), t7⟩ al rfl
end StrChars.Road
namespace StrChars
open Jvm Sem ClassFile Op Lib Jvm.Stand Jvm.Free.XT Jvm.Free.ALB Jvm.Free.JM Jvm.Free
open Jvm.Lib.Cold (StaticIs)
/-- what place i of a byte[]'s cell holds -/
def yv (A : Cell) (i : Nat) : Int32 := match A.slots[i]? with | some (.int x) => x | _ => 0
theorem yv_get {a : Addr} {A : Cell} {U : State} (h : XT.Arr .byte a A U) (ht : Typed .byte A) {i : Nat} (hi : i < A.slots.size) : A.slots[i]? = some (.int (yv A i)) := by
  have e := Array.getElem?_eq_getElem hi
  have f := ht i _ e
  unfold yv; rw [e]
  generalize A.slots[i] = v at f
  cases v <;> simp [fits] at f ⊢
/-- the two arrays are equal, place for place -/
def EqC (A B : Cell) : Prop := A.slots.size = B.slots.size ∧ ∀ i, i < A.slots.size → yv A i = yv B i
/-- a boolean that says whether p -/
def Says01 (q : Prop) (r : Option Value) (s u : State) : Prop := ∃ v : Int32, r = some (.int v) ∧ u.heap = s.heap ∧ ((v = 1 ∧ q) ∨ (v = 0 ∧ ¬ q))
theorem Says01.mv {q : Prop} : ∀ r (U U' V V' : State), U'.heap = U.heap → V.vm.Alike V'.vm → V'.heap = V.heap → Says01 q r U V → Says01 q r U' V' :=
  fun r U U' V V' h1 _ h2 ⟨v, a, b, c⟩ => ⟨v, a, by rw [h1, h2]; exact b, c⟩
namespace LEq
def yN : MethodName := ⟨"java/lang/StringLatin1", "equals", "([B[B)Z"⟩
abbrev yB : ByteArray := jdk_43_method_13_code
theorem d0 : decode yB 0 = .ok (.aload_n 0, 1) := by decide +kernel
theorem d1 : decode yB 1 = .ok (.arraylength, 1) := by decide +kernel
theorem d2 : decode yB 2 = .ok (.aload_n 1, 1) := by decide +kernel
theorem d3 : decode yB 3 = .ok (.arraylength, 1) := by decide +kernel
theorem d4 : decode yB 4 = .ok (.if_icmp (.ne) 30, 3) := by decide +kernel
theorem d7 : decode yB 7 = .ok (.iconst 0, 1) := by decide +kernel
theorem d8 : decode yB 8 = .ok (.istore_n 2, 1) := by decide +kernel
theorem d9 : decode yB 9 = .ok (.iload_n 2, 1) := by decide +kernel
theorem d10 : decode yB 10 = .ok (.aload_n 0, 1) := by decide +kernel
theorem d11 : decode yB 11 = .ok (.arraylength, 1) := by decide +kernel
theorem d12 : decode yB 12 = .ok (.if_icmp (.ge) 20, 3) := by decide +kernel
theorem d15 : decode yB 15 = .ok (.aload_n 0, 1) := by decide +kernel
theorem d16 : decode yB 16 = .ok (.iload_n 2, 1) := by decide +kernel
theorem d17 : decode yB 17 = .ok (.baload, 1) := by decide +kernel
theorem d18 : decode yB 18 = .ok (.aload_n 1, 1) := by decide +kernel
theorem d19 : decode yB 19 = .ok (.iload_n 2, 1) := by decide +kernel
theorem d20 : decode yB 20 = .ok (.baload, 1) := by decide +kernel
theorem d21 : decode yB 21 = .ok (.if_icmp (.eq) 5, 3) := by decide +kernel
theorem d24 : decode yB 24 = .ok (.iconst 0, 1) := by decide +kernel
theorem d25 : decode yB 25 = .ok (.ireturn, 1) := by decide +kernel
theorem d26 : decode yB 26 = .ok (.iinc 2 1, 3) := by decide +kernel
theorem d29 : decode yB 29 = .ok (.goto (-20), 3) := by decide +kernel
theorem d32 : decode yB 32 = .ok (.iconst 1, 1) := by decide +kernel
theorem d33 : decode yB 33 = .ok (.ireturn, 1) := by decide +kernel
theorem d34 : decode yB 34 = .ok (.iconst 0, 1) := by decide +kernel
theorem d35 : decode yB 35 = .ok (.ireturn, 1) := by decide +kernel
def site : List Cond := []
def tab : Cond := tabOf yN yB 3 (some .boolean) site
def P (a : Addr) (A : Cell) (b : Addr) (B : Cell) (args : Array Value) (s : State) : Prop := args = #[.ref a, .ref b] ∧ XT.Arr .byte a A s ∧ Typed .byte A ∧ XT.Arr .byte b B s ∧ Typed .byte B
/-- whether two byte[] are equal, place for place -/
theorem law (l : Launch) (a : Addr) (A : Cell) (b : Addr) (B : Cell) : Law l yN 2 2 0 0 yB 3 (some .boolean) site (P a A b B) (Says01 (EqC A B)) [] 0 0 := by
  refine Law.of_walk (plainFor_of_name (by decide +kernel)) (by decide +kernel) (by decide +kernel) (by decide) (fun _ _ h => by rw [h.1]; rfl) (fun _ U U' hal hh h => ⟨h.1, h.2.1.mv hal hh, h.2.2.1, h.2.2.2.1.mv hal hh, h.2.2.2.2⟩) (fun r U U' V V' h1 hal h2 h => Says01.mv r U U' V V' h1 hal h2 h) ?_
  intro p e s m args below meth c s₁ X0 hexec hbytes hml hret hlk hnm hown hh0 W hP
  obtain ⟨rfl, hA, tA, hB, tB⟩ := hP
  have a31 := hA.2.2.2
  have b31 := hB.2.2.2
  have hA0 := hA.mv X0.warmed.alike hh0
  have hB0 := hB.mv X0.warmed.alike hh0
  have c1 : Steps p.tables e below (s₁.setTop (entryFrame m #[.ref a, .ref b] 3)) (s₁.setTop (mkF m 0 #[.val (.ref a), .val (.ref b), .unset] [])) := entry rfl
  have c2 : Steps p.tables e below (s₁.setTop (entryFrame m #[.ref a, .ref b] 3)) (s₁.setTop (mkF m 4 #[.val (.ref a), .val (.ref b), .unset] [.int (Int32.ofNat B.slots.size), .int (Int32.ofNat A.slots.size)])) := c1.trans (by
    refine XS.aloadN X0.here hexec rfl (hb hbytes d0) rfl rfl ?_
    refine X0.alen hexec hA0 rfl rfl (hb hbytes d1) ?_
    refine XS.aloadN X0.here hexec rfl (hb hbytes d2) rfl rfl ?_
    refine X0.alen hexec hB0 rfl rfl (hb hbytes d3) ?_
    exact Steps.refl _)
  by_cases hs : A.slots.size = B.slots.size
  · have c3 : Steps p.tables e below (s₁.setTop (entryFrame m #[.ref a, .ref b] 3)) (s₁.setTop (mkF m 9 #[.val (.ref a), .val (.ref b), .val (.int 0)] [])) := c2.trans (by
      refine XS.icmpNo X0.here hexec rfl (hb hbytes d4) rfl (ii_ne_f (by rw [hs])) ?_
      refine iconstV X0.here hexec rfl 0 (hb hbytes d7) (by decide) ?_
      refine XS.istoreN X0.here hexec rfl (hb hbytes d8) rfl rfl ?_
      exact Steps.refl _)
    have loop : ∀ (r i : Nat), i + r = A.slots.size → (∀ j, j < i → yv A j = yv B j) → Steps p.tables e below (s₁.setTop (entryFrame m #[.ref a, .ref b] 3)) (s₁.setTop (mkF m 9 #[.val (.ref a), .val (.ref b), .val (.int (Int32.ofNat i))] [])) → ∃ (pc : Nat) (Ls : Array Slot) (v : Int32), (pc = 25 ∨ pc = 33) ∧ ((v = 1 ∧ EqC A B) ∨ (v = 0 ∧ ¬ EqC A B)) ∧ Steps p.tables e below (s₁.setTop (entryFrame m #[.ref a, .ref b] 3)) (s₁.setTop (mkF m pc Ls [.int v])) := by
      intro r
      induction r with
      | zero =>
        intro i hi he cl
        exact ⟨33, _, 1, Or.inr rfl, Or.inl ⟨rfl, hs, fun j hj => he j (by omega)⟩, cl.trans (by
          refine XS.iloadN X0.here hexec rfl (hb hbytes d9) rfl ?_
          refine XS.aloadN X0.here hexec rfl (hb hbytes d10) rfl rfl ?_
          refine X0.alen hexec hA0 rfl rfl (hb hbytes d11) ?_
          refine XS.icmpYes X0.here hexec rfl (pc0 := 12) rfl (hb hbytes d12) rfl (ii_ge_t (nlt32 (by omega) (by omega))) (by decide) rfl ?_
          refine iconstV X0.here hexec rfl 1 (hb hbytes d32) (by decide) ?_
          exact Steps.refl _)⟩
      | succ r ih =>
        intro i hi he cl
        have c4 : Steps p.tables e below (s₁.setTop (entryFrame m #[.ref a, .ref b] 3)) (s₁.setTop (mkF m 21 #[.val (.ref a), .val (.ref b), .val (.int (Int32.ofNat i))] [.int (yv B i), .int (yv A i)])) := cl.trans (by
          refine XS.iloadN X0.here hexec rfl (hb hbytes d9) rfl ?_
          refine XS.aloadN X0.here hexec rfl (hb hbytes d10) rfl rfl ?_
          refine X0.alen hexec hA0 rfl rfl (hb hbytes d11) ?_
          refine XS.icmpNo X0.here hexec rfl (hb hbytes d12) rfl (ii_ge_f (lt32 (by omega) (by omega))) ?_
          refine XS.aloadN X0.here hexec rfl (hb hbytes d15) rfl rfl ?_
          refine XS.iloadN X0.here hexec rfl (hb hbytes d16) rfl ?_
          refine X0.aget hexec hA0 rfl (yv_get hA tA (i := i) (by omega)) rfl rfl (hb hbytes d17) ?_
          refine XS.aloadN X0.here hexec rfl (hb hbytes d18) rfl rfl ?_
          refine XS.iloadN X0.here hexec rfl (hb hbytes d19) rfl ?_
          refine X0.aget hexec hB0 rfl (yv_get hB tB (i := i) (by omega)) rfl rfl (hb hbytes d20) ?_
          exact Steps.refl _)
        by_cases hv : yv A i = yv B i
        · have c5 : Steps p.tables e below (s₁.setTop (entryFrame m #[.ref a, .ref b] 3)) (s₁.setTop (mkF m 9 #[.val (.ref a), .val (.ref b), .val (.int (Int32.ofNat i + 1))] [])) := c4.trans (by
            refine XS.icmpYes X0.here hexec rfl (pc0 := 21) rfl (hb hbytes d21) rfl (ii_eq_t hv) (by decide) rfl ?_
            refine iincV X0.here hexec rfl 1 (hb hbytes d26) (by decide) rfl rfl ?_
            refine XS.goto X0.here hexec rfl (pc0 := 29) rfl (hb hbytes d29) (by decide) rfl ?_
            exact Steps.refl _)
          rw [succ32] at c5
          exact ih (i + 1) (by omega) (fun j hj => by
            by_cases e : j = i
            · rw [e]; exact hv
            · exact he j (by omega)) c5
        · exact ⟨25, _, 0, Or.inl rfl, Or.inr ⟨rfl, fun q => hv (q.2 i (by omega))⟩, c4.trans (by
            refine XS.icmpNo X0.here hexec rfl (hb hbytes d21) rfl (ii_eq_f hv) ?_
            refine iconstV X0.here hexec rfl 0 (hb hbytes d24) (by decide) ?_
            exact Steps.refl _)⟩
    obtain ⟨pc, Ls, v, hpc, hv, cz⟩ := loop A.slots.size 0 (by omega) (fun j hj => absurd hj (Nat.not_lt_zero j)) c3
    have nv : narrow .boolean (.int v) = .int v := by rcases hv with ⟨rfl, -⟩ | ⟨rfl, -⟩ <;> rfl
    rcases hpc with rfl | rfl
    · exact ⟨s₁, some (.int v), _, _, _, X0, rfl, rfl, rfl, (fun h => by cases h), ⟨v, rfl, hh0, hv⟩, fun fs hl => cz.trans (X0.ireturnOut hexec hret nv (Or.inr (Or.inl rfl)) (hb hbytes d25) hl)⟩
    · exact ⟨s₁, some (.int v), _, _, _, X0, rfl, rfl, rfl, (fun h => by cases h), ⟨v, rfl, hh0, hv⟩, fun fs hl => cz.trans (X0.ireturnOut hexec hret nv (Or.inr (Or.inl rfl)) (hb hbytes d33) hl)⟩
  · have c3 : Steps p.tables e below (s₁.setTop (entryFrame m #[.ref a, .ref b] 3)) (s₁.setTop (mkF m 35 #[.val (.ref a), .val (.ref b), .unset] [.int 0])) := c2.trans (by
      refine XS.icmpYes X0.here hexec rfl (pc0 := 4) rfl (hb hbytes d4) rfl (ii_ne_t (ne32 a31 b31 hs)) (by decide) rfl ?_
      refine iconstV X0.here hexec rfl 0 (hb hbytes d34) (by decide) ?_
      exact Steps.refl _)
    exact ⟨s₁, some (.int 0), _, _, _, X0, rfl, rfl, rfl, (fun h => by cases h), ⟨0, rfl, hh0, Or.inr ⟨rfl, fun q => hs q.1⟩⟩, fun fs hl => c3.trans (X0.ireturnOut hexec hret rfl (Or.inr (Or.inl rfl)) (hb hbytes d35) hl)⟩
end LEq
theorem Cod.ty {cd : Int32} {n : Nat} {f : Nat → Int32} {V : Cell} (h : Cod cd n f V) : Typed .byte V := fun i v hv => by
  have hi : i < V.slots.size := (Array.getElem?_eq_some_iff.mp hv).1
  rcases h with ⟨-, k1, k2⟩ | ⟨-, k1, k2, -⟩
  · rw [(k2 i (by omega)).1] at hv; cases hv; exact fits_lo8 _
  · rcases Nat.mod_two_eq_zero_or_one i with e | e
    · obtain ⟨j, rfl⟩ : ∃ j, i = 2 * j := ⟨i / 2, by omega⟩
      rw [(k2 j (by omega)).1] at hv; cases hv; exact fits_lo8 _
    · obtain ⟨j, rfl⟩ : ∃ j, i = 2 * j + 1 := ⟨i / 2, by omega⟩
      rw [(k2 j (by omega)).2] at hv; cases hv; exact fits_lo8 _
/-- the same text -/
def SameT (n : Nat) (f : Nat → Int32) (k : Nat) (g : Nat → Int32) : Prop := n = k ∧ ∀ j, j < n → f j = g j
theorem lo8_inj {x y : Int32} (h0 : ¬ x < 0) (h1 : ¬ 255 < x) (k0 : ¬ y < 0) (k1 : ¬ 255 < y) (h : lo8 x = lo8 y) : x = y := by
  rw [← lo8_mask h0 h1, ← lo8_mask k0 k1, h]
/-- arrays coded by one coder are equal just where the texts are -/
theorem Cod.eqv {cd : Int32} {n k : Nat} {f g : Nat → Int32} {V V' : Cell} (h : Cod cd n f V) (h' : Cod cd k g V') (hf : ∀ j, j < n → ¬ f j < 0 ∧ ¬ 65535 < f j) (hg : ∀ j, j < k → ¬ g j < 0 ∧ ¬ 65535 < g j) : EqC V V' ↔ SameT n f k g := by
  have yvv : ∀ {W : Cell} {i : Nat} {x : Int32}, W.slots[i]? = some (.int x) → yv W i = x := fun q => by unfold yv; rw [q]
  rcases h with ⟨rfl, k1, k2⟩ | ⟨rfl, k1, k2, -⟩
  · rcases h' with ⟨-, m1, m2⟩ | ⟨e, -⟩
    · constructor
      · rintro ⟨e1, e2⟩
        refine ⟨by omega, fun j hj => ?_⟩
        have q := e2 j (by omega)
        rw [yvv (k2 j hj).1, yvv (m2 j (by omega)).1] at q
        exact lo8_inj (hf j hj).1 (k2 j hj).2 (hg j (by omega)).1 (m2 j (by omega)).2 q
      · rintro ⟨rfl, e2⟩
        refine ⟨by omega, fun j hj => ?_⟩
        rw [yvv (k2 j (by omega)).1, yvv (m2 j (by omega)).1, e2 j (by omega)]
    · exact absurd e (by decide)
  · rcases h' with ⟨e, -⟩ | ⟨-, m1, m2, -⟩
    · exact absurd e (by decide)
    · constructor
      · rintro ⟨e1, e2⟩
        refine ⟨by omega, fun j hj => ?_⟩
        have q1 := e2 (2 * j) (by omega)
        have q2 := e2 (2 * j + 1) (by omega)
        rw [yvv (k2 j hj).1, yvv (m2 j (by omega)).1] at q1
        rw [yvv (k2 j hj).2, yvv (m2 j (by omega)).2] at q2
        rw [← pair_says (hf j hj).1 (hf j hj).2, ← pair_says (hg j (by omega)).1 (hg j (by omega)).2, q1, q2]
      · rintro ⟨rfl, e2⟩
        refine ⟨by omega, fun i hi => ?_⟩
        rcases Nat.mod_two_eq_zero_or_one i with e | e
        · obtain ⟨j, rfl⟩ : ∃ j, i = 2 * j := ⟨i / 2, by omega⟩
          rw [yvv (k2 j (by omega)).1, yvv (m2 j (by omega)).1, e2 j (by omega)]
        · obtain ⟨j, rfl⟩ : ∃ j, i = 2 * j + 1 := ⟨i / 2, by omega⟩
          rw [yvv (k2 j (by omega)).2, yvv (m2 j (by omega)).2, e2 j (by omega)]
/-- two codings differ: so do the texts -/
theorem Cod.dif {cd cd' : Int32} {n k : Nat} {f g : Nat → Int32} {V V' : Cell} (h : Cod cd n f V) (h' : Cod cd' k g V') (hne : ¬ cd = cd') : ¬ SameT n f k g := by
  rintro ⟨rfl, e⟩
  rcases h with ⟨rfl, -, k2⟩ | ⟨rfl, -, -, j, hj, hw⟩
  · rcases h' with ⟨rfl, -⟩ | ⟨-, -, -, j, hj, hw⟩
    · exact hne rfl
    · exact (k2 j hj).2 (by rw [e j hj]; exact hw)
  · rcases h' with ⟨-, -, m2⟩ | ⟨rfl, -⟩
    · exact (m2 j hj).2 (by rw [← e j hj]; exact hw)
    · exact hne rfl
/-- an object of exactly C is an instance of C -/
theorem cinst {p : Program} {l : Launch} {e : Env} {R : Room} {s : State} {m : MethodId} {args : Array Value} {below : List Frame} {meth : Method} {c : Code} {T : State} {locs : List Loc} {cells slots : Nat} (X : Stand p l e R s m args below meth c T locs cells slots) (hexec : p.tables.exec = Jvm.exec) {own C : String} {index : Nat} (hown : s.vm.findClass own = some m.cls) (hlink : (Cond.classLink own index C).before args s = true) {a : Addr} (hE : Exact C a T)
    {g : JFrame} (hg : g.method = m) {rest : List Value} (hstack : g.stack = .ref a :: rest) (hdg : decode c.code g.pc = .ok (.instanceof index, 3)) :
    ∃ T', Stand p l e R s m args below meth c T' locs cells slots ∧ T'.heap = T.heap ∧ ∀ target, Steps p.tables e below (T'.setTop { g with pc := g.pc + 3, stack := .int 1 :: rest }) target → Steps p.tables e below (T.setTop g) target := by
  obtain ⟨cB, h1, D, h2, h3, h4⟩ := hE
  have h1' : s.vm.findClass C = some cB := by rw [← X.warmed.alike.findClass]; exact h1
  obtain ⟨vm', X', st⟩ := X.instanceofYes hexec hown hlink h2 h4 h1' (by rw [h3]; exact Jvm.Free.SB.assignable_self _ _) hg hstack hdg
  exact ⟨_, X', rfl, st⟩
theorem cself {p : Program} {l : Launch} {e : Env} {R : Room} {s : State} {m : MethodId} {args : Array Value} {below : List Frame} {meth : Method} {c : Code} {T : State} {locs : List Loc} {cells slots : Nat} (X : Stand p l e R s m args below meth c T locs cells slots) (hexec : p.tables.exec = Jvm.exec) {own C : String} {index : Nat} (hown : s.vm.findClass own = some m.cls) (hlink : (Cond.classLink own index C).before args s = true) {a : Addr} (hE : Exact C a T)
    {g : JFrame} (hg : g.method = m) {rest : List Value} (hstack : g.stack = .ref a :: rest) (hdg : decode c.code g.pc = .ok (.checkcast index, 3)) :
    ∃ T', Stand p l e R s m args below meth c T' locs cells slots ∧ T'.heap = T.heap ∧ ∀ target, Steps p.tables e below (T'.setTop { g with pc := g.pc + 3, stack := .ref a :: rest }) target → Steps p.tables e below (T.setTop g) target := by
  obtain ⟨cB, h1, D, h2, h3, h4⟩ := hE
  have h1' : s.vm.findClass C = some cB := by rw [← X.warmed.alike.findClass]; exact h1
  obtain ⟨vm', X', st⟩ := X.checkcastYes hexec hown hlink h2 h4 h1' (by rw [h3]; exact Jvm.Free.SB.assignable_self _ _) hg hstack hdg
  exact ⟨_, X', rfl, fun t h => st t (by rw [← hstack] at h; exact h)⟩
namespace SEq
def yN : MethodName := ⟨"java/lang/String", "equals", "(Ljava/lang/Object;)Z"⟩
abbrev yB : ByteArray := jdk_42_method_66_code
theorem d0 : decode yB 0 = .ok (.aload_n 0, 1) := by decide +kernel
theorem d1 : decode yB 1 = .ok (.aload_n 1, 1) := by decide +kernel
theorem d2 : decode yB 2 = .ok (.if_acmp (.ne) 5, 3) := by decide +kernel
theorem d5 : decode yB 5 = .ok (.iconst 1, 1) := by decide +kernel
theorem d6 : decode yB 6 = .ok (.ireturn, 1) := by decide +kernel
theorem d7 : decode yB 7 = .ok (.aload_n 1, 1) := by decide +kernel
theorem d8 : decode yB 8 = .ok (.instanceof 10, 3) := by decide +kernel
theorem d11 : decode yB 11 = .ok (.ifCond (.eq) 43, 3) := by decide +kernel
theorem d14 : decode yB 14 = .ok (.aload_n 1, 1) := by decide +kernel
theorem d15 : decode yB 15 = .ok (.checkcast 10, 3) := by decide +kernel
theorem d18 : decode yB 18 = .ok (.astore_n 2, 1) := by decide +kernel
theorem d19 : decode yB 19 = .ok (.getstatic 38, 3) := by decide +kernel
theorem d22 : decode yB 22 = .ok (.ifCond (.eq) 14, 3) := by decide +kernel
theorem d25 : decode yB 25 = .ok (.aload_n 0, 1) := by decide +kernel
theorem d26 : decode yB 26 = .ok (.getfield 15, 3) := by decide +kernel
theorem d29 : decode yB 29 = .ok (.aload_n 2, 1) := by decide +kernel
theorem d30 : decode yB 30 = .ok (.getfield 15, 3) := by decide +kernel
theorem d33 : decode yB 33 = .ok (.if_icmp (.ne) 21, 3) := by decide +kernel
theorem d36 : decode yB 36 = .ok (.aload_n 0, 1) := by decide +kernel
theorem d37 : decode yB 37 = .ok (.getfield 9, 3) := by decide +kernel
theorem d40 : decode yB 40 = .ok (.aload_n 2, 1) := by decide +kernel
theorem d41 : decode yB 41 = .ok (.getfield 9, 3) := by decide +kernel
theorem d44 : decode yB 44 = .ok (.invokestatic 541, 3) := by decide +kernel
theorem d47 : decode yB 47 = .ok (.ifCond (.eq) 7, 3) := by decide +kernel
theorem d50 : decode yB 50 = .ok (.iconst 1, 1) := by decide +kernel
theorem d51 : decode yB 51 = .ok (.goto 4, 3) := by decide +kernel
theorem d54 : decode yB 54 = .ok (.iconst 0, 1) := by decide +kernel
theorem d55 : decode yB 55 = .ok (.ireturn, 1) := by decide +kernel
def site : List Cond := [.classLink "java/lang/String" 10 "java/lang/String", .fieldLink "java/lang/String" 38 "java/lang/String" "COMPACT_STRINGS" "Z", .fieldLink "java/lang/String" 15 "java/lang/String" "coder" "B", .fieldLink "java/lang/String" 9 "java/lang/String" "value" "[B", LEq.tab] ++ staticW "java/lang/String" 541 LEq.yN
def tab : Cond := tabOf yN yB 3 (some .boolean) site
def P (x t : Addr) (V : Cell) (cd : Int32) (n : Nat) (f : Nat → Int32) (y t' : Addr) (V' : Cell) (cd' : Int32) (k : Nat) (g : Nat → Int32) (z : Int32) (args : Array Value) (s : State) : Prop := args = #[.ref x, .ref y] ∧ Txt x t V cd n f s ∧ Txt y t' V' cd' k g s ∧ StaticIs s "java/lang/String" "COMPACT_STRINGS" "Z" (.int z) ∧ ¬ z = 0
/-- equals(Object) of two Strings: whether the texts are the same -/
theorem law (l : Launch) (x t : Addr) (V : Cell) (cd : Int32) (n : Nat) (f : Nat → Int32) (y t' : Addr) (V' : Cell) (cd' : Int32) (k : Nat) (g : Nat → Int32) (z : Int32) : Law l yN 2 1 1 14 yB 3 (some .boolean) site (P x t V cd n f y t' V' cd' k g z) (Says01 (SameT n f k g)) [] 0 0 := by
  refine Law.of_walk (plainFor_of_name (by decide +kernel)) (by decide +kernel) (by decide +kernel) (by decide) (fun _ _ h => by rw [h.1]; rfl) (fun _ U U' hal hh h => ⟨h.1, h.2.1.mv hal hh, h.2.2.1.mv hal hh, h.2.2.2.1.there hal hh, h.2.2.2.2⟩) (fun r U U' V V' h1 hal h2 h => Says01.mv r U U' V V' h1 hal h2 h) ?_
  intro p e s m args below meth c s₁ X0 hexec hbytes hml hret hlk hnm hown hh0 W hP
  obtain ⟨rfl, hx, hy, s1, hz⟩ := hP
  have c1 : Steps p.tables e below (s₁.setTop (entryFrame m #[.ref x, .ref y] 3)) (s₁.setTop (mkF m 2 #[.val (.ref x), .val (.ref y), .unset] [.ref y, .ref x])) := Steps.trans (entry rfl) (by
    show Steps p.tables e below (s₁.setTop (mkF m 0 #[.val (.ref x), .val (.ref y), .unset] [])) _
    refine XS.aloadN X0.here hexec rfl (hb hbytes d0) rfl rfl ?_
    refine XS.aloadN X0.here hexec rfl (hb hbytes d1) rfl rfl ?_
    exact Steps.refl _)
  by_cases hxy : x = y
  · have c2 : Steps p.tables e below (s₁.setTop (entryFrame m #[.ref x, .ref y] 3)) (s₁.setTop (mkF m 6 #[.val (.ref x), .val (.ref y), .unset] [.int 1])) := c1.trans (by
      refine acmpNo X0.here hexec rfl (hb hbytes d2) rfl rfl rfl (by simp [acmp, hxy]) ?_
      refine iconstV X0.here hexec rfl 1 (hb hbytes d5) (by decide) ?_
      exact Steps.refl _)
    subst hxy
    have ec : cd = cd' := by
      obtain ⟨D, fd, a1, a2, a3⟩ := hx.2.2.1
      obtain ⟨D', fd', b1, b2, b3⟩ := hy.2.2.1
      cases a1.symm.trans b1
      obtain ⟨q1, q2, q3, q4⟩ := a2.1
      obtain ⟨r1, r2, r3, r4⟩ := b2.1
      cases q4.symm.trans r4
      cases a3.symm.trans b3; rfl
    have et : t = t' := by
      obtain ⟨D, fd, a1, a2, a3⟩ := hx.2.1
      obtain ⟨D', fd', b1, b2, b3⟩ := hy.2.1
      cases a1.symm.trans b1
      obtain ⟨q1, q2, q3, q4⟩ := a2.1
      obtain ⟨r1, r2, r3, r4⟩ := b2.1
      cases q4.symm.trans r4
      cases a3.symm.trans b3; rfl
    subst ec et
    have ev : V = V' := by cases hx.2.2.2.1.1.symm.trans hy.2.2.2.1.1; rfl
    subst ev
    have hs : SameT n f k g := (Cod.eqv hx.2.2.2.2.1 hy.2.2.2.2.1 hx.2.2.2.2.2 hy.2.2.2.2.2).mp ⟨rfl, fun _ _ => rfl⟩
    exact ⟨s₁, some (.int 1), _, _, _, X0, rfl, rfl, rfl, (fun h => by cases h), ⟨1, rfl, hh0, Or.inl ⟨rfl, hs⟩⟩, fun fs hl => c2.trans (X0.ireturnOut hexec hret rfl (Or.inr (Or.inl rfl)) (hb hbytes d6) hl)⟩
  · have c2 : Steps p.tables e below (s₁.setTop (entryFrame m #[.ref x, .ref y] 3)) (s₁.setTop (mkF m 8 #[.val (.ref x), .val (.ref y), .unset] [.ref y])) := c1.trans (by
      refine acmpYes X0.here hexec rfl (pc0 := 2) rfl (hb hbytes d2) rfl rfl rfl (by simp [acmp, hxy]) (by decide) rfl ?_
      refine XS.aloadN X0.here hexec rfl (hb hbytes d7) rfl rfl ?_
      exact Steps.refl _)
    obtain ⟨T3, X3, q3, st3⟩ := cinst X0 hexec hown (wk W (.classLink "java/lang/String" 10 "java/lang/String")) (hy.mv X0.warmed.alike hh0).1 (g := (mkF m 8 #[.val (.ref x), .val (.ref y), .unset] [.ref y])) rfl (rest := []) rfl (hb hbytes d8)
    have hh3 := q3.trans hh0
    have c4 : Steps p.tables e below (s₁.setTop (entryFrame m #[.ref x, .ref y] 3)) (T3.setTop (mkF m 15 #[.val (.ref x), .val (.ref y), .unset] [.ref y])) := (c2.trans (st3 _ (Steps.refl _))).trans (by
      refine XS.ifNo X3.here hexec rfl (hb hbytes d11) rfl (i0_eq_f (by decide)) ?_
      refine XS.aloadN X3.here hexec rfl (hb hbytes d14) rfl rfl ?_
      exact Steps.refl _)
    obtain ⟨T5, X5, q5, st5⟩ := cself X3 hexec hown (wk W (.classLink "java/lang/String" 10 "java/lang/String")) (hy.mv X3.warmed.alike hh3).1 (g := (mkF m 15 #[.val (.ref x), .val (.ref y), .unset] [.ref y])) rfl (rest := []) rfl (hb hbytes d15)
    have hh5 := q5.trans hh3
    have c6 : Steps p.tables e below (s₁.setTop (entryFrame m #[.ref x, .ref y] 3)) (T5.setTop (mkF m 19 #[.val (.ref x), .val (.ref y), .val (.ref y)] [])) := (c4.trans (st5 _ (Steps.refl _))).trans (by
      refine XS.astoreN X5.here hexec rfl (hb hbytes d18) rfl rfl rfl ?_
      exact Steps.refl _)
    obtain ⟨T7, X7, q7, st7⟩ := X5.sget hexec hown (wk W (.fieldLink "java/lang/String" 38 "java/lang/String" "COMPACT_STRINGS" "Z")) s1 (fun _ _ h => by rw [hh5]; exact h) (g := (mkF m 19 #[.val (.ref x), .val (.ref y), .val (.ref y)] [])) rfl (hb hbytes d19)
    have hh7 := q7.trans hh5
    have c8 : Steps p.tables e below (s₁.setTop (entryFrame m #[.ref x, .ref y] 3)) (T7.setTop (mkF m 26 #[.val (.ref x), .val (.ref y), .val (.ref y)] [.ref x])) := (c6.trans (st7 _ (Steps.refl _))).trans (by
      refine XS.ifNo X7.here hexec rfl (hb hbytes d22) rfl (i0_eq_f hz) ?_
      refine XS.aloadN X7.here hexec rfl (hb hbytes d25) rfl rfl ?_
      exact Steps.refl _)
    obtain ⟨T9, X9, q9, st9⟩ := X7.hget hexec hown (wk W (.fieldLink "java/lang/String" 15 "java/lang/String" "coder" "B")) (hx.mv X7.warmed.alike hh7).2.2.1 (g := (mkF m 26 #[.val (.ref x), .val (.ref y), .val (.ref y)] [.ref x])) rfl (rest := []) rfl (hb hbytes d26)
    have hh9 := q9.trans hh7
    have c10 : Steps p.tables e below (s₁.setTop (entryFrame m #[.ref x, .ref y] 3)) (T9.setTop (mkF m 30 #[.val (.ref x), .val (.ref y), .val (.ref y)] [.ref y, .int cd])) := (c8.trans (st9 _ (Steps.refl _))).trans (by
      refine XS.aloadN X9.here hexec rfl (hb hbytes d29) rfl rfl ?_
      exact Steps.refl _)
    obtain ⟨T11, X11, q11, st11⟩ := X9.hget hexec hown (wk W (.fieldLink "java/lang/String" 15 "java/lang/String" "coder" "B")) (hy.mv X9.warmed.alike hh9).2.2.1 (g := (mkF m 30 #[.val (.ref x), .val (.ref y), .val (.ref y)] [.ref y, .int cd])) rfl (rest := [.int cd]) rfl (hb hbytes d30)
    have hh11 := q11.trans hh9
    have c12 : Steps p.tables e below (s₁.setTop (entryFrame m #[.ref x, .ref y] 3)) (T11.setTop (mkF m 33 #[.val (.ref x), .val (.ref y), .val (.ref y)] [.int cd', .int cd])) := c10.trans (st11 _ (Steps.refl _))
    by_cases hcd : cd = cd'
    · subst hcd
      have c13 : Steps p.tables e below (s₁.setTop (entryFrame m #[.ref x, .ref y] 3)) (T11.setTop (mkF m 37 #[.val (.ref x), .val (.ref y), .val (.ref y)] [.ref x])) := c12.trans (by
        refine XS.icmpNo X11.here hexec rfl (hb hbytes d33) rfl (ii_ne_f rfl) ?_
        refine XS.aloadN X11.here hexec rfl (hb hbytes d36) rfl rfl ?_
        exact Steps.refl _)
      obtain ⟨T14, X14, q14, st14⟩ := X11.hget hexec hown (wk W (.fieldLink "java/lang/String" 9 "java/lang/String" "value" "[B")) (hx.mv X11.warmed.alike hh11).2.1 (g := (mkF m 37 #[.val (.ref x), .val (.ref y), .val (.ref y)] [.ref x])) rfl (rest := []) rfl (hb hbytes d37)
      have hh14 := q14.trans hh11
      have c15 : Steps p.tables e below (s₁.setTop (entryFrame m #[.ref x, .ref y] 3)) (T14.setTop (mkF m 41 #[.val (.ref x), .val (.ref y), .val (.ref y)] [.ref y, .ref t])) := (c13.trans (st14 _ (Steps.refl _))).trans (by
        refine XS.aloadN X14.here hexec rfl (hb hbytes d40) rfl rfl ?_
        exact Steps.refl _)
      obtain ⟨T16, X16, q16, st16⟩ := X14.hget hexec hown (wk W (.fieldLink "java/lang/String" 9 "java/lang/String" "value" "[B")) (hy.mv X14.warmed.alike hh14).2.1 (g := (mkF m 41 #[.val (.ref x), .val (.ref y), .val (.ref y)] [.ref y, .ref t])) rfl (rest := [.ref t]) rfl (hb hbytes d41)
      have hh16 := q16.trans hh14
      have c17 : Steps p.tables e below (s₁.setTop (entryFrame m #[.ref x, .ref y] 3)) (T16.setTop (mkF m 44 #[.val (.ref x), .val (.ref y), .val (.ref y)] [.ref t', .ref t])) := c15.trans (st16 _ (Steps.refl _))
      obtain ⟨v18, T18, X18, E18, g18⟩ := X16.callS hexec (LEq.law l t V t' V') hown (wks W (staticW "java/lang/String" 541 LEq.yN)) (wk W LEq.tab) (W := 0) (Nat.le_of_ble_eq_true rfl) (Nat.le_of_ble_eq_true rfl) (Nat.le_refl _) (Nat.le_refl _) (g := (mkF m 44 #[.val (.ref x), .val (.ref y), .val (.ref y)] [.ref t', .ref t])) rfl (by rw [hml]; rfl) c17 (argsL := [.ref t, .ref t']) (rest := []) rfl rfl (by show 2 * 0 + 0 ≤ _; decide) (hb hbytes d44) (⟨rfl, hx.2.2.2.1.mv X16.warmed.alike hh16, hx.2.2.2.2.1.ty, hy.2.2.2.1.mv X16.warmed.alike hh16, hy.2.2.2.2.1.ty⟩)
      obtain ⟨v, rfl, q18, hv⟩ := E18
      have iff := Cod.eqv hx.2.2.2.2.1 hy.2.2.2.2.1 hx.2.2.2.2.2 hy.2.2.2.2.2
      rcases hv with ⟨rfl, he⟩ | ⟨rfl, he⟩
      · have c19 : Steps p.tables e below (s₁.setTop (entryFrame m #[.ref x, .ref y] 3)) (T18.setTop (mkF m 55 #[.val (.ref x), .val (.ref y), .val (.ref y)] [.int 1])) := Steps.trans g18 (by
          refine XS.ifNo X18.here hexec rfl (hb hbytes d47) rfl (i0_eq_f (by decide)) ?_
          refine iconstV X18.here hexec rfl 1 (hb hbytes d50) (by decide) ?_
          refine XS.goto X18.here hexec rfl (pc0 := 51) rfl (hb hbytes d51) (by decide) rfl ?_
          exact Steps.refl _)
        exact ⟨T18, some (.int 1), _, _, _, X18, rfl, rfl, rfl, (fun h => by cases h), ⟨1, rfl, q18.trans hh16, Or.inl ⟨rfl, iff.mp he⟩⟩, fun fs hl => c19.trans (X18.ireturnOut hexec hret rfl (Or.inr (Or.inl rfl)) (hb hbytes d55) hl)⟩
      · have c19 : Steps p.tables e below (s₁.setTop (entryFrame m #[.ref x, .ref y] 3)) (T18.setTop (mkF m 55 #[.val (.ref x), .val (.ref y), .val (.ref y)] [.int 0])) := Steps.trans g18 (by
          refine XS.ifYes X18.here hexec rfl (pc0 := 47) rfl (hb hbytes d47) rfl (i0_eq_t rfl) (by decide) rfl ?_
          refine iconstV X18.here hexec rfl 0 (hb hbytes d54) (by decide) ?_
          exact Steps.refl _)
        exact ⟨T18, some (.int 0), _, _, _, X18, rfl, rfl, rfl, (fun h => by cases h), ⟨0, rfl, q18.trans hh16, Or.inr ⟨rfl, fun q => he (iff.mpr q)⟩⟩, fun fs hl => c19.trans (X18.ireturnOut hexec hret rfl (Or.inr (Or.inl rfl)) (hb hbytes d55) hl)⟩
    · have c13 : Steps p.tables e below (s₁.setTop (entryFrame m #[.ref x, .ref y] 3)) (T11.setTop (mkF m 55 #[.val (.ref x), .val (.ref y), .val (.ref y)] [.int 0])) := c12.trans (by
        refine XS.icmpYes X11.here hexec rfl (pc0 := 33) rfl (hb hbytes d33) rfl (ii_ne_t hcd) (by decide) rfl ?_
        refine iconstV X11.here hexec rfl 0 (hb hbytes d54) (by decide) ?_
        exact Steps.refl _)
      exact ⟨T11, some (.int 0), _, _, _, X11, rfl, rfl, rfl, (fun h => by cases h), ⟨0, rfl, hh11, Or.inr ⟨rfl, Cod.dif hx.2.2.2.2.1 hy.2.2.2.2.1 hcd⟩⟩, fun fs hl => c13.trans (X11.ireturnOut hexec hret rfl (Or.inr (Or.inl rfl)) (hb hbytes d55) hl)⟩
theorem pays {l : Launch} {R : Room} {p : Program} {e : Env} {below : List Frame} {s : State} {sargs : Array Value} {len W : Nat} (x t : Addr) (V : Cell) (cd : Int32) (n : Nat) (f : Nat → Int32) (y t' : Addr) (V' : Cell) (cd' : Int32) (k : Nat) (g : Nat → Int32) (z : Int32) (htab : tab.before sargs s = true) (hfr : 2 ≤ R.frames) (hlo : W + 28 ≤ R.locals) :
    Back l R p e below s sargs yN len W (fun A₁ a₁ => A₁.cells + 0 ≤ R.cells ∧ A₁.slots + 0 ≤ R.slots ∧ P x t V cd n f y t' V' cd' k g z a₁ A₁.U) (fun A₁ _ v₁ B₁ => Says01 (SameT n f k g) v₁ A₁.U B₁.U ∧ B₁.locs = A₁.locs ++ [] ∧ B₁.cells = A₁.cells + 0 ∧ B₁.slots = A₁.slots + 0) :=
  (law l x t V cd n f y t' V' cd' k g z).pays htab hfr (by omega)
end SEq
end StrChars
namespace StrChars.Road
open Jvm Sem ClassFile Op Lib Jvm.Stand Jvm.Free Jvm.Free.XT
open Jvm.Lib.Cold (StaticIs)
/-- the words of String.equals(Object) -/
abbrev wordsEq : List Jvm.Cond := [.code SEq.yN SEq.yB 3 (some .boolean), .initialized ST, .classLink ST 10 ST, .fieldLink ST 38 ST "COMPACT_STRINGS" "Z", .fieldLink ST 15 ST "coder" "B", .fieldLink ST 9 ST "value" "[B", .methodLink ST 541 LEq.yN, .static LEq.yN, .code LEq.yN LEq.yB 3 (some .boolean), .initialized "java/lang/StringLatin1"]
theorem tabEq_of {a : Array Value} {s : State} (h : ∀ w ∈ wordsEq, w.before a s = true) : SEq.tab.before a s = true := by
  have hl : LEq.tab.before a s = true := unparts (wk h (.code LEq.yN LEq.yB 3 (some .boolean))) (wks h (.initialized LEq.yN.cls :: LEq.site))
  have q := consq hl h
  exact unparts (wk q (.code SEq.yN SEq.yB 3 (some .boolean))) (wks q (.initialized SEq.yN.cls :: SEq.site))
theorem movedEq {Z s : State} {a0 args : Array Value} (hZ : Z.Warmed39 s.vm) (hw : ∀ d ∈ wordsEq, d.before a0 Z = true) : ∀ d ∈ wordsEq, d.before args s = true := fun d hd => by
  have t : ∀ d ∈ wordsEq, (d.onTables && d.keepsFace) = true := by decide +kernel
  exact RoadKit.mv hZ (hw d hd) (t d hd)
/-- the road's facts of a String, as the laws ask it -/
theorem txt_of {Z U : State} {a0 : Array Value} {kI : Nat} (wi : (Jvm.Cond.instantiable ST kI).before a0 Z = true) (al : Z.vm.Alike U.vm) {x t : Addr} {kb : ClassId} {cs : List Int32} {cd N2 : Int32} {vs : List Value} (E : RoadKit.Exa Z U.heap x ST) (V : RoadKit.Fld Z U.heap x ST "value" "[B" (.ref t)) (C : RoadKit.Fld Z U.heap x ST "coder" "B" (.int cd)) (K : RoadKit.Arv Z U.heap t kb .byte N2 vs (.int 0)) (hc : CodA cs cd N2 vs) (hb : ∀ c ∈ cs, ¬ c < 0 ∧ ¬ (65535 : Int32) < c) (l2 : cs.length ≤ 4000) :
    ∃ A, Txt x t A cd cs.length (fun j => cs.getD j 0) U := by
  obtain ⟨A, K1, K2, K3, K4, K5, K6⟩ := K
  have hcod := hc.cod (by omega) K3 K5
  obtain ⟨D, fV, fC, hB, F1, F2, g1, g2, -, -⟩ := strObj wi al E V C
  exact ⟨A, ⟨_, hB.2.2.1, D, hB.1, rfl, by cases q : D.vm <;> first | rfl | exact absurd q (hB.2.1.2 _)⟩, Has.of hB F1 g1, Has.of hB F2 g2, ⟨K1.1, State.isArrayOf_alike al K1.2.1, K1.2.2, by rcases hcod with ⟨-, q, -⟩ | ⟨-, q, -⟩ <;> omega⟩, hcod, fun j hj => by
    have e : cs.getD j 0 = cs[j] := by simp [List.getD_eq_getElem?_getD, hj]
    show ¬ cs.getD j 0 < 0 ∧ ¬ 65535 < cs.getD j 0
    rw [e]; exact hb _ (List.getElem_mem _)⟩
theorem same_list (cs ds : List Int32) : SameT cs.length (fun j => cs.getD j 0) ds.length (fun j => ds.getD j 0) ↔ cs = ds := by
  constructor
  · rintro ⟨e, q⟩
    refine List.ext_getElem e fun j h1 h2 => ?_
    have := q j h1
    simpa [List.getD_eq_getElem?_getD, h1, h2] using this
  · rintro rfl
    exact ⟨rfl, fun _ _ => rfl⟩
/-- **equals(Object) OF TWO SUCH STRINGS**: 1 just where the chars are the same -/
theorem eqW {p : Program} {l : Launch} {e : Env} {R : Room} {s : State} {args : Array Value} {below : List Frame} {len W : Nat} {Z : State} {a0 : Array Value} {h : Heap} (hZ : Z.Warmed39 s.vm) (hw : ∀ d ∈ wordsEq, d.before a0 Z = true) {kI : Nat} (wi : (Jvm.Cond.instantiable ST kI).before a0 Z = true)
    {x t : Addr} {kb : ClassId} {cs : List Int32} {cd N2 : Int32} {vs : List Value} (E : RoadKit.Exa Z h x ST) (V : RoadKit.Fld Z h x ST "value" "[B" (.ref t)) (C : RoadKit.Fld Z h x ST "coder" "B" (.int cd)) (K : RoadKit.Arv Z h t kb .byte N2 vs (.int 0)) (hc : CodA cs cd N2 vs) (hb : ∀ c ∈ cs, ¬ c < 0 ∧ ¬ (65535 : Int32) < c) (l2 : cs.length ≤ 4000)
    {y t' : Addr} {kb' : ClassId} {ds : List Int32} {cd' N2' : Int32} {vs' : List Value} (E' : RoadKit.Exa Z h y ST) (V' : RoadKit.Fld Z h y ST "value" "[B" (.ref t')) (C' : RoadKit.Fld Z h y ST "coder" "B" (.int cd')) (K' : RoadKit.Arv Z h t' kb' .byte N2' vs' (.int 0)) (hc' : CodA ds cd' N2' vs') (hb' : ∀ c ∈ ds, ¬ c < 0 ∧ ¬ (65535 : Int32) < c) (l2' : ds.length ≤ 4000)
    {z : Int32} (S : RoadKit.Sta Z h ST "COMPACT_STRINGS" "Z" (.int z)) (hz : ¬ z = 0) (hfr : 2 ≤ R.frames) (hlo : W + 28 ≤ R.locals) :
    Back l R p e below s args (⟨"java/lang/String", "equals", "(Ljava/lang/Object;)Z"⟩ : MethodName) len W (fun P a => a = #[.ref x, .ref y] ∧ P.U.heap = h ∧ P.cells + 0 ≤ R.cells ∧ P.slots + 0 ≤ R.slots)
      (fun P _ v B => ∃ L, (((v = some (.int 1) ∧ cs = ds) ∨ (v = some (.int 0) ∧ ¬ cs = ds)) ∧ L = [] ∧ B.U.heap = h) ∧ B.locs = P.locs ++ L ∧ B.cells = P.cells + 0 ∧ B.slots = P.slots + 0) := by
  intro m meth c P g ig mk a X hg hsize hdg hW hn hp'
  obtain ⟨rfl, rfl, r1, r2⟩ := hp'
  have al : Z.vm.Alike P.U.vm := hZ.alike.trans X.warmed.alike
  obtain ⟨A, hx⟩ := txt_of wi al E V C K hc hb l2
  obtain ⟨A', hy⟩ := txt_of wi al E' V' C' K' hc' hb' l2'
  obtain ⟨v, B, X', ⟨⟨w, hv, hh, hq⟩, hl, hk, hs⟩, st⟩ := SEq.pays x t A cd cs.length (fun j => cs.getD j 0) y t' A' cd' ds.length (fun j => ds.getD j 0) z (tabEq_of (movedEq hZ hw)) hfr hlo m meth c P g ig mk _ X hg hsize hdg hW hn ⟨r1, r2, rfl, hx, hy, sta_is al S, hz⟩
  refine ⟨v, B, X', ⟨[], ⟨?_, rfl, hh⟩, hl, hk, hs⟩, st⟩
  rcases hq with ⟨rfl, q⟩ | ⟨rfl, q⟩
  · exact Or.inl ⟨hv, (same_list cs ds).mp q⟩
  · exact Or.inr ⟨hv, fun e => q ((same_list cs ds).mpr e)⟩
end StrChars.Road
namespace StrChars.Road
open Jvm Sem ClassFile Op Lib Jvm.Stand Jvm.Free Jvm.Free.XT
open Jvm.Lib.Cold (StaticIs)
/-- what backV says of its String, as the contracts of this text ask it: cs's low bytes, coder 0 -/
theorem codOf {cs : List Int32} {n : Nat} (hn : cs.length = n) (hb : ∀ c ∈ cs, ¬ 255 < c) : CodA cs 0 (Int32.ofNat n) ((cs.map lo8).map Value.int) := Or.inl ⟨rfl, by rw [hn], by simp [List.map_map, Function.comp_def], hb⟩
end StrChars.Road
end Jvm.Pilot.@@N@@


namespace Jvm.Pilot.@@N@@
open Jvm Jvm.ClassFile Sem Op Lib Jvm.Free Jvm.Stand Jvm.LawKit Jvm.RoadKit Bundle Jvm.Pilot.@@N@@.Jvm.D
def own_Go (tb : Tables) (e : Env) (below : List Frame) (P : Outcome → State → Prop) (U : State) : Prop := ∃ s₂ o, Steps tb e below U s₂ ∧ s₂.status = .running ∧ Ended s₂ below o ∧ P o s₂
theorem own_Go.st {tb : Tables} {e : Env} {below : List Frame} {P : Outcome → State → Prop} {U U' : State} (h : ∀ t, Steps tb e below U' t → Steps tb e below U t) (k : own_Go tb e below P U') : own_Go tb e below P U := by
  obtain ⟨t, o, a, r⟩ := k
  exact ⟨t, o, h t a, r⟩
theorem own_Go.tr {tb : Tables} {e : Env} {below : List Frame} {P : Outcome → State → Prop} {U U' : State} (h : Steps tb e below U U') (k : own_Go tb e below P U') : own_Go tb e below P U := own_Go.st (fun _ a => h.trans a) k
section OwnRet
variable {p : Program} {l : Launch} {e : Env} {R : Room} {s : State} {m : MethodId} {args : Array Value} {below : List Frame} {meth : Method} {c : Code} {T : State} {locs : List Loc} {cells slots : Nat}
theorem own_retI (X : Stand p l e R s m args below meth c T locs cells slots) (hx : p.tables.exec = Jvm.exec) {pc : Nat} {Ls : Array Slot} {z : Int32} {rest : List Value} (hret : meth.sig.returnType = some .int) (hd : decode c.code pc = .ok (.ireturn, 1)) {fs : List Frame}
    (hl : ∀ (f : JFrame) (acts : List Action), f.method = m → f.locked = none → f.entered = [] → (doReturn e (T.setTop f) acts (some (.int z))).1 = T.setFrames fs) : Steps p.tables e below (T.setTop (mkF m pc Ls (.int z :: rest))) (T.setFrames fs) :=
  retOut X hx hret rfl (Or.inl ⟨rfl, Or.inl rfl, z, rfl⟩) hd hl
theorem own_retL (X : Stand p l e R s m args below meth c T locs cells slots) (hx : p.tables.exec = Jvm.exec) {pc : Nat} {Ls : Array Slot} {z : Int64} {rest : List Value} (hret : meth.sig.returnType = some .long) (hd : decode c.code pc = .ok (.lreturn, 1)) {fs : List Frame}
    (hl : ∀ (f : JFrame) (acts : List Action), f.method = m → f.locked = none → f.entered = [] → (doReturn e (T.setTop f) acts (some (.long z))).1 = T.setFrames fs) : Steps p.tables e below (T.setTop (mkF m pc Ls (.long z :: rest))) (T.setFrames fs) :=
  retOut X hx hret rfl (Or.inr (Or.inl ⟨rfl, rfl, z, rfl⟩)) hd hl
theorem own_narRef {t : FieldType} {w : Value} (ht : t.isReference = true) (hw : w.isRef = true) : narrow t w = w := by
  cases t <;> first | rfl | (simp [FieldType.isReference] at ht; done) | (cases w <;> first | rfl | simp [Value.isRef] at hw)
theorem own_retA (X : Stand p l e R s m args below meth c T locs cells slots) (hx : p.tables.exec = Jvm.exec) {pc : Nat} {Ls : Array Slot} {w : Value} {t : FieldType} {rest : List Value} (hret : meth.sig.returnType = some t) (ht : t.isReference = true) (hw : w.isRef = true) (hd : decode c.code pc = .ok (.areturn, 1)) {fs : List Frame}
    (hl : ∀ (f : JFrame) (acts : List Action), f.method = m → f.locked = none → f.entered = [] → (doReturn e (T.setTop f) acts (some w)).1 = T.setFrames fs) : Steps p.tables e below (T.setTop (mkF m pc Ls (w :: rest))) (T.setFrames fs) :=
  retOut X hx hret (own_narRef ht hw) (Or.inr (Or.inr (Or.inr (Or.inr ⟨rfl, ht, hw⟩)))) hd hl
end OwnRet
theorem own_nar {x : Int32} (h : ¬ x < 0 ∧ ¬ (65535 : Int32) < x) : nar .char x = x := by
  have q := c_i2c x
  have h1 := h.1; have h2 := h.2
  rw [Int32.lt_iff_toInt_lt] at h1 h2
  have e1 : (0 : Int32).toInt = 0 := by decide
  have e2 : (65535 : Int32).toInt = 65535 := by decide
  rw [e1] at h1; rw [e2] at h2
  show x.toUInt32.toUInt16.toUInt32.toInt32 = x
  apply Int32.toInt_inj.mp
  omega
theorem own_up {x : Int32} (h : ¬ x < 0 ∧ ¬ (255 : Int32) < x) : ¬ x < 0 ∧ ¬ (65535 : Int32) < x := by
  refine ⟨h.1, fun q => h.2 ?_⟩
  rw [Int32.lt_iff_toInt_lt] at q ⊢
  have e1 : (255 : Int32).toInt = 255 := by decide
  have e2 : (65535 : Int32).toInt = 65535 := by decide
  omega
theorem own_arvTy {Z : State} {h : Heap} {a b : Addr} {k k' : ClassId} {ty ty' : FieldType} {n n' : Int32} {vs vs' : List Value} {d d' : Value} (A : Arv Z h a k ty n vs d) (B : Arv Z h b k' ty' n' vs' d') (ht : ty ≠ ty') : a ≠ b := fun q => by
  subst q
  obtain ⟨c, C, -⟩ := A
  obtain ⟨c', C', -⟩ := B
  cases C.1.symm.trans C'.1
  obtain ⟨-, k1, j1, cp1, j2⟩ := C.2.1
  obtain ⟨-, k2, i1, cp2, i2⟩ := C'.2.1
  cases j1.symm.trans i1
  rw [j2] at i2
  cases i2
  exact ht rfl


def own_Str (Z : State) (h : Heap) (x t : Addr) (cs : List Int32) : Prop := ∃ (kb : ClassId) (cd N2 : Int32) (vs : List Value), Exa Z h x "java/lang/String" ∧ Fld Z h x "java/lang/String" "value" "[B" (.ref t) ∧ Fld Z h x "java/lang/String" "coder" "B" (.int cd) ∧ Arv Z h t kb .byte N2 vs (.int 0) ∧ StrChars.Road.CodA cs cd N2 vs ∧ (∀ c ∈ cs, ¬ c < 0 ∧ ¬ (65535 : Int32) < c) ∧ cs.length ≤ 4000
section OwnStr
variable {Z : State} {h h' : Heap} {x t a : Addr} {cs : List Int32} {sl : Nat} {v : Value} {ws : List Addr}
theorem own_Str.ext (F : own_Str Z h x t cs) (E : Ext h h') : own_Str Z h' x t cs := by
  obtain ⟨kb, cd, N2, vs, h1, h2, h3, h4, r⟩ := F
  exact ⟨kb, cd, N2, vs, h1.ext E, h2.ext E, h3.ext E, h4.ext E, r⟩
theorem own_Str.other (F : own_Str Z h x t cs) (W : Wr h h' a sl v) (n1 : x ≠ a) (n2 : t ≠ a) : own_Str Z h' x t cs := by
  obtain ⟨kb, cd, N2, vs, h1, h2, h3, h4, r⟩ := F
  exact ⟨kb, cd, N2, vs, h1.wr W, h2.other W (Or.inl n1), h3.other W (Or.inl n1), h4.other W n2, r⟩
theorem own_Str.keep (F : own_Str Z h x t cs) (K : Keep h h' ws) (n1 : x ∉ ws) (n2 : t ∉ ws) : own_Str Z h' x t cs := by
  obtain ⟨kb, cd, N2, vs, h1, h2, h3, h4, r⟩ := F
  exact ⟨kb, cd, N2, vs, h1.keep K, h2.keep K n1, h3.keep K n1, h4.keep K n2, r⟩
theorem own_Str.exa (F : own_Str Z h x t cs) : Exa Z h x "java/lang/String" := by obtain ⟨kb, cd, N2, vs, h1, -⟩ := F; exact h1
theorem own_Str.lt (F : own_Str Z h x t cs) : x < h.size := F.exa.lt
theorem own_Str.ltv (F : own_Str Z h x t cs) : t < h.size := by obtain ⟨kb, cd, N2, vs, -, -, -, h4, -⟩ := F; exact h4.lt
theorem own_Str.le (F : own_Str Z h x t cs) : cs.length ≤ 4000 := by obtain ⟨kb, cd, N2, vs, -, -, -, -, -, -, h⟩ := F; exact h
theorem own_Str.rng (F : own_Str Z h x t cs) : ∀ c ∈ cs, ¬ c < 0 ∧ ¬ (65535 : Int32) < c := by obtain ⟨kb, cd, N2, vs, -, -, -, -, -, h, -⟩ := F; exact h
theorem own_Str.neArv {b : Addr} {k : ClassId} {ty : FieldType} {n : Int32} {us : List Value} {d : Value} {a0 : Array Value} {kI : Nat} (F : own_Str Z h x t cs) (B : Arv Z h b k ty n us d) (wi : (Jvm.Cond.instantiable "java/lang/String" kI).before a0 Z = true) : x ≠ b := F.exa.neArv B wi
theorem own_Str.neTy {b : Addr} {k : ClassId} {ty : FieldType} {n : Int32} {us : List Value} {d : Value} (F : own_Str Z h x t cs) (B : Arv Z h b k ty n us d) (ht : .byte ≠ ty) : t ≠ b := by
  obtain ⟨kb, cd, N2, vs, -, -, -, h4, -⟩ := F
  exact own_arvTy h4 B ht
end OwnStr


theorem own_a0 {P : Int32 → Prop} : ∀ c ∈ ([] : List Int32), P c := fun _ q => nomatch q
theorem own_aS {P : Int32 → Prop} {x : Int32} {L : List Int32} (h : P x) (r : ∀ c ∈ L, P c) : ∀ c ∈ x :: L, P c := fun c q => (List.mem_cons.mp q).elim (fun u => u ▸ h) (r c)
theorem own_upL {cs : List Int32} (h : ∀ c ∈ cs, ¬ c < 0 ∧ ¬ (255 : Int32) < c) : ∀ c ∈ cs, ¬ c < 0 ∧ ¬ (65535 : Int32) < c := fun c q => own_up (h c q)


theorem own_Str.lat {Z : State} {h : Heap} {x t : Addr} {cs : List Int32} (F : own_Str Z h x t cs) (hl : ∀ c ∈ cs, ¬ (255 : Int32) < c) : ∃ (kb : ClassId) (N2 : Int32) (vs : List Value), Exa Z h x "java/lang/String" ∧ Fld Z h x "java/lang/String" "value" "[B" (.ref t) ∧ Fld Z h x "java/lang/String" "coder" "B" (.int 0) ∧ Arv Z h t kb .byte N2 vs (.int 0) ∧ StrChars.Road.CodA cs 0 N2 vs := by
  obtain ⟨kb, cd, N2, vs, h1, h2, h3, h4, h5, -⟩ := F
  rcases h5 with ⟨rfl, a, b, c⟩ | ⟨-, -, -, c, hc, q⟩
  · exact ⟨kb, N2, vs, h1, h2, h3, h4, Or.inl ⟨rfl, a, b, c⟩⟩
  · exact absurd q (hl c hc)


theorem own_eqv {v : Option Value} {A : Prop} (h : (v = some (.int 1) ∧ A) ∨ (v = some (.int 0) ∧ ¬ A)) : ∃ r : Int32, v = some (.int r) ∧ ((r = 1 ∧ A) ∨ (r = 0 ∧ ¬ A)) := by
  rcases h with ⟨a, b⟩ | ⟨a, b⟩
  · exact ⟨1, a, Or.inl ⟨rfl, b⟩⟩
  · exact ⟨0, a, Or.inr ⟨rfl, b⟩⟩

theorem own_hws {a0 : Array Value} {Z : State} (hw : ∀ d ∈ tables_1, d.before a0 Z = true) : ∀ d ∈ StrChars.Road.words, d.before a0 Z = true := fun d hd => hw d ((by decide +kernel : ∀ d ∈ StrChars.Road.words, d ∈ tables_1) d hd)
theorem own_heq {a0 : Array Value} {Z : State} (hw : ∀ d ∈ tables_1, d.before a0 Z = true) : ∀ d ∈ StrChars.Road.wordsEq, d.before a0 Z = true := fun d hd => hw d ((by decide +kernel : ∀ d ∈ StrChars.Road.wordsEq, d ∈ tables_1) d hd)

theorem own_wS {a0 : Array Value} {Z : State} (hw : ∀ d ∈ tables_1, d.before a0 Z = true) : ∀ d ∈ Bundle.stringAtoms, d.before a0 Z = true := fun d hd => hw d ((by decide +kernel : ∀ d ∈ Bundle.stringAtoms, d ∈ tables_1) d hd)
theorem own_safeNull {Z : State} {EL : List (String × Nat)} {vm : Vm} {h : Heap} {x : Addr} (hal : Z.vm.Alike vm) (E : Exa Z h x "java/lang/String") (F : Fld Z h x "java/lang/String" "value" "[B" .null) : Safe Z EL vm h x := fun B => by
  obtain ⟨p, -, u, a, -, q, -, G, hx | hx⟩ := B
  · obtain ⟨cS, ⟨S1, -, -⟩, -⟩ := G
    obtain ⟨g1, -, -, ⟨c', k', i', g2, -⟩, -, -, -, g3, -⟩ := S1
    obtain ⟨cell, cf, k, i, f, e1, e2, -, -, -, -, e3⟩ := F
    obtain ⟨k2, g4⟩ := ff_back (U := Wst Z vm h) hal g2
    rw [hx] at e1
    have e4 : cell = q.sC := Option.some.inj (e1.symm.trans g1)
    have e5 : f = q.fSV := by
      have e6 := Option.some.inj (e2.symm.trans g4)
      simp only [Prod.mk.injEq] at e6
      exact e6.2.2.2
    rw [e4, e5, g3] at e3
    cases e3
  · have hd := G.hd
    obtain ⟨cS, -, -, f, -⟩ := G
    obtain ⟨cell, k, e1, e2, -⟩ := E
    rw [hx] at e1
    have e4 : cell = q.SA := Option.some.inj (e1.symm.trans hd)
    have f' : Z.vm.findClass "[B" = some q.SA.cls := by rw [← hal.findClass]; exact f
    rw [e4] at e2
    obtain ⟨k1, q1, q2⟩ := Vm.findClass_spec f'
    obtain ⟨k2, q3, q4⟩ := Vm.findClass_spec e2
    cases q1.symm.trans q3
    exact absurd (q2.symm.trans q4) (by decide)

theorem pn_0 : plainName "java/lang/String" = true := by first | (simp [plainName, overriddenIn]; done) | decide +kernel
theorem ef_1 (m : MethodId) (x0 : Nat) (x1 : Nat) (x2 : Int32) (x3 : Int32) : entryFrame m #[(.ref x0), (.ref x1), (.int x2), (.int x3), .null] 6 = mkF m 0 #[.val (.ref x0), .val (.ref x1), .val (.int x2), .val (.int x3), .val .null, .unset] [] := by first | (simp [entryFrame, mkF, argsToLocals, Value.category]; done) | rfl
theorem d_jdk_42_method_149_0 : decode jdk_42_method_149_code 0 = .ok (.aload_n 0, 1) := by decide +kernel
theorem d_jdk_42_method_149_1 : decode jdk_42_method_149_code 1 = .ok (.invokespecial 1, 3) := by decide +kernel
theorem d_jdk_42_method_149_4 : decode jdk_42_method_149_code 4 = .ok (.iload_n 3, 1) := by decide +kernel
theorem d_jdk_42_method_149_5 : decode jdk_42_method_149_code 5 = .ok (.ifCond .ne 22, 3) := by decide +kernel
theorem d_jdk_42_method_149_8 : decode jdk_42_method_149_code 8 = .ok (.aload_n 0, 1) := by decide +kernel
theorem d_jdk_42_method_149_9 : decode jdk_42_method_149_code 9 = .ok (.ldc 7, 2) := by decide +kernel
theorem d_jdk_42_method_149_11 : decode jdk_42_method_149_code 11 = .ok (.getfield 9, 3) := by decide +kernel
theorem d_jdk_42_method_149_14 : decode jdk_42_method_149_code 14 = .ok (.putfield 9, 3) := by decide +kernel
theorem d_jdk_42_method_149_17 : decode jdk_42_method_149_code 17 = .ok (.aload_n 0, 1) := by decide +kernel
theorem d_jdk_42_method_149_18 : decode jdk_42_method_149_code 18 = .ok (.ldc 7, 2) := by decide +kernel
theorem d_jdk_42_method_149_20 : decode jdk_42_method_149_code 20 = .ok (.getfield 15, 3) := by decide +kernel
theorem d_jdk_42_method_149_23 : decode jdk_42_method_149_code 23 = .ok (.putfield 15, 3) := by decide +kernel
theorem d_jdk_42_method_149_26 : decode jdk_42_method_149_code 26 = .ok (.return_, 1) := by decide +kernel
def Q_init4e (Z : State) (a1 : Nat) (a2 : Nat) (h0 : Heap) (v : Option Value) (h : Heap) (L : List Loc) : Prop := ∃ (t : Nat), v = none ∧ Fr Z.heap.size L ∧ Keep h0 h [a1] ∧ own_Str Z h a1 t []
set_option maxRecDepth 65536 in
set_option maxHeartbeats 40000000 in
theorem rm_init4e (l : Launch) (Z : State) (a0 : Array Value) (hw : ∀ d ∈ tables_1, d.before a0 Z = true) (ws : List Jvm.Cond) (a1 : Nat) (a2 : Nat) (h0 : Heap) (hEL : EW Z a0 consts_1) (OL : Old Z Z.heap.size h0) (p0_ : Exa Z h0 a1 "java/lang/String") (p1_ : Fld Z h0 a1 "java/lang/String" "value" "[B" .null) (p2_ : Fld Z h0 a1 "java/lang/String" "coder" "B" (.int (0 : Int32))) (hn0 : Z.heap.size ≤ a1) :
    MetFree l (⟨"java/lang/String", "<init>", "([CIILjava/lang/Void;)V"⟩ : MethodName) (head1 (Jvm.Cond.code (⟨"java/lang/String", "<init>", "([CIILjava/lang/Void;)V"⟩ : MethodName) jdk_42_method_149_code 6 none :: ws) ({ frames := 1, cells := 4, slots := 8, locals := 12 } : Room)) (fun a U => a = #[(.ref a1), (.ref a2), (.int (0 : Int32)), (.int (0 : Int32)), .null] ∧ Z.Warmed39 U.vm ∧ U.heap = h0 ∧ CHv Z consts_1 U.vm h0) (fun _ _ _ _ _ => True) (fun _ U o U' => ∃ v L, o = .returned v ∧ Q_init4e Z a1 a2 h0 v U'.heap L ∧ CHr Z consts_1 U.vm U.heap U'.vm U'.heap ∧ ReturnedEndW U o U' L ({ frames := 1, cells := 4, slots := 8, locals := 12 } : Room).cells ({ frames := 1, cells := 4, slots := 8, locals := 12 } : Room).slots) := by
  refine MetFree.of_bodySF (plainFor_of_name pn_0) hisR ?_
  intro p e s m args below meth c s₁ Bd hml0 hP hK
  obtain ⟨rfl, hZ, hh, hC0⟩ := hP
  have hx := Bd.exec
  have hby := Bd.bytes
  have hml : c.maxLocals = 6 := hml0
  have hown : s.vm.findClass "java/lang/String" = some m.cls := findClass_of_methodNamed Bd.named
  have hnm := (name_of_methodNamed Bd.named Bd.method).1
  have X0 : Stand p l e ({ frames := 1, cells := 4, slots := 8, locals := 12 } : Room) (s.setVm s.vm) m #[(.ref a1), (.ref a2), (.int (0 : Int32)), (.int (0 : Int32)), .null] below meth c s₁ [] 0 0 := Stand.of_body Bd
  have e0 : s₁.heap = h0 := by rw [← hh, Bd.state]; rfl
  have N0 := Fr.nil Z.heap.size
  have Z0 : Z.heap.size ≤ h0.size := OL.2.1
  have hS0 : s.Since s.vm h0.size := (State.WarmedH.refl s).since _
  have wS := own_wS hw
  have R0 : CHr Z consts_1 s.vm h0 s.vm h0 := CHr.refl hC0
  have lt_0 : @LT.lt Nat _ a1 h0.size := p0_.lt
  have lt_1 : @LT.lt Nat _ a1 h0.size := p1_.lt
  have lt_2 : @LT.lt Nat _ a1 h0.size := p2_.lt
  obtain ⟨PP, hPP⟩ : ∃ PP : Outcome → State → Prop, PP = (fun o tE => ∃ v L, o = .returned v ∧ Q_init4e Z a1 a2 h0 v tE.heap L ∧ CHr Z consts_1 s.vm s.heap tE.vm tE.heap ∧ ReturnedEndW s o tE L ({ frames := 1, cells := 4, slots := 8, locals := 12 } : Room).cells ({ frames := 1, cells := 4, slots := 8, locals := 12 } : Room).slots) := ⟨_, rfl⟩
  show own_Go p.tables e below (fun o tE => ∃ v L, o = .returned v ∧ Q_init4e Z a1 a2 h0 v tE.heap L ∧ CHr Z consts_1 s.vm s.heap tE.vm tE.heap ∧ ReturnedEndW s o tE L ({ frames := 1, cells := 4, slots := 8, locals := 12 } : Room).cells ({ frames := 1, cells := 4, slots := 8, locals := 12 } : Room).slots) (s₁.setTop (entryFrame m #[(.ref a1), (.ref a2), (.int (0 : Int32)), (.int (0 : Int32)), .null] 6))
  rw [← hPP]
  refine own_Go.st (fun t k => castTop (ef_1 m a1 a2 (0 : Int32) (0 : Int32)) k) ?_
  show own_Go _ _ _ _ (s₁.setTop (mkF m 0 #[.val (.ref a1), .val (.ref a2), .val (.int (0 : Int32)), .val (.int (0 : Int32)), .val .null, .unset] []))
  refine own_Go.st (fun _ k => XS.aloadN X0.here hx rfl (hb hby d_jdk_42_method_149_0) rfl rfl k) ?_
  show own_Go _ _ _ _ (s₁.setTop (mkF m 1 #[.val (.ref a1), .val (.ref a2), .val (.int (0 : Int32)), .val (.int (0 : Int32)), .val .null, .unset] [(.ref a1)]))
  obtain ⟨T101, X101, e101, st101⟩ := initO X0 hx hZ hown (hw _ (List.mem_of_getElem? (i := 19) rfl)) (hw _ (List.mem_of_getElem? (i := 20) rfl)) (hw _ (List.mem_of_getElem? (i := 21) rfl)) e0 (g := (mkF m 1 #[.val (.ref a1), .val (.ref a2), .val (.int (0 : Int32)), .val (.int (0 : Int32)), .val .null, .unset] [(.ref a1)])) rfl (by rw [hml]; rfl) rfl (hb hby d_jdk_42_method_149_1) (by decide) (W := 0) (by show 2 * 0 + _ ≤ _; exact Nat.le_of_eq rfl) (by decide)
  refine own_Go.st st101 ?_
  show own_Go _ _ _ _ (T101.setTop (mkF m 4 #[.val (.ref a1), .val (.ref a2), .val (.int (0 : Int32)), .val (.int (0 : Int32)), .val .null, .unset] []))
  refine own_Go.st (fun _ k => XS.iloadN X101.here hx rfl (hb hby d_jdk_42_method_149_4) rfl k) ?_
  show own_Go _ _ _ _ (T101.setTop (mkF m 5 #[.val (.ref a1), .val (.ref a2), .val (.int (0 : Int32)), .val (.int (0 : Int32)), .val .null, .unset] [(.int (0 : Int32))]))
  refine own_Go.st (fun _ k => XS.ifNo X101.here hx rfl (hb hby d_jdk_42_method_149_5) rfl ((if0 _ _).trans (teq (rfl : (0 : Int32) = (0 : Int32))).2) k) ?_
  show own_Go _ _ _ _ (T101.setTop (mkF m 8 #[.val (.ref a1), .val (.ref a2), .val (.int (0 : Int32)), .val (.int (0 : Int32)), .val .null, .unset] []))
  refine own_Go.st (fun _ k => XS.aloadN X101.here hx rfl (hb hby d_jdk_42_method_149_8) rfl rfl k) ?_
  show own_Go _ _ _ _ (T101.setTop (mkF m 9 #[.val (.ref a1), .val (.ref a2), .val (.int (0 : Int32)), .val (.int (0 : Int32)), .val .null, .unset] [(.ref a1)]))
  obtain ⟨a102, T102, h102, kk102, t102, kb102, X102, e102, E102, hS102, hk102, hZ102, hown102, A102, C102, V102, B102, la102, lb102, ch102, Li102, sf102, st102⟩ := ldcCH X101 hx hZ hown (hw _ (List.mem_of_getElem? (i := 22) rfl)) wS e101 hS0 (by omega) hEL (by decide) R0.1 (vs := []) (z := (0 : Int32)) (by decide) (by decide) (by decide) (g := (mkF m 9 #[.val (.ref a1), .val (.ref a2), .val (.int (0 : Int32)), .val (.int (0 : Int32)), .val .null, .unset] [(.ref a1)])) rfl (hb hby d_jdk_42_method_149_9) (n := 0) (by decide) (by decide) (by decide) (by decide)
  refine own_Go.st st102 ?_
  have z102 : h0.size ≤ h102.size := E102.1
  have la102' : @LT.lt Nat _ a102 h102.size := la102
  have lb102' : @LT.lt Nat _ t102 h102.size := lb102
  have R102 : CHr Z consts_1 s.vm h0 T102.vm h102 := R0.trans ch102
  have fT102 : own_Str Z h102 a102 t102 ([] : List Int32) := ⟨kb102, 0, (0 : Int32), [], A102, V102, C102, B102, Or.inl ⟨rfl, rfl, rfl, (by decide)⟩, (by decide), (by decide)⟩
  show own_Go _ _ _ _ (T102.setTop (mkF m 11 #[.val (.ref a1), .val (.ref a2), .val (.int (0 : Int32)), .val (.int (0 : Int32)), .val .null, .unset] [(.ref a102), (.ref a1)]))
  obtain ⟨T103, X103, e103, st103⟩ := getF X102 hx hZ102 hown102 (host := "") (Or.inl (hw _ (List.mem_of_getElem? (i := 28) rfl))) Via.refl e102 V102 (g := (mkF m 11 #[.val (.ref a1), .val (.ref a2), .val (.int (0 : Int32)), .val (.int (0 : Int32)), .val .null, .unset] [(.ref a102), (.ref a1)])) rfl rfl (hb hby d_jdk_42_method_149_11)
  refine own_Go.st st103 ?_
  show own_Go _ _ _ _ (T103.setTop (mkF m 14 #[.val (.ref a1), .val (.ref a2), .val (.int (0 : Int32)), .val (.int (0 : Int32)), .val .null, .unset] [(.ref t102), (.ref a1)]))
  have f104 : Fld Z h102 a1 "java/lang/String" "value" "[B" .null := p1_.ext E102
  have f105 : Exa Z h102 a1 "java/lang/String" := p0_.ext E102
  obtain ⟨T106, h106, X106, e106, W106, st106⟩ := putF X103 hx hZ102 hown102 (host := "") (Or.inl (hw _ (List.mem_of_getElem? (i := 28) rfl))) Via.refl e103 f104 f105 (Or.inr ⟨(hw _ (List.mem_of_getElem? (i := 24) rfl)), rfl, hnm⟩) (hw _ (List.mem_of_getElem? (i := 9) rfl)) (ty := (.array .byte)) (by decide) rfl rfl (g := (mkF m 14 #[.val (.ref a1), .val (.ref a2), .val (.int (0 : Int32)), .val (.int (0 : Int32)), .val .null, .unset] [(.ref t102), (.ref a1)])) rfl rfl (hb hby d_jdk_42_method_149_14)
  refine own_Go.st st106 ?_
  have N106 := Fr.snoc X106 N0 (by omega)
  have Sf108 : Safe Z consts_1 T102.vm h102 a1 := own_safeNull hZ102.alike f105 f104
  have z106 : h102.size ≤ h106.size := Nat.le_of_eq W106.size.symm
  have f107 : Fld Z h106 a1 "java/lang/String" "value" "[B" (.ref t102) := f104.same W106
  have R106 : CHr Z consts_1 s.vm h0 T102.vm h106 := R102.trans (CHr.wr W106 Sf108 R102.1)
  have Sf109 : Safe Z consts_1 T102.vm h106 a1 := Safe.wr W106 Sf108 R102.1 Sf108
  show own_Go _ _ _ _ (T106.setTop (mkF m 17 #[.val (.ref a1), .val (.ref a2), .val (.int (0 : Int32)), .val (.int (0 : Int32)), .val .null, .unset] []))
  refine own_Go.st (fun _ k => XS.aloadN X106.here hx rfl (hb hby d_jdk_42_method_149_17) rfl rfl k) ?_
  show own_Go _ _ _ _ (T106.setTop (mkF m 18 #[.val (.ref a1), .val (.ref a2), .val (.int (0 : Int32)), .val (.int (0 : Int32)), .val .null, .unset] [(.ref a1)]))
  obtain ⟨a110, T110, h110, kk110, t110, kb110, X110, e110, E110, hS110, hk110, hZ110, hown110, A110, C110, V110, B110, la110, lb110, ch110, Li110, sf110, st110⟩ := ldcCH X106 hx hZ102 hown102 (hw _ (List.mem_of_getElem? (i := 22) rfl)) wS e106 hS102 (by omega) hEL (by decide) R106.1 (vs := []) (z := (0 : Int32)) (by decide) (by decide) (by decide) (g := (mkF m 18 #[.val (.ref a1), .val (.ref a2), .val (.int (0 : Int32)), .val (.int (0 : Int32)), .val .null, .unset] [(.ref a1)])) rfl (hb hby d_jdk_42_method_149_18) (n := 0) (by decide) (by decide) (by decide) (by decide)
  refine own_Go.st st110 ?_
  have z110 : h106.size ≤ h110.size := E110.1
  have la110' : @LT.lt Nat _ a110 h110.size := la110
  have lb110' : @LT.lt Nat _ t110 h110.size := lb110
  have R110 : CHr Z consts_1 s.vm h0 T110.vm h110 := R106.trans ch110
  have Sf111 : Safe Z consts_1 T110.vm h110 a1 := ch110.safe (by show @LT.lt Nat _ a1 _; omega) Sf109
  have fT110 : own_Str Z h110 a110 t110 ([] : List Int32) := ⟨kb110, 0, (0 : Int32), [], A110, V110, C110, B110, Or.inl ⟨rfl, rfl, rfl, (by decide)⟩, (by decide), (by decide)⟩
  show own_Go _ _ _ _ (T110.setTop (mkF m 20 #[.val (.ref a1), .val (.ref a2), .val (.int (0 : Int32)), .val (.int (0 : Int32)), .val .null, .unset] [(.ref a110), (.ref a1)]))
  obtain ⟨T112, X112, e112, st112⟩ := getF X110 hx hZ110 hown110 (host := "") (Or.inl (hw _ (List.mem_of_getElem? (i := 29) rfl))) Via.refl e110 C110 (g := (mkF m 20 #[.val (.ref a1), .val (.ref a2), .val (.int (0 : Int32)), .val (.int (0 : Int32)), .val .null, .unset] [(.ref a110), (.ref a1)])) rfl rfl (hb hby d_jdk_42_method_149_20)
  refine own_Go.st st112 ?_
  show own_Go _ _ _ _ (T112.setTop (mkF m 23 #[.val (.ref a1), .val (.ref a2), .val (.int (0 : Int32)), .val (.int (0 : Int32)), .val .null, .unset] [(.int 0), (.ref a1)]))
  have f113 : Fld Z h102 a1 "java/lang/String" "coder" "B" (.int (0 : Int32)) := p2_.ext E102
  have f114 : Fld Z h106 a1 "java/lang/String" "coder" "B" (.int (0 : Int32)) := f113.other W106 (Or.inr (slot_ne (Or.inr (hw _ (List.mem_of_getElem? (i := 25) rfl))) (Or.inr (hw _ (List.mem_of_getElem? (i := 24) rfl))) (by decide) (t := .byte) (t' := (.array .byte)) (by decide) (by decide)))
  have f115 : Fld Z h110 a1 "java/lang/String" "coder" "B" (.int (0 : Int32)) := f114.ext E110
  have f116 : Exa Z h106 a1 "java/lang/String" := f105.wr W106
  have f117 : Exa Z h110 a1 "java/lang/String" := f116.ext E110
  obtain ⟨T118, h118, X118, e118, W118, st118⟩ := putF X112 hx hZ110 hown110 (host := "") (Or.inl (hw _ (List.mem_of_getElem? (i := 29) rfl))) Via.refl e112 f115 f117 (Or.inr ⟨(hw _ (List.mem_of_getElem? (i := 25) rfl)), rfl, hnm⟩) (hw _ (List.mem_of_getElem? (i := 9) rfl)) (ty := .byte) (by decide) rfl (by decide) (g := (mkF m 23 #[.val (.ref a1), .val (.ref a2), .val (.int (0 : Int32)), .val (.int (0 : Int32)), .val .null, .unset] [(.int 0), (.ref a1)])) rfl rfl (hb hby d_jdk_42_method_149_23)
  refine own_Go.st st118 ?_
  have N118 := Fr.snoc X118 N106 (by omega)
  have z118 : h110.size ≤ h118.size := Nat.le_of_eq W118.size.symm
  have f119 : Fld Z h118 a1 "java/lang/String" "coder" "B" (.int 0) := f115.same W118
  have R118 : CHr Z consts_1 s.vm h0 T110.vm h118 := R110.trans (CHr.wr W118 Sf111 R110.1)
  have Sf120 : Safe Z consts_1 T110.vm h118 a1 := Safe.wr W118 Sf111 R110.1 Sf111
  show own_Go _ _ _ _ (T118.setTop (mkF m 26 #[.val (.ref a1), .val (.ref a2), .val (.int (0 : Int32)), .val (.int (0 : Int32)), .val .null, .unset] []))
  obtain ⟨fs121, hr121, hrun121, hend121, hret121⟩ := X118.leaveW hS110 (by rw [e118]; exact (by omega)) (v := none) (fun _ => rfl)
  have f122 : Fld Z h110 a1 "java/lang/String" "value" "[B" (.ref t102) := f107.ext E110
  have f123 : Fld Z h118 a1 "java/lang/String" "value" "[B" (.ref t102) := f122.other W118 (Or.inr (slot_ne (Or.inr (hw _ (List.mem_of_getElem? (i := 24) rfl))) (Or.inr (hw _ (List.mem_of_getElem? (i := 25) rfl))) (by decide) (t := (.array .byte)) (t' := .byte) (by decide) (by decide)))
  have f124 : Exa Z h118 a1 "java/lang/String" := f117.wr W118
  have ne125 : @Ne Nat a1 t102 := Exa.neArv f105 B102 (hw _ (List.mem_of_getElem? (i := 9) rfl))
  have f126 : Arv Z h106 t102 kb102 .byte (0 : Int32) [] (.int 0) := B102.other W106 (Ne.symm ne125)
  have f127 : Arv Z h110 t102 kb102 .byte (0 : Int32) [] (.int 0) := f126.ext E110
  have f128 : Arv Z h118 t102 kb102 .byte (0 : Int32) [] (.int 0) := f127.other W118 (Ne.symm ne125)
  have K129 : Keep h0 h102 [a1] := (Keep.refl h0 [a1]).ext E102
  have K130 : Keep h0 h106 [a1] := K129.wr W106 (Or.inl (List.mem_of_getElem? (i := 0) rfl))
  have K131 : Keep h0 h110 [a1] := K130.ext E110
  have K132 : Keep h0 h118 [a1] := K131.wr W118 (Or.inl (List.mem_of_getElem? (i := 0) rfl))
  subst hPP
  refine ⟨_, _, X118.returnOut hx Bd.returns (hb hby d_jdk_42_method_149_26) hr121, hrun121, hend121, _, _, rfl, ?_, ?_, hret121.1, hret121.2.1, hret121.2.2.1, hret121.2.2.2.mono (by decide) (by decide)⟩
  · show Q_init4e Z a1 a2 h0 _ T118.heap _
    rw [e118]
    exact ⟨t102, rfl, N118, K132, ⟨kb102, 0, 0, [], f124, f123, f119, f128, Or.inl ⟨rfl, rfl, rfl, own_a0⟩, own_a0, by decide⟩⟩
  · have hfin := R118.trans (CHv.at X118 hZ110 hEL R118.1)
    rw [← hh] at hfin
    show CHr Z consts_1 s.vm s.heap T118.vm T118.heap
    rw [e118]
    exact hfin
theorem ef_15 (m : MethodId) (x0 : Nat) (x1 : Nat) : entryFrame m #[(.ref x0), (.ref x1)] 2 = mkF m 0 #[.val (.ref x0), .val (.ref x1)] [] := by first | (simp [entryFrame, mkF, argsToLocals, Value.category]; done) | rfl
theorem d_jdk_42_method_3_0 : decode jdk_42_method_3_code 0 = .ok (.aload_n 0, 1) := by decide +kernel
theorem d_jdk_42_method_3_1 : decode jdk_42_method_3_code 1 = .ok (.aload_n 1, 1) := by decide +kernel
theorem d_jdk_42_method_3_2 : decode jdk_42_method_3_code 2 = .ok (.iconst 0, 1) := by decide +kernel
theorem d_jdk_42_method_3_3 : decode jdk_42_method_3_code 3 = .ok (.aload_n 1, 1) := by decide +kernel
theorem d_jdk_42_method_3_4 : decode jdk_42_method_3_code 4 = .ok (.arraylength, 1) := by decide +kernel
theorem d_jdk_42_method_3_5 : decode jdk_42_method_3_code 5 = .ok (.aconst_null, 1) := by decide +kernel
theorem pd_22 : parseMethodDescriptor "([CIILjava/lang/Void;)V" = some ⟨[(.array .char), .int, .int, (.object "java/lang/Void")], none⟩ := by decide +kernel
theorem d_jdk_42_method_3_6 : decode jdk_42_method_3_code 6 = .ok (.invokespecial 27, 3) := by decide +kernel
theorem d_jdk_42_method_3_9 : decode jdk_42_method_3_code 9 = .ok (.return_, 1) := by decide +kernel
def Q_init1e (Z : State) (a1 : Nat) (a2 : Nat) (k : ClassId) (vs : List Value) (d : Value) (h0 : Heap) (v : Option Value) (h : Heap) (L : List Loc) : Prop := ∃ (t : Nat), v = none ∧ Fr Z.heap.size L ∧ Keep h0 h [a1] ∧ own_Str Z h a1 t []
set_option maxRecDepth 65536 in
set_option maxHeartbeats 40000000 in
theorem rm_init1e (l : Launch) (Z : State) (a0 : Array Value) (hw : ∀ d ∈ tables_1, d.before a0 Z = true) (ws : List Jvm.Cond) (a1 : Nat) (a2 : Nat) (k : ClassId) (vs : List Value) (d : Value) (h0 : Heap) (hEL : EW Z a0 consts_1) (OL : Old Z Z.heap.size h0) (p0_ : Exa Z h0 a1 "java/lang/String") (p1_ : Fld Z h0 a1 "java/lang/String" "value" "[B" .null) (p2_ : Fld Z h0 a1 "java/lang/String" "coder" "B" (.int (0 : Int32))) (p3_ : Arv Z h0 a2 k .char (0 : Int32) vs d) (hn0 : Z.heap.size ≤ a1) :
    MetFree l (⟨"java/lang/String", "<init>", "([C)V"⟩ : MethodName) (head1 (Jvm.Cond.code (⟨"java/lang/String", "<init>", "([C)V"⟩ : MethodName) jdk_42_method_3_code 2 none :: ws) ({ frames := 2, cells := 4, slots := 8, locals := 29 } : Room)) (fun a U => a = #[(.ref a1), (.ref a2)] ∧ Z.Warmed39 U.vm ∧ U.heap = h0 ∧ CHv Z consts_1 U.vm h0) (fun _ _ _ _ _ => True) (fun _ U o U' => ∃ v L, o = .returned v ∧ Q_init1e Z a1 a2 k vs d h0 v U'.heap L ∧ CHr Z consts_1 U.vm U.heap U'.vm U'.heap ∧ ReturnedEndW U o U' L ({ frames := 2, cells := 4, slots := 8, locals := 29 } : Room).cells ({ frames := 2, cells := 4, slots := 8, locals := 29 } : Room).slots) := by
  refine MetFree.of_bodySF (plainFor_of_name pn_0) hisR ?_
  intro p e s m args below meth c s₁ Bd hml0 hP hK
  obtain ⟨rfl, hZ, hh, hC0⟩ := hP
  have hx := Bd.exec
  have hby := Bd.bytes
  have hml : c.maxLocals = 2 := hml0
  have hown : s.vm.findClass "java/lang/String" = some m.cls := findClass_of_methodNamed Bd.named
  have hnm := (name_of_methodNamed Bd.named Bd.method).1
  have X0 : Stand p l e ({ frames := 2, cells := 4, slots := 8, locals := 29 } : Room) (s.setVm s.vm) m #[(.ref a1), (.ref a2)] below meth c s₁ [] 0 0 := Stand.of_body Bd
  have e0 : s₁.heap = h0 := by rw [← hh, Bd.state]; rfl
  have N0 := Fr.nil Z.heap.size
  have Z0 : Z.heap.size ≤ h0.size := OL.2.1
  have hS0 : s.Since s.vm h0.size := (State.WarmedH.refl s).since _
  have wS := own_wS hw
  have R0 : CHr Z consts_1 s.vm h0 s.vm h0 := CHr.refl hC0
  have lt_0 : @LT.lt Nat _ a1 h0.size := p0_.lt
  have lt_1 : @LT.lt Nat _ a1 h0.size := p1_.lt
  have lt_2 : @LT.lt Nat _ a1 h0.size := p2_.lt
  have lt_3 : @LT.lt Nat _ a2 h0.size := p3_.lt
  obtain ⟨PP, hPP⟩ : ∃ PP : Outcome → State → Prop, PP = (fun o tE => ∃ v L, o = .returned v ∧ Q_init1e Z a1 a2 k vs d h0 v tE.heap L ∧ CHr Z consts_1 s.vm s.heap tE.vm tE.heap ∧ ReturnedEndW s o tE L ({ frames := 2, cells := 4, slots := 8, locals := 29 } : Room).cells ({ frames := 2, cells := 4, slots := 8, locals := 29 } : Room).slots) := ⟨_, rfl⟩
  show own_Go p.tables e below (fun o tE => ∃ v L, o = .returned v ∧ Q_init1e Z a1 a2 k vs d h0 v tE.heap L ∧ CHr Z consts_1 s.vm s.heap tE.vm tE.heap ∧ ReturnedEndW s o tE L ({ frames := 2, cells := 4, slots := 8, locals := 29 } : Room).cells ({ frames := 2, cells := 4, slots := 8, locals := 29 } : Room).slots) (s₁.setTop (entryFrame m #[(.ref a1), (.ref a2)] 2))
  rw [← hPP]
  refine own_Go.st (fun t k => castTop (ef_15 m a1 a2) k) ?_
  show own_Go _ _ _ _ (s₁.setTop (mkF m 0 #[.val (.ref a1), .val (.ref a2)] []))
  refine own_Go.st (fun _ k => XS.aloadN X0.here hx rfl (hb hby d_jdk_42_method_3_0) rfl rfl k) ?_
  show own_Go _ _ _ _ (s₁.setTop (mkF m 1 #[.val (.ref a1), .val (.ref a2)] [(.ref a1)]))
  refine own_Go.st (fun _ k => XS.aloadN X0.here hx rfl (hb hby d_jdk_42_method_3_1) rfl rfl k) ?_
  show own_Go _ _ _ _ (s₁.setTop (mkF m 2 #[.val (.ref a1), .val (.ref a2)] [(.ref a2), (.ref a1)]))
  refine own_Go.st (fun _ k => XS.iconst X0.here hx rfl (hb hby d_jdk_42_method_3_2) k) ?_
  show own_Go _ _ _ _ (s₁.setTop (mkF m 3 #[.val (.ref a1), .val (.ref a2)] [(.int (0 : Int32)), (.ref a2), (.ref a1)]))
  refine own_Go.st (fun _ k => XS.aloadN X0.here hx rfl (hb hby d_jdk_42_method_3_3) rfl rfl k) ?_
  show own_Go _ _ _ _ (s₁.setTop (mkF m 4 #[.val (.ref a1), .val (.ref a2)] [(.ref a2), (.int (0 : Int32)), (.ref a2), (.ref a1)]))
  obtain ⟨c133, Ar133, q133, S133, Nn133, H133, G133⟩ := id p3_
  refine own_Go.st (X0.arraylength hx (by rw [e0]; exact Ar133.1) (State.isArrayOf_alike hZ.alike Ar133.2.1) (g := (mkF m 4 #[.val (.ref a1), .val (.ref a2)] [(.ref a2), (.int (0 : Int32)), (.ref a2), (.ref a1)])) rfl rfl (hb hby d_jdk_42_method_3_4)) ?_
  rw [len_of S133 Nn133]
  show own_Go _ _ _ _ (s₁.setTop (mkF m 5 #[.val (.ref a1), .val (.ref a2)] [(.int (0 : Int32)), (.int (0 : Int32)), (.ref a2), (.ref a1)]))
  refine own_Go.st (fun _ k => XS.aconstNull X0.here hx rfl (hb hby d_jdk_42_method_3_5) k) ?_
  show own_Go _ _ _ _ (s₁.setTop (mkF m 6 #[.val (.ref a1), .val (.ref a2)] [.null, (.int (0 : Int32)), (.int (0 : Int32)), (.ref a2), (.ref a1)]))
  obtain ⟨_, _, ⟨T134, L134, k134, n134⟩, -, X134, hs134, hg134, ⟨Lc134, hQ134, l134, y134, z134, ch134⟩, st134⟩ := X0.specialBackS hx (y := (⟨"java/lang/String", "<init>", "([CIILjava/lang/Void;)V"⟩ : MethodName)) rfl hown (mvT hZ (hw _ (List.mem_of_getElem? (i := 15) rfl))) (mvT hZ (hw _ (List.mem_of_getElem? (i := 16) rfl))) (mvT hZ (hw _ (List.mem_of_getElem? (i := 18) rfl))) (by decide) (backOfSH (s := s) (vm0 := s.vm) (W := 0) (rm_init4e l Z a0 hw [] a1 a2 h0 hEL OL p0_ p1_ p2_ (by first | assumption | decide)) hZ (hw _ (List.mem_of_getElem? (i := 18) rfl)) (hw _ (List.mem_of_getElem? (i := 10) rfl)) (by decide) (by decide) hEL R0.1) (g := (mkF m 6 #[.val (.ref a1), .val (.ref a2)] [.null, (.int (0 : Int32)), (.int (0 : Int32)), (.ref a2), (.ref a1)])) rfl (by rw [hml]; rfl) (Steps.refl _) (a := a1) (argsL := [(.ref a2), (.int (0 : Int32)), (.int (0 : Int32)), .null]) (rest := []) (lenOf pd_22 rfl) rfl (by show 2 * 0 + _ ≤ _; exact Nat.le_of_eq rfl) (hb hby d_jdk_42_method_3_6) (fun _ _ => ⟨rfl, e0, (by decide : 0 + 4 ≤ _), (by decide : 0 + 8 ≤ _)⟩)
  dsimp only [Pt.U, Pt.locs, Pt.cells, Pt.slots] at X134 l134 y134 z134 st134 hQ134 hs134 hg134 ch134
  subst l134 y134 z134
  obtain ⟨t_134, rfl, N134q, K134, f134_0⟩ := hQ134
  have N134 := Fr.app N0 N134q
  obtain ⟨Y134, hS134, hZ134, hown134⟩ := rebS hS0 (n1 := h0.size) (by omega) X134 hs134 (by have := hg134; first | exact this | (rw [← e0]; exact this)) hZ hown
  have z134 : h0.size ≤ T134.heap.size := K134.1
  have R134 : CHr Z consts_1 s.vm h0 T134.vm T134.heap := R0.trans ch134
  have lt134_0 : @LT.lt Nat _ a1 T134.heap.size := f134_0.lt
  have ltv134_0 : @LT.lt Nat _ t_134 T134.heap.size := f134_0.ltv
  refine own_Go.tr st134 ?_
  show own_Go _ _ _ _ (T134.setTop (mkF m 9 #[.val (.ref a1), .val (.ref a2)] []))
  obtain ⟨fs135, hr135, hrun135, hend135, hret135⟩ := Y134.leaveW hS134 (by omega) (v := none) (fun _ => rfl)
  have K136 : Keep h0 T134.heap [a1] := (Keep.refl h0 [a1]).trans K134 (allS (Or.inl (List.mem_of_getElem? (i := 0) rfl)) all0)
  subst hPP
  refine ⟨_, _, Y134.returnOut hx Bd.returns (hb hby d_jdk_42_method_3_9) hr135, hrun135, hend135, _, _, rfl, ?_, ?_, hret135.1, hret135.2.1, hret135.2.2.1, hret135.2.2.2.mono (by decide) (by decide)⟩
  · show Q_init1e Z a1 a2 k vs d h0 _ T134.heap _
    exact ⟨t_134, rfl, N134, K136, f134_0⟩
  · have hfin := R134.trans (CHv.at Y134 hZ134 hEL R134.1)
    rw [← hh] at hfin
    show CHr Z consts_1 s.vm s.heap T134.vm T134.heap
    exact hfin
def own_mk (n c0 c1 c2 c3 c4 c5 c6 : Int32) : List Int32 := if n = 0 then [] else if n = 1 then [c0] else if n = 2 then [c0, c1] else if n = 3 then [c0, c1, c2] else if n = 4 then [c0, c1, c2, c3] else if n = 5 then [c0, c1, c2, c3, c4] else if n = 6 then [c0, c1, c2, c3, c4, c5] else [c0, c1, c2, c3, c4, c5, c6]

theorem own_chlow {x : Int32} (h0 : ¬ x < 0) (h1 : x < 256) : ¬ nar .char (x.toUInt32.toUInt16.toUInt32.toInt32) < 0 ∧ ¬ (255 : Int32) < nar .char (x.toUInt32.toUInt16.toUInt32.toInt32) := by
  have h4 := c_i2c x
  have h5 := c_i2c (x.toUInt32.toUInt16.toUInt32.toInt32)
  have e2 : (255 : Int32).toInt = 255 := by decide
  have e3 : (0 : Int32).toInt = 0 := by decide
  have e4 : (256 : Int32).toInt = 256 := by decide
  simp only [nar, Int32.lt_iff_toInt_lt, e2, e3, e4] at h0 h1 ⊢
  omega
theorem own_m9 (x : Int64) : ¬ ((x &&& (511 : Int64)).toInt32) < 0 := by
  have h1 := c_maskL x 511 9 (by decide) (by decide)
  have h2 := c_l2i (x &&& 511)
  have r := rng32 ((x &&& 511).toInt32)
  have e3 : (0 : Int32).toInt = 0 := by decide
  simp only [Int32.lt_iff_toInt_lt, e3]
  omega
theorem own_n8 (x : Int32) : (x &&& (7 : Int32)) = 0 ∨ (x &&& (7 : Int32)) = 1 ∨ (x &&& (7 : Int32)) = 2 ∨ (x &&& (7 : Int32)) = 3 ∨ (x &&& (7 : Int32)) = 4 ∨ (x &&& (7 : Int32)) = 5 ∨ (x &&& (7 : Int32)) = 6 ∨ (x &&& (7 : Int32)) = 7 := by
  have h1 := c_mask x 7 3 (by decide) (by decide)
  have e0 : (0 : Int32).toInt = 0 := by decide
  have e1 : (1 : Int32).toInt = 1 := by decide
  have e2 : (2 : Int32).toInt = 2 := by decide
  have e3 : (3 : Int32).toInt = 3 := by decide
  have e4 : (4 : Int32).toInt = 4 := by decide
  have e5 : (5 : Int32).toInt = 5 := by decide
  have e6 : (6 : Int32).toInt = 6 := by decide
  have e7 : (7 : Int32).toInt = 7 := by decide
  simp only [← Int32.toInt_inj, e0, e1, e2, e3, e4, e5, e6, e7]
  omega
theorem own_gz (n c0 c1 c2 c3 c4 c5 c6 : Int32) (hn : n = 0 ∨ n = 1 ∨ n = 2 ∨ n = 3 ∨ n = 4 ∨ n = 5 ∨ n = 6 ∨ n = 7) : own_mk n c0 c1 c2 c3 c4 c5 c6 = ([(103 : Int32), (122 : Int32), (105 : Int32), (112 : Int32)] : List Int32) ↔ (n = 4 ∧ c0 = 103 ∧ c1 = 122 ∧ c2 = 105 ∧ c3 = 112) := by
  rcases hn with rfl | rfl | rfl | rfl | rfl | rfl | rfl | rfl <;> simp [own_mk]
theorem own_xgz (n c0 c1 c2 c3 c4 c5 c6 : Int32) (hn : n = 0 ∨ n = 1 ∨ n = 2 ∨ n = 3 ∨ n = 4 ∨ n = 5 ∨ n = 6 ∨ n = 7) : own_mk n c0 c1 c2 c3 c4 c5 c6 = ([(120 : Int32), (45 : Int32), (103 : Int32), (122 : Int32), (105 : Int32), (112 : Int32)] : List Int32) ↔ (n = 6 ∧ c0 = 120 ∧ c1 = 45 ∧ c2 = 103 ∧ c3 = 122 ∧ c4 = 105 ∧ c5 = 112) := by
  rcases hn with rfl | rfl | rfl | rfl | rfl | rfl | rfl | rfl <;> simp [own_mk]
theorem own_fin {A B : Prop} [Decidable A] [Decidable B] {P Q : Prop} (hA : P ↔ A) (hB : Q ↔ B) {g1 g2 g3 r : Int32} (h1 : g1 = if A then 1 else 0) (h2 : g2 = if B then 1 else 0) (h3 : (g3 = 0 ∧ g1 = 0 ∧ g2 = 0) ∨ (g3 = 1 ∧ (¬ g1 = 0 ∨ ¬ g2 = 0))) (hr : (r = 1 ∧ (P ∨ Q)) ∨ (r = 0 ∧ ¬ (P ∨ Q))) : r = g3 := by
  by_cases a : A <;> by_cases b : B <;> simp [hA, hB, a, b] at h1 h2 hr <;> subst h1 h2 <;> rcases h3 with h3 | h3 <;> simp at h3 <;> (try rw [h3]) <;> exact hr

theorem pn_25 : plainName "com/example/net30/net30/http/GzipNamesPinLaw" = true := by first | (simp [plainName, overriddenIn]; done) | decide +kernel
theorem ef_26 (m : MethodId) (x0 : Int32) : entryFrame m #[(.int x0)] 2 = mkF m 0 #[.val (.int x0), .unset] [] := by first | (simp [entryFrame, mkF, argsToLocals, Value.category]; done) | rfl
theorem d_method_2_0 : decode method_2_code 0 = .ok (.iload_n 0, 1) := by decide +kernel
theorem d_method_2_1 : decode method_2_code 1 = .ok (.sipush 256, 3) := by decide +kernel
theorem d_method_2_4 : decode method_2_code 4 = .ok (.if_icmp .ge 6, 3) := by decide +kernel
theorem d_method_2_7 : decode method_2_code 7 = .ok (.iload_n 0, 1) := by decide +kernel
theorem d_method_2_8 : decode method_2_code 8 = .ok (.i2c, 1) := by decide +kernel
theorem d_method_2_9 : decode method_2_code 9 = .ok (.ireturn, 1) := by decide +kernel
theorem d_method_2_10 : decode method_2_code 10 = .ok (.iload_n 0, 1) := by decide +kernel
theorem d_method_2_11 : decode method_2_code 11 = .ok (.bipush 7, 2) := by decide +kernel
theorem d_method_2_13 : decode method_2_code 13 = .ok (.iand, 1) := by decide +kernel
theorem d_method_2_14 : decode method_2_code 14 = .ok (.istore_n 1, 1) := by decide +kernel
theorem d_method_2_15 : decode method_2_code 15 = .ok (.iload_n 1, 1) := by decide +kernel
theorem d_method_2_16 : decode method_2_code 16 = .ok (.ifCond .ne 6, 3) := by decide +kernel
theorem d_method_2_19 : decode method_2_code 19 = .ok (.bipush 120, 2) := by decide +kernel
theorem d_method_2_21 : decode method_2_code 21 = .ok (.ireturn, 1) := by decide +kernel
theorem d_method_2_22 : decode method_2_code 22 = .ok (.iload_n 1, 1) := by decide +kernel
theorem d_method_2_23 : decode method_2_code 23 = .ok (.iconst 1, 1) := by decide +kernel
theorem d_method_2_24 : decode method_2_code 24 = .ok (.if_icmp .ne 6, 3) := by decide +kernel
theorem d_method_2_27 : decode method_2_code 27 = .ok (.bipush 45, 2) := by decide +kernel
theorem d_method_2_29 : decode method_2_code 29 = .ok (.ireturn, 1) := by decide +kernel
theorem d_method_2_30 : decode method_2_code 30 = .ok (.iload_n 1, 1) := by decide +kernel
theorem d_method_2_31 : decode method_2_code 31 = .ok (.iconst 2, 1) := by decide +kernel
theorem d_method_2_32 : decode method_2_code 32 = .ok (.if_icmp .ne 6, 3) := by decide +kernel
theorem d_method_2_35 : decode method_2_code 35 = .ok (.bipush 103, 2) := by decide +kernel
theorem d_method_2_37 : decode method_2_code 37 = .ok (.ireturn, 1) := by decide +kernel
theorem d_method_2_38 : decode method_2_code 38 = .ok (.iload_n 1, 1) := by decide +kernel
theorem d_method_2_39 : decode method_2_code 39 = .ok (.iconst 3, 1) := by decide +kernel
theorem d_method_2_40 : decode method_2_code 40 = .ok (.if_icmp .ne 6, 3) := by decide +kernel
theorem d_method_2_43 : decode method_2_code 43 = .ok (.bipush 122, 2) := by decide +kernel
theorem d_method_2_45 : decode method_2_code 45 = .ok (.ireturn, 1) := by decide +kernel
theorem d_method_2_46 : decode method_2_code 46 = .ok (.iload_n 1, 1) := by decide +kernel
theorem d_method_2_47 : decode method_2_code 47 = .ok (.iconst 4, 1) := by decide +kernel
theorem d_method_2_48 : decode method_2_code 48 = .ok (.if_icmp .ne 6, 3) := by decide +kernel
theorem d_method_2_51 : decode method_2_code 51 = .ok (.bipush 105, 2) := by decide +kernel
theorem d_method_2_53 : decode method_2_code 53 = .ok (.ireturn, 1) := by decide +kernel
theorem d_method_2_54 : decode method_2_code 54 = .ok (.iload_n 1, 1) := by decide +kernel
theorem d_method_2_55 : decode method_2_code 55 = .ok (.iconst 5, 1) := by decide +kernel
theorem d_method_2_56 : decode method_2_code 56 = .ok (.if_icmp .ne 6, 3) := by decide +kernel
theorem d_method_2_59 : decode method_2_code 59 = .ok (.bipush 112, 2) := by decide +kernel
theorem d_method_2_61 : decode method_2_code 61 = .ok (.ireturn, 1) := by decide +kernel
theorem d_method_2_62 : decode method_2_code 62 = .ok (.iload_n 1, 1) := by decide +kernel
theorem d_method_2_63 : decode method_2_code 63 = .ok (.bipush 6, 2) := by decide +kernel
theorem d_method_2_65 : decode method_2_code 65 = .ok (.if_icmp .ne 6, 3) := by decide +kernel
theorem d_method_2_68 : decode method_2_code 68 = .ok (.bipush 71, 2) := by decide +kernel
theorem d_method_2_70 : decode method_2_code 70 = .ok (.ireturn, 1) := by decide +kernel
theorem d_method_2_71 : decode method_2_code 71 = .ok (.iconst 0, 1) := by decide +kernel
theorem d_method_2_72 : decode method_2_code 72 = .ok (.ireturn, 1) := by decide +kernel
def Q_ch (Z : State) (p1 : Int32) (h0 : Heap) (v : Option Value) (h : Heap) (L : List Loc) : Prop := ∃ (c : Int32), v = some (.int c) ∧ Fr Z.heap.size L ∧ h = h0 ∧ (¬ c < 0 ∧ ¬ (255 : Int32) < c)
set_option maxRecDepth 65536 in
set_option maxHeartbeats 40000000 in
theorem rm_ch (l : Launch) (Z : State) (a0 : Array Value) (hw : ∀ d ∈ tables_1, d.before a0 Z = true) (ws : List Jvm.Cond) (p1 : Int32) (h0 : Heap) (OL : Old Z Z.heap.size h0) (hp : ¬ p1 < 0) :
    MetFree l (⟨"com/example/net30/net30/http/GzipNamesPinLaw", "ch", "(I)C"⟩ : MethodName) (head1 (Jvm.Cond.code (⟨"com/example/net30/net30/http/GzipNamesPinLaw", "ch", "(I)C"⟩ : MethodName) method_2_code 2 (some .char) :: ws) ({ frames := 0, cells := 0, slots := 0, locals := 0 } : Room)) (fun a U => a = #[(.int p1)] ∧ Z.Warmed39 U.vm ∧ U.heap = h0) (fun _ _ _ _ _ => True) (fun _ U o U' => ∃ v L, o = .returned v ∧ Q_ch Z p1 h0 v U'.heap L ∧ FrameEnd U o U' L ({ frames := 0, cells := 0, slots := 0, locals := 0 } : Room).cells ({ frames := 0, cells := 0, slots := 0, locals := 0 } : Room).slots) := by
  refine MetFree.of_bodySF (plainFor_of_name pn_25) hisR ?_
  intro p e s m args below meth c s₁ Bd hml0 hP hK
  obtain ⟨rfl, hZ, hh⟩ := hP
  have hx := Bd.exec
  have hby := Bd.bytes
  have hml : c.maxLocals = 2 := hml0
  have hown : s.vm.findClass "com/example/net30/net30/http/GzipNamesPinLaw" = some m.cls := findClass_of_methodNamed Bd.named
  have hnm := (name_of_methodNamed Bd.named Bd.method).1
  have X0 : Stand p l e ({ frames := 0, cells := 0, slots := 0, locals := 0 } : Room) s m #[(.int p1)] below meth c s₁ [] 0 0 := Stand.of_body Bd
  have e0 : s₁.heap = h0 := by rw [← hh, Bd.state]; rfl
  have N0 := Fr.nil Z.heap.size
  have Z0 : Z.heap.size ≤ h0.size := OL.2.1
  obtain ⟨PP, hPP⟩ : ∃ PP : Outcome → State → Prop, PP = (fun o tE => ∃ v L, o = .returned v ∧ Q_ch Z p1 h0 v tE.heap L ∧ FrameEnd s o tE L ({ frames := 0, cells := 0, slots := 0, locals := 0 } : Room).cells ({ frames := 0, cells := 0, slots := 0, locals := 0 } : Room).slots) := ⟨_, rfl⟩
  show own_Go p.tables e below (fun o tE => ∃ v L, o = .returned v ∧ Q_ch Z p1 h0 v tE.heap L ∧ FrameEnd s o tE L ({ frames := 0, cells := 0, slots := 0, locals := 0 } : Room).cells ({ frames := 0, cells := 0, slots := 0, locals := 0 } : Room).slots) (s₁.setTop (entryFrame m #[(.int p1)] 2))
  rw [← hPP]
  refine own_Go.st (fun t k => castTop (ef_26 m p1) k) ?_
  show own_Go _ _ _ _ (s₁.setTop (mkF m 0 #[.val (.int p1), .unset] []))
  refine own_Go.st (fun _ k => XS.iloadN X0.here hx rfl (hb hby d_method_2_0) rfl k) ?_
  show own_Go _ _ _ _ (s₁.setTop (mkF m 1 #[.val (.int p1), .unset] [(.int p1)]))
  refine own_Go.st (fun _ k => XS.sipush X0.here hx rfl (hb hby d_method_2_1) k) ?_
  show own_Go _ _ _ _ (s₁.setTop (mkF m 4 #[.val (.int p1), .unset] [(.int (256 : Int32)), (.int p1)]))
  by_cases hc137 : p1 < (256 : Int32)
  ·
    refine own_Go.st (fun _ k => XS.icmpNo X0.here hx rfl (hb hby d_method_2_4) rfl (tlt hc137).2.1 k) ?_
    show own_Go _ _ _ _ (s₁.setTop (mkF m 7 #[.val (.int p1), .unset] []))
    refine own_Go.st (fun _ k => XS.iloadN X0.here hx rfl (hb hby d_method_2_7) rfl k) ?_
    show own_Go _ _ _ _ (s₁.setTop (mkF m 8 #[.val (.int p1), .unset] [(.int p1)]))
    refine own_Go.st (fun _ k => XS.i2c X0.here hx rfl (hb hby d_method_2_8) rfl k) ?_
    show own_Go _ _ _ _ (s₁.setTop (mkF m 9 #[.val (.int p1), .unset] [(.int (p1.toUInt32.toUInt16.toUInt32.toInt32))]))
    obtain ⟨fs138, hr138, hrun138, hend138, hW138, hsm138⟩ := X0.leave (v := some (.int (nar .char (p1.toUInt32.toUInt16.toUInt32.toInt32)))) (fun h => by rw [Bd.returns] at h; cases h)
    subst hPP
    refine ⟨_, _, retN X0 hx (t := .char) Bd.returns (by simp) (hb hby d_method_2_9) hr138, hrun138, hend138, _, _, rfl, ?_, ⟨_, rfl⟩, hW138, hsm138.mono (by decide) (by decide)⟩
    · show Q_ch Z p1 h0 _ s₁.heap _
      rw [e0]
      exact ⟨_, rfl, N0, rfl, (own_chlow hp hc137)⟩
  ·
    refine own_Go.st (fun _ k => XS.icmpYes X0.here hx rfl (pc0 := 4) (pc' := 10) rfl (hb hby d_method_2_4) rfl (flt hc137).2.1 (by decide) (by decide) k) ?_
    show own_Go _ _ _ _ (s₁.setTop (mkF m 10 #[.val (.int p1), .unset] []))
    refine own_Go.st (fun _ k => XS.iloadN X0.here hx rfl (hb hby d_method_2_10) rfl k) ?_
    show own_Go _ _ _ _ (s₁.setTop (mkF m 11 #[.val (.int p1), .unset] [(.int p1)]))
    refine own_Go.st (fun _ k => XS.bipush X0.here hx rfl (hb hby d_method_2_11) k) ?_
    show own_Go _ _ _ _ (s₁.setTop (mkF m 13 #[.val (.int p1), .unset] [(.int (7 : Int32)), (.int p1)]))
    refine own_Go.st (fun _ k => XS.iand X0.here hx rfl (hb hby d_method_2_13) rfl k) ?_
    show own_Go _ _ _ _ (s₁.setTop (mkF m 14 #[.val (.int p1), .unset] [(.int (p1 &&& (7 : Int32)))]))
    refine own_Go.st (fun _ k => XS.istoreN X0.here hx rfl (hb hby d_method_2_14) rfl (l' := #[.val (.int p1), .val (.int (p1 &&& (7 : Int32)))]) rfl k) ?_
    show own_Go _ _ _ _ (s₁.setTop (mkF m 15 #[.val (.int p1), .val (.int (p1 &&& (7 : Int32)))] []))
    refine own_Go.st (fun _ k => XS.iloadN X0.here hx rfl (hb hby d_method_2_15) rfl k) ?_
    show own_Go _ _ _ _ (s₁.setTop (mkF m 16 #[.val (.int p1), .val (.int (p1 &&& (7 : Int32)))] [(.int (p1 &&& (7 : Int32)))]))
    by_cases hc139 : (p1 &&& (7 : Int32)) = (0 : Int32)
    ·
      refine own_Go.st (fun _ k => XS.ifNo X0.here hx rfl (hb hby d_method_2_16) rfl ((if0 _ _).trans (teq hc139).2) k) ?_
      show own_Go _ _ _ _ (s₁.setTop (mkF m 19 #[.val (.int p1), .val (.int (p1 &&& (7 : Int32)))] []))
      refine own_Go.st (fun _ k => XS.bipush X0.here hx rfl (hb hby d_method_2_19) k) ?_
      show own_Go _ _ _ _ (s₁.setTop (mkF m 21 #[.val (.int p1), .val (.int (p1 &&& (7 : Int32)))] [(.int (120 : Int32))]))
      obtain ⟨fs140, hr140, hrun140, hend140, hW140, hsm140⟩ := X0.leave (v := some (.int (nar .char (120 : Int32)))) (fun h => by rw [Bd.returns] at h; cases h)
      subst hPP
      refine ⟨_, _, retN X0 hx (t := .char) Bd.returns (by simp) (hb hby d_method_2_21) hr140, hrun140, hend140, _, _, rfl, ?_, ⟨_, rfl⟩, hW140, hsm140.mono (by decide) (by decide)⟩
      · show Q_ch Z p1 h0 _ s₁.heap _
        rw [e0]
        exact ⟨_, rfl, N0, rfl, (by decide)⟩
    ·
      refine own_Go.st (fun _ k => XS.ifYes X0.here hx rfl (pc0 := 16) (pc' := 22) rfl (hb hby d_method_2_16) rfl ((if0 _ _).trans (feq hc139).2) (by decide) (by decide) k) ?_
      show own_Go _ _ _ _ (s₁.setTop (mkF m 22 #[.val (.int p1), .val (.int (p1 &&& (7 : Int32)))] []))
      refine own_Go.st (fun _ k => XS.iloadN X0.here hx rfl (hb hby d_method_2_22) rfl k) ?_
      show own_Go _ _ _ _ (s₁.setTop (mkF m 23 #[.val (.int p1), .val (.int (p1 &&& (7 : Int32)))] [(.int (p1 &&& (7 : Int32)))]))
      refine own_Go.st (fun _ k => XS.iconst X0.here hx rfl (hb hby d_method_2_23) k) ?_
      show own_Go _ _ _ _ (s₁.setTop (mkF m 24 #[.val (.int p1), .val (.int (p1 &&& (7 : Int32)))] [(.int (1 : Int32)), (.int (p1 &&& (7 : Int32)))]))
      by_cases hc141 : (p1 &&& (7 : Int32)) = (1 : Int32)
      ·
        refine own_Go.st (fun _ k => XS.icmpNo X0.here hx rfl (hb hby d_method_2_24) rfl (teq hc141).2 k) ?_
        show own_Go _ _ _ _ (s₁.setTop (mkF m 27 #[.val (.int p1), .val (.int (p1 &&& (7 : Int32)))] []))
        refine own_Go.st (fun _ k => XS.bipush X0.here hx rfl (hb hby d_method_2_27) k) ?_
        show own_Go _ _ _ _ (s₁.setTop (mkF m 29 #[.val (.int p1), .val (.int (p1 &&& (7 : Int32)))] [(.int (45 : Int32))]))
        obtain ⟨fs142, hr142, hrun142, hend142, hW142, hsm142⟩ := X0.leave (v := some (.int (nar .char (45 : Int32)))) (fun h => by rw [Bd.returns] at h; cases h)
        subst hPP
        refine ⟨_, _, retN X0 hx (t := .char) Bd.returns (by simp) (hb hby d_method_2_29) hr142, hrun142, hend142, _, _, rfl, ?_, ⟨_, rfl⟩, hW142, hsm142.mono (by decide) (by decide)⟩
        · show Q_ch Z p1 h0 _ s₁.heap _
          rw [e0]
          exact ⟨_, rfl, N0, rfl, (by decide)⟩
      ·
        refine own_Go.st (fun _ k => XS.icmpYes X0.here hx rfl (pc0 := 24) (pc' := 30) rfl (hb hby d_method_2_24) rfl (feq hc141).2 (by decide) (by decide) k) ?_
        show own_Go _ _ _ _ (s₁.setTop (mkF m 30 #[.val (.int p1), .val (.int (p1 &&& (7 : Int32)))] []))
        refine own_Go.st (fun _ k => XS.iloadN X0.here hx rfl (hb hby d_method_2_30) rfl k) ?_
        show own_Go _ _ _ _ (s₁.setTop (mkF m 31 #[.val (.int p1), .val (.int (p1 &&& (7 : Int32)))] [(.int (p1 &&& (7 : Int32)))]))
        refine own_Go.st (fun _ k => XS.iconst X0.here hx rfl (hb hby d_method_2_31) k) ?_
        show own_Go _ _ _ _ (s₁.setTop (mkF m 32 #[.val (.int p1), .val (.int (p1 &&& (7 : Int32)))] [(.int (2 : Int32)), (.int (p1 &&& (7 : Int32)))]))
        by_cases hc143 : (p1 &&& (7 : Int32)) = (2 : Int32)
        ·
          refine own_Go.st (fun _ k => XS.icmpNo X0.here hx rfl (hb hby d_method_2_32) rfl (teq hc143).2 k) ?_
          show own_Go _ _ _ _ (s₁.setTop (mkF m 35 #[.val (.int p1), .val (.int (p1 &&& (7 : Int32)))] []))
          refine own_Go.st (fun _ k => XS.bipush X0.here hx rfl (hb hby d_method_2_35) k) ?_
          show own_Go _ _ _ _ (s₁.setTop (mkF m 37 #[.val (.int p1), .val (.int (p1 &&& (7 : Int32)))] [(.int (103 : Int32))]))
          obtain ⟨fs144, hr144, hrun144, hend144, hW144, hsm144⟩ := X0.leave (v := some (.int (nar .char (103 : Int32)))) (fun h => by rw [Bd.returns] at h; cases h)
          subst hPP
          refine ⟨_, _, retN X0 hx (t := .char) Bd.returns (by simp) (hb hby d_method_2_37) hr144, hrun144, hend144, _, _, rfl, ?_, ⟨_, rfl⟩, hW144, hsm144.mono (by decide) (by decide)⟩
          · show Q_ch Z p1 h0 _ s₁.heap _
            rw [e0]
            exact ⟨_, rfl, N0, rfl, (by decide)⟩
        ·
          refine own_Go.st (fun _ k => XS.icmpYes X0.here hx rfl (pc0 := 32) (pc' := 38) rfl (hb hby d_method_2_32) rfl (feq hc143).2 (by decide) (by decide) k) ?_
          show own_Go _ _ _ _ (s₁.setTop (mkF m 38 #[.val (.int p1), .val (.int (p1 &&& (7 : Int32)))] []))
          refine own_Go.st (fun _ k => XS.iloadN X0.here hx rfl (hb hby d_method_2_38) rfl k) ?_
          show own_Go _ _ _ _ (s₁.setTop (mkF m 39 #[.val (.int p1), .val (.int (p1 &&& (7 : Int32)))] [(.int (p1 &&& (7 : Int32)))]))
          refine own_Go.st (fun _ k => XS.iconst X0.here hx rfl (hb hby d_method_2_39) k) ?_
          show own_Go _ _ _ _ (s₁.setTop (mkF m 40 #[.val (.int p1), .val (.int (p1 &&& (7 : Int32)))] [(.int (3 : Int32)), (.int (p1 &&& (7 : Int32)))]))
          by_cases hc145 : (p1 &&& (7 : Int32)) = (3 : Int32)
          ·
            refine own_Go.st (fun _ k => XS.icmpNo X0.here hx rfl (hb hby d_method_2_40) rfl (teq hc145).2 k) ?_
            show own_Go _ _ _ _ (s₁.setTop (mkF m 43 #[.val (.int p1), .val (.int (p1 &&& (7 : Int32)))] []))
            refine own_Go.st (fun _ k => XS.bipush X0.here hx rfl (hb hby d_method_2_43) k) ?_
            show own_Go _ _ _ _ (s₁.setTop (mkF m 45 #[.val (.int p1), .val (.int (p1 &&& (7 : Int32)))] [(.int (122 : Int32))]))
            obtain ⟨fs146, hr146, hrun146, hend146, hW146, hsm146⟩ := X0.leave (v := some (.int (nar .char (122 : Int32)))) (fun h => by rw [Bd.returns] at h; cases h)
            subst hPP
            refine ⟨_, _, retN X0 hx (t := .char) Bd.returns (by simp) (hb hby d_method_2_45) hr146, hrun146, hend146, _, _, rfl, ?_, ⟨_, rfl⟩, hW146, hsm146.mono (by decide) (by decide)⟩
            · show Q_ch Z p1 h0 _ s₁.heap _
              rw [e0]
              exact ⟨_, rfl, N0, rfl, (by decide)⟩
          ·
            refine own_Go.st (fun _ k => XS.icmpYes X0.here hx rfl (pc0 := 40) (pc' := 46) rfl (hb hby d_method_2_40) rfl (feq hc145).2 (by decide) (by decide) k) ?_
            show own_Go _ _ _ _ (s₁.setTop (mkF m 46 #[.val (.int p1), .val (.int (p1 &&& (7 : Int32)))] []))
            refine own_Go.st (fun _ k => XS.iloadN X0.here hx rfl (hb hby d_method_2_46) rfl k) ?_
            show own_Go _ _ _ _ (s₁.setTop (mkF m 47 #[.val (.int p1), .val (.int (p1 &&& (7 : Int32)))] [(.int (p1 &&& (7 : Int32)))]))
            refine own_Go.st (fun _ k => XS.iconst X0.here hx rfl (hb hby d_method_2_47) k) ?_
            show own_Go _ _ _ _ (s₁.setTop (mkF m 48 #[.val (.int p1), .val (.int (p1 &&& (7 : Int32)))] [(.int (4 : Int32)), (.int (p1 &&& (7 : Int32)))]))
            by_cases hc147 : (p1 &&& (7 : Int32)) = (4 : Int32)
            ·
              refine own_Go.st (fun _ k => XS.icmpNo X0.here hx rfl (hb hby d_method_2_48) rfl (teq hc147).2 k) ?_
              show own_Go _ _ _ _ (s₁.setTop (mkF m 51 #[.val (.int p1), .val (.int (p1 &&& (7 : Int32)))] []))
              refine own_Go.st (fun _ k => XS.bipush X0.here hx rfl (hb hby d_method_2_51) k) ?_
              show own_Go _ _ _ _ (s₁.setTop (mkF m 53 #[.val (.int p1), .val (.int (p1 &&& (7 : Int32)))] [(.int (105 : Int32))]))
              obtain ⟨fs148, hr148, hrun148, hend148, hW148, hsm148⟩ := X0.leave (v := some (.int (nar .char (105 : Int32)))) (fun h => by rw [Bd.returns] at h; cases h)
              subst hPP
              refine ⟨_, _, retN X0 hx (t := .char) Bd.returns (by simp) (hb hby d_method_2_53) hr148, hrun148, hend148, _, _, rfl, ?_, ⟨_, rfl⟩, hW148, hsm148.mono (by decide) (by decide)⟩
              · show Q_ch Z p1 h0 _ s₁.heap _
                rw [e0]
                exact ⟨_, rfl, N0, rfl, (by decide)⟩
            ·
              refine own_Go.st (fun _ k => XS.icmpYes X0.here hx rfl (pc0 := 48) (pc' := 54) rfl (hb hby d_method_2_48) rfl (feq hc147).2 (by decide) (by decide) k) ?_
              show own_Go _ _ _ _ (s₁.setTop (mkF m 54 #[.val (.int p1), .val (.int (p1 &&& (7 : Int32)))] []))
              refine own_Go.st (fun _ k => XS.iloadN X0.here hx rfl (hb hby d_method_2_54) rfl k) ?_
              show own_Go _ _ _ _ (s₁.setTop (mkF m 55 #[.val (.int p1), .val (.int (p1 &&& (7 : Int32)))] [(.int (p1 &&& (7 : Int32)))]))
              refine own_Go.st (fun _ k => XS.iconst X0.here hx rfl (hb hby d_method_2_55) k) ?_
              show own_Go _ _ _ _ (s₁.setTop (mkF m 56 #[.val (.int p1), .val (.int (p1 &&& (7 : Int32)))] [(.int (5 : Int32)), (.int (p1 &&& (7 : Int32)))]))
              by_cases hc149 : (p1 &&& (7 : Int32)) = (5 : Int32)
              ·
                refine own_Go.st (fun _ k => XS.icmpNo X0.here hx rfl (hb hby d_method_2_56) rfl (teq hc149).2 k) ?_
                show own_Go _ _ _ _ (s₁.setTop (mkF m 59 #[.val (.int p1), .val (.int (p1 &&& (7 : Int32)))] []))
                refine own_Go.st (fun _ k => XS.bipush X0.here hx rfl (hb hby d_method_2_59) k) ?_
                show own_Go _ _ _ _ (s₁.setTop (mkF m 61 #[.val (.int p1), .val (.int (p1 &&& (7 : Int32)))] [(.int (112 : Int32))]))
                obtain ⟨fs150, hr150, hrun150, hend150, hW150, hsm150⟩ := X0.leave (v := some (.int (nar .char (112 : Int32)))) (fun h => by rw [Bd.returns] at h; cases h)
                subst hPP
                refine ⟨_, _, retN X0 hx (t := .char) Bd.returns (by simp) (hb hby d_method_2_61) hr150, hrun150, hend150, _, _, rfl, ?_, ⟨_, rfl⟩, hW150, hsm150.mono (by decide) (by decide)⟩
                · show Q_ch Z p1 h0 _ s₁.heap _
                  rw [e0]
                  exact ⟨_, rfl, N0, rfl, (by decide)⟩
              ·
                refine own_Go.st (fun _ k => XS.icmpYes X0.here hx rfl (pc0 := 56) (pc' := 62) rfl (hb hby d_method_2_56) rfl (feq hc149).2 (by decide) (by decide) k) ?_
                show own_Go _ _ _ _ (s₁.setTop (mkF m 62 #[.val (.int p1), .val (.int (p1 &&& (7 : Int32)))] []))
                refine own_Go.st (fun _ k => XS.iloadN X0.here hx rfl (hb hby d_method_2_62) rfl k) ?_
                show own_Go _ _ _ _ (s₁.setTop (mkF m 63 #[.val (.int p1), .val (.int (p1 &&& (7 : Int32)))] [(.int (p1 &&& (7 : Int32)))]))
                refine own_Go.st (fun _ k => XS.bipush X0.here hx rfl (hb hby d_method_2_63) k) ?_
                show own_Go _ _ _ _ (s₁.setTop (mkF m 65 #[.val (.int p1), .val (.int (p1 &&& (7 : Int32)))] [(.int (6 : Int32)), (.int (p1 &&& (7 : Int32)))]))
                by_cases hc151 : (p1 &&& (7 : Int32)) = (6 : Int32)
                ·
                  refine own_Go.st (fun _ k => XS.icmpNo X0.here hx rfl (hb hby d_method_2_65) rfl (teq hc151).2 k) ?_
                  show own_Go _ _ _ _ (s₁.setTop (mkF m 68 #[.val (.int p1), .val (.int (p1 &&& (7 : Int32)))] []))
                  refine own_Go.st (fun _ k => XS.bipush X0.here hx rfl (hb hby d_method_2_68) k) ?_
                  show own_Go _ _ _ _ (s₁.setTop (mkF m 70 #[.val (.int p1), .val (.int (p1 &&& (7 : Int32)))] [(.int (71 : Int32))]))
                  obtain ⟨fs152, hr152, hrun152, hend152, hW152, hsm152⟩ := X0.leave (v := some (.int (nar .char (71 : Int32)))) (fun h => by rw [Bd.returns] at h; cases h)
                  subst hPP
                  refine ⟨_, _, retN X0 hx (t := .char) Bd.returns (by simp) (hb hby d_method_2_70) hr152, hrun152, hend152, _, _, rfl, ?_, ⟨_, rfl⟩, hW152, hsm152.mono (by decide) (by decide)⟩
                  · show Q_ch Z p1 h0 _ s₁.heap _
                    rw [e0]
                    exact ⟨_, rfl, N0, rfl, (by decide)⟩
                ·
                  refine own_Go.st (fun _ k => XS.icmpYes X0.here hx rfl (pc0 := 65) (pc' := 71) rfl (hb hby d_method_2_65) rfl (feq hc151).2 (by decide) (by decide) k) ?_
                  show own_Go _ _ _ _ (s₁.setTop (mkF m 71 #[.val (.int p1), .val (.int (p1 &&& (7 : Int32)))] []))
                  refine own_Go.st (fun _ k => XS.iconst X0.here hx rfl (hb hby d_method_2_71) k) ?_
                  show own_Go _ _ _ _ (s₁.setTop (mkF m 72 #[.val (.int p1), .val (.int (p1 &&& (7 : Int32)))] [(.int (0 : Int32))]))
                  obtain ⟨fs153, hr153, hrun153, hend153, hW153, hsm153⟩ := X0.leave (v := some (.int (nar .char (0 : Int32)))) (fun h => by rw [Bd.returns] at h; cases h)
                  subst hPP
                  refine ⟨_, _, retN X0 hx (t := .char) Bd.returns (by simp) (hb hby d_method_2_72) hr153, hrun153, hend153, _, _, rfl, ?_, ⟨_, rfl⟩, hW153, hsm153.mono (by decide) (by decide)⟩
                  · show Q_ch Z p1 h0 _ s₁.heap _
                    rw [e0]
                    exact ⟨_, rfl, N0, rfl, (by decide)⟩
theorem ef_73 (m : MethodId) (x0 : Int32) (x1 : Int32) (x2 : Int32) (x3 : Int32) (x4 : Int32) (x5 : Int32) (x6 : Int32) (x7 : Int32) : entryFrame m #[(.int x0), (.int x1), (.int x2), (.int x3), (.int x4), (.int x5), (.int x6), (.int x7)] 8 = mkF m 0 #[.val (.int x0), .val (.int x1), .val (.int x2), .val (.int x3), .val (.int x4), .val (.int x5), .val (.int x6), .val (.int x7)] [] := by first | (simp [entryFrame, mkF, argsToLocals, Value.category]; done) | rfl
theorem d_method_3_0 : decode method_3_code 0 = .ok (.iload_n 0, 1) := by decide +kernel
theorem d_method_3_1 : decode method_3_code 1 = .ok (.ifCond .ne 14, 3) := by decide +kernel
theorem d_method_3_4 : decode method_3_code 4 = .ok (.new 7, 3) := by decide +kernel
theorem d_method_3_7 : decode method_3_code 7 = .ok (.dup, 1) := by decide +kernel
theorem d_method_3_8 : decode method_3_code 8 = .ok (.iconst 0, 1) := by decide +kernel
theorem d_method_3_9 : decode method_3_code 9 = .ok (.newarray .char, 2) := by decide +kernel
theorem pd_80 : parseMethodDescriptor "([C)V" = some ⟨[(.array .char)], none⟩ := by decide +kernel
theorem d_method_3_11 : decode method_3_code 11 = .ok (.invokespecial 9, 3) := by decide +kernel
theorem d_method_3_14 : decode method_3_code 14 = .ok (.areturn, 1) := by decide +kernel
theorem d_method_3_15 : decode method_3_code 15 = .ok (.iload_n 0, 1) := by decide +kernel
theorem d_method_3_16 : decode method_3_code 16 = .ok (.iconst 1, 1) := by decide +kernel
theorem d_method_3_17 : decode method_3_code 17 = .ok (.if_icmp .ne 18, 3) := by decide +kernel
theorem d_method_3_20 : decode method_3_code 20 = .ok (.new 7, 3) := by decide +kernel
theorem d_method_3_23 : decode method_3_code 23 = .ok (.dup, 1) := by decide +kernel
theorem d_method_3_24 : decode method_3_code 24 = .ok (.iconst 1, 1) := by decide +kernel
theorem d_method_3_25 : decode method_3_code 25 = .ok (.newarray .char, 2) := by decide +kernel
theorem d_method_3_27 : decode method_3_code 27 = .ok (.dup, 1) := by decide +kernel
theorem d_method_3_28 : decode method_3_code 28 = .ok (.iconst 0, 1) := by decide +kernel
theorem d_method_3_29 : decode method_3_code 29 = .ok (.iload_n 1, 1) := by decide +kernel
theorem d_method_3_30 : decode method_3_code 30 = .ok (.castore, 1) := by decide +kernel
theorem d_method_3_31 : decode method_3_code 31 = .ok (.invokespecial 9, 3) := by decide +kernel
theorem d_method_3_34 : decode method_3_code 34 = .ok (.areturn, 1) := by decide +kernel
theorem d_method_3_35 : decode method_3_code 35 = .ok (.iload_n 0, 1) := by decide +kernel
theorem d_method_3_36 : decode method_3_code 36 = .ok (.iconst 2, 1) := by decide +kernel
theorem d_method_3_37 : decode method_3_code 37 = .ok (.if_icmp .ne 22, 3) := by decide +kernel
theorem d_method_3_40 : decode method_3_code 40 = .ok (.new 7, 3) := by decide +kernel
theorem d_method_3_43 : decode method_3_code 43 = .ok (.dup, 1) := by decide +kernel
theorem d_method_3_44 : decode method_3_code 44 = .ok (.iconst 2, 1) := by decide +kernel
theorem d_method_3_45 : decode method_3_code 45 = .ok (.newarray .char, 2) := by decide +kernel
theorem d_method_3_47 : decode method_3_code 47 = .ok (.dup, 1) := by decide +kernel
theorem d_method_3_48 : decode method_3_code 48 = .ok (.iconst 0, 1) := by decide +kernel
theorem d_method_3_49 : decode method_3_code 49 = .ok (.iload_n 1, 1) := by decide +kernel
theorem d_method_3_50 : decode method_3_code 50 = .ok (.castore, 1) := by decide +kernel
theorem d_method_3_51 : decode method_3_code 51 = .ok (.dup, 1) := by decide +kernel
theorem d_method_3_52 : decode method_3_code 52 = .ok (.iconst 1, 1) := by decide +kernel
theorem d_method_3_53 : decode method_3_code 53 = .ok (.iload_n 2, 1) := by decide +kernel
theorem d_method_3_54 : decode method_3_code 54 = .ok (.castore, 1) := by decide +kernel
theorem d_method_3_55 : decode method_3_code 55 = .ok (.invokespecial 9, 3) := by decide +kernel
theorem d_method_3_58 : decode method_3_code 58 = .ok (.areturn, 1) := by decide +kernel
theorem d_method_3_59 : decode method_3_code 59 = .ok (.iload_n 0, 1) := by decide +kernel
theorem d_method_3_60 : decode method_3_code 60 = .ok (.iconst 3, 1) := by decide +kernel
theorem d_method_3_61 : decode method_3_code 61 = .ok (.if_icmp .ne 26, 3) := by decide +kernel
theorem d_method_3_64 : decode method_3_code 64 = .ok (.new 7, 3) := by decide +kernel
theorem d_method_3_67 : decode method_3_code 67 = .ok (.dup, 1) := by decide +kernel
theorem d_method_3_68 : decode method_3_code 68 = .ok (.iconst 3, 1) := by decide +kernel
theorem d_method_3_69 : decode method_3_code 69 = .ok (.newarray .char, 2) := by decide +kernel
theorem d_method_3_71 : decode method_3_code 71 = .ok (.dup, 1) := by decide +kernel
theorem d_method_3_72 : decode method_3_code 72 = .ok (.iconst 0, 1) := by decide +kernel
theorem d_method_3_73 : decode method_3_code 73 = .ok (.iload_n 1, 1) := by decide +kernel
theorem d_method_3_74 : decode method_3_code 74 = .ok (.castore, 1) := by decide +kernel
theorem d_method_3_75 : decode method_3_code 75 = .ok (.dup, 1) := by decide +kernel
theorem d_method_3_76 : decode method_3_code 76 = .ok (.iconst 1, 1) := by decide +kernel
theorem d_method_3_77 : decode method_3_code 77 = .ok (.iload_n 2, 1) := by decide +kernel
theorem d_method_3_78 : decode method_3_code 78 = .ok (.castore, 1) := by decide +kernel
theorem d_method_3_79 : decode method_3_code 79 = .ok (.dup, 1) := by decide +kernel
theorem d_method_3_80 : decode method_3_code 80 = .ok (.iconst 2, 1) := by decide +kernel
theorem d_method_3_81 : decode method_3_code 81 = .ok (.iload_n 3, 1) := by decide +kernel
theorem d_method_3_82 : decode method_3_code 82 = .ok (.castore, 1) := by decide +kernel
theorem d_method_3_83 : decode method_3_code 83 = .ok (.invokespecial 9, 3) := by decide +kernel
theorem d_method_3_86 : decode method_3_code 86 = .ok (.areturn, 1) := by decide +kernel
theorem d_method_3_87 : decode method_3_code 87 = .ok (.iload_n 0, 1) := by decide +kernel
theorem d_method_3_88 : decode method_3_code 88 = .ok (.iconst 4, 1) := by decide +kernel
theorem d_method_3_89 : decode method_3_code 89 = .ok (.if_icmp .ne 31, 3) := by decide +kernel
theorem d_method_3_92 : decode method_3_code 92 = .ok (.new 7, 3) := by decide +kernel
theorem d_method_3_95 : decode method_3_code 95 = .ok (.dup, 1) := by decide +kernel
theorem d_method_3_96 : decode method_3_code 96 = .ok (.iconst 4, 1) := by decide +kernel
theorem d_method_3_97 : decode method_3_code 97 = .ok (.newarray .char, 2) := by decide +kernel
theorem d_method_3_99 : decode method_3_code 99 = .ok (.dup, 1) := by decide +kernel
theorem d_method_3_100 : decode method_3_code 100 = .ok (.iconst 0, 1) := by decide +kernel
theorem d_method_3_101 : decode method_3_code 101 = .ok (.iload_n 1, 1) := by decide +kernel
theorem d_method_3_102 : decode method_3_code 102 = .ok (.castore, 1) := by decide +kernel
theorem d_method_3_103 : decode method_3_code 103 = .ok (.dup, 1) := by decide +kernel
theorem d_method_3_104 : decode method_3_code 104 = .ok (.iconst 1, 1) := by decide +kernel
theorem d_method_3_105 : decode method_3_code 105 = .ok (.iload_n 2, 1) := by decide +kernel
theorem d_method_3_106 : decode method_3_code 106 = .ok (.castore, 1) := by decide +kernel
theorem d_method_3_107 : decode method_3_code 107 = .ok (.dup, 1) := by decide +kernel
theorem d_method_3_108 : decode method_3_code 108 = .ok (.iconst 2, 1) := by decide +kernel
theorem d_method_3_109 : decode method_3_code 109 = .ok (.iload_n 3, 1) := by decide +kernel
theorem d_method_3_110 : decode method_3_code 110 = .ok (.castore, 1) := by decide +kernel
theorem d_method_3_111 : decode method_3_code 111 = .ok (.dup, 1) := by decide +kernel
theorem d_method_3_112 : decode method_3_code 112 = .ok (.iconst 3, 1) := by decide +kernel
theorem d_method_3_113 : decode method_3_code 113 = .ok (.iload 4, 2) := by decide +kernel
theorem d_method_3_115 : decode method_3_code 115 = .ok (.castore, 1) := by decide +kernel
theorem d_method_3_116 : decode method_3_code 116 = .ok (.invokespecial 9, 3) := by decide +kernel
theorem d_method_3_119 : decode method_3_code 119 = .ok (.areturn, 1) := by decide +kernel
theorem d_method_3_120 : decode method_3_code 120 = .ok (.iload_n 0, 1) := by decide +kernel
theorem d_method_3_121 : decode method_3_code 121 = .ok (.iconst 5, 1) := by decide +kernel
theorem d_method_3_122 : decode method_3_code 122 = .ok (.if_icmp .ne 36, 3) := by decide +kernel
theorem d_method_3_125 : decode method_3_code 125 = .ok (.new 7, 3) := by decide +kernel
theorem d_method_3_128 : decode method_3_code 128 = .ok (.dup, 1) := by decide +kernel
theorem d_method_3_129 : decode method_3_code 129 = .ok (.iconst 5, 1) := by decide +kernel
theorem d_method_3_130 : decode method_3_code 130 = .ok (.newarray .char, 2) := by decide +kernel
theorem d_method_3_132 : decode method_3_code 132 = .ok (.dup, 1) := by decide +kernel
theorem d_method_3_133 : decode method_3_code 133 = .ok (.iconst 0, 1) := by decide +kernel
theorem d_method_3_134 : decode method_3_code 134 = .ok (.iload_n 1, 1) := by decide +kernel
theorem d_method_3_135 : decode method_3_code 135 = .ok (.castore, 1) := by decide +kernel
theorem d_method_3_136 : decode method_3_code 136 = .ok (.dup, 1) := by decide +kernel
theorem d_method_3_137 : decode method_3_code 137 = .ok (.iconst 1, 1) := by decide +kernel
theorem d_method_3_138 : decode method_3_code 138 = .ok (.iload_n 2, 1) := by decide +kernel
theorem d_method_3_139 : decode method_3_code 139 = .ok (.castore, 1) := by decide +kernel
theorem d_method_3_140 : decode method_3_code 140 = .ok (.dup, 1) := by decide +kernel
theorem d_method_3_141 : decode method_3_code 141 = .ok (.iconst 2, 1) := by decide +kernel
theorem d_method_3_142 : decode method_3_code 142 = .ok (.iload_n 3, 1) := by decide +kernel
theorem d_method_3_143 : decode method_3_code 143 = .ok (.castore, 1) := by decide +kernel
theorem d_method_3_144 : decode method_3_code 144 = .ok (.dup, 1) := by decide +kernel
theorem d_method_3_145 : decode method_3_code 145 = .ok (.iconst 3, 1) := by decide +kernel
theorem d_method_3_146 : decode method_3_code 146 = .ok (.iload 4, 2) := by decide +kernel
theorem d_method_3_148 : decode method_3_code 148 = .ok (.castore, 1) := by decide +kernel
theorem d_method_3_149 : decode method_3_code 149 = .ok (.dup, 1) := by decide +kernel
theorem d_method_3_150 : decode method_3_code 150 = .ok (.iconst 4, 1) := by decide +kernel
theorem d_method_3_151 : decode method_3_code 151 = .ok (.iload 5, 2) := by decide +kernel
theorem d_method_3_153 : decode method_3_code 153 = .ok (.castore, 1) := by decide +kernel
theorem d_method_3_154 : decode method_3_code 154 = .ok (.invokespecial 9, 3) := by decide +kernel
theorem d_method_3_157 : decode method_3_code 157 = .ok (.areturn, 1) := by decide +kernel
theorem d_method_3_158 : decode method_3_code 158 = .ok (.iload_n 0, 1) := by decide +kernel
theorem d_method_3_159 : decode method_3_code 159 = .ok (.bipush 6, 2) := by decide +kernel
theorem d_method_3_161 : decode method_3_code 161 = .ok (.if_icmp .ne 42, 3) := by decide +kernel
theorem d_method_3_164 : decode method_3_code 164 = .ok (.new 7, 3) := by decide +kernel
theorem d_method_3_167 : decode method_3_code 167 = .ok (.dup, 1) := by decide +kernel
theorem d_method_3_168 : decode method_3_code 168 = .ok (.bipush 6, 2) := by decide +kernel
theorem d_method_3_170 : decode method_3_code 170 = .ok (.newarray .char, 2) := by decide +kernel
theorem d_method_3_172 : decode method_3_code 172 = .ok (.dup, 1) := by decide +kernel
theorem d_method_3_173 : decode method_3_code 173 = .ok (.iconst 0, 1) := by decide +kernel
theorem d_method_3_174 : decode method_3_code 174 = .ok (.iload_n 1, 1) := by decide +kernel
theorem d_method_3_175 : decode method_3_code 175 = .ok (.castore, 1) := by decide +kernel
theorem d_method_3_176 : decode method_3_code 176 = .ok (.dup, 1) := by decide +kernel
theorem d_method_3_177 : decode method_3_code 177 = .ok (.iconst 1, 1) := by decide +kernel
theorem d_method_3_178 : decode method_3_code 178 = .ok (.iload_n 2, 1) := by decide +kernel
theorem d_method_3_179 : decode method_3_code 179 = .ok (.castore, 1) := by decide +kernel
theorem d_method_3_180 : decode method_3_code 180 = .ok (.dup, 1) := by decide +kernel
theorem d_method_3_181 : decode method_3_code 181 = .ok (.iconst 2, 1) := by decide +kernel
theorem d_method_3_182 : decode method_3_code 182 = .ok (.iload_n 3, 1) := by decide +kernel
theorem d_method_3_183 : decode method_3_code 183 = .ok (.castore, 1) := by decide +kernel
theorem d_method_3_184 : decode method_3_code 184 = .ok (.dup, 1) := by decide +kernel
theorem d_method_3_185 : decode method_3_code 185 = .ok (.iconst 3, 1) := by decide +kernel
theorem d_method_3_186 : decode method_3_code 186 = .ok (.iload 4, 2) := by decide +kernel
theorem d_method_3_188 : decode method_3_code 188 = .ok (.castore, 1) := by decide +kernel
theorem d_method_3_189 : decode method_3_code 189 = .ok (.dup, 1) := by decide +kernel
theorem d_method_3_190 : decode method_3_code 190 = .ok (.iconst 4, 1) := by decide +kernel
theorem d_method_3_191 : decode method_3_code 191 = .ok (.iload 5, 2) := by decide +kernel
theorem d_method_3_193 : decode method_3_code 193 = .ok (.castore, 1) := by decide +kernel
theorem d_method_3_194 : decode method_3_code 194 = .ok (.dup, 1) := by decide +kernel
theorem d_method_3_195 : decode method_3_code 195 = .ok (.iconst 5, 1) := by decide +kernel
theorem d_method_3_196 : decode method_3_code 196 = .ok (.iload 6, 2) := by decide +kernel
theorem d_method_3_198 : decode method_3_code 198 = .ok (.castore, 1) := by decide +kernel
theorem d_method_3_199 : decode method_3_code 199 = .ok (.invokespecial 9, 3) := by decide +kernel
theorem d_method_3_202 : decode method_3_code 202 = .ok (.areturn, 1) := by decide +kernel
theorem d_method_3_203 : decode method_3_code 203 = .ok (.new 7, 3) := by decide +kernel
theorem d_method_3_206 : decode method_3_code 206 = .ok (.dup, 1) := by decide +kernel
theorem d_method_3_207 : decode method_3_code 207 = .ok (.bipush 7, 2) := by decide +kernel
theorem d_method_3_209 : decode method_3_code 209 = .ok (.newarray .char, 2) := by decide +kernel
theorem d_method_3_211 : decode method_3_code 211 = .ok (.dup, 1) := by decide +kernel
theorem d_method_3_212 : decode method_3_code 212 = .ok (.iconst 0, 1) := by decide +kernel
theorem d_method_3_213 : decode method_3_code 213 = .ok (.iload_n 1, 1) := by decide +kernel
theorem d_method_3_214 : decode method_3_code 214 = .ok (.castore, 1) := by decide +kernel
theorem d_method_3_215 : decode method_3_code 215 = .ok (.dup, 1) := by decide +kernel
theorem d_method_3_216 : decode method_3_code 216 = .ok (.iconst 1, 1) := by decide +kernel
theorem d_method_3_217 : decode method_3_code 217 = .ok (.iload_n 2, 1) := by decide +kernel
theorem d_method_3_218 : decode method_3_code 218 = .ok (.castore, 1) := by decide +kernel
theorem d_method_3_219 : decode method_3_code 219 = .ok (.dup, 1) := by decide +kernel
theorem d_method_3_220 : decode method_3_code 220 = .ok (.iconst 2, 1) := by decide +kernel
theorem d_method_3_221 : decode method_3_code 221 = .ok (.iload_n 3, 1) := by decide +kernel
theorem d_method_3_222 : decode method_3_code 222 = .ok (.castore, 1) := by decide +kernel
theorem d_method_3_223 : decode method_3_code 223 = .ok (.dup, 1) := by decide +kernel
theorem d_method_3_224 : decode method_3_code 224 = .ok (.iconst 3, 1) := by decide +kernel
theorem d_method_3_225 : decode method_3_code 225 = .ok (.iload 4, 2) := by decide +kernel
theorem d_method_3_227 : decode method_3_code 227 = .ok (.castore, 1) := by decide +kernel
theorem d_method_3_228 : decode method_3_code 228 = .ok (.dup, 1) := by decide +kernel
theorem d_method_3_229 : decode method_3_code 229 = .ok (.iconst 4, 1) := by decide +kernel
theorem d_method_3_230 : decode method_3_code 230 = .ok (.iload 5, 2) := by decide +kernel
theorem d_method_3_232 : decode method_3_code 232 = .ok (.castore, 1) := by decide +kernel
theorem d_method_3_233 : decode method_3_code 233 = .ok (.dup, 1) := by decide +kernel
theorem d_method_3_234 : decode method_3_code 234 = .ok (.iconst 5, 1) := by decide +kernel
theorem d_method_3_235 : decode method_3_code 235 = .ok (.iload 6, 2) := by decide +kernel
theorem d_method_3_237 : decode method_3_code 237 = .ok (.castore, 1) := by decide +kernel
theorem d_method_3_238 : decode method_3_code 238 = .ok (.dup, 1) := by decide +kernel
theorem d_method_3_239 : decode method_3_code 239 = .ok (.bipush 6, 2) := by decide +kernel
theorem d_method_3_241 : decode method_3_code 241 = .ok (.iload 7, 2) := by decide +kernel
theorem d_method_3_243 : decode method_3_code 243 = .ok (.castore, 1) := by decide +kernel
theorem d_method_3_244 : decode method_3_code 244 = .ok (.invokespecial 9, 3) := by decide +kernel
theorem d_method_3_247 : decode method_3_code 247 = .ok (.areturn, 1) := by decide +kernel
def Q_make (Z : State) (p1 : Int32) (p2 : Int32) (p3 : Int32) (p4 : Int32) (p5 : Int32) (p6 : Int32) (p7 : Int32) (p8 : Int32) (zc : Int32) (h0 : Heap) (v : Option Value) (h : Heap) (L : List Loc) : Prop := ∃ (x : Nat), ∃ (t : Nat), ∃ (cs : List Int32), v = some (.ref x) ∧ Fr Z.heap.size L ∧ Keep h0 h [] ∧ own_Str Z h x t cs ∧ (cs = own_mk p1 p2 p3 p4 p5 p6 p7 p8)
set_option maxRecDepth 65536 in
set_option maxHeartbeats 40000000 in
theorem rm_make (l : Launch) (Z : State) (a0 : Array Value) (hw : ∀ d ∈ tables_1, d.before a0 Z = true) (ws : List Jvm.Cond) (p1 : Int32) (p2 : Int32) (p3 : Int32) (p4 : Int32) (p5 : Int32) (p6 : Int32) (p7 : Int32) (p8 : Int32) (zc : Int32) (h0 : Heap) (hEL : EW Z a0 consts_1) (OL : Old Z Z.heap.size h0) (st_COMPACT_STRINGS : Sta Z Z.heap "java/lang/String" "COMPACT_STRINGS" "Z" (.int zc)) (hzc : ¬ zc = 0) (hp2 : ¬ p2 < 0 ∧ ¬ (255 : Int32) < p2) (hp3 : ¬ p3 < 0 ∧ ¬ (255 : Int32) < p3) (hp4 : ¬ p4 < 0 ∧ ¬ (255 : Int32) < p4) (hp5 : ¬ p5 < 0 ∧ ¬ (255 : Int32) < p5) (hp6 : ¬ p6 < 0 ∧ ¬ (255 : Int32) < p6) (hp7 : ¬ p7 < 0 ∧ ¬ (255 : Int32) < p7) (hp8 : ¬ p8 < 0 ∧ ¬ (255 : Int32) < p8) :
    MetFree l (⟨"com/example/net30/net30/http/GzipNamesPinLaw", "make", "(ICCCCCCC)Ljava/lang/String;"⟩ : MethodName) (head1 (Jvm.Cond.code (⟨"com/example/net30/net30/http/GzipNamesPinLaw", "make", "(ICCCCCCC)Ljava/lang/String;"⟩ : MethodName) method_3_code 8 (some (.object "java/lang/String")) :: ws) ({ frames := 4, cells := 6, slots := 18, locals := 66 } : Room)) (fun a U => a = #[(.int p1), (.int p2), (.int p3), (.int p4), (.int p5), (.int p6), (.int p7), (.int p8)] ∧ Z.Warmed39 U.vm ∧ U.heap = h0 ∧ CHv Z consts_1 U.vm h0) (fun _ _ _ _ _ => True) (fun _ U o U' => ∃ v L, o = .returned v ∧ Q_make Z p1 p2 p3 p4 p5 p6 p7 p8 zc h0 v U'.heap L ∧ CHr Z consts_1 U.vm U.heap U'.vm U'.heap ∧ ReturnedEndW U o U' L ({ frames := 4, cells := 6, slots := 18, locals := 66 } : Room).cells ({ frames := 4, cells := 6, slots := 18, locals := 66 } : Room).slots) := by
  refine MetFree.of_bodySF (plainFor_of_name pn_25) hisR ?_
  intro p e s m args below meth c s₁ Bd hml0 hP hK
  obtain ⟨rfl, hZ, hh, hC0⟩ := hP
  have hx := Bd.exec
  have hby := Bd.bytes
  have hml : c.maxLocals = 8 := hml0
  have hown : s.vm.findClass "com/example/net30/net30/http/GzipNamesPinLaw" = some m.cls := findClass_of_methodNamed Bd.named
  have hnm := (name_of_methodNamed Bd.named Bd.method).1
  have X0 : Stand p l e ({ frames := 4, cells := 6, slots := 18, locals := 66 } : Room) (s.setVm s.vm) m #[(.int p1), (.int p2), (.int p3), (.int p4), (.int p5), (.int p6), (.int p7), (.int p8)] below meth c s₁ [] 0 0 := Stand.of_body Bd
  have e0 : s₁.heap = h0 := by rw [← hh, Bd.state]; rfl
  have N0 := Fr.nil Z.heap.size
  have Z0 : Z.heap.size ≤ h0.size := OL.2.1
  have hS0 : s.Since s.vm h0.size := (State.WarmedH.refl s).since _
  have wS := own_wS hw
  have R0 : CHr Z consts_1 s.vm h0 s.vm h0 := CHr.refl hC0
  obtain ⟨PP, hPP⟩ : ∃ PP : Outcome → State → Prop, PP = (fun o tE => ∃ v L, o = .returned v ∧ Q_make Z p1 p2 p3 p4 p5 p6 p7 p8 zc h0 v tE.heap L ∧ CHr Z consts_1 s.vm s.heap tE.vm tE.heap ∧ ReturnedEndW s o tE L ({ frames := 4, cells := 6, slots := 18, locals := 66 } : Room).cells ({ frames := 4, cells := 6, slots := 18, locals := 66 } : Room).slots) := ⟨_, rfl⟩
  show own_Go p.tables e below (fun o tE => ∃ v L, o = .returned v ∧ Q_make Z p1 p2 p3 p4 p5 p6 p7 p8 zc h0 v tE.heap L ∧ CHr Z consts_1 s.vm s.heap tE.vm tE.heap ∧ ReturnedEndW s o tE L ({ frames := 4, cells := 6, slots := 18, locals := 66 } : Room).cells ({ frames := 4, cells := 6, slots := 18, locals := 66 } : Room).slots) (s₁.setTop (entryFrame m #[(.int p1), (.int p2), (.int p3), (.int p4), (.int p5), (.int p6), (.int p7), (.int p8)] 8))
  rw [← hPP]
  refine own_Go.st (fun t k => castTop (ef_73 m p1 p2 p3 p4 p5 p6 p7 p8) k) ?_
  show own_Go _ _ _ _ (s₁.setTop (mkF m 0 #[.val (.int p1), .val (.int p2), .val (.int p3), .val (.int p4), .val (.int p5), .val (.int p6), .val (.int p7), .val (.int p8)] []))
  refine own_Go.st (fun _ k => XS.iloadN X0.here hx rfl (hb hby d_method_3_0) rfl k) ?_
  show own_Go _ _ _ _ (s₁.setTop (mkF m 1 #[.val (.int p1), .val (.int p2), .val (.int p3), .val (.int p4), .val (.int p5), .val (.int p6), .val (.int p7), .val (.int p8)] [(.int p1)]))
  by_cases hc154 : p1 = (0 : Int32)
  ·
    refine own_Go.st (fun _ k => XS.ifNo X0.here hx rfl (hb hby d_method_3_1) rfl ((if0 _ _).trans (teq hc154).2) k) ?_
    show own_Go _ _ _ _ (s₁.setTop (mkF m 4 #[.val (.int p1), .val (.int p2), .val (.int p3), .val (.int p4), .val (.int p5), .val (.int p6), .val (.int p7), .val (.int p8)] []))
    obtain ⟨T155, h155, X155, e155, E155, A155, D155, U155, st155⟩ := newO X0 hx hZ hown (hw _ (List.mem_of_getElem? (i := 8) rfl)) (hw _ (List.mem_of_getElem? (i := 9) rfl)) (hw _ (List.mem_of_getElem? (i := 10) rfl)) e0 (g := (mkF m 4 #[.val (.int p1), .val (.int p2), .val (.int p3), .val (.int p4), .val (.int p5), .val (.int p6), .val (.int p7), .val (.int p8)] [])) rfl (hb hby d_method_3_4) (by decide) (by decide)
    obtain ⟨b155, g155⟩ : ∃ z, z = h0.size := ⟨_, rfl⟩
    rw [← g155] at A155 D155 U155 st155
    refine own_Go.st st155 ?_
    have z155 : h0.size ≤ h155.size := E155.1
    have lt_b155 : @LT.lt Nat _ b155 h155.size := A155.lt
    have f156 : Fld Z h155 b155 "java/lang/String" "value" "[B" .null := D155 (Or.inr (hw _ (List.mem_of_getElem? (i := 24) rfl))) (ty := (.array .byte)) (by decide)
    have f157 : Fld Z h155 b155 "java/lang/String" "coder" "B" (.int (0 : Int32)) := D155 (Or.inr (hw _ (List.mem_of_getElem? (i := 25) rfl))) (ty := .byte) (by decide)
    have R155 : CHr Z consts_1 s.vm h0 s.vm h155 := R0.trans (CHr.ext E155 R0.1)
    have Sf155 : Safe Z consts_1 s.vm h155 b155 := (Safe.new (Nat.le_of_eq g155.symm)).ext E155 R0.1
    show own_Go _ _ _ _ (T155.setTop (mkF m 7 #[.val (.int p1), .val (.int p2), .val (.int p3), .val (.int p4), .val (.int p5), .val (.int p6), .val (.int p7), .val (.int p8)] [(.ref b155)]))
    refine own_Go.st (fun _ k => XS.dup X155.here hx rfl (hb hby d_method_3_7) rfl rfl k) ?_
    show own_Go _ _ _ _ (T155.setTop (mkF m 8 #[.val (.int p1), .val (.int p2), .val (.int p3), .val (.int p4), .val (.int p5), .val (.int p6), .val (.int p7), .val (.int p8)] [(.ref b155), (.ref b155)]))
    refine own_Go.st (fun _ k => XS.iconst X155.here hx rfl (hb hby d_method_3_8) k) ?_
    show own_Go _ _ _ _ (T155.setTop (mkF m 9 #[.val (.int p1), .val (.int p2), .val (.int p3), .val (.int p4), .val (.int p5), .val (.int p6), .val (.int p7), .val (.int p8)] [(.int (0 : Int32)), (.ref b155), (.ref b155)]))
    obtain ⟨T158, h158, k158, X158, e158, E158, A158, st158⟩ := newP X155 hx hZ (hw _ (List.mem_of_getElem? (i := 11) rfl)) e155 (g := (mkF m 9 #[.val (.int p1), .val (.int p2), .val (.int p3), .val (.int p4), .val (.int p5), .val (.int p6), .val (.int p7), .val (.int p8)] [(.int (0 : Int32)), (.ref b155), (.ref b155)])) rfl (hb hby d_method_3_9) rfl (by decide) (cap := 0) (by decide) (by decide) (by decide) (by decide)
    obtain ⟨b158, g158⟩ : ∃ z, z = h155.size := ⟨_, rfl⟩
    rw [← g158] at A158 st158
    refine own_Go.st st158 ?_
    have z158 : h155.size ≤ h158.size := E158.1
    have f159 : Arv Z h158 b158 k158 .char (0 : Int32) [] (.int (0 : Int32)) := (Arv.new A158 (by decide)).pad (pad_rep [] (.int (0 : Int32)) 0)
    have lt_b158 : @LT.lt Nat _ b158 h158.size := f159.lt
    have R158 : CHr Z consts_1 s.vm h0 s.vm h158 := R155.trans (CHr.ext E158 R155.1)
    have Sf160 : Safe Z consts_1 s.vm h158 b155 := Safe.ext E158 R155.1 Sf155
    show own_Go _ _ _ _ (T158.setTop (mkF m 11 #[.val (.int p1), .val (.int p2), .val (.int p3), .val (.int p4), .val (.int p5), .val (.int p6), .val (.int p7), .val (.int p8)] [(.ref b158), (.ref b155), (.ref b155)]))
    have f162 : Exa Z h158 b155 "java/lang/String" := A155.ext E158
    have f163 : Fld Z h158 b155 "java/lang/String" "value" "[B" .null := f156.ext E158
    have f164 : Fld Z h158 b155 "java/lang/String" "coder" "B" (.int (0 : Int32)) := f157.ext E158
    have f165 : Old Z Z.heap.size h155 := OL.ext E155
    have f166 : Old Z Z.heap.size h158 := f165.ext E158
    obtain ⟨_, _, ⟨T161, L161, k161, n161⟩, -, X161, hs161, hg161, ⟨Lc161, hQ161, l161, y161, z161, ch161⟩, st161⟩ := X158.specialBackS hx (y := (⟨"java/lang/String", "<init>", "([C)V"⟩ : MethodName)) rfl hown (mvT hZ (hw _ (List.mem_of_getElem? (i := 12) rfl))) (mvT hZ (hw _ (List.mem_of_getElem? (i := 13) rfl))) (mvT hZ (hw _ (List.mem_of_getElem? (i := 14) rfl))) (by decide) (backOfSH (s := s) (vm0 := s.vm) (W := 1) (rm_init1e l Z a0 hw [] b155 b158 k158 [] (.int (0 : Int32)) h158 hEL f166 f162 f163 f164 f159 (by omega)) hZ (hw _ (List.mem_of_getElem? (i := 14) rfl)) (hw _ (List.mem_of_getElem? (i := 10) rfl)) (by decide) (by decide) hEL R158.1) (g := (mkF m 11 #[.val (.int p1), .val (.int p2), .val (.int p3), .val (.int p4), .val (.int p5), .val (.int p6), .val (.int p7), .val (.int p8)] [(.ref b158), (.ref b155), (.ref b155)])) rfl (by rw [hml]; rfl) (Steps.refl _) (a := b155) (argsL := [(.ref b158)]) (rest := [(.ref b155)]) (lenOf pd_80 rfl) rfl (by show 2 * 0 + _ ≤ _; exact Nat.le_of_eq rfl) (hb hby d_method_3_11) (fun _ _ => ⟨rfl, e158, (by decide : 2 + 4 ≤ _), (by decide : 4 + 8 ≤ _)⟩)
    dsimp only [Pt.U, Pt.locs, Pt.cells, Pt.slots] at X161 l161 y161 z161 st161 hQ161 hs161 hg161 ch161
    subst l161 y161 z161
    obtain ⟨t_161, rfl, N161q, K161, f161_0⟩ := hQ161
    have N161 := Fr.app N0 N161q
    obtain ⟨Y161, hS161, hZ161, hown161⟩ := rebS hS0 (n1 := h158.size) (by omega) X161 hs161 (by have := hg161; first | exact this | (rw [← e158]; exact this)) hZ hown
    have z161 : h158.size ≤ T161.heap.size := K161.1
    have R161 : CHr Z consts_1 s.vm h0 T161.vm T161.heap := R158.trans ch161
    have Sf167 : Safe Z consts_1 T161.vm T161.heap b155 := ch161.safe (by show @LT.lt Nat _ b155 _; omega) Sf160
    have lt161_0 : @LT.lt Nat _ b155 T161.heap.size := f161_0.lt
    have ltv161_0 : @LT.lt Nat _ t_161 T161.heap.size := f161_0.ltv
    refine own_Go.tr st161 ?_
    show own_Go _ _ _ _ (T161.setTop (mkF m 14 #[.val (.int p1), .val (.int p2), .val (.int p3), .val (.int p4), .val (.int p5), .val (.int p6), .val (.int p7), .val (.int p8)] [(.ref b155)]))
    obtain ⟨fs168, hr168, hrun168, hend168, hret168⟩ := Y161.leaveW hS161 (by omega) (v := some (.ref b155)) (fun h => by rw [Bd.returns] at h; cases h)
    have K169 : Keep h0 h155 [] := (Keep.refl h0 []).ext E155
    have K170 : Keep h0 h158 [] := K169.ext E158
    have K171 : Keep h0 T161.heap [] := K170.trans K161 (allS (Or.inr (by omega)) all0)
    subst hPP
    refine ⟨_, _, own_retA Y161 hx Bd.returns rfl rfl (hb hby d_method_3_14) hr168, hrun168, hend168, _, _, rfl, ?_, ?_, hret168.1, hret168.2.1, hret168.2.2.1, hret168.2.2.2.mono (by decide) (by decide)⟩
    · show Q_make Z p1 p2 p3 p4 p5 p6 p7 p8 zc h0 _ T161.heap _
      exact ⟨b155, t_161, [], rfl, N161, K171, f161_0, (by unfold own_mk; rw [if_pos hc154])⟩
    · have hfin := R161.trans (CHv.at Y161 hZ161 hEL R161.1)
      rw [← hh] at hfin
      show CHr Z consts_1 s.vm s.heap T161.vm T161.heap
      exact hfin
  ·
    refine own_Go.st (fun _ k => XS.ifYes X0.here hx rfl (pc0 := 1) (pc' := 15) rfl (hb hby d_method_3_1) rfl ((if0 _ _).trans (feq hc154).2) (by decide) (by decide) k) ?_
    show own_Go _ _ _ _ (s₁.setTop (mkF m 15 #[.val (.int p1), .val (.int p2), .val (.int p3), .val (.int p4), .val (.int p5), .val (.int p6), .val (.int p7), .val (.int p8)] []))
    refine own_Go.st (fun _ k => XS.iloadN X0.here hx rfl (hb hby d_method_3_15) rfl k) ?_
    show own_Go _ _ _ _ (s₁.setTop (mkF m 16 #[.val (.int p1), .val (.int p2), .val (.int p3), .val (.int p4), .val (.int p5), .val (.int p6), .val (.int p7), .val (.int p8)] [(.int p1)]))
    refine own_Go.st (fun _ k => XS.iconst X0.here hx rfl (hb hby d_method_3_16) k) ?_
    show own_Go _ _ _ _ (s₁.setTop (mkF m 17 #[.val (.int p1), .val (.int p2), .val (.int p3), .val (.int p4), .val (.int p5), .val (.int p6), .val (.int p7), .val (.int p8)] [(.int (1 : Int32)), (.int p1)]))
    by_cases hc172 : p1 = (1 : Int32)
    ·
      refine own_Go.st (fun _ k => XS.icmpNo X0.here hx rfl (hb hby d_method_3_17) rfl (teq hc172).2 k) ?_
      show own_Go _ _ _ _ (s₁.setTop (mkF m 20 #[.val (.int p1), .val (.int p2), .val (.int p3), .val (.int p4), .val (.int p5), .val (.int p6), .val (.int p7), .val (.int p8)] []))
      obtain ⟨T173, h173, X173, e173, E173, A173, D173, U173, st173⟩ := newO X0 hx hZ hown (hw _ (List.mem_of_getElem? (i := 8) rfl)) (hw _ (List.mem_of_getElem? (i := 9) rfl)) (hw _ (List.mem_of_getElem? (i := 10) rfl)) e0 (g := (mkF m 20 #[.val (.int p1), .val (.int p2), .val (.int p3), .val (.int p4), .val (.int p5), .val (.int p6), .val (.int p7), .val (.int p8)] [])) rfl (hb hby d_method_3_20) (by decide) (by decide)
      obtain ⟨b173, g173⟩ : ∃ z, z = h0.size := ⟨_, rfl⟩
      rw [← g173] at A173 D173 U173 st173
      refine own_Go.st st173 ?_
      have z173 : h0.size ≤ h173.size := E173.1
      have lt_b173 : @LT.lt Nat _ b173 h173.size := A173.lt
      have f174 : Fld Z h173 b173 "java/lang/String" "value" "[B" .null := D173 (Or.inr (hw _ (List.mem_of_getElem? (i := 24) rfl))) (ty := (.array .byte)) (by decide)
      have f175 : Fld Z h173 b173 "java/lang/String" "coder" "B" (.int (0 : Int32)) := D173 (Or.inr (hw _ (List.mem_of_getElem? (i := 25) rfl))) (ty := .byte) (by decide)
      have R173 : CHr Z consts_1 s.vm h0 s.vm h173 := R0.trans (CHr.ext E173 R0.1)
      have Sf173 : Safe Z consts_1 s.vm h173 b173 := (Safe.new (Nat.le_of_eq g173.symm)).ext E173 R0.1
      show own_Go _ _ _ _ (T173.setTop (mkF m 23 #[.val (.int p1), .val (.int p2), .val (.int p3), .val (.int p4), .val (.int p5), .val (.int p6), .val (.int p7), .val (.int p8)] [(.ref b173)]))
      refine own_Go.st (fun _ k => XS.dup X173.here hx rfl (hb hby d_method_3_23) rfl rfl k) ?_
      show own_Go _ _ _ _ (T173.setTop (mkF m 24 #[.val (.int p1), .val (.int p2), .val (.int p3), .val (.int p4), .val (.int p5), .val (.int p6), .val (.int p7), .val (.int p8)] [(.ref b173), (.ref b173)]))
      refine own_Go.st (fun _ k => XS.iconst X173.here hx rfl (hb hby d_method_3_24) k) ?_
      show own_Go _ _ _ _ (T173.setTop (mkF m 25 #[.val (.int p1), .val (.int p2), .val (.int p3), .val (.int p4), .val (.int p5), .val (.int p6), .val (.int p7), .val (.int p8)] [(.int (1 : Int32)), (.ref b173), (.ref b173)]))
      obtain ⟨T176, h176, k176, X176, e176, E176, A176, st176⟩ := newP X173 hx hZ (hw _ (List.mem_of_getElem? (i := 11) rfl)) e173 (g := (mkF m 25 #[.val (.int p1), .val (.int p2), .val (.int p3), .val (.int p4), .val (.int p5), .val (.int p6), .val (.int p7), .val (.int p8)] [(.int (1 : Int32)), (.ref b173), (.ref b173)])) rfl (hb hby d_method_3_25) rfl (by decide) (cap := 1) (by decide) (by decide) (by decide) (by decide)
      obtain ⟨b176, g176⟩ : ∃ z, z = h173.size := ⟨_, rfl⟩
      rw [← g176] at A176 st176
      refine own_Go.st st176 ?_
      have z176 : h173.size ≤ h176.size := E176.1
      have f177 : Arv Z h176 b176 k176 .char (1 : Int32) [(.int (0 : Int32))] (.int (0 : Int32)) := (Arv.new A176 (by decide)).pad (pad_rep [] (.int (0 : Int32)) 1)
      have lt_b176 : @LT.lt Nat _ b176 h176.size := f177.lt
      have R176 : CHr Z consts_1 s.vm h0 s.vm h176 := R173.trans (CHr.ext E176 R173.1)
      have Sf178 : Safe Z consts_1 s.vm h176 b173 := Safe.ext E176 R173.1 Sf173
      show own_Go _ _ _ _ (T176.setTop (mkF m 27 #[.val (.int p1), .val (.int p2), .val (.int p3), .val (.int p4), .val (.int p5), .val (.int p6), .val (.int p7), .val (.int p8)] [(.ref b176), (.ref b173), (.ref b173)]))
      refine own_Go.st (fun _ k => XS.dup X176.here hx rfl (hb hby d_method_3_27) rfl rfl k) ?_
      show own_Go _ _ _ _ (T176.setTop (mkF m 28 #[.val (.int p1), .val (.int p2), .val (.int p3), .val (.int p4), .val (.int p5), .val (.int p6), .val (.int p7), .val (.int p8)] [(.ref b176), (.ref b176), (.ref b173), (.ref b173)]))
      refine own_Go.st (fun _ k => XS.iconst X176.here hx rfl (hb hby d_method_3_28) k) ?_
      show own_Go _ _ _ _ (T176.setTop (mkF m 29 #[.val (.int p1), .val (.int p2), .val (.int p3), .val (.int p4), .val (.int p5), .val (.int p6), .val (.int p7), .val (.int p8)] [(.int (0 : Int32)), (.ref b176), (.ref b176), (.ref b173), (.ref b173)]))
      refine own_Go.st (fun _ k => XS.iloadN X176.here hx rfl (hb hby d_method_3_29) rfl k) ?_
      show own_Go _ _ _ _ (T176.setTop (mkF m 30 #[.val (.int p1), .val (.int p2), .val (.int p3), .val (.int p4), .val (.int p5), .val (.int p6), .val (.int p7), .val (.int p8)] [(.int p2), (.int (0 : Int32)), (.ref b176), (.ref b176), (.ref b173), (.ref b173)]))
      obtain ⟨c179, Ar179, q179, S179, Nn179, H179, G179⟩ := id f177
      have hin179 : ¬ ((0 : Int32) < 0 ∨ c179.slots.size ≤ ((0 : Int32)).toNatClampNeg) := inb_of S179 ⟨by decide, by decide⟩
      obtain ⟨T179, h179, X179, e179, W179, st179⟩ := stC X176 hx hZ e176 Ar179 (j := (0 : Int32)) hin179 (g := (mkF m 30 #[.val (.int p1), .val (.int p2), .val (.int p3), .val (.int p4), .val (.int p5), .val (.int p6), .val (.int p7), .val (.int p8)] [(.int p2), (.int (0 : Int32)), (.ref b176), (.ref b176), (.ref b173), (.ref b173)])) rfl rfl (hb hby d_method_3_30)
      refine own_Go.st st179 ?_
      have N179 := Fr.snoc X179 N0 (by omega)
      have Sf181 : Safe Z consts_1 s.vm h176 b176 := Safe.arv hZ.alike f177 (by decide)
      have z179 : h176.size ≤ h179.size := Nat.le_of_eq W179.size.symm
      have f180 := Arv.set Ar179 q179 S179 Nn179 H179 G179 (fits_nar_char _) W179 0 rfl (Nat.le_of_ble_eq_true rfl)
      rw [own_nar (own_up hp2)] at f180
      have f182 : Arv Z h179 b176 k176 .char (1 : Int32) [(.int p2)] (.int (0 : Int32)) := f180
      have R179 : CHr Z consts_1 s.vm h0 s.vm h179 := R176.trans (CHr.wr W179 Sf181 R176.1)
      have Sf183 : Safe Z consts_1 s.vm h179 b173 := Safe.wr W179 Sf181 R176.1 Sf178
      show own_Go _ _ _ _ (T179.setTop (mkF m 31 #[.val (.int p1), .val (.int p2), .val (.int p3), .val (.int p4), .val (.int p5), .val (.int p6), .val (.int p7), .val (.int p8)] [(.ref b176), (.ref b173), (.ref b173)]))
      have f185 : Exa Z h176 b173 "java/lang/String" := A173.ext E176
      have f186 : Exa Z h179 b173 "java/lang/String" := f185.wr W179
      have f187 : Fld Z h176 b173 "java/lang/String" "value" "[B" .null := f174.ext E176
      have f188 : Fld Z h179 b173 "java/lang/String" "value" "[B" .null := f187.other W179 (Or.inl (by show @Ne Nat b173 b176; omega))
      have f189 : Fld Z h176 b173 "java/lang/String" "coder" "B" (.int (0 : Int32)) := f175.ext E176
      have f190 : Fld Z h179 b173 "java/lang/String" "coder" "B" (.int (0 : Int32)) := f189.other W179 (Or.inl (by show @Ne Nat b173 b176; omega))
      have f191 : Old Z Z.heap.size h173 := OL.ext E173
      have f192 : Old Z Z.heap.size h176 := f191.ext E176
      have f193 : Old Z Z.heap.size h179 := f192.wr W179 (by omega)
      have hp184 : ∀ c ∈ ([p2] : List Int32), ¬ c < 0 ∧ ¬ (255 : Int32) < c := (own_aS hp2 own_a0)
      obtain ⟨_, _, ⟨T184, L184, k184, n184⟩, -, X184, ⟨Lc184, hQ184, l184, y184, z184⟩, st184⟩ := X179.specialBack hx (y := (⟨"java/lang/String", "<init>", "([C)V"⟩ : MethodName)) rfl hown (mvT hZ (hw _ (List.mem_of_getElem? (i := 12) rfl))) (mvT hZ (hw _ (List.mem_of_getElem? (i := 13) rfl))) (mvT hZ (hw _ (List.mem_of_getElem? (i := 14) rfl))) (by decide) (StrChars.Road.backV (W := 1) hZ (own_hws hw) (kI := 4) (hw _ (List.mem_of_getElem? (i := 9) rfl)) (cs := ([p2] : List Int32)) (bs := (([p2] : List Int32)).map (fun c => c.toInt8.toInt32)) (n := 1) (n0 := Z.heap.size) (by omega) (by omega) f186 f188 f190 f182 (st_COMPACT_STRINGS.ext f193.2) hzc rfl rfl (by decide) (by decide) hp184 rfl (by decide) (by decide)) (g := (mkF m 31 #[.val (.int p1), .val (.int p2), .val (.int p3), .val (.int p4), .val (.int p5), .val (.int p6), .val (.int p7), .val (.int p8)] [(.ref b176), (.ref b173), (.ref b173)])) rfl (by rw [hml]; rfl) (Steps.refl _) (a := b173) (argsL := [(.ref b176)]) (rest := [(.ref b173)]) (lenOf pd_80 rfl) rfl (by show 2 * 0 + _ ≤ _; exact Nat.le_of_eq rfl) (hb hby d_method_3_31) (fun _ _ => ⟨rfl, e179, (by decide : 2 + 1 ≤ _), (by decide : 5 + 1 ≤ _)⟩)
      dsimp only [Pt.U, Pt.locs, Pt.cells, Pt.slots] at X184 l184 y184 z184 st184 hQ184
      subst l184 y184 z184
      obtain ⟨rfl, N184q, K184, Ex184, Cd184, t184, kb184, u184, v184, w184, Vl184, Ar184⟩ := hQ184
      have N184 := Fr.app N179 N184q
      have z184 : h179.size ≤ T184.heap.size := K184.1
      have R184 : CHr Z consts_1 s.vm h0 s.vm T184.heap := R179.trans (CHr.keep K184 (sfS Sf183 sf0) R179.1)
      have Sf194 : Safe Z consts_1 s.vm T184.heap b173 := Safe.keep K184 (sfS Sf183 sf0) R179.1 Sf183
      have fT184 : own_Str Z T184.heap b173 t184 ([p2] : List Int32) := ⟨kb184, 0, (1 : Int32), _, Ex184, Vl184, Cd184, Ar184, StrChars.Road.codOf rfl (fun c q => (hp184 c q).2), own_upL hp184, (Nat.le_of_ble_eq_true rfl)⟩
      have lt184 : @LT.lt Nat _ t184 T184.heap.size := fT184.ltv
      refine own_Go.tr st184 ?_
      show own_Go _ _ _ _ (T184.setTop (mkF m 34 #[.val (.int p1), .val (.int p2), .val (.int p3), .val (.int p4), .val (.int p5), .val (.int p6), .val (.int p7), .val (.int p8)] [(.ref b173)]))
      obtain ⟨fs195, hr195, hrun195, hend195, hret195⟩ := X184.leaveW hS0 (by omega) (v := some (.ref b173)) (fun h => by rw [Bd.returns] at h; cases h)
      have K196 : Keep h0 h173 [] := (Keep.refl h0 []).ext E173
      have K197 : Keep h0 h176 [] := K196.ext E176
      have K198 : Keep h0 h179 [] := K197.wr W179 (Or.inr (by omega))
      have K199 : Keep h0 T184.heap [] := K198.trans K184 (allS (Or.inr (by omega)) all0)
      subst hPP
      refine ⟨_, _, own_retA X184 hx Bd.returns rfl rfl (hb hby d_method_3_34) hr195, hrun195, hend195, _, _, rfl, ?_, ?_, hret195.1, hret195.2.1, hret195.2.2.1, hret195.2.2.2.mono (by decide) (by decide)⟩
      · show Q_make Z p1 p2 p3 p4 p5 p6 p7 p8 zc h0 _ T184.heap _
        exact ⟨b173, t184, ([p2] : List Int32), rfl, N184, K199, fT184, (by unfold own_mk; rw [if_neg hc154, if_pos hc172])⟩
      · have hfin := R184.trans (CHv.at X184 hZ hEL R184.1)
        rw [← hh] at hfin
        show CHr Z consts_1 s.vm s.heap T184.vm T184.heap
        exact hfin
    ·
      refine own_Go.st (fun _ k => XS.icmpYes X0.here hx rfl (pc0 := 17) (pc' := 35) rfl (hb hby d_method_3_17) rfl (feq hc172).2 (by decide) (by decide) k) ?_
      show own_Go _ _ _ _ (s₁.setTop (mkF m 35 #[.val (.int p1), .val (.int p2), .val (.int p3), .val (.int p4), .val (.int p5), .val (.int p6), .val (.int p7), .val (.int p8)] []))
      refine own_Go.st (fun _ k => XS.iloadN X0.here hx rfl (hb hby d_method_3_35) rfl k) ?_
      show own_Go _ _ _ _ (s₁.setTop (mkF m 36 #[.val (.int p1), .val (.int p2), .val (.int p3), .val (.int p4), .val (.int p5), .val (.int p6), .val (.int p7), .val (.int p8)] [(.int p1)]))
      refine own_Go.st (fun _ k => XS.iconst X0.here hx rfl (hb hby d_method_3_36) k) ?_
      show own_Go _ _ _ _ (s₁.setTop (mkF m 37 #[.val (.int p1), .val (.int p2), .val (.int p3), .val (.int p4), .val (.int p5), .val (.int p6), .val (.int p7), .val (.int p8)] [(.int (2 : Int32)), (.int p1)]))
      by_cases hc200 : p1 = (2 : Int32)
      ·
        refine own_Go.st (fun _ k => XS.icmpNo X0.here hx rfl (hb hby d_method_3_37) rfl (teq hc200).2 k) ?_
        show own_Go _ _ _ _ (s₁.setTop (mkF m 40 #[.val (.int p1), .val (.int p2), .val (.int p3), .val (.int p4), .val (.int p5), .val (.int p6), .val (.int p7), .val (.int p8)] []))
        obtain ⟨T201, h201, X201, e201, E201, A201, D201, U201, st201⟩ := newO X0 hx hZ hown (hw _ (List.mem_of_getElem? (i := 8) rfl)) (hw _ (List.mem_of_getElem? (i := 9) rfl)) (hw _ (List.mem_of_getElem? (i := 10) rfl)) e0 (g := (mkF m 40 #[.val (.int p1), .val (.int p2), .val (.int p3), .val (.int p4), .val (.int p5), .val (.int p6), .val (.int p7), .val (.int p8)] [])) rfl (hb hby d_method_3_40) (by decide) (by decide)
        obtain ⟨b201, g201⟩ : ∃ z, z = h0.size := ⟨_, rfl⟩
        rw [← g201] at A201 D201 U201 st201
        refine own_Go.st st201 ?_
        have z201 : h0.size ≤ h201.size := E201.1
        have lt_b201 : @LT.lt Nat _ b201 h201.size := A201.lt
        have f202 : Fld Z h201 b201 "java/lang/String" "value" "[B" .null := D201 (Or.inr (hw _ (List.mem_of_getElem? (i := 24) rfl))) (ty := (.array .byte)) (by decide)
        have f203 : Fld Z h201 b201 "java/lang/String" "coder" "B" (.int (0 : Int32)) := D201 (Or.inr (hw _ (List.mem_of_getElem? (i := 25) rfl))) (ty := .byte) (by decide)
        have R201 : CHr Z consts_1 s.vm h0 s.vm h201 := R0.trans (CHr.ext E201 R0.1)
        have Sf201 : Safe Z consts_1 s.vm h201 b201 := (Safe.new (Nat.le_of_eq g201.symm)).ext E201 R0.1
        show own_Go _ _ _ _ (T201.setTop (mkF m 43 #[.val (.int p1), .val (.int p2), .val (.int p3), .val (.int p4), .val (.int p5), .val (.int p6), .val (.int p7), .val (.int p8)] [(.ref b201)]))
        refine own_Go.st (fun _ k => XS.dup X201.here hx rfl (hb hby d_method_3_43) rfl rfl k) ?_
        show own_Go _ _ _ _ (T201.setTop (mkF m 44 #[.val (.int p1), .val (.int p2), .val (.int p3), .val (.int p4), .val (.int p5), .val (.int p6), .val (.int p7), .val (.int p8)] [(.ref b201), (.ref b201)]))
        refine own_Go.st (fun _ k => XS.iconst X201.here hx rfl (hb hby d_method_3_44) k) ?_
        show own_Go _ _ _ _ (T201.setTop (mkF m 45 #[.val (.int p1), .val (.int p2), .val (.int p3), .val (.int p4), .val (.int p5), .val (.int p6), .val (.int p7), .val (.int p8)] [(.int (2 : Int32)), (.ref b201), (.ref b201)]))
        obtain ⟨T204, h204, k204, X204, e204, E204, A204, st204⟩ := newP X201 hx hZ (hw _ (List.mem_of_getElem? (i := 11) rfl)) e201 (g := (mkF m 45 #[.val (.int p1), .val (.int p2), .val (.int p3), .val (.int p4), .val (.int p5), .val (.int p6), .val (.int p7), .val (.int p8)] [(.int (2 : Int32)), (.ref b201), (.ref b201)])) rfl (hb hby d_method_3_45) rfl (by decide) (cap := 2) (by decide) (by decide) (by decide) (by decide)
        obtain ⟨b204, g204⟩ : ∃ z, z = h201.size := ⟨_, rfl⟩
        rw [← g204] at A204 st204
        refine own_Go.st st204 ?_
        have z204 : h201.size ≤ h204.size := E204.1
        have f205 : Arv Z h204 b204 k204 .char (2 : Int32) [(.int (0 : Int32)), (.int (0 : Int32))] (.int (0 : Int32)) := (Arv.new A204 (by decide)).pad (pad_rep [] (.int (0 : Int32)) 2)
        have lt_b204 : @LT.lt Nat _ b204 h204.size := f205.lt
        have R204 : CHr Z consts_1 s.vm h0 s.vm h204 := R201.trans (CHr.ext E204 R201.1)
        have Sf206 : Safe Z consts_1 s.vm h204 b201 := Safe.ext E204 R201.1 Sf201
        show own_Go _ _ _ _ (T204.setTop (mkF m 47 #[.val (.int p1), .val (.int p2), .val (.int p3), .val (.int p4), .val (.int p5), .val (.int p6), .val (.int p7), .val (.int p8)] [(.ref b204), (.ref b201), (.ref b201)]))
        refine own_Go.st (fun _ k => XS.dup X204.here hx rfl (hb hby d_method_3_47) rfl rfl k) ?_
        show own_Go _ _ _ _ (T204.setTop (mkF m 48 #[.val (.int p1), .val (.int p2), .val (.int p3), .val (.int p4), .val (.int p5), .val (.int p6), .val (.int p7), .val (.int p8)] [(.ref b204), (.ref b204), (.ref b201), (.ref b201)]))
        refine own_Go.st (fun _ k => XS.iconst X204.here hx rfl (hb hby d_method_3_48) k) ?_
        show own_Go _ _ _ _ (T204.setTop (mkF m 49 #[.val (.int p1), .val (.int p2), .val (.int p3), .val (.int p4), .val (.int p5), .val (.int p6), .val (.int p7), .val (.int p8)] [(.int (0 : Int32)), (.ref b204), (.ref b204), (.ref b201), (.ref b201)]))
        refine own_Go.st (fun _ k => XS.iloadN X204.here hx rfl (hb hby d_method_3_49) rfl k) ?_
        show own_Go _ _ _ _ (T204.setTop (mkF m 50 #[.val (.int p1), .val (.int p2), .val (.int p3), .val (.int p4), .val (.int p5), .val (.int p6), .val (.int p7), .val (.int p8)] [(.int p2), (.int (0 : Int32)), (.ref b204), (.ref b204), (.ref b201), (.ref b201)]))
        obtain ⟨c207, Ar207, q207, S207, Nn207, H207, G207⟩ := id f205
        have hin207 : ¬ ((0 : Int32) < 0 ∨ c207.slots.size ≤ ((0 : Int32)).toNatClampNeg) := inb_of S207 ⟨by decide, by decide⟩
        obtain ⟨T207, h207, X207, e207, W207, st207⟩ := stC X204 hx hZ e204 Ar207 (j := (0 : Int32)) hin207 (g := (mkF m 50 #[.val (.int p1), .val (.int p2), .val (.int p3), .val (.int p4), .val (.int p5), .val (.int p6), .val (.int p7), .val (.int p8)] [(.int p2), (.int (0 : Int32)), (.ref b204), (.ref b204), (.ref b201), (.ref b201)])) rfl rfl (hb hby d_method_3_50)
        refine own_Go.st st207 ?_
        have N207 := Fr.snoc X207 N0 (by omega)
        have Sf209 : Safe Z consts_1 s.vm h204 b204 := Safe.arv hZ.alike f205 (by decide)
        have z207 : h204.size ≤ h207.size := Nat.le_of_eq W207.size.symm
        have f208 := Arv.set Ar207 q207 S207 Nn207 H207 G207 (fits_nar_char _) W207 0 rfl (Nat.le_of_ble_eq_true rfl)
        rw [own_nar (own_up hp2)] at f208
        have f210 : Arv Z h207 b204 k204 .char (2 : Int32) [(.int p2), (.int (0 : Int32))] (.int (0 : Int32)) := f208
        have R207 : CHr Z consts_1 s.vm h0 s.vm h207 := R204.trans (CHr.wr W207 Sf209 R204.1)
        have Sf211 : Safe Z consts_1 s.vm h207 b201 := Safe.wr W207 Sf209 R204.1 Sf206
        show own_Go _ _ _ _ (T207.setTop (mkF m 51 #[.val (.int p1), .val (.int p2), .val (.int p3), .val (.int p4), .val (.int p5), .val (.int p6), .val (.int p7), .val (.int p8)] [(.ref b204), (.ref b201), (.ref b201)]))
        refine own_Go.st (fun _ k => XS.dup X207.here hx rfl (hb hby d_method_3_51) rfl rfl k) ?_
        show own_Go _ _ _ _ (T207.setTop (mkF m 52 #[.val (.int p1), .val (.int p2), .val (.int p3), .val (.int p4), .val (.int p5), .val (.int p6), .val (.int p7), .val (.int p8)] [(.ref b204), (.ref b204), (.ref b201), (.ref b201)]))
        refine own_Go.st (fun _ k => XS.iconst X207.here hx rfl (hb hby d_method_3_52) k) ?_
        show own_Go _ _ _ _ (T207.setTop (mkF m 53 #[.val (.int p1), .val (.int p2), .val (.int p3), .val (.int p4), .val (.int p5), .val (.int p6), .val (.int p7), .val (.int p8)] [(.int (1 : Int32)), (.ref b204), (.ref b204), (.ref b201), (.ref b201)]))
        refine own_Go.st (fun _ k => XS.iloadN X207.here hx rfl (hb hby d_method_3_53) rfl k) ?_
        show own_Go _ _ _ _ (T207.setTop (mkF m 54 #[.val (.int p1), .val (.int p2), .val (.int p3), .val (.int p4), .val (.int p5), .val (.int p6), .val (.int p7), .val (.int p8)] [(.int p3), (.int (1 : Int32)), (.ref b204), (.ref b204), (.ref b201), (.ref b201)]))
        obtain ⟨c212, Ar212, q212, S212, Nn212, H212, G212⟩ := id f210
        have hin212 : ¬ ((1 : Int32) < 0 ∨ c212.slots.size ≤ ((1 : Int32)).toNatClampNeg) := inb_of S212 ⟨by decide, by decide⟩
        obtain ⟨T212, h212, X212, e212, W212, st212⟩ := stC X207 hx hZ e207 Ar212 (j := (1 : Int32)) hin212 (g := (mkF m 54 #[.val (.int p1), .val (.int p2), .val (.int p3), .val (.int p4), .val (.int p5), .val (.int p6), .val (.int p7), .val (.int p8)] [(.int p3), (.int (1 : Int32)), (.ref b204), (.ref b204), (.ref b201), (.ref b201)])) rfl rfl (hb hby d_method_3_54)
        refine own_Go.st st212 ?_
        have N212 := Fr.snoc X212 N207 (by omega)
        have Sf214 : Safe Z consts_1 s.vm h207 b204 := Safe.arv hZ.alike f210 (by decide)
        have z212 : h207.size ≤ h212.size := Nat.le_of_eq W212.size.symm
        have f213 := Arv.set Ar212 q212 S212 Nn212 H212 G212 (fits_nar_char _) W212 1 rfl (Nat.le_of_ble_eq_true rfl)
        rw [own_nar (own_up hp3)] at f213
        have f215 : Arv Z h212 b204 k204 .char (2 : Int32) [(.int p2), (.int p3)] (.int (0 : Int32)) := f213
        have R212 : CHr Z consts_1 s.vm h0 s.vm h212 := R207.trans (CHr.wr W212 Sf214 R207.1)
        have Sf216 : Safe Z consts_1 s.vm h212 b201 := Safe.wr W212 Sf214 R207.1 Sf211
        show own_Go _ _ _ _ (T212.setTop (mkF m 55 #[.val (.int p1), .val (.int p2), .val (.int p3), .val (.int p4), .val (.int p5), .val (.int p6), .val (.int p7), .val (.int p8)] [(.ref b204), (.ref b201), (.ref b201)]))
        have f218 : Exa Z h204 b201 "java/lang/String" := A201.ext E204
        have f219 : Exa Z h207 b201 "java/lang/String" := f218.wr W207
        have f220 : Exa Z h212 b201 "java/lang/String" := f219.wr W212
        have f221 : Fld Z h204 b201 "java/lang/String" "value" "[B" .null := f202.ext E204
        have f222 : Fld Z h207 b201 "java/lang/String" "value" "[B" .null := f221.other W207 (Or.inl (by show @Ne Nat b201 b204; omega))
        have f223 : Fld Z h212 b201 "java/lang/String" "value" "[B" .null := f222.other W212 (Or.inl (by show @Ne Nat b201 b204; omega))
        have f224 : Fld Z h204 b201 "java/lang/String" "coder" "B" (.int (0 : Int32)) := f203.ext E204
        have f225 : Fld Z h207 b201 "java/lang/String" "coder" "B" (.int (0 : Int32)) := f224.other W207 (Or.inl (by show @Ne Nat b201 b204; omega))
        have f226 : Fld Z h212 b201 "java/lang/String" "coder" "B" (.int (0 : Int32)) := f225.other W212 (Or.inl (by show @Ne Nat b201 b204; omega))
        have f227 : Old Z Z.heap.size h201 := OL.ext E201
        have f228 : Old Z Z.heap.size h204 := f227.ext E204
        have f229 : Old Z Z.heap.size h207 := f228.wr W207 (by omega)
        have f230 : Old Z Z.heap.size h212 := f229.wr W212 (by omega)
        have hp217 : ∀ c ∈ ([p2, p3] : List Int32), ¬ c < 0 ∧ ¬ (255 : Int32) < c := (own_aS hp2 (own_aS hp3 own_a0))
        obtain ⟨_, _, ⟨T217, L217, k217, n217⟩, -, X217, ⟨Lc217, hQ217, l217, y217, z217⟩, st217⟩ := X212.specialBack hx (y := (⟨"java/lang/String", "<init>", "([C)V"⟩ : MethodName)) rfl hown (mvT hZ (hw _ (List.mem_of_getElem? (i := 12) rfl))) (mvT hZ (hw _ (List.mem_of_getElem? (i := 13) rfl))) (mvT hZ (hw _ (List.mem_of_getElem? (i := 14) rfl))) (by decide) (StrChars.Road.backV (W := 1) hZ (own_hws hw) (kI := 4) (hw _ (List.mem_of_getElem? (i := 9) rfl)) (cs := ([p2, p3] : List Int32)) (bs := (([p2, p3] : List Int32)).map (fun c => c.toInt8.toInt32)) (n := 2) (n0 := Z.heap.size) (by omega) (by omega) f220 f223 f226 f215 (st_COMPACT_STRINGS.ext f230.2) hzc rfl rfl (by decide) (by decide) hp217 rfl (by decide) (by decide)) (g := (mkF m 55 #[.val (.int p1), .val (.int p2), .val (.int p3), .val (.int p4), .val (.int p5), .val (.int p6), .val (.int p7), .val (.int p8)] [(.ref b204), (.ref b201), (.ref b201)])) rfl (by rw [hml]; rfl) (Steps.refl _) (a := b201) (argsL := [(.ref b204)]) (rest := [(.ref b201)]) (lenOf pd_80 rfl) rfl (by show 2 * 0 + _ ≤ _; exact Nat.le_of_eq rfl) (hb hby d_method_3_55) (fun _ _ => ⟨rfl, e212, (by decide : 2 + 1 ≤ _), (by decide : 6 + 2 ≤ _)⟩)
        dsimp only [Pt.U, Pt.locs, Pt.cells, Pt.slots] at X217 l217 y217 z217 st217 hQ217
        subst l217 y217 z217
        obtain ⟨rfl, N217q, K217, Ex217, Cd217, t217, kb217, u217, v217, w217, Vl217, Ar217⟩ := hQ217
        have N217 := Fr.app N212 N217q
        have z217 : h212.size ≤ T217.heap.size := K217.1
        have R217 : CHr Z consts_1 s.vm h0 s.vm T217.heap := R212.trans (CHr.keep K217 (sfS Sf216 sf0) R212.1)
        have Sf231 : Safe Z consts_1 s.vm T217.heap b201 := Safe.keep K217 (sfS Sf216 sf0) R212.1 Sf216
        have fT217 : own_Str Z T217.heap b201 t217 ([p2, p3] : List Int32) := ⟨kb217, 0, (2 : Int32), _, Ex217, Vl217, Cd217, Ar217, StrChars.Road.codOf rfl (fun c q => (hp217 c q).2), own_upL hp217, (Nat.le_of_ble_eq_true rfl)⟩
        have lt217 : @LT.lt Nat _ t217 T217.heap.size := fT217.ltv
        refine own_Go.tr st217 ?_
        show own_Go _ _ _ _ (T217.setTop (mkF m 58 #[.val (.int p1), .val (.int p2), .val (.int p3), .val (.int p4), .val (.int p5), .val (.int p6), .val (.int p7), .val (.int p8)] [(.ref b201)]))
        obtain ⟨fs232, hr232, hrun232, hend232, hret232⟩ := X217.leaveW hS0 (by omega) (v := some (.ref b201)) (fun h => by rw [Bd.returns] at h; cases h)
        have K233 : Keep h0 h201 [] := (Keep.refl h0 []).ext E201
        have K234 : Keep h0 h204 [] := K233.ext E204
        have K235 : Keep h0 h207 [] := K234.wr W207 (Or.inr (by omega))
        have K236 : Keep h0 h212 [] := K235.wr W212 (Or.inr (by omega))
        have K237 : Keep h0 T217.heap [] := K236.trans K217 (allS (Or.inr (by omega)) all0)
        subst hPP
        refine ⟨_, _, own_retA X217 hx Bd.returns rfl rfl (hb hby d_method_3_58) hr232, hrun232, hend232, _, _, rfl, ?_, ?_, hret232.1, hret232.2.1, hret232.2.2.1, hret232.2.2.2.mono (by decide) (by decide)⟩
        · show Q_make Z p1 p2 p3 p4 p5 p6 p7 p8 zc h0 _ T217.heap _
          exact ⟨b201, t217, ([p2, p3] : List Int32), rfl, N217, K237, fT217, (by unfold own_mk; rw [if_neg hc154, if_neg hc172, if_pos hc200])⟩
        · have hfin := R217.trans (CHv.at X217 hZ hEL R217.1)
          rw [← hh] at hfin
          show CHr Z consts_1 s.vm s.heap T217.vm T217.heap
          exact hfin
      ·
        refine own_Go.st (fun _ k => XS.icmpYes X0.here hx rfl (pc0 := 37) (pc' := 59) rfl (hb hby d_method_3_37) rfl (feq hc200).2 (by decide) (by decide) k) ?_
        show own_Go _ _ _ _ (s₁.setTop (mkF m 59 #[.val (.int p1), .val (.int p2), .val (.int p3), .val (.int p4), .val (.int p5), .val (.int p6), .val (.int p7), .val (.int p8)] []))
        refine own_Go.st (fun _ k => XS.iloadN X0.here hx rfl (hb hby d_method_3_59) rfl k) ?_
        show own_Go _ _ _ _ (s₁.setTop (mkF m 60 #[.val (.int p1), .val (.int p2), .val (.int p3), .val (.int p4), .val (.int p5), .val (.int p6), .val (.int p7), .val (.int p8)] [(.int p1)]))
        refine own_Go.st (fun _ k => XS.iconst X0.here hx rfl (hb hby d_method_3_60) k) ?_
        show own_Go _ _ _ _ (s₁.setTop (mkF m 61 #[.val (.int p1), .val (.int p2), .val (.int p3), .val (.int p4), .val (.int p5), .val (.int p6), .val (.int p7), .val (.int p8)] [(.int (3 : Int32)), (.int p1)]))
        by_cases hc238 : p1 = (3 : Int32)
        ·
          refine own_Go.st (fun _ k => XS.icmpNo X0.here hx rfl (hb hby d_method_3_61) rfl (teq hc238).2 k) ?_
          show own_Go _ _ _ _ (s₁.setTop (mkF m 64 #[.val (.int p1), .val (.int p2), .val (.int p3), .val (.int p4), .val (.int p5), .val (.int p6), .val (.int p7), .val (.int p8)] []))
          obtain ⟨T239, h239, X239, e239, E239, A239, D239, U239, st239⟩ := newO X0 hx hZ hown (hw _ (List.mem_of_getElem? (i := 8) rfl)) (hw _ (List.mem_of_getElem? (i := 9) rfl)) (hw _ (List.mem_of_getElem? (i := 10) rfl)) e0 (g := (mkF m 64 #[.val (.int p1), .val (.int p2), .val (.int p3), .val (.int p4), .val (.int p5), .val (.int p6), .val (.int p7), .val (.int p8)] [])) rfl (hb hby d_method_3_64) (by decide) (by decide)
          obtain ⟨b239, g239⟩ : ∃ z, z = h0.size := ⟨_, rfl⟩
          rw [← g239] at A239 D239 U239 st239
          refine own_Go.st st239 ?_
          have z239 : h0.size ≤ h239.size := E239.1
          have lt_b239 : @LT.lt Nat _ b239 h239.size := A239.lt
          have f240 : Fld Z h239 b239 "java/lang/String" "value" "[B" .null := D239 (Or.inr (hw _ (List.mem_of_getElem? (i := 24) rfl))) (ty := (.array .byte)) (by decide)
          have f241 : Fld Z h239 b239 "java/lang/String" "coder" "B" (.int (0 : Int32)) := D239 (Or.inr (hw _ (List.mem_of_getElem? (i := 25) rfl))) (ty := .byte) (by decide)
          have R239 : CHr Z consts_1 s.vm h0 s.vm h239 := R0.trans (CHr.ext E239 R0.1)
          have Sf239 : Safe Z consts_1 s.vm h239 b239 := (Safe.new (Nat.le_of_eq g239.symm)).ext E239 R0.1
          show own_Go _ _ _ _ (T239.setTop (mkF m 67 #[.val (.int p1), .val (.int p2), .val (.int p3), .val (.int p4), .val (.int p5), .val (.int p6), .val (.int p7), .val (.int p8)] [(.ref b239)]))
          refine own_Go.st (fun _ k => XS.dup X239.here hx rfl (hb hby d_method_3_67) rfl rfl k) ?_
          show own_Go _ _ _ _ (T239.setTop (mkF m 68 #[.val (.int p1), .val (.int p2), .val (.int p3), .val (.int p4), .val (.int p5), .val (.int p6), .val (.int p7), .val (.int p8)] [(.ref b239), (.ref b239)]))
          refine own_Go.st (fun _ k => XS.iconst X239.here hx rfl (hb hby d_method_3_68) k) ?_
          show own_Go _ _ _ _ (T239.setTop (mkF m 69 #[.val (.int p1), .val (.int p2), .val (.int p3), .val (.int p4), .val (.int p5), .val (.int p6), .val (.int p7), .val (.int p8)] [(.int (3 : Int32)), (.ref b239), (.ref b239)]))
          obtain ⟨T242, h242, k242, X242, e242, E242, A242, st242⟩ := newP X239 hx hZ (hw _ (List.mem_of_getElem? (i := 11) rfl)) e239 (g := (mkF m 69 #[.val (.int p1), .val (.int p2), .val (.int p3), .val (.int p4), .val (.int p5), .val (.int p6), .val (.int p7), .val (.int p8)] [(.int (3 : Int32)), (.ref b239), (.ref b239)])) rfl (hb hby d_method_3_69) rfl (by decide) (cap := 3) (by decide) (by decide) (by decide) (by decide)
          obtain ⟨b242, g242⟩ : ∃ z, z = h239.size := ⟨_, rfl⟩
          rw [← g242] at A242 st242
          refine own_Go.st st242 ?_
          have z242 : h239.size ≤ h242.size := E242.1
          have f243 : Arv Z h242 b242 k242 .char (3 : Int32) [(.int (0 : Int32)), (.int (0 : Int32)), (.int (0 : Int32))] (.int (0 : Int32)) := (Arv.new A242 (by decide)).pad (pad_rep [] (.int (0 : Int32)) 3)
          have lt_b242 : @LT.lt Nat _ b242 h242.size := f243.lt
          have R242 : CHr Z consts_1 s.vm h0 s.vm h242 := R239.trans (CHr.ext E242 R239.1)
          have Sf244 : Safe Z consts_1 s.vm h242 b239 := Safe.ext E242 R239.1 Sf239
          show own_Go _ _ _ _ (T242.setTop (mkF m 71 #[.val (.int p1), .val (.int p2), .val (.int p3), .val (.int p4), .val (.int p5), .val (.int p6), .val (.int p7), .val (.int p8)] [(.ref b242), (.ref b239), (.ref b239)]))
          refine own_Go.st (fun _ k => XS.dup X242.here hx rfl (hb hby d_method_3_71) rfl rfl k) ?_
          show own_Go _ _ _ _ (T242.setTop (mkF m 72 #[.val (.int p1), .val (.int p2), .val (.int p3), .val (.int p4), .val (.int p5), .val (.int p6), .val (.int p7), .val (.int p8)] [(.ref b242), (.ref b242), (.ref b239), (.ref b239)]))
          refine own_Go.st (fun _ k => XS.iconst X242.here hx rfl (hb hby d_method_3_72) k) ?_
          show own_Go _ _ _ _ (T242.setTop (mkF m 73 #[.val (.int p1), .val (.int p2), .val (.int p3), .val (.int p4), .val (.int p5), .val (.int p6), .val (.int p7), .val (.int p8)] [(.int (0 : Int32)), (.ref b242), (.ref b242), (.ref b239), (.ref b239)]))
          refine own_Go.st (fun _ k => XS.iloadN X242.here hx rfl (hb hby d_method_3_73) rfl k) ?_
          show own_Go _ _ _ _ (T242.setTop (mkF m 74 #[.val (.int p1), .val (.int p2), .val (.int p3), .val (.int p4), .val (.int p5), .val (.int p6), .val (.int p7), .val (.int p8)] [(.int p2), (.int (0 : Int32)), (.ref b242), (.ref b242), (.ref b239), (.ref b239)]))
          obtain ⟨c245, Ar245, q245, S245, Nn245, H245, G245⟩ := id f243
          have hin245 : ¬ ((0 : Int32) < 0 ∨ c245.slots.size ≤ ((0 : Int32)).toNatClampNeg) := inb_of S245 ⟨by decide, by decide⟩
          obtain ⟨T245, h245, X245, e245, W245, st245⟩ := stC X242 hx hZ e242 Ar245 (j := (0 : Int32)) hin245 (g := (mkF m 74 #[.val (.int p1), .val (.int p2), .val (.int p3), .val (.int p4), .val (.int p5), .val (.int p6), .val (.int p7), .val (.int p8)] [(.int p2), (.int (0 : Int32)), (.ref b242), (.ref b242), (.ref b239), (.ref b239)])) rfl rfl (hb hby d_method_3_74)
          refine own_Go.st st245 ?_
          have N245 := Fr.snoc X245 N0 (by omega)
          have Sf247 : Safe Z consts_1 s.vm h242 b242 := Safe.arv hZ.alike f243 (by decide)
          have z245 : h242.size ≤ h245.size := Nat.le_of_eq W245.size.symm
          have f246 := Arv.set Ar245 q245 S245 Nn245 H245 G245 (fits_nar_char _) W245 0 rfl (Nat.le_of_ble_eq_true rfl)
          rw [own_nar (own_up hp2)] at f246
          have f248 : Arv Z h245 b242 k242 .char (3 : Int32) [(.int p2), (.int (0 : Int32)), (.int (0 : Int32))] (.int (0 : Int32)) := f246
          have R245 : CHr Z consts_1 s.vm h0 s.vm h245 := R242.trans (CHr.wr W245 Sf247 R242.1)
          have Sf249 : Safe Z consts_1 s.vm h245 b239 := Safe.wr W245 Sf247 R242.1 Sf244
          show own_Go _ _ _ _ (T245.setTop (mkF m 75 #[.val (.int p1), .val (.int p2), .val (.int p3), .val (.int p4), .val (.int p5), .val (.int p6), .val (.int p7), .val (.int p8)] [(.ref b242), (.ref b239), (.ref b239)]))
          refine own_Go.st (fun _ k => XS.dup X245.here hx rfl (hb hby d_method_3_75) rfl rfl k) ?_
          show own_Go _ _ _ _ (T245.setTop (mkF m 76 #[.val (.int p1), .val (.int p2), .val (.int p3), .val (.int p4), .val (.int p5), .val (.int p6), .val (.int p7), .val (.int p8)] [(.ref b242), (.ref b242), (.ref b239), (.ref b239)]))
          refine own_Go.st (fun _ k => XS.iconst X245.here hx rfl (hb hby d_method_3_76) k) ?_
          show own_Go _ _ _ _ (T245.setTop (mkF m 77 #[.val (.int p1), .val (.int p2), .val (.int p3), .val (.int p4), .val (.int p5), .val (.int p6), .val (.int p7), .val (.int p8)] [(.int (1 : Int32)), (.ref b242), (.ref b242), (.ref b239), (.ref b239)]))
          refine own_Go.st (fun _ k => XS.iloadN X245.here hx rfl (hb hby d_method_3_77) rfl k) ?_
          show own_Go _ _ _ _ (T245.setTop (mkF m 78 #[.val (.int p1), .val (.int p2), .val (.int p3), .val (.int p4), .val (.int p5), .val (.int p6), .val (.int p7), .val (.int p8)] [(.int p3), (.int (1 : Int32)), (.ref b242), (.ref b242), (.ref b239), (.ref b239)]))
          obtain ⟨c250, Ar250, q250, S250, Nn250, H250, G250⟩ := id f248
          have hin250 : ¬ ((1 : Int32) < 0 ∨ c250.slots.size ≤ ((1 : Int32)).toNatClampNeg) := inb_of S250 ⟨by decide, by decide⟩
          obtain ⟨T250, h250, X250, e250, W250, st250⟩ := stC X245 hx hZ e245 Ar250 (j := (1 : Int32)) hin250 (g := (mkF m 78 #[.val (.int p1), .val (.int p2), .val (.int p3), .val (.int p4), .val (.int p5), .val (.int p6), .val (.int p7), .val (.int p8)] [(.int p3), (.int (1 : Int32)), (.ref b242), (.ref b242), (.ref b239), (.ref b239)])) rfl rfl (hb hby d_method_3_78)
          refine own_Go.st st250 ?_
          have N250 := Fr.snoc X250 N245 (by omega)
          have Sf252 : Safe Z consts_1 s.vm h245 b242 := Safe.arv hZ.alike f248 (by decide)
          have z250 : h245.size ≤ h250.size := Nat.le_of_eq W250.size.symm
          have f251 := Arv.set Ar250 q250 S250 Nn250 H250 G250 (fits_nar_char _) W250 1 rfl (Nat.le_of_ble_eq_true rfl)
          rw [own_nar (own_up hp3)] at f251
          have f253 : Arv Z h250 b242 k242 .char (3 : Int32) [(.int p2), (.int p3), (.int (0 : Int32))] (.int (0 : Int32)) := f251
          have R250 : CHr Z consts_1 s.vm h0 s.vm h250 := R245.trans (CHr.wr W250 Sf252 R245.1)
          have Sf254 : Safe Z consts_1 s.vm h250 b239 := Safe.wr W250 Sf252 R245.1 Sf249
          show own_Go _ _ _ _ (T250.setTop (mkF m 79 #[.val (.int p1), .val (.int p2), .val (.int p3), .val (.int p4), .val (.int p5), .val (.int p6), .val (.int p7), .val (.int p8)] [(.ref b242), (.ref b239), (.ref b239)]))
          refine own_Go.st (fun _ k => XS.dup X250.here hx rfl (hb hby d_method_3_79) rfl rfl k) ?_
          show own_Go _ _ _ _ (T250.setTop (mkF m 80 #[.val (.int p1), .val (.int p2), .val (.int p3), .val (.int p4), .val (.int p5), .val (.int p6), .val (.int p7), .val (.int p8)] [(.ref b242), (.ref b242), (.ref b239), (.ref b239)]))
          refine own_Go.st (fun _ k => XS.iconst X250.here hx rfl (hb hby d_method_3_80) k) ?_
          show own_Go _ _ _ _ (T250.setTop (mkF m 81 #[.val (.int p1), .val (.int p2), .val (.int p3), .val (.int p4), .val (.int p5), .val (.int p6), .val (.int p7), .val (.int p8)] [(.int (2 : Int32)), (.ref b242), (.ref b242), (.ref b239), (.ref b239)]))
          refine own_Go.st (fun _ k => XS.iloadN X250.here hx rfl (hb hby d_method_3_81) rfl k) ?_
          show own_Go _ _ _ _ (T250.setTop (mkF m 82 #[.val (.int p1), .val (.int p2), .val (.int p3), .val (.int p4), .val (.int p5), .val (.int p6), .val (.int p7), .val (.int p8)] [(.int p4), (.int (2 : Int32)), (.ref b242), (.ref b242), (.ref b239), (.ref b239)]))
          obtain ⟨c255, Ar255, q255, S255, Nn255, H255, G255⟩ := id f253
          have hin255 : ¬ ((2 : Int32) < 0 ∨ c255.slots.size ≤ ((2 : Int32)).toNatClampNeg) := inb_of S255 ⟨by decide, by decide⟩
          obtain ⟨T255, h255, X255, e255, W255, st255⟩ := stC X250 hx hZ e250 Ar255 (j := (2 : Int32)) hin255 (g := (mkF m 82 #[.val (.int p1), .val (.int p2), .val (.int p3), .val (.int p4), .val (.int p5), .val (.int p6), .val (.int p7), .val (.int p8)] [(.int p4), (.int (2 : Int32)), (.ref b242), (.ref b242), (.ref b239), (.ref b239)])) rfl rfl (hb hby d_method_3_82)
          refine own_Go.st st255 ?_
          have N255 := Fr.snoc X255 N250 (by omega)
          have Sf257 : Safe Z consts_1 s.vm h250 b242 := Safe.arv hZ.alike f253 (by decide)
          have z255 : h250.size ≤ h255.size := Nat.le_of_eq W255.size.symm
          have f256 := Arv.set Ar255 q255 S255 Nn255 H255 G255 (fits_nar_char _) W255 2 rfl (Nat.le_of_ble_eq_true rfl)
          rw [own_nar (own_up hp4)] at f256
          have f258 : Arv Z h255 b242 k242 .char (3 : Int32) [(.int p2), (.int p3), (.int p4)] (.int (0 : Int32)) := f256
          have R255 : CHr Z consts_1 s.vm h0 s.vm h255 := R250.trans (CHr.wr W255 Sf257 R250.1)
          have Sf259 : Safe Z consts_1 s.vm h255 b239 := Safe.wr W255 Sf257 R250.1 Sf254
          show own_Go _ _ _ _ (T255.setTop (mkF m 83 #[.val (.int p1), .val (.int p2), .val (.int p3), .val (.int p4), .val (.int p5), .val (.int p6), .val (.int p7), .val (.int p8)] [(.ref b242), (.ref b239), (.ref b239)]))
          have f261 : Exa Z h242 b239 "java/lang/String" := A239.ext E242
          have f262 : Exa Z h245 b239 "java/lang/String" := f261.wr W245
          have f263 : Exa Z h250 b239 "java/lang/String" := f262.wr W250
          have f264 : Exa Z h255 b239 "java/lang/String" := f263.wr W255
          have f265 : Fld Z h242 b239 "java/lang/String" "value" "[B" .null := f240.ext E242
          have f266 : Fld Z h245 b239 "java/lang/String" "value" "[B" .null := f265.other W245 (Or.inl (by show @Ne Nat b239 b242; omega))
          have f267 : Fld Z h250 b239 "java/lang/String" "value" "[B" .null := f266.other W250 (Or.inl (by show @Ne Nat b239 b242; omega))
          have f268 : Fld Z h255 b239 "java/lang/String" "value" "[B" .null := f267.other W255 (Or.inl (by show @Ne Nat b239 b242; omega))
          have f269 : Fld Z h242 b239 "java/lang/String" "coder" "B" (.int (0 : Int32)) := f241.ext E242
          have f270 : Fld Z h245 b239 "java/lang/String" "coder" "B" (.int (0 : Int32)) := f269.other W245 (Or.inl (by show @Ne Nat b239 b242; omega))
          have f271 : Fld Z h250 b239 "java/lang/String" "coder" "B" (.int (0 : Int32)) := f270.other W250 (Or.inl (by show @Ne Nat b239 b242; omega))
          have f272 : Fld Z h255 b239 "java/lang/String" "coder" "B" (.int (0 : Int32)) := f271.other W255 (Or.inl (by show @Ne Nat b239 b242; omega))
          have f273 : Old Z Z.heap.size h239 := OL.ext E239
          have f274 : Old Z Z.heap.size h242 := f273.ext E242
          have f275 : Old Z Z.heap.size h245 := f274.wr W245 (by omega)
          have f276 : Old Z Z.heap.size h250 := f275.wr W250 (by omega)
          have f277 : Old Z Z.heap.size h255 := f276.wr W255 (by omega)
          have hp260 : ∀ c ∈ ([p2, p3, p4] : List Int32), ¬ c < 0 ∧ ¬ (255 : Int32) < c := (own_aS hp2 (own_aS hp3 (own_aS hp4 own_a0)))
          obtain ⟨_, _, ⟨T260, L260, k260, n260⟩, -, X260, ⟨Lc260, hQ260, l260, y260, z260⟩, st260⟩ := X255.specialBack hx (y := (⟨"java/lang/String", "<init>", "([C)V"⟩ : MethodName)) rfl hown (mvT hZ (hw _ (List.mem_of_getElem? (i := 12) rfl))) (mvT hZ (hw _ (List.mem_of_getElem? (i := 13) rfl))) (mvT hZ (hw _ (List.mem_of_getElem? (i := 14) rfl))) (by decide) (StrChars.Road.backV (W := 1) hZ (own_hws hw) (kI := 4) (hw _ (List.mem_of_getElem? (i := 9) rfl)) (cs := ([p2, p3, p4] : List Int32)) (bs := (([p2, p3, p4] : List Int32)).map (fun c => c.toInt8.toInt32)) (n := 3) (n0 := Z.heap.size) (by omega) (by omega) f264 f268 f272 f258 (st_COMPACT_STRINGS.ext f277.2) hzc rfl rfl (by decide) (by decide) hp260 rfl (by decide) (by decide)) (g := (mkF m 83 #[.val (.int p1), .val (.int p2), .val (.int p3), .val (.int p4), .val (.int p5), .val (.int p6), .val (.int p7), .val (.int p8)] [(.ref b242), (.ref b239), (.ref b239)])) rfl (by rw [hml]; rfl) (Steps.refl _) (a := b239) (argsL := [(.ref b242)]) (rest := [(.ref b239)]) (lenOf pd_80 rfl) rfl (by show 2 * 0 + _ ≤ _; exact Nat.le_of_eq rfl) (hb hby d_method_3_83) (fun _ _ => ⟨rfl, e255, (by decide : 2 + 1 ≤ _), (by decide : 7 + 3 ≤ _)⟩)
          dsimp only [Pt.U, Pt.locs, Pt.cells, Pt.slots] at X260 l260 y260 z260 st260 hQ260
          subst l260 y260 z260
          obtain ⟨rfl, N260q, K260, Ex260, Cd260, t260, kb260, u260, v260, w260, Vl260, Ar260⟩ := hQ260
          have N260 := Fr.app N255 N260q
          have z260 : h255.size ≤ T260.heap.size := K260.1
          have R260 : CHr Z consts_1 s.vm h0 s.vm T260.heap := R255.trans (CHr.keep K260 (sfS Sf259 sf0) R255.1)
          have Sf278 : Safe Z consts_1 s.vm T260.heap b239 := Safe.keep K260 (sfS Sf259 sf0) R255.1 Sf259
          have fT260 : own_Str Z T260.heap b239 t260 ([p2, p3, p4] : List Int32) := ⟨kb260, 0, (3 : Int32), _, Ex260, Vl260, Cd260, Ar260, StrChars.Road.codOf rfl (fun c q => (hp260 c q).2), own_upL hp260, (Nat.le_of_ble_eq_true rfl)⟩
          have lt260 : @LT.lt Nat _ t260 T260.heap.size := fT260.ltv
          refine own_Go.tr st260 ?_
          show own_Go _ _ _ _ (T260.setTop (mkF m 86 #[.val (.int p1), .val (.int p2), .val (.int p3), .val (.int p4), .val (.int p5), .val (.int p6), .val (.int p7), .val (.int p8)] [(.ref b239)]))
          obtain ⟨fs279, hr279, hrun279, hend279, hret279⟩ := X260.leaveW hS0 (by omega) (v := some (.ref b239)) (fun h => by rw [Bd.returns] at h; cases h)
          have K280 : Keep h0 h239 [] := (Keep.refl h0 []).ext E239
          have K281 : Keep h0 h242 [] := K280.ext E242
          have K282 : Keep h0 h245 [] := K281.wr W245 (Or.inr (by omega))
          have K283 : Keep h0 h250 [] := K282.wr W250 (Or.inr (by omega))
          have K284 : Keep h0 h255 [] := K283.wr W255 (Or.inr (by omega))
          have K285 : Keep h0 T260.heap [] := K284.trans K260 (allS (Or.inr (by omega)) all0)
          subst hPP
          refine ⟨_, _, own_retA X260 hx Bd.returns rfl rfl (hb hby d_method_3_86) hr279, hrun279, hend279, _, _, rfl, ?_, ?_, hret279.1, hret279.2.1, hret279.2.2.1, hret279.2.2.2.mono (by decide) (by decide)⟩
          · show Q_make Z p1 p2 p3 p4 p5 p6 p7 p8 zc h0 _ T260.heap _
            exact ⟨b239, t260, ([p2, p3, p4] : List Int32), rfl, N260, K285, fT260, (by unfold own_mk; rw [if_neg hc154, if_neg hc172, if_neg hc200, if_pos hc238])⟩
          · have hfin := R260.trans (CHv.at X260 hZ hEL R260.1)
            rw [← hh] at hfin
            show CHr Z consts_1 s.vm s.heap T260.vm T260.heap
            exact hfin
        ·
          refine own_Go.st (fun _ k => XS.icmpYes X0.here hx rfl (pc0 := 61) (pc' := 87) rfl (hb hby d_method_3_61) rfl (feq hc238).2 (by decide) (by decide) k) ?_
          show own_Go _ _ _ _ (s₁.setTop (mkF m 87 #[.val (.int p1), .val (.int p2), .val (.int p3), .val (.int p4), .val (.int p5), .val (.int p6), .val (.int p7), .val (.int p8)] []))
          refine own_Go.st (fun _ k => XS.iloadN X0.here hx rfl (hb hby d_method_3_87) rfl k) ?_
          show own_Go _ _ _ _ (s₁.setTop (mkF m 88 #[.val (.int p1), .val (.int p2), .val (.int p3), .val (.int p4), .val (.int p5), .val (.int p6), .val (.int p7), .val (.int p8)] [(.int p1)]))
          refine own_Go.st (fun _ k => XS.iconst X0.here hx rfl (hb hby d_method_3_88) k) ?_
          show own_Go _ _ _ _ (s₁.setTop (mkF m 89 #[.val (.int p1), .val (.int p2), .val (.int p3), .val (.int p4), .val (.int p5), .val (.int p6), .val (.int p7), .val (.int p8)] [(.int (4 : Int32)), (.int p1)]))
          by_cases hc286 : p1 = (4 : Int32)
          ·
            refine own_Go.st (fun _ k => XS.icmpNo X0.here hx rfl (hb hby d_method_3_89) rfl (teq hc286).2 k) ?_
            show own_Go _ _ _ _ (s₁.setTop (mkF m 92 #[.val (.int p1), .val (.int p2), .val (.int p3), .val (.int p4), .val (.int p5), .val (.int p6), .val (.int p7), .val (.int p8)] []))
            obtain ⟨T287, h287, X287, e287, E287, A287, D287, U287, st287⟩ := newO X0 hx hZ hown (hw _ (List.mem_of_getElem? (i := 8) rfl)) (hw _ (List.mem_of_getElem? (i := 9) rfl)) (hw _ (List.mem_of_getElem? (i := 10) rfl)) e0 (g := (mkF m 92 #[.val (.int p1), .val (.int p2), .val (.int p3), .val (.int p4), .val (.int p5), .val (.int p6), .val (.int p7), .val (.int p8)] [])) rfl (hb hby d_method_3_92) (by decide) (by decide)
            obtain ⟨b287, g287⟩ : ∃ z, z = h0.size := ⟨_, rfl⟩
            rw [← g287] at A287 D287 U287 st287
            refine own_Go.st st287 ?_
            have z287 : h0.size ≤ h287.size := E287.1
            have lt_b287 : @LT.lt Nat _ b287 h287.size := A287.lt
            have f288 : Fld Z h287 b287 "java/lang/String" "value" "[B" .null := D287 (Or.inr (hw _ (List.mem_of_getElem? (i := 24) rfl))) (ty := (.array .byte)) (by decide)
            have f289 : Fld Z h287 b287 "java/lang/String" "coder" "B" (.int (0 : Int32)) := D287 (Or.inr (hw _ (List.mem_of_getElem? (i := 25) rfl))) (ty := .byte) (by decide)
            have R287 : CHr Z consts_1 s.vm h0 s.vm h287 := R0.trans (CHr.ext E287 R0.1)
            have Sf287 : Safe Z consts_1 s.vm h287 b287 := (Safe.new (Nat.le_of_eq g287.symm)).ext E287 R0.1
            show own_Go _ _ _ _ (T287.setTop (mkF m 95 #[.val (.int p1), .val (.int p2), .val (.int p3), .val (.int p4), .val (.int p5), .val (.int p6), .val (.int p7), .val (.int p8)] [(.ref b287)]))
            refine own_Go.st (fun _ k => XS.dup X287.here hx rfl (hb hby d_method_3_95) rfl rfl k) ?_
            show own_Go _ _ _ _ (T287.setTop (mkF m 96 #[.val (.int p1), .val (.int p2), .val (.int p3), .val (.int p4), .val (.int p5), .val (.int p6), .val (.int p7), .val (.int p8)] [(.ref b287), (.ref b287)]))
            refine own_Go.st (fun _ k => XS.iconst X287.here hx rfl (hb hby d_method_3_96) k) ?_
            show own_Go _ _ _ _ (T287.setTop (mkF m 97 #[.val (.int p1), .val (.int p2), .val (.int p3), .val (.int p4), .val (.int p5), .val (.int p6), .val (.int p7), .val (.int p8)] [(.int (4 : Int32)), (.ref b287), (.ref b287)]))
            obtain ⟨T290, h290, k290, X290, e290, E290, A290, st290⟩ := newP X287 hx hZ (hw _ (List.mem_of_getElem? (i := 11) rfl)) e287 (g := (mkF m 97 #[.val (.int p1), .val (.int p2), .val (.int p3), .val (.int p4), .val (.int p5), .val (.int p6), .val (.int p7), .val (.int p8)] [(.int (4 : Int32)), (.ref b287), (.ref b287)])) rfl (hb hby d_method_3_97) rfl (by decide) (cap := 4) (by decide) (by decide) (by decide) (by decide)
            obtain ⟨b290, g290⟩ : ∃ z, z = h287.size := ⟨_, rfl⟩
            rw [← g290] at A290 st290
            refine own_Go.st st290 ?_
            have z290 : h287.size ≤ h290.size := E290.1
            have f291 : Arv Z h290 b290 k290 .char (4 : Int32) [(.int (0 : Int32)), (.int (0 : Int32)), (.int (0 : Int32)), (.int (0 : Int32))] (.int (0 : Int32)) := (Arv.new A290 (by decide)).pad (pad_rep [] (.int (0 : Int32)) 4)
            have lt_b290 : @LT.lt Nat _ b290 h290.size := f291.lt
            have R290 : CHr Z consts_1 s.vm h0 s.vm h290 := R287.trans (CHr.ext E290 R287.1)
            have Sf292 : Safe Z consts_1 s.vm h290 b287 := Safe.ext E290 R287.1 Sf287
            show own_Go _ _ _ _ (T290.setTop (mkF m 99 #[.val (.int p1), .val (.int p2), .val (.int p3), .val (.int p4), .val (.int p5), .val (.int p6), .val (.int p7), .val (.int p8)] [(.ref b290), (.ref b287), (.ref b287)]))
            refine own_Go.st (fun _ k => XS.dup X290.here hx rfl (hb hby d_method_3_99) rfl rfl k) ?_
            show own_Go _ _ _ _ (T290.setTop (mkF m 100 #[.val (.int p1), .val (.int p2), .val (.int p3), .val (.int p4), .val (.int p5), .val (.int p6), .val (.int p7), .val (.int p8)] [(.ref b290), (.ref b290), (.ref b287), (.ref b287)]))
            refine own_Go.st (fun _ k => XS.iconst X290.here hx rfl (hb hby d_method_3_100) k) ?_
            show own_Go _ _ _ _ (T290.setTop (mkF m 101 #[.val (.int p1), .val (.int p2), .val (.int p3), .val (.int p4), .val (.int p5), .val (.int p6), .val (.int p7), .val (.int p8)] [(.int (0 : Int32)), (.ref b290), (.ref b290), (.ref b287), (.ref b287)]))
            refine own_Go.st (fun _ k => XS.iloadN X290.here hx rfl (hb hby d_method_3_101) rfl k) ?_
            show own_Go _ _ _ _ (T290.setTop (mkF m 102 #[.val (.int p1), .val (.int p2), .val (.int p3), .val (.int p4), .val (.int p5), .val (.int p6), .val (.int p7), .val (.int p8)] [(.int p2), (.int (0 : Int32)), (.ref b290), (.ref b290), (.ref b287), (.ref b287)]))
            obtain ⟨c293, Ar293, q293, S293, Nn293, H293, G293⟩ := id f291
            have hin293 : ¬ ((0 : Int32) < 0 ∨ c293.slots.size ≤ ((0 : Int32)).toNatClampNeg) := inb_of S293 ⟨by decide, by decide⟩
            obtain ⟨T293, h293, X293, e293, W293, st293⟩ := stC X290 hx hZ e290 Ar293 (j := (0 : Int32)) hin293 (g := (mkF m 102 #[.val (.int p1), .val (.int p2), .val (.int p3), .val (.int p4), .val (.int p5), .val (.int p6), .val (.int p7), .val (.int p8)] [(.int p2), (.int (0 : Int32)), (.ref b290), (.ref b290), (.ref b287), (.ref b287)])) rfl rfl (hb hby d_method_3_102)
            refine own_Go.st st293 ?_
            have N293 := Fr.snoc X293 N0 (by omega)
            have Sf295 : Safe Z consts_1 s.vm h290 b290 := Safe.arv hZ.alike f291 (by decide)
            have z293 : h290.size ≤ h293.size := Nat.le_of_eq W293.size.symm
            have f294 := Arv.set Ar293 q293 S293 Nn293 H293 G293 (fits_nar_char _) W293 0 rfl (Nat.le_of_ble_eq_true rfl)
            rw [own_nar (own_up hp2)] at f294
            have f296 : Arv Z h293 b290 k290 .char (4 : Int32) [(.int p2), (.int (0 : Int32)), (.int (0 : Int32)), (.int (0 : Int32))] (.int (0 : Int32)) := f294
            have R293 : CHr Z consts_1 s.vm h0 s.vm h293 := R290.trans (CHr.wr W293 Sf295 R290.1)
            have Sf297 : Safe Z consts_1 s.vm h293 b287 := Safe.wr W293 Sf295 R290.1 Sf292
            show own_Go _ _ _ _ (T293.setTop (mkF m 103 #[.val (.int p1), .val (.int p2), .val (.int p3), .val (.int p4), .val (.int p5), .val (.int p6), .val (.int p7), .val (.int p8)] [(.ref b290), (.ref b287), (.ref b287)]))
            refine own_Go.st (fun _ k => XS.dup X293.here hx rfl (hb hby d_method_3_103) rfl rfl k) ?_
            show own_Go _ _ _ _ (T293.setTop (mkF m 104 #[.val (.int p1), .val (.int p2), .val (.int p3), .val (.int p4), .val (.int p5), .val (.int p6), .val (.int p7), .val (.int p8)] [(.ref b290), (.ref b290), (.ref b287), (.ref b287)]))
            refine own_Go.st (fun _ k => XS.iconst X293.here hx rfl (hb hby d_method_3_104) k) ?_
            show own_Go _ _ _ _ (T293.setTop (mkF m 105 #[.val (.int p1), .val (.int p2), .val (.int p3), .val (.int p4), .val (.int p5), .val (.int p6), .val (.int p7), .val (.int p8)] [(.int (1 : Int32)), (.ref b290), (.ref b290), (.ref b287), (.ref b287)]))
            refine own_Go.st (fun _ k => XS.iloadN X293.here hx rfl (hb hby d_method_3_105) rfl k) ?_
            show own_Go _ _ _ _ (T293.setTop (mkF m 106 #[.val (.int p1), .val (.int p2), .val (.int p3), .val (.int p4), .val (.int p5), .val (.int p6), .val (.int p7), .val (.int p8)] [(.int p3), (.int (1 : Int32)), (.ref b290), (.ref b290), (.ref b287), (.ref b287)]))
            obtain ⟨c298, Ar298, q298, S298, Nn298, H298, G298⟩ := id f296
            have hin298 : ¬ ((1 : Int32) < 0 ∨ c298.slots.size ≤ ((1 : Int32)).toNatClampNeg) := inb_of S298 ⟨by decide, by decide⟩
            obtain ⟨T298, h298, X298, e298, W298, st298⟩ := stC X293 hx hZ e293 Ar298 (j := (1 : Int32)) hin298 (g := (mkF m 106 #[.val (.int p1), .val (.int p2), .val (.int p3), .val (.int p4), .val (.int p5), .val (.int p6), .val (.int p7), .val (.int p8)] [(.int p3), (.int (1 : Int32)), (.ref b290), (.ref b290), (.ref b287), (.ref b287)])) rfl rfl (hb hby d_method_3_106)
            refine own_Go.st st298 ?_
            have N298 := Fr.snoc X298 N293 (by omega)
            have Sf300 : Safe Z consts_1 s.vm h293 b290 := Safe.arv hZ.alike f296 (by decide)
            have z298 : h293.size ≤ h298.size := Nat.le_of_eq W298.size.symm
            have f299 := Arv.set Ar298 q298 S298 Nn298 H298 G298 (fits_nar_char _) W298 1 rfl (Nat.le_of_ble_eq_true rfl)
            rw [own_nar (own_up hp3)] at f299
            have f301 : Arv Z h298 b290 k290 .char (4 : Int32) [(.int p2), (.int p3), (.int (0 : Int32)), (.int (0 : Int32))] (.int (0 : Int32)) := f299
            have R298 : CHr Z consts_1 s.vm h0 s.vm h298 := R293.trans (CHr.wr W298 Sf300 R293.1)
            have Sf302 : Safe Z consts_1 s.vm h298 b287 := Safe.wr W298 Sf300 R293.1 Sf297
            show own_Go _ _ _ _ (T298.setTop (mkF m 107 #[.val (.int p1), .val (.int p2), .val (.int p3), .val (.int p4), .val (.int p5), .val (.int p6), .val (.int p7), .val (.int p8)] [(.ref b290), (.ref b287), (.ref b287)]))
            refine own_Go.st (fun _ k => XS.dup X298.here hx rfl (hb hby d_method_3_107) rfl rfl k) ?_
            show own_Go _ _ _ _ (T298.setTop (mkF m 108 #[.val (.int p1), .val (.int p2), .val (.int p3), .val (.int p4), .val (.int p5), .val (.int p6), .val (.int p7), .val (.int p8)] [(.ref b290), (.ref b290), (.ref b287), (.ref b287)]))
            refine own_Go.st (fun _ k => XS.iconst X298.here hx rfl (hb hby d_method_3_108) k) ?_
            show own_Go _ _ _ _ (T298.setTop (mkF m 109 #[.val (.int p1), .val (.int p2), .val (.int p3), .val (.int p4), .val (.int p5), .val (.int p6), .val (.int p7), .val (.int p8)] [(.int (2 : Int32)), (.ref b290), (.ref b290), (.ref b287), (.ref b287)]))
            refine own_Go.st (fun _ k => XS.iloadN X298.here hx rfl (hb hby d_method_3_109) rfl k) ?_
            show own_Go _ _ _ _ (T298.setTop (mkF m 110 #[.val (.int p1), .val (.int p2), .val (.int p3), .val (.int p4), .val (.int p5), .val (.int p6), .val (.int p7), .val (.int p8)] [(.int p4), (.int (2 : Int32)), (.ref b290), (.ref b290), (.ref b287), (.ref b287)]))
            obtain ⟨c303, Ar303, q303, S303, Nn303, H303, G303⟩ := id f301
            have hin303 : ¬ ((2 : Int32) < 0 ∨ c303.slots.size ≤ ((2 : Int32)).toNatClampNeg) := inb_of S303 ⟨by decide, by decide⟩
            obtain ⟨T303, h303, X303, e303, W303, st303⟩ := stC X298 hx hZ e298 Ar303 (j := (2 : Int32)) hin303 (g := (mkF m 110 #[.val (.int p1), .val (.int p2), .val (.int p3), .val (.int p4), .val (.int p5), .val (.int p6), .val (.int p7), .val (.int p8)] [(.int p4), (.int (2 : Int32)), (.ref b290), (.ref b290), (.ref b287), (.ref b287)])) rfl rfl (hb hby d_method_3_110)
            refine own_Go.st st303 ?_
            have N303 := Fr.snoc X303 N298 (by omega)
            have Sf305 : Safe Z consts_1 s.vm h298 b290 := Safe.arv hZ.alike f301 (by decide)
            have z303 : h298.size ≤ h303.size := Nat.le_of_eq W303.size.symm
            have f304 := Arv.set Ar303 q303 S303 Nn303 H303 G303 (fits_nar_char _) W303 2 rfl (Nat.le_of_ble_eq_true rfl)
            rw [own_nar (own_up hp4)] at f304
            have f306 : Arv Z h303 b290 k290 .char (4 : Int32) [(.int p2), (.int p3), (.int p4), (.int (0 : Int32))] (.int (0 : Int32)) := f304
            have R303 : CHr Z consts_1 s.vm h0 s.vm h303 := R298.trans (CHr.wr W303 Sf305 R298.1)
            have Sf307 : Safe Z consts_1 s.vm h303 b287 := Safe.wr W303 Sf305 R298.1 Sf302
            show own_Go _ _ _ _ (T303.setTop (mkF m 111 #[.val (.int p1), .val (.int p2), .val (.int p3), .val (.int p4), .val (.int p5), .val (.int p6), .val (.int p7), .val (.int p8)] [(.ref b290), (.ref b287), (.ref b287)]))
            refine own_Go.st (fun _ k => XS.dup X303.here hx rfl (hb hby d_method_3_111) rfl rfl k) ?_
            show own_Go _ _ _ _ (T303.setTop (mkF m 112 #[.val (.int p1), .val (.int p2), .val (.int p3), .val (.int p4), .val (.int p5), .val (.int p6), .val (.int p7), .val (.int p8)] [(.ref b290), (.ref b290), (.ref b287), (.ref b287)]))
            refine own_Go.st (fun _ k => XS.iconst X303.here hx rfl (hb hby d_method_3_112) k) ?_
            show own_Go _ _ _ _ (T303.setTop (mkF m 113 #[.val (.int p1), .val (.int p2), .val (.int p3), .val (.int p4), .val (.int p5), .val (.int p6), .val (.int p7), .val (.int p8)] [(.int (3 : Int32)), (.ref b290), (.ref b290), (.ref b287), (.ref b287)]))
            refine own_Go.st (fun _ k => XS.iload X303.here hx rfl (hb hby d_method_3_113) rfl k) ?_
            show own_Go _ _ _ _ (T303.setTop (mkF m 115 #[.val (.int p1), .val (.int p2), .val (.int p3), .val (.int p4), .val (.int p5), .val (.int p6), .val (.int p7), .val (.int p8)] [(.int p5), (.int (3 : Int32)), (.ref b290), (.ref b290), (.ref b287), (.ref b287)]))
            obtain ⟨c308, Ar308, q308, S308, Nn308, H308, G308⟩ := id f306
            have hin308 : ¬ ((3 : Int32) < 0 ∨ c308.slots.size ≤ ((3 : Int32)).toNatClampNeg) := inb_of S308 ⟨by decide, by decide⟩
            obtain ⟨T308, h308, X308, e308, W308, st308⟩ := stC X303 hx hZ e303 Ar308 (j := (3 : Int32)) hin308 (g := (mkF m 115 #[.val (.int p1), .val (.int p2), .val (.int p3), .val (.int p4), .val (.int p5), .val (.int p6), .val (.int p7), .val (.int p8)] [(.int p5), (.int (3 : Int32)), (.ref b290), (.ref b290), (.ref b287), (.ref b287)])) rfl rfl (hb hby d_method_3_115)
            refine own_Go.st st308 ?_
            have N308 := Fr.snoc X308 N303 (by omega)
            have Sf310 : Safe Z consts_1 s.vm h303 b290 := Safe.arv hZ.alike f306 (by decide)
            have z308 : h303.size ≤ h308.size := Nat.le_of_eq W308.size.symm
            have f309 := Arv.set Ar308 q308 S308 Nn308 H308 G308 (fits_nar_char _) W308 3 rfl (Nat.le_of_ble_eq_true rfl)
            rw [own_nar (own_up hp5)] at f309
            have f311 : Arv Z h308 b290 k290 .char (4 : Int32) [(.int p2), (.int p3), (.int p4), (.int p5)] (.int (0 : Int32)) := f309
            have R308 : CHr Z consts_1 s.vm h0 s.vm h308 := R303.trans (CHr.wr W308 Sf310 R303.1)
            have Sf312 : Safe Z consts_1 s.vm h308 b287 := Safe.wr W308 Sf310 R303.1 Sf307
            show own_Go _ _ _ _ (T308.setTop (mkF m 116 #[.val (.int p1), .val (.int p2), .val (.int p3), .val (.int p4), .val (.int p5), .val (.int p6), .val (.int p7), .val (.int p8)] [(.ref b290), (.ref b287), (.ref b287)]))
            have f314 : Exa Z h290 b287 "java/lang/String" := A287.ext E290
            have f315 : Exa Z h293 b287 "java/lang/String" := f314.wr W293
            have f316 : Exa Z h298 b287 "java/lang/String" := f315.wr W298
            have f317 : Exa Z h303 b287 "java/lang/String" := f316.wr W303
            have f318 : Exa Z h308 b287 "java/lang/String" := f317.wr W308
            have f319 : Fld Z h290 b287 "java/lang/String" "value" "[B" .null := f288.ext E290
            have f320 : Fld Z h293 b287 "java/lang/String" "value" "[B" .null := f319.other W293 (Or.inl (by show @Ne Nat b287 b290; omega))
            have f321 : Fld Z h298 b287 "java/lang/String" "value" "[B" .null := f320.other W298 (Or.inl (by show @Ne Nat b287 b290; omega))
            have f322 : Fld Z h303 b287 "java/lang/String" "value" "[B" .null := f321.other W303 (Or.inl (by show @Ne Nat b287 b290; omega))
            have f323 : Fld Z h308 b287 "java/lang/String" "value" "[B" .null := f322.other W308 (Or.inl (by show @Ne Nat b287 b290; omega))
            have f324 : Fld Z h290 b287 "java/lang/String" "coder" "B" (.int (0 : Int32)) := f289.ext E290
            have f325 : Fld Z h293 b287 "java/lang/String" "coder" "B" (.int (0 : Int32)) := f324.other W293 (Or.inl (by show @Ne Nat b287 b290; omega))
            have f326 : Fld Z h298 b287 "java/lang/String" "coder" "B" (.int (0 : Int32)) := f325.other W298 (Or.inl (by show @Ne Nat b287 b290; omega))
            have f327 : Fld Z h303 b287 "java/lang/String" "coder" "B" (.int (0 : Int32)) := f326.other W303 (Or.inl (by show @Ne Nat b287 b290; omega))
            have f328 : Fld Z h308 b287 "java/lang/String" "coder" "B" (.int (0 : Int32)) := f327.other W308 (Or.inl (by show @Ne Nat b287 b290; omega))
            have f329 : Old Z Z.heap.size h287 := OL.ext E287
            have f330 : Old Z Z.heap.size h290 := f329.ext E290
            have f331 : Old Z Z.heap.size h293 := f330.wr W293 (by omega)
            have f332 : Old Z Z.heap.size h298 := f331.wr W298 (by omega)
            have f333 : Old Z Z.heap.size h303 := f332.wr W303 (by omega)
            have f334 : Old Z Z.heap.size h308 := f333.wr W308 (by omega)
            have hp313 : ∀ c ∈ ([p2, p3, p4, p5] : List Int32), ¬ c < 0 ∧ ¬ (255 : Int32) < c := (own_aS hp2 (own_aS hp3 (own_aS hp4 (own_aS hp5 own_a0))))
            obtain ⟨_, _, ⟨T313, L313, k313, n313⟩, -, X313, ⟨Lc313, hQ313, l313, y313, z313⟩, st313⟩ := X308.specialBack hx (y := (⟨"java/lang/String", "<init>", "([C)V"⟩ : MethodName)) rfl hown (mvT hZ (hw _ (List.mem_of_getElem? (i := 12) rfl))) (mvT hZ (hw _ (List.mem_of_getElem? (i := 13) rfl))) (mvT hZ (hw _ (List.mem_of_getElem? (i := 14) rfl))) (by decide) (StrChars.Road.backV (W := 1) hZ (own_hws hw) (kI := 4) (hw _ (List.mem_of_getElem? (i := 9) rfl)) (cs := ([p2, p3, p4, p5] : List Int32)) (bs := (([p2, p3, p4, p5] : List Int32)).map (fun c => c.toInt8.toInt32)) (n := 4) (n0 := Z.heap.size) (by omega) (by omega) f318 f323 f328 f311 (st_COMPACT_STRINGS.ext f334.2) hzc rfl rfl (by decide) (by decide) hp313 rfl (by decide) (by decide)) (g := (mkF m 116 #[.val (.int p1), .val (.int p2), .val (.int p3), .val (.int p4), .val (.int p5), .val (.int p6), .val (.int p7), .val (.int p8)] [(.ref b290), (.ref b287), (.ref b287)])) rfl (by rw [hml]; rfl) (Steps.refl _) (a := b287) (argsL := [(.ref b290)]) (rest := [(.ref b287)]) (lenOf pd_80 rfl) rfl (by show 2 * 0 + _ ≤ _; exact Nat.le_of_eq rfl) (hb hby d_method_3_116) (fun _ _ => ⟨rfl, e308, (by decide : 2 + 1 ≤ _), (by decide : 8 + 4 ≤ _)⟩)
            dsimp only [Pt.U, Pt.locs, Pt.cells, Pt.slots] at X313 l313 y313 z313 st313 hQ313
            subst l313 y313 z313
            obtain ⟨rfl, N313q, K313, Ex313, Cd313, t313, kb313, u313, v313, w313, Vl313, Ar313⟩ := hQ313
            have N313 := Fr.app N308 N313q
            have z313 : h308.size ≤ T313.heap.size := K313.1
            have R313 : CHr Z consts_1 s.vm h0 s.vm T313.heap := R308.trans (CHr.keep K313 (sfS Sf312 sf0) R308.1)
            have Sf335 : Safe Z consts_1 s.vm T313.heap b287 := Safe.keep K313 (sfS Sf312 sf0) R308.1 Sf312
            have fT313 : own_Str Z T313.heap b287 t313 ([p2, p3, p4, p5] : List Int32) := ⟨kb313, 0, (4 : Int32), _, Ex313, Vl313, Cd313, Ar313, StrChars.Road.codOf rfl (fun c q => (hp313 c q).2), own_upL hp313, (Nat.le_of_ble_eq_true rfl)⟩
            have lt313 : @LT.lt Nat _ t313 T313.heap.size := fT313.ltv
            refine own_Go.tr st313 ?_
            show own_Go _ _ _ _ (T313.setTop (mkF m 119 #[.val (.int p1), .val (.int p2), .val (.int p3), .val (.int p4), .val (.int p5), .val (.int p6), .val (.int p7), .val (.int p8)] [(.ref b287)]))
            obtain ⟨fs336, hr336, hrun336, hend336, hret336⟩ := X313.leaveW hS0 (by omega) (v := some (.ref b287)) (fun h => by rw [Bd.returns] at h; cases h)
            have K337 : Keep h0 h287 [] := (Keep.refl h0 []).ext E287
            have K338 : Keep h0 h290 [] := K337.ext E290
            have K339 : Keep h0 h293 [] := K338.wr W293 (Or.inr (by omega))
            have K340 : Keep h0 h298 [] := K339.wr W298 (Or.inr (by omega))
            have K341 : Keep h0 h303 [] := K340.wr W303 (Or.inr (by omega))
            have K342 : Keep h0 h308 [] := K341.wr W308 (Or.inr (by omega))
            have K343 : Keep h0 T313.heap [] := K342.trans K313 (allS (Or.inr (by omega)) all0)
            subst hPP
            refine ⟨_, _, own_retA X313 hx Bd.returns rfl rfl (hb hby d_method_3_119) hr336, hrun336, hend336, _, _, rfl, ?_, ?_, hret336.1, hret336.2.1, hret336.2.2.1, hret336.2.2.2.mono (by decide) (by decide)⟩
            · show Q_make Z p1 p2 p3 p4 p5 p6 p7 p8 zc h0 _ T313.heap _
              exact ⟨b287, t313, ([p2, p3, p4, p5] : List Int32), rfl, N313, K343, fT313, (by unfold own_mk; rw [if_neg hc154, if_neg hc172, if_neg hc200, if_neg hc238, if_pos hc286])⟩
            · have hfin := R313.trans (CHv.at X313 hZ hEL R313.1)
              rw [← hh] at hfin
              show CHr Z consts_1 s.vm s.heap T313.vm T313.heap
              exact hfin
          ·
            refine own_Go.st (fun _ k => XS.icmpYes X0.here hx rfl (pc0 := 89) (pc' := 120) rfl (hb hby d_method_3_89) rfl (feq hc286).2 (by decide) (by decide) k) ?_
            show own_Go _ _ _ _ (s₁.setTop (mkF m 120 #[.val (.int p1), .val (.int p2), .val (.int p3), .val (.int p4), .val (.int p5), .val (.int p6), .val (.int p7), .val (.int p8)] []))
            refine own_Go.st (fun _ k => XS.iloadN X0.here hx rfl (hb hby d_method_3_120) rfl k) ?_
            show own_Go _ _ _ _ (s₁.setTop (mkF m 121 #[.val (.int p1), .val (.int p2), .val (.int p3), .val (.int p4), .val (.int p5), .val (.int p6), .val (.int p7), .val (.int p8)] [(.int p1)]))
            refine own_Go.st (fun _ k => XS.iconst X0.here hx rfl (hb hby d_method_3_121) k) ?_
            show own_Go _ _ _ _ (s₁.setTop (mkF m 122 #[.val (.int p1), .val (.int p2), .val (.int p3), .val (.int p4), .val (.int p5), .val (.int p6), .val (.int p7), .val (.int p8)] [(.int (5 : Int32)), (.int p1)]))
            by_cases hc344 : p1 = (5 : Int32)
            ·
              refine own_Go.st (fun _ k => XS.icmpNo X0.here hx rfl (hb hby d_method_3_122) rfl (teq hc344).2 k) ?_
              show own_Go _ _ _ _ (s₁.setTop (mkF m 125 #[.val (.int p1), .val (.int p2), .val (.int p3), .val (.int p4), .val (.int p5), .val (.int p6), .val (.int p7), .val (.int p8)] []))
              obtain ⟨T345, h345, X345, e345, E345, A345, D345, U345, st345⟩ := newO X0 hx hZ hown (hw _ (List.mem_of_getElem? (i := 8) rfl)) (hw _ (List.mem_of_getElem? (i := 9) rfl)) (hw _ (List.mem_of_getElem? (i := 10) rfl)) e0 (g := (mkF m 125 #[.val (.int p1), .val (.int p2), .val (.int p3), .val (.int p4), .val (.int p5), .val (.int p6), .val (.int p7), .val (.int p8)] [])) rfl (hb hby d_method_3_125) (by decide) (by decide)
              obtain ⟨b345, g345⟩ : ∃ z, z = h0.size := ⟨_, rfl⟩
              rw [← g345] at A345 D345 U345 st345
              refine own_Go.st st345 ?_
              have z345 : h0.size ≤ h345.size := E345.1
              have lt_b345 : @LT.lt Nat _ b345 h345.size := A345.lt
              have f346 : Fld Z h345 b345 "java/lang/String" "value" "[B" .null := D345 (Or.inr (hw _ (List.mem_of_getElem? (i := 24) rfl))) (ty := (.array .byte)) (by decide)
              have f347 : Fld Z h345 b345 "java/lang/String" "coder" "B" (.int (0 : Int32)) := D345 (Or.inr (hw _ (List.mem_of_getElem? (i := 25) rfl))) (ty := .byte) (by decide)
              have R345 : CHr Z consts_1 s.vm h0 s.vm h345 := R0.trans (CHr.ext E345 R0.1)
              have Sf345 : Safe Z consts_1 s.vm h345 b345 := (Safe.new (Nat.le_of_eq g345.symm)).ext E345 R0.1
              show own_Go _ _ _ _ (T345.setTop (mkF m 128 #[.val (.int p1), .val (.int p2), .val (.int p3), .val (.int p4), .val (.int p5), .val (.int p6), .val (.int p7), .val (.int p8)] [(.ref b345)]))
              refine own_Go.st (fun _ k => XS.dup X345.here hx rfl (hb hby d_method_3_128) rfl rfl k) ?_
              show own_Go _ _ _ _ (T345.setTop (mkF m 129 #[.val (.int p1), .val (.int p2), .val (.int p3), .val (.int p4), .val (.int p5), .val (.int p6), .val (.int p7), .val (.int p8)] [(.ref b345), (.ref b345)]))
              refine own_Go.st (fun _ k => XS.iconst X345.here hx rfl (hb hby d_method_3_129) k) ?_
              show own_Go _ _ _ _ (T345.setTop (mkF m 130 #[.val (.int p1), .val (.int p2), .val (.int p3), .val (.int p4), .val (.int p5), .val (.int p6), .val (.int p7), .val (.int p8)] [(.int (5 : Int32)), (.ref b345), (.ref b345)]))
              obtain ⟨T348, h348, k348, X348, e348, E348, A348, st348⟩ := newP X345 hx hZ (hw _ (List.mem_of_getElem? (i := 11) rfl)) e345 (g := (mkF m 130 #[.val (.int p1), .val (.int p2), .val (.int p3), .val (.int p4), .val (.int p5), .val (.int p6), .val (.int p7), .val (.int p8)] [(.int (5 : Int32)), (.ref b345), (.ref b345)])) rfl (hb hby d_method_3_130) rfl (by decide) (cap := 5) (by decide) (by decide) (by decide) (by decide)
              obtain ⟨b348, g348⟩ : ∃ z, z = h345.size := ⟨_, rfl⟩
              rw [← g348] at A348 st348
              refine own_Go.st st348 ?_
              have z348 : h345.size ≤ h348.size := E348.1
              have f349 : Arv Z h348 b348 k348 .char (5 : Int32) [(.int (0 : Int32)), (.int (0 : Int32)), (.int (0 : Int32)), (.int (0 : Int32)), (.int (0 : Int32))] (.int (0 : Int32)) := (Arv.new A348 (by decide)).pad (pad_rep [] (.int (0 : Int32)) 5)
              have lt_b348 : @LT.lt Nat _ b348 h348.size := f349.lt
              have R348 : CHr Z consts_1 s.vm h0 s.vm h348 := R345.trans (CHr.ext E348 R345.1)
              have Sf350 : Safe Z consts_1 s.vm h348 b345 := Safe.ext E348 R345.1 Sf345
              show own_Go _ _ _ _ (T348.setTop (mkF m 132 #[.val (.int p1), .val (.int p2), .val (.int p3), .val (.int p4), .val (.int p5), .val (.int p6), .val (.int p7), .val (.int p8)] [(.ref b348), (.ref b345), (.ref b345)]))
              refine own_Go.st (fun _ k => XS.dup X348.here hx rfl (hb hby d_method_3_132) rfl rfl k) ?_
              show own_Go _ _ _ _ (T348.setTop (mkF m 133 #[.val (.int p1), .val (.int p2), .val (.int p3), .val (.int p4), .val (.int p5), .val (.int p6), .val (.int p7), .val (.int p8)] [(.ref b348), (.ref b348), (.ref b345), (.ref b345)]))
              refine own_Go.st (fun _ k => XS.iconst X348.here hx rfl (hb hby d_method_3_133) k) ?_
              show own_Go _ _ _ _ (T348.setTop (mkF m 134 #[.val (.int p1), .val (.int p2), .val (.int p3), .val (.int p4), .val (.int p5), .val (.int p6), .val (.int p7), .val (.int p8)] [(.int (0 : Int32)), (.ref b348), (.ref b348), (.ref b345), (.ref b345)]))
              refine own_Go.st (fun _ k => XS.iloadN X348.here hx rfl (hb hby d_method_3_134) rfl k) ?_
              show own_Go _ _ _ _ (T348.setTop (mkF m 135 #[.val (.int p1), .val (.int p2), .val (.int p3), .val (.int p4), .val (.int p5), .val (.int p6), .val (.int p7), .val (.int p8)] [(.int p2), (.int (0 : Int32)), (.ref b348), (.ref b348), (.ref b345), (.ref b345)]))
              obtain ⟨c351, Ar351, q351, S351, Nn351, H351, G351⟩ := id f349
              have hin351 : ¬ ((0 : Int32) < 0 ∨ c351.slots.size ≤ ((0 : Int32)).toNatClampNeg) := inb_of S351 ⟨by decide, by decide⟩
              obtain ⟨T351, h351, X351, e351, W351, st351⟩ := stC X348 hx hZ e348 Ar351 (j := (0 : Int32)) hin351 (g := (mkF m 135 #[.val (.int p1), .val (.int p2), .val (.int p3), .val (.int p4), .val (.int p5), .val (.int p6), .val (.int p7), .val (.int p8)] [(.int p2), (.int (0 : Int32)), (.ref b348), (.ref b348), (.ref b345), (.ref b345)])) rfl rfl (hb hby d_method_3_135)
              refine own_Go.st st351 ?_
              have N351 := Fr.snoc X351 N0 (by omega)
              have Sf353 : Safe Z consts_1 s.vm h348 b348 := Safe.arv hZ.alike f349 (by decide)
              have z351 : h348.size ≤ h351.size := Nat.le_of_eq W351.size.symm
              have f352 := Arv.set Ar351 q351 S351 Nn351 H351 G351 (fits_nar_char _) W351 0 rfl (Nat.le_of_ble_eq_true rfl)
              rw [own_nar (own_up hp2)] at f352
              have f354 : Arv Z h351 b348 k348 .char (5 : Int32) [(.int p2), (.int (0 : Int32)), (.int (0 : Int32)), (.int (0 : Int32)), (.int (0 : Int32))] (.int (0 : Int32)) := f352
              have R351 : CHr Z consts_1 s.vm h0 s.vm h351 := R348.trans (CHr.wr W351 Sf353 R348.1)
              have Sf355 : Safe Z consts_1 s.vm h351 b345 := Safe.wr W351 Sf353 R348.1 Sf350
              show own_Go _ _ _ _ (T351.setTop (mkF m 136 #[.val (.int p1), .val (.int p2), .val (.int p3), .val (.int p4), .val (.int p5), .val (.int p6), .val (.int p7), .val (.int p8)] [(.ref b348), (.ref b345), (.ref b345)]))
              refine own_Go.st (fun _ k => XS.dup X351.here hx rfl (hb hby d_method_3_136) rfl rfl k) ?_
              show own_Go _ _ _ _ (T351.setTop (mkF m 137 #[.val (.int p1), .val (.int p2), .val (.int p3), .val (.int p4), .val (.int p5), .val (.int p6), .val (.int p7), .val (.int p8)] [(.ref b348), (.ref b348), (.ref b345), (.ref b345)]))
              refine own_Go.st (fun _ k => XS.iconst X351.here hx rfl (hb hby d_method_3_137) k) ?_
              show own_Go _ _ _ _ (T351.setTop (mkF m 138 #[.val (.int p1), .val (.int p2), .val (.int p3), .val (.int p4), .val (.int p5), .val (.int p6), .val (.int p7), .val (.int p8)] [(.int (1 : Int32)), (.ref b348), (.ref b348), (.ref b345), (.ref b345)]))
              refine own_Go.st (fun _ k => XS.iloadN X351.here hx rfl (hb hby d_method_3_138) rfl k) ?_
              show own_Go _ _ _ _ (T351.setTop (mkF m 139 #[.val (.int p1), .val (.int p2), .val (.int p3), .val (.int p4), .val (.int p5), .val (.int p6), .val (.int p7), .val (.int p8)] [(.int p3), (.int (1 : Int32)), (.ref b348), (.ref b348), (.ref b345), (.ref b345)]))
              obtain ⟨c356, Ar356, q356, S356, Nn356, H356, G356⟩ := id f354
              have hin356 : ¬ ((1 : Int32) < 0 ∨ c356.slots.size ≤ ((1 : Int32)).toNatClampNeg) := inb_of S356 ⟨by decide, by decide⟩
              obtain ⟨T356, h356, X356, e356, W356, st356⟩ := stC X351 hx hZ e351 Ar356 (j := (1 : Int32)) hin356 (g := (mkF m 139 #[.val (.int p1), .val (.int p2), .val (.int p3), .val (.int p4), .val (.int p5), .val (.int p6), .val (.int p7), .val (.int p8)] [(.int p3), (.int (1 : Int32)), (.ref b348), (.ref b348), (.ref b345), (.ref b345)])) rfl rfl (hb hby d_method_3_139)
              refine own_Go.st st356 ?_
              have N356 := Fr.snoc X356 N351 (by omega)
              have Sf358 : Safe Z consts_1 s.vm h351 b348 := Safe.arv hZ.alike f354 (by decide)
              have z356 : h351.size ≤ h356.size := Nat.le_of_eq W356.size.symm
              have f357 := Arv.set Ar356 q356 S356 Nn356 H356 G356 (fits_nar_char _) W356 1 rfl (Nat.le_of_ble_eq_true rfl)
              rw [own_nar (own_up hp3)] at f357
              have f359 : Arv Z h356 b348 k348 .char (5 : Int32) [(.int p2), (.int p3), (.int (0 : Int32)), (.int (0 : Int32)), (.int (0 : Int32))] (.int (0 : Int32)) := f357
              have R356 : CHr Z consts_1 s.vm h0 s.vm h356 := R351.trans (CHr.wr W356 Sf358 R351.1)
              have Sf360 : Safe Z consts_1 s.vm h356 b345 := Safe.wr W356 Sf358 R351.1 Sf355
              show own_Go _ _ _ _ (T356.setTop (mkF m 140 #[.val (.int p1), .val (.int p2), .val (.int p3), .val (.int p4), .val (.int p5), .val (.int p6), .val (.int p7), .val (.int p8)] [(.ref b348), (.ref b345), (.ref b345)]))
              refine own_Go.st (fun _ k => XS.dup X356.here hx rfl (hb hby d_method_3_140) rfl rfl k) ?_
              show own_Go _ _ _ _ (T356.setTop (mkF m 141 #[.val (.int p1), .val (.int p2), .val (.int p3), .val (.int p4), .val (.int p5), .val (.int p6), .val (.int p7), .val (.int p8)] [(.ref b348), (.ref b348), (.ref b345), (.ref b345)]))
              refine own_Go.st (fun _ k => XS.iconst X356.here hx rfl (hb hby d_method_3_141) k) ?_
              show own_Go _ _ _ _ (T356.setTop (mkF m 142 #[.val (.int p1), .val (.int p2), .val (.int p3), .val (.int p4), .val (.int p5), .val (.int p6), .val (.int p7), .val (.int p8)] [(.int (2 : Int32)), (.ref b348), (.ref b348), (.ref b345), (.ref b345)]))
              refine own_Go.st (fun _ k => XS.iloadN X356.here hx rfl (hb hby d_method_3_142) rfl k) ?_
              show own_Go _ _ _ _ (T356.setTop (mkF m 143 #[.val (.int p1), .val (.int p2), .val (.int p3), .val (.int p4), .val (.int p5), .val (.int p6), .val (.int p7), .val (.int p8)] [(.int p4), (.int (2 : Int32)), (.ref b348), (.ref b348), (.ref b345), (.ref b345)]))
              obtain ⟨c361, Ar361, q361, S361, Nn361, H361, G361⟩ := id f359
              have hin361 : ¬ ((2 : Int32) < 0 ∨ c361.slots.size ≤ ((2 : Int32)).toNatClampNeg) := inb_of S361 ⟨by decide, by decide⟩
              obtain ⟨T361, h361, X361, e361, W361, st361⟩ := stC X356 hx hZ e356 Ar361 (j := (2 : Int32)) hin361 (g := (mkF m 143 #[.val (.int p1), .val (.int p2), .val (.int p3), .val (.int p4), .val (.int p5), .val (.int p6), .val (.int p7), .val (.int p8)] [(.int p4), (.int (2 : Int32)), (.ref b348), (.ref b348), (.ref b345), (.ref b345)])) rfl rfl (hb hby d_method_3_143)
              refine own_Go.st st361 ?_
              have N361 := Fr.snoc X361 N356 (by omega)
              have Sf363 : Safe Z consts_1 s.vm h356 b348 := Safe.arv hZ.alike f359 (by decide)
              have z361 : h356.size ≤ h361.size := Nat.le_of_eq W361.size.symm
              have f362 := Arv.set Ar361 q361 S361 Nn361 H361 G361 (fits_nar_char _) W361 2 rfl (Nat.le_of_ble_eq_true rfl)
              rw [own_nar (own_up hp4)] at f362
              have f364 : Arv Z h361 b348 k348 .char (5 : Int32) [(.int p2), (.int p3), (.int p4), (.int (0 : Int32)), (.int (0 : Int32))] (.int (0 : Int32)) := f362
              have R361 : CHr Z consts_1 s.vm h0 s.vm h361 := R356.trans (CHr.wr W361 Sf363 R356.1)
              have Sf365 : Safe Z consts_1 s.vm h361 b345 := Safe.wr W361 Sf363 R356.1 Sf360
              show own_Go _ _ _ _ (T361.setTop (mkF m 144 #[.val (.int p1), .val (.int p2), .val (.int p3), .val (.int p4), .val (.int p5), .val (.int p6), .val (.int p7), .val (.int p8)] [(.ref b348), (.ref b345), (.ref b345)]))
              refine own_Go.st (fun _ k => XS.dup X361.here hx rfl (hb hby d_method_3_144) rfl rfl k) ?_
              show own_Go _ _ _ _ (T361.setTop (mkF m 145 #[.val (.int p1), .val (.int p2), .val (.int p3), .val (.int p4), .val (.int p5), .val (.int p6), .val (.int p7), .val (.int p8)] [(.ref b348), (.ref b348), (.ref b345), (.ref b345)]))
              refine own_Go.st (fun _ k => XS.iconst X361.here hx rfl (hb hby d_method_3_145) k) ?_
              show own_Go _ _ _ _ (T361.setTop (mkF m 146 #[.val (.int p1), .val (.int p2), .val (.int p3), .val (.int p4), .val (.int p5), .val (.int p6), .val (.int p7), .val (.int p8)] [(.int (3 : Int32)), (.ref b348), (.ref b348), (.ref b345), (.ref b345)]))
              refine own_Go.st (fun _ k => XS.iload X361.here hx rfl (hb hby d_method_3_146) rfl k) ?_
              show own_Go _ _ _ _ (T361.setTop (mkF m 148 #[.val (.int p1), .val (.int p2), .val (.int p3), .val (.int p4), .val (.int p5), .val (.int p6), .val (.int p7), .val (.int p8)] [(.int p5), (.int (3 : Int32)), (.ref b348), (.ref b348), (.ref b345), (.ref b345)]))
              obtain ⟨c366, Ar366, q366, S366, Nn366, H366, G366⟩ := id f364
              have hin366 : ¬ ((3 : Int32) < 0 ∨ c366.slots.size ≤ ((3 : Int32)).toNatClampNeg) := inb_of S366 ⟨by decide, by decide⟩
              obtain ⟨T366, h366, X366, e366, W366, st366⟩ := stC X361 hx hZ e361 Ar366 (j := (3 : Int32)) hin366 (g := (mkF m 148 #[.val (.int p1), .val (.int p2), .val (.int p3), .val (.int p4), .val (.int p5), .val (.int p6), .val (.int p7), .val (.int p8)] [(.int p5), (.int (3 : Int32)), (.ref b348), (.ref b348), (.ref b345), (.ref b345)])) rfl rfl (hb hby d_method_3_148)
              refine own_Go.st st366 ?_
              have N366 := Fr.snoc X366 N361 (by omega)
              have Sf368 : Safe Z consts_1 s.vm h361 b348 := Safe.arv hZ.alike f364 (by decide)
              have z366 : h361.size ≤ h366.size := Nat.le_of_eq W366.size.symm
              have f367 := Arv.set Ar366 q366 S366 Nn366 H366 G366 (fits_nar_char _) W366 3 rfl (Nat.le_of_ble_eq_true rfl)
              rw [own_nar (own_up hp5)] at f367
              have f369 : Arv Z h366 b348 k348 .char (5 : Int32) [(.int p2), (.int p3), (.int p4), (.int p5), (.int (0 : Int32))] (.int (0 : Int32)) := f367
              have R366 : CHr Z consts_1 s.vm h0 s.vm h366 := R361.trans (CHr.wr W366 Sf368 R361.1)
              have Sf370 : Safe Z consts_1 s.vm h366 b345 := Safe.wr W366 Sf368 R361.1 Sf365
              show own_Go _ _ _ _ (T366.setTop (mkF m 149 #[.val (.int p1), .val (.int p2), .val (.int p3), .val (.int p4), .val (.int p5), .val (.int p6), .val (.int p7), .val (.int p8)] [(.ref b348), (.ref b345), (.ref b345)]))
              refine own_Go.st (fun _ k => XS.dup X366.here hx rfl (hb hby d_method_3_149) rfl rfl k) ?_
              show own_Go _ _ _ _ (T366.setTop (mkF m 150 #[.val (.int p1), .val (.int p2), .val (.int p3), .val (.int p4), .val (.int p5), .val (.int p6), .val (.int p7), .val (.int p8)] [(.ref b348), (.ref b348), (.ref b345), (.ref b345)]))
              refine own_Go.st (fun _ k => XS.iconst X366.here hx rfl (hb hby d_method_3_150) k) ?_
              show own_Go _ _ _ _ (T366.setTop (mkF m 151 #[.val (.int p1), .val (.int p2), .val (.int p3), .val (.int p4), .val (.int p5), .val (.int p6), .val (.int p7), .val (.int p8)] [(.int (4 : Int32)), (.ref b348), (.ref b348), (.ref b345), (.ref b345)]))
              refine own_Go.st (fun _ k => XS.iload X366.here hx rfl (hb hby d_method_3_151) rfl k) ?_
              show own_Go _ _ _ _ (T366.setTop (mkF m 153 #[.val (.int p1), .val (.int p2), .val (.int p3), .val (.int p4), .val (.int p5), .val (.int p6), .val (.int p7), .val (.int p8)] [(.int p6), (.int (4 : Int32)), (.ref b348), (.ref b348), (.ref b345), (.ref b345)]))
              obtain ⟨c371, Ar371, q371, S371, Nn371, H371, G371⟩ := id f369
              have hin371 : ¬ ((4 : Int32) < 0 ∨ c371.slots.size ≤ ((4 : Int32)).toNatClampNeg) := inb_of S371 ⟨by decide, by decide⟩
              obtain ⟨T371, h371, X371, e371, W371, st371⟩ := stC X366 hx hZ e366 Ar371 (j := (4 : Int32)) hin371 (g := (mkF m 153 #[.val (.int p1), .val (.int p2), .val (.int p3), .val (.int p4), .val (.int p5), .val (.int p6), .val (.int p7), .val (.int p8)] [(.int p6), (.int (4 : Int32)), (.ref b348), (.ref b348), (.ref b345), (.ref b345)])) rfl rfl (hb hby d_method_3_153)
              refine own_Go.st st371 ?_
              have N371 := Fr.snoc X371 N366 (by omega)
              have Sf373 : Safe Z consts_1 s.vm h366 b348 := Safe.arv hZ.alike f369 (by decide)
              have z371 : h366.size ≤ h371.size := Nat.le_of_eq W371.size.symm
              have f372 := Arv.set Ar371 q371 S371 Nn371 H371 G371 (fits_nar_char _) W371 4 rfl (Nat.le_of_ble_eq_true rfl)
              rw [own_nar (own_up hp6)] at f372
              have f374 : Arv Z h371 b348 k348 .char (5 : Int32) [(.int p2), (.int p3), (.int p4), (.int p5), (.int p6)] (.int (0 : Int32)) := f372
              have R371 : CHr Z consts_1 s.vm h0 s.vm h371 := R366.trans (CHr.wr W371 Sf373 R366.1)
              have Sf375 : Safe Z consts_1 s.vm h371 b345 := Safe.wr W371 Sf373 R366.1 Sf370
              show own_Go _ _ _ _ (T371.setTop (mkF m 154 #[.val (.int p1), .val (.int p2), .val (.int p3), .val (.int p4), .val (.int p5), .val (.int p6), .val (.int p7), .val (.int p8)] [(.ref b348), (.ref b345), (.ref b345)]))
              have f377 : Exa Z h348 b345 "java/lang/String" := A345.ext E348
              have f378 : Exa Z h351 b345 "java/lang/String" := f377.wr W351
              have f379 : Exa Z h356 b345 "java/lang/String" := f378.wr W356
              have f380 : Exa Z h361 b345 "java/lang/String" := f379.wr W361
              have f381 : Exa Z h366 b345 "java/lang/String" := f380.wr W366
              have f382 : Exa Z h371 b345 "java/lang/String" := f381.wr W371
              have f383 : Fld Z h348 b345 "java/lang/String" "value" "[B" .null := f346.ext E348
              have f384 : Fld Z h351 b345 "java/lang/String" "value" "[B" .null := f383.other W351 (Or.inl (by show @Ne Nat b345 b348; omega))
              have f385 : Fld Z h356 b345 "java/lang/String" "value" "[B" .null := f384.other W356 (Or.inl (by show @Ne Nat b345 b348; omega))
              have f386 : Fld Z h361 b345 "java/lang/String" "value" "[B" .null := f385.other W361 (Or.inl (by show @Ne Nat b345 b348; omega))
              have f387 : Fld Z h366 b345 "java/lang/String" "value" "[B" .null := f386.other W366 (Or.inl (by show @Ne Nat b345 b348; omega))
              have f388 : Fld Z h371 b345 "java/lang/String" "value" "[B" .null := f387.other W371 (Or.inl (by show @Ne Nat b345 b348; omega))
              have f389 : Fld Z h348 b345 "java/lang/String" "coder" "B" (.int (0 : Int32)) := f347.ext E348
              have f390 : Fld Z h351 b345 "java/lang/String" "coder" "B" (.int (0 : Int32)) := f389.other W351 (Or.inl (by show @Ne Nat b345 b348; omega))
              have f391 : Fld Z h356 b345 "java/lang/String" "coder" "B" (.int (0 : Int32)) := f390.other W356 (Or.inl (by show @Ne Nat b345 b348; omega))
              have f392 : Fld Z h361 b345 "java/lang/String" "coder" "B" (.int (0 : Int32)) := f391.other W361 (Or.inl (by show @Ne Nat b345 b348; omega))
              have f393 : Fld Z h366 b345 "java/lang/String" "coder" "B" (.int (0 : Int32)) := f392.other W366 (Or.inl (by show @Ne Nat b345 b348; omega))
              have f394 : Fld Z h371 b345 "java/lang/String" "coder" "B" (.int (0 : Int32)) := f393.other W371 (Or.inl (by show @Ne Nat b345 b348; omega))
              have f395 : Old Z Z.heap.size h345 := OL.ext E345
              have f396 : Old Z Z.heap.size h348 := f395.ext E348
              have f397 : Old Z Z.heap.size h351 := f396.wr W351 (by omega)
              have f398 : Old Z Z.heap.size h356 := f397.wr W356 (by omega)
              have f399 : Old Z Z.heap.size h361 := f398.wr W361 (by omega)
              have f400 : Old Z Z.heap.size h366 := f399.wr W366 (by omega)
              have f401 : Old Z Z.heap.size h371 := f400.wr W371 (by omega)
              have hp376 : ∀ c ∈ ([p2, p3, p4, p5, p6] : List Int32), ¬ c < 0 ∧ ¬ (255 : Int32) < c := (own_aS hp2 (own_aS hp3 (own_aS hp4 (own_aS hp5 (own_aS hp6 own_a0)))))
              obtain ⟨_, _, ⟨T376, L376, k376, n376⟩, -, X376, ⟨Lc376, hQ376, l376, y376, z376⟩, st376⟩ := X371.specialBack hx (y := (⟨"java/lang/String", "<init>", "([C)V"⟩ : MethodName)) rfl hown (mvT hZ (hw _ (List.mem_of_getElem? (i := 12) rfl))) (mvT hZ (hw _ (List.mem_of_getElem? (i := 13) rfl))) (mvT hZ (hw _ (List.mem_of_getElem? (i := 14) rfl))) (by decide) (StrChars.Road.backV (W := 1) hZ (own_hws hw) (kI := 4) (hw _ (List.mem_of_getElem? (i := 9) rfl)) (cs := ([p2, p3, p4, p5, p6] : List Int32)) (bs := (([p2, p3, p4, p5, p6] : List Int32)).map (fun c => c.toInt8.toInt32)) (n := 5) (n0 := Z.heap.size) (by omega) (by omega) f382 f388 f394 f374 (st_COMPACT_STRINGS.ext f401.2) hzc rfl rfl (by decide) (by decide) hp376 rfl (by decide) (by decide)) (g := (mkF m 154 #[.val (.int p1), .val (.int p2), .val (.int p3), .val (.int p4), .val (.int p5), .val (.int p6), .val (.int p7), .val (.int p8)] [(.ref b348), (.ref b345), (.ref b345)])) rfl (by rw [hml]; rfl) (Steps.refl _) (a := b345) (argsL := [(.ref b348)]) (rest := [(.ref b345)]) (lenOf pd_80 rfl) rfl (by show 2 * 0 + _ ≤ _; exact Nat.le_of_eq rfl) (hb hby d_method_3_154) (fun _ _ => ⟨rfl, e371, (by decide : 2 + 1 ≤ _), (by decide : 9 + 5 ≤ _)⟩)
              dsimp only [Pt.U, Pt.locs, Pt.cells, Pt.slots] at X376 l376 y376 z376 st376 hQ376
              subst l376 y376 z376
              obtain ⟨rfl, N376q, K376, Ex376, Cd376, t376, kb376, u376, v376, w376, Vl376, Ar376⟩ := hQ376
              have N376 := Fr.app N371 N376q
              have z376 : h371.size ≤ T376.heap.size := K376.1
              have R376 : CHr Z consts_1 s.vm h0 s.vm T376.heap := R371.trans (CHr.keep K376 (sfS Sf375 sf0) R371.1)
              have Sf402 : Safe Z consts_1 s.vm T376.heap b345 := Safe.keep K376 (sfS Sf375 sf0) R371.1 Sf375
              have fT376 : own_Str Z T376.heap b345 t376 ([p2, p3, p4, p5, p6] : List Int32) := ⟨kb376, 0, (5 : Int32), _, Ex376, Vl376, Cd376, Ar376, StrChars.Road.codOf rfl (fun c q => (hp376 c q).2), own_upL hp376, (Nat.le_of_ble_eq_true rfl)⟩
              have lt376 : @LT.lt Nat _ t376 T376.heap.size := fT376.ltv
              refine own_Go.tr st376 ?_
              show own_Go _ _ _ _ (T376.setTop (mkF m 157 #[.val (.int p1), .val (.int p2), .val (.int p3), .val (.int p4), .val (.int p5), .val (.int p6), .val (.int p7), .val (.int p8)] [(.ref b345)]))
              obtain ⟨fs403, hr403, hrun403, hend403, hret403⟩ := X376.leaveW hS0 (by omega) (v := some (.ref b345)) (fun h => by rw [Bd.returns] at h; cases h)
              have K404 : Keep h0 h345 [] := (Keep.refl h0 []).ext E345
              have K405 : Keep h0 h348 [] := K404.ext E348
              have K406 : Keep h0 h351 [] := K405.wr W351 (Or.inr (by omega))
              have K407 : Keep h0 h356 [] := K406.wr W356 (Or.inr (by omega))
              have K408 : Keep h0 h361 [] := K407.wr W361 (Or.inr (by omega))
              have K409 : Keep h0 h366 [] := K408.wr W366 (Or.inr (by omega))
              have K410 : Keep h0 h371 [] := K409.wr W371 (Or.inr (by omega))
              have K411 : Keep h0 T376.heap [] := K410.trans K376 (allS (Or.inr (by omega)) all0)
              subst hPP
              refine ⟨_, _, own_retA X376 hx Bd.returns rfl rfl (hb hby d_method_3_157) hr403, hrun403, hend403, _, _, rfl, ?_, ?_, hret403.1, hret403.2.1, hret403.2.2.1, hret403.2.2.2.mono (by decide) (by decide)⟩
              · show Q_make Z p1 p2 p3 p4 p5 p6 p7 p8 zc h0 _ T376.heap _
                exact ⟨b345, t376, ([p2, p3, p4, p5, p6] : List Int32), rfl, N376, K411, fT376, (by unfold own_mk; rw [if_neg hc154, if_neg hc172, if_neg hc200, if_neg hc238, if_neg hc286, if_pos hc344])⟩
              · have hfin := R376.trans (CHv.at X376 hZ hEL R376.1)
                rw [← hh] at hfin
                show CHr Z consts_1 s.vm s.heap T376.vm T376.heap
                exact hfin
            ·
              refine own_Go.st (fun _ k => XS.icmpYes X0.here hx rfl (pc0 := 122) (pc' := 158) rfl (hb hby d_method_3_122) rfl (feq hc344).2 (by decide) (by decide) k) ?_
              show own_Go _ _ _ _ (s₁.setTop (mkF m 158 #[.val (.int p1), .val (.int p2), .val (.int p3), .val (.int p4), .val (.int p5), .val (.int p6), .val (.int p7), .val (.int p8)] []))
              refine own_Go.st (fun _ k => XS.iloadN X0.here hx rfl (hb hby d_method_3_158) rfl k) ?_
              show own_Go _ _ _ _ (s₁.setTop (mkF m 159 #[.val (.int p1), .val (.int p2), .val (.int p3), .val (.int p4), .val (.int p5), .val (.int p6), .val (.int p7), .val (.int p8)] [(.int p1)]))
              refine own_Go.st (fun _ k => XS.bipush X0.here hx rfl (hb hby d_method_3_159) k) ?_
              show own_Go _ _ _ _ (s₁.setTop (mkF m 161 #[.val (.int p1), .val (.int p2), .val (.int p3), .val (.int p4), .val (.int p5), .val (.int p6), .val (.int p7), .val (.int p8)] [(.int (6 : Int32)), (.int p1)]))
              by_cases hc412 : p1 = (6 : Int32)
              ·
                refine own_Go.st (fun _ k => XS.icmpNo X0.here hx rfl (hb hby d_method_3_161) rfl (teq hc412).2 k) ?_
                show own_Go _ _ _ _ (s₁.setTop (mkF m 164 #[.val (.int p1), .val (.int p2), .val (.int p3), .val (.int p4), .val (.int p5), .val (.int p6), .val (.int p7), .val (.int p8)] []))
                obtain ⟨T413, h413, X413, e413, E413, A413, D413, U413, st413⟩ := newO X0 hx hZ hown (hw _ (List.mem_of_getElem? (i := 8) rfl)) (hw _ (List.mem_of_getElem? (i := 9) rfl)) (hw _ (List.mem_of_getElem? (i := 10) rfl)) e0 (g := (mkF m 164 #[.val (.int p1), .val (.int p2), .val (.int p3), .val (.int p4), .val (.int p5), .val (.int p6), .val (.int p7), .val (.int p8)] [])) rfl (hb hby d_method_3_164) (by decide) (by decide)
                obtain ⟨b413, g413⟩ : ∃ z, z = h0.size := ⟨_, rfl⟩
                rw [← g413] at A413 D413 U413 st413
                refine own_Go.st st413 ?_
                have z413 : h0.size ≤ h413.size := E413.1
                have lt_b413 : @LT.lt Nat _ b413 h413.size := A413.lt
                have f414 : Fld Z h413 b413 "java/lang/String" "value" "[B" .null := D413 (Or.inr (hw _ (List.mem_of_getElem? (i := 24) rfl))) (ty := (.array .byte)) (by decide)
                have f415 : Fld Z h413 b413 "java/lang/String" "coder" "B" (.int (0 : Int32)) := D413 (Or.inr (hw _ (List.mem_of_getElem? (i := 25) rfl))) (ty := .byte) (by decide)
                have R413 : CHr Z consts_1 s.vm h0 s.vm h413 := R0.trans (CHr.ext E413 R0.1)
                have Sf413 : Safe Z consts_1 s.vm h413 b413 := (Safe.new (Nat.le_of_eq g413.symm)).ext E413 R0.1
                show own_Go _ _ _ _ (T413.setTop (mkF m 167 #[.val (.int p1), .val (.int p2), .val (.int p3), .val (.int p4), .val (.int p5), .val (.int p6), .val (.int p7), .val (.int p8)] [(.ref b413)]))
                refine own_Go.st (fun _ k => XS.dup X413.here hx rfl (hb hby d_method_3_167) rfl rfl k) ?_
                show own_Go _ _ _ _ (T413.setTop (mkF m 168 #[.val (.int p1), .val (.int p2), .val (.int p3), .val (.int p4), .val (.int p5), .val (.int p6), .val (.int p7), .val (.int p8)] [(.ref b413), (.ref b413)]))
                refine own_Go.st (fun _ k => XS.bipush X413.here hx rfl (hb hby d_method_3_168) k) ?_
                show own_Go _ _ _ _ (T413.setTop (mkF m 170 #[.val (.int p1), .val (.int p2), .val (.int p3), .val (.int p4), .val (.int p5), .val (.int p6), .val (.int p7), .val (.int p8)] [(.int (6 : Int32)), (.ref b413), (.ref b413)]))
                obtain ⟨T416, h416, k416, X416, e416, E416, A416, st416⟩ := newP X413 hx hZ (hw _ (List.mem_of_getElem? (i := 11) rfl)) e413 (g := (mkF m 170 #[.val (.int p1), .val (.int p2), .val (.int p3), .val (.int p4), .val (.int p5), .val (.int p6), .val (.int p7), .val (.int p8)] [(.int (6 : Int32)), (.ref b413), (.ref b413)])) rfl (hb hby d_method_3_170) rfl (by decide) (cap := 6) (by decide) (by decide) (by decide) (by decide)
                obtain ⟨b416, g416⟩ : ∃ z, z = h413.size := ⟨_, rfl⟩
                rw [← g416] at A416 st416
                refine own_Go.st st416 ?_
                have z416 : h413.size ≤ h416.size := E416.1
                have f417 : Arv Z h416 b416 k416 .char (6 : Int32) [(.int (0 : Int32)), (.int (0 : Int32)), (.int (0 : Int32)), (.int (0 : Int32)), (.int (0 : Int32)), (.int (0 : Int32))] (.int (0 : Int32)) := (Arv.new A416 (by decide)).pad (pad_rep [] (.int (0 : Int32)) 6)
                have lt_b416 : @LT.lt Nat _ b416 h416.size := f417.lt
                have R416 : CHr Z consts_1 s.vm h0 s.vm h416 := R413.trans (CHr.ext E416 R413.1)
                have Sf418 : Safe Z consts_1 s.vm h416 b413 := Safe.ext E416 R413.1 Sf413
                show own_Go _ _ _ _ (T416.setTop (mkF m 172 #[.val (.int p1), .val (.int p2), .val (.int p3), .val (.int p4), .val (.int p5), .val (.int p6), .val (.int p7), .val (.int p8)] [(.ref b416), (.ref b413), (.ref b413)]))
                refine own_Go.st (fun _ k => XS.dup X416.here hx rfl (hb hby d_method_3_172) rfl rfl k) ?_
                show own_Go _ _ _ _ (T416.setTop (mkF m 173 #[.val (.int p1), .val (.int p2), .val (.int p3), .val (.int p4), .val (.int p5), .val (.int p6), .val (.int p7), .val (.int p8)] [(.ref b416), (.ref b416), (.ref b413), (.ref b413)]))
                refine own_Go.st (fun _ k => XS.iconst X416.here hx rfl (hb hby d_method_3_173) k) ?_
                show own_Go _ _ _ _ (T416.setTop (mkF m 174 #[.val (.int p1), .val (.int p2), .val (.int p3), .val (.int p4), .val (.int p5), .val (.int p6), .val (.int p7), .val (.int p8)] [(.int (0 : Int32)), (.ref b416), (.ref b416), (.ref b413), (.ref b413)]))
                refine own_Go.st (fun _ k => XS.iloadN X416.here hx rfl (hb hby d_method_3_174) rfl k) ?_
                show own_Go _ _ _ _ (T416.setTop (mkF m 175 #[.val (.int p1), .val (.int p2), .val (.int p3), .val (.int p4), .val (.int p5), .val (.int p6), .val (.int p7), .val (.int p8)] [(.int p2), (.int (0 : Int32)), (.ref b416), (.ref b416), (.ref b413), (.ref b413)]))
                obtain ⟨c419, Ar419, q419, S419, Nn419, H419, G419⟩ := id f417
                have hin419 : ¬ ((0 : Int32) < 0 ∨ c419.slots.size ≤ ((0 : Int32)).toNatClampNeg) := inb_of S419 ⟨by decide, by decide⟩
                obtain ⟨T419, h419, X419, e419, W419, st419⟩ := stC X416 hx hZ e416 Ar419 (j := (0 : Int32)) hin419 (g := (mkF m 175 #[.val (.int p1), .val (.int p2), .val (.int p3), .val (.int p4), .val (.int p5), .val (.int p6), .val (.int p7), .val (.int p8)] [(.int p2), (.int (0 : Int32)), (.ref b416), (.ref b416), (.ref b413), (.ref b413)])) rfl rfl (hb hby d_method_3_175)
                refine own_Go.st st419 ?_
                have N419 := Fr.snoc X419 N0 (by omega)
                have Sf421 : Safe Z consts_1 s.vm h416 b416 := Safe.arv hZ.alike f417 (by decide)
                have z419 : h416.size ≤ h419.size := Nat.le_of_eq W419.size.symm
                have f420 := Arv.set Ar419 q419 S419 Nn419 H419 G419 (fits_nar_char _) W419 0 rfl (Nat.le_of_ble_eq_true rfl)
                rw [own_nar (own_up hp2)] at f420
                have f422 : Arv Z h419 b416 k416 .char (6 : Int32) [(.int p2), (.int (0 : Int32)), (.int (0 : Int32)), (.int (0 : Int32)), (.int (0 : Int32)), (.int (0 : Int32))] (.int (0 : Int32)) := f420
                have R419 : CHr Z consts_1 s.vm h0 s.vm h419 := R416.trans (CHr.wr W419 Sf421 R416.1)
                have Sf423 : Safe Z consts_1 s.vm h419 b413 := Safe.wr W419 Sf421 R416.1 Sf418
                show own_Go _ _ _ _ (T419.setTop (mkF m 176 #[.val (.int p1), .val (.int p2), .val (.int p3), .val (.int p4), .val (.int p5), .val (.int p6), .val (.int p7), .val (.int p8)] [(.ref b416), (.ref b413), (.ref b413)]))
                refine own_Go.st (fun _ k => XS.dup X419.here hx rfl (hb hby d_method_3_176) rfl rfl k) ?_
                show own_Go _ _ _ _ (T419.setTop (mkF m 177 #[.val (.int p1), .val (.int p2), .val (.int p3), .val (.int p4), .val (.int p5), .val (.int p6), .val (.int p7), .val (.int p8)] [(.ref b416), (.ref b416), (.ref b413), (.ref b413)]))
                refine own_Go.st (fun _ k => XS.iconst X419.here hx rfl (hb hby d_method_3_177) k) ?_
                show own_Go _ _ _ _ (T419.setTop (mkF m 178 #[.val (.int p1), .val (.int p2), .val (.int p3), .val (.int p4), .val (.int p5), .val (.int p6), .val (.int p7), .val (.int p8)] [(.int (1 : Int32)), (.ref b416), (.ref b416), (.ref b413), (.ref b413)]))
                refine own_Go.st (fun _ k => XS.iloadN X419.here hx rfl (hb hby d_method_3_178) rfl k) ?_
                show own_Go _ _ _ _ (T419.setTop (mkF m 179 #[.val (.int p1), .val (.int p2), .val (.int p3), .val (.int p4), .val (.int p5), .val (.int p6), .val (.int p7), .val (.int p8)] [(.int p3), (.int (1 : Int32)), (.ref b416), (.ref b416), (.ref b413), (.ref b413)]))
                obtain ⟨c424, Ar424, q424, S424, Nn424, H424, G424⟩ := id f422
                have hin424 : ¬ ((1 : Int32) < 0 ∨ c424.slots.size ≤ ((1 : Int32)).toNatClampNeg) := inb_of S424 ⟨by decide, by decide⟩
                obtain ⟨T424, h424, X424, e424, W424, st424⟩ := stC X419 hx hZ e419 Ar424 (j := (1 : Int32)) hin424 (g := (mkF m 179 #[.val (.int p1), .val (.int p2), .val (.int p3), .val (.int p4), .val (.int p5), .val (.int p6), .val (.int p7), .val (.int p8)] [(.int p3), (.int (1 : Int32)), (.ref b416), (.ref b416), (.ref b413), (.ref b413)])) rfl rfl (hb hby d_method_3_179)
                refine own_Go.st st424 ?_
                have N424 := Fr.snoc X424 N419 (by omega)
                have Sf426 : Safe Z consts_1 s.vm h419 b416 := Safe.arv hZ.alike f422 (by decide)
                have z424 : h419.size ≤ h424.size := Nat.le_of_eq W424.size.symm
                have f425 := Arv.set Ar424 q424 S424 Nn424 H424 G424 (fits_nar_char _) W424 1 rfl (Nat.le_of_ble_eq_true rfl)
                rw [own_nar (own_up hp3)] at f425
                have f427 : Arv Z h424 b416 k416 .char (6 : Int32) [(.int p2), (.int p3), (.int (0 : Int32)), (.int (0 : Int32)), (.int (0 : Int32)), (.int (0 : Int32))] (.int (0 : Int32)) := f425
                have R424 : CHr Z consts_1 s.vm h0 s.vm h424 := R419.trans (CHr.wr W424 Sf426 R419.1)
                have Sf428 : Safe Z consts_1 s.vm h424 b413 := Safe.wr W424 Sf426 R419.1 Sf423
                show own_Go _ _ _ _ (T424.setTop (mkF m 180 #[.val (.int p1), .val (.int p2), .val (.int p3), .val (.int p4), .val (.int p5), .val (.int p6), .val (.int p7), .val (.int p8)] [(.ref b416), (.ref b413), (.ref b413)]))
                refine own_Go.st (fun _ k => XS.dup X424.here hx rfl (hb hby d_method_3_180) rfl rfl k) ?_
                show own_Go _ _ _ _ (T424.setTop (mkF m 181 #[.val (.int p1), .val (.int p2), .val (.int p3), .val (.int p4), .val (.int p5), .val (.int p6), .val (.int p7), .val (.int p8)] [(.ref b416), (.ref b416), (.ref b413), (.ref b413)]))
                refine own_Go.st (fun _ k => XS.iconst X424.here hx rfl (hb hby d_method_3_181) k) ?_
                show own_Go _ _ _ _ (T424.setTop (mkF m 182 #[.val (.int p1), .val (.int p2), .val (.int p3), .val (.int p4), .val (.int p5), .val (.int p6), .val (.int p7), .val (.int p8)] [(.int (2 : Int32)), (.ref b416), (.ref b416), (.ref b413), (.ref b413)]))
                refine own_Go.st (fun _ k => XS.iloadN X424.here hx rfl (hb hby d_method_3_182) rfl k) ?_
                show own_Go _ _ _ _ (T424.setTop (mkF m 183 #[.val (.int p1), .val (.int p2), .val (.int p3), .val (.int p4), .val (.int p5), .val (.int p6), .val (.int p7), .val (.int p8)] [(.int p4), (.int (2 : Int32)), (.ref b416), (.ref b416), (.ref b413), (.ref b413)]))
                obtain ⟨c429, Ar429, q429, S429, Nn429, H429, G429⟩ := id f427
                have hin429 : ¬ ((2 : Int32) < 0 ∨ c429.slots.size ≤ ((2 : Int32)).toNatClampNeg) := inb_of S429 ⟨by decide, by decide⟩
                obtain ⟨T429, h429, X429, e429, W429, st429⟩ := stC X424 hx hZ e424 Ar429 (j := (2 : Int32)) hin429 (g := (mkF m 183 #[.val (.int p1), .val (.int p2), .val (.int p3), .val (.int p4), .val (.int p5), .val (.int p6), .val (.int p7), .val (.int p8)] [(.int p4), (.int (2 : Int32)), (.ref b416), (.ref b416), (.ref b413), (.ref b413)])) rfl rfl (hb hby d_method_3_183)
                refine own_Go.st st429 ?_
                have N429 := Fr.snoc X429 N424 (by omega)
                have Sf431 : Safe Z consts_1 s.vm h424 b416 := Safe.arv hZ.alike f427 (by decide)
                have z429 : h424.size ≤ h429.size := Nat.le_of_eq W429.size.symm
                have f430 := Arv.set Ar429 q429 S429 Nn429 H429 G429 (fits_nar_char _) W429 2 rfl (Nat.le_of_ble_eq_true rfl)
                rw [own_nar (own_up hp4)] at f430
                have f432 : Arv Z h429 b416 k416 .char (6 : Int32) [(.int p2), (.int p3), (.int p4), (.int (0 : Int32)), (.int (0 : Int32)), (.int (0 : Int32))] (.int (0 : Int32)) := f430
                have R429 : CHr Z consts_1 s.vm h0 s.vm h429 := R424.trans (CHr.wr W429 Sf431 R424.1)
                have Sf433 : Safe Z consts_1 s.vm h429 b413 := Safe.wr W429 Sf431 R424.1 Sf428
                show own_Go _ _ _ _ (T429.setTop (mkF m 184 #[.val (.int p1), .val (.int p2), .val (.int p3), .val (.int p4), .val (.int p5), .val (.int p6), .val (.int p7), .val (.int p8)] [(.ref b416), (.ref b413), (.ref b413)]))
                refine own_Go.st (fun _ k => XS.dup X429.here hx rfl (hb hby d_method_3_184) rfl rfl k) ?_
                show own_Go _ _ _ _ (T429.setTop (mkF m 185 #[.val (.int p1), .val (.int p2), .val (.int p3), .val (.int p4), .val (.int p5), .val (.int p6), .val (.int p7), .val (.int p8)] [(.ref b416), (.ref b416), (.ref b413), (.ref b413)]))
                refine own_Go.st (fun _ k => XS.iconst X429.here hx rfl (hb hby d_method_3_185) k) ?_
                show own_Go _ _ _ _ (T429.setTop (mkF m 186 #[.val (.int p1), .val (.int p2), .val (.int p3), .val (.int p4), .val (.int p5), .val (.int p6), .val (.int p7), .val (.int p8)] [(.int (3 : Int32)), (.ref b416), (.ref b416), (.ref b413), (.ref b413)]))
                refine own_Go.st (fun _ k => XS.iload X429.here hx rfl (hb hby d_method_3_186) rfl k) ?_
                show own_Go _ _ _ _ (T429.setTop (mkF m 188 #[.val (.int p1), .val (.int p2), .val (.int p3), .val (.int p4), .val (.int p5), .val (.int p6), .val (.int p7), .val (.int p8)] [(.int p5), (.int (3 : Int32)), (.ref b416), (.ref b416), (.ref b413), (.ref b413)]))
                obtain ⟨c434, Ar434, q434, S434, Nn434, H434, G434⟩ := id f432
                have hin434 : ¬ ((3 : Int32) < 0 ∨ c434.slots.size ≤ ((3 : Int32)).toNatClampNeg) := inb_of S434 ⟨by decide, by decide⟩
                obtain ⟨T434, h434, X434, e434, W434, st434⟩ := stC X429 hx hZ e429 Ar434 (j := (3 : Int32)) hin434 (g := (mkF m 188 #[.val (.int p1), .val (.int p2), .val (.int p3), .val (.int p4), .val (.int p5), .val (.int p6), .val (.int p7), .val (.int p8)] [(.int p5), (.int (3 : Int32)), (.ref b416), (.ref b416), (.ref b413), (.ref b413)])) rfl rfl (hb hby d_method_3_188)
                refine own_Go.st st434 ?_
                have N434 := Fr.snoc X434 N429 (by omega)
                have Sf436 : Safe Z consts_1 s.vm h429 b416 := Safe.arv hZ.alike f432 (by decide)
                have z434 : h429.size ≤ h434.size := Nat.le_of_eq W434.size.symm
                have f435 := Arv.set Ar434 q434 S434 Nn434 H434 G434 (fits_nar_char _) W434 3 rfl (Nat.le_of_ble_eq_true rfl)
                rw [own_nar (own_up hp5)] at f435
                have f437 : Arv Z h434 b416 k416 .char (6 : Int32) [(.int p2), (.int p3), (.int p4), (.int p5), (.int (0 : Int32)), (.int (0 : Int32))] (.int (0 : Int32)) := f435
                have R434 : CHr Z consts_1 s.vm h0 s.vm h434 := R429.trans (CHr.wr W434 Sf436 R429.1)
                have Sf438 : Safe Z consts_1 s.vm h434 b413 := Safe.wr W434 Sf436 R429.1 Sf433
                show own_Go _ _ _ _ (T434.setTop (mkF m 189 #[.val (.int p1), .val (.int p2), .val (.int p3), .val (.int p4), .val (.int p5), .val (.int p6), .val (.int p7), .val (.int p8)] [(.ref b416), (.ref b413), (.ref b413)]))
                refine own_Go.st (fun _ k => XS.dup X434.here hx rfl (hb hby d_method_3_189) rfl rfl k) ?_
                show own_Go _ _ _ _ (T434.setTop (mkF m 190 #[.val (.int p1), .val (.int p2), .val (.int p3), .val (.int p4), .val (.int p5), .val (.int p6), .val (.int p7), .val (.int p8)] [(.ref b416), (.ref b416), (.ref b413), (.ref b413)]))
                refine own_Go.st (fun _ k => XS.iconst X434.here hx rfl (hb hby d_method_3_190) k) ?_
                show own_Go _ _ _ _ (T434.setTop (mkF m 191 #[.val (.int p1), .val (.int p2), .val (.int p3), .val (.int p4), .val (.int p5), .val (.int p6), .val (.int p7), .val (.int p8)] [(.int (4 : Int32)), (.ref b416), (.ref b416), (.ref b413), (.ref b413)]))
                refine own_Go.st (fun _ k => XS.iload X434.here hx rfl (hb hby d_method_3_191) rfl k) ?_
                show own_Go _ _ _ _ (T434.setTop (mkF m 193 #[.val (.int p1), .val (.int p2), .val (.int p3), .val (.int p4), .val (.int p5), .val (.int p6), .val (.int p7), .val (.int p8)] [(.int p6), (.int (4 : Int32)), (.ref b416), (.ref b416), (.ref b413), (.ref b413)]))
                obtain ⟨c439, Ar439, q439, S439, Nn439, H439, G439⟩ := id f437
                have hin439 : ¬ ((4 : Int32) < 0 ∨ c439.slots.size ≤ ((4 : Int32)).toNatClampNeg) := inb_of S439 ⟨by decide, by decide⟩
                obtain ⟨T439, h439, X439, e439, W439, st439⟩ := stC X434 hx hZ e434 Ar439 (j := (4 : Int32)) hin439 (g := (mkF m 193 #[.val (.int p1), .val (.int p2), .val (.int p3), .val (.int p4), .val (.int p5), .val (.int p6), .val (.int p7), .val (.int p8)] [(.int p6), (.int (4 : Int32)), (.ref b416), (.ref b416), (.ref b413), (.ref b413)])) rfl rfl (hb hby d_method_3_193)
                refine own_Go.st st439 ?_
                have N439 := Fr.snoc X439 N434 (by omega)
                have Sf441 : Safe Z consts_1 s.vm h434 b416 := Safe.arv hZ.alike f437 (by decide)
                have z439 : h434.size ≤ h439.size := Nat.le_of_eq W439.size.symm
                have f440 := Arv.set Ar439 q439 S439 Nn439 H439 G439 (fits_nar_char _) W439 4 rfl (Nat.le_of_ble_eq_true rfl)
                rw [own_nar (own_up hp6)] at f440
                have f442 : Arv Z h439 b416 k416 .char (6 : Int32) [(.int p2), (.int p3), (.int p4), (.int p5), (.int p6), (.int (0 : Int32))] (.int (0 : Int32)) := f440
                have R439 : CHr Z consts_1 s.vm h0 s.vm h439 := R434.trans (CHr.wr W439 Sf441 R434.1)
                have Sf443 : Safe Z consts_1 s.vm h439 b413 := Safe.wr W439 Sf441 R434.1 Sf438
                show own_Go _ _ _ _ (T439.setTop (mkF m 194 #[.val (.int p1), .val (.int p2), .val (.int p3), .val (.int p4), .val (.int p5), .val (.int p6), .val (.int p7), .val (.int p8)] [(.ref b416), (.ref b413), (.ref b413)]))
                refine own_Go.st (fun _ k => XS.dup X439.here hx rfl (hb hby d_method_3_194) rfl rfl k) ?_
                show own_Go _ _ _ _ (T439.setTop (mkF m 195 #[.val (.int p1), .val (.int p2), .val (.int p3), .val (.int p4), .val (.int p5), .val (.int p6), .val (.int p7), .val (.int p8)] [(.ref b416), (.ref b416), (.ref b413), (.ref b413)]))
                refine own_Go.st (fun _ k => XS.iconst X439.here hx rfl (hb hby d_method_3_195) k) ?_
                show own_Go _ _ _ _ (T439.setTop (mkF m 196 #[.val (.int p1), .val (.int p2), .val (.int p3), .val (.int p4), .val (.int p5), .val (.int p6), .val (.int p7), .val (.int p8)] [(.int (5 : Int32)), (.ref b416), (.ref b416), (.ref b413), (.ref b413)]))
                refine own_Go.st (fun _ k => XS.iload X439.here hx rfl (hb hby d_method_3_196) rfl k) ?_
                show own_Go _ _ _ _ (T439.setTop (mkF m 198 #[.val (.int p1), .val (.int p2), .val (.int p3), .val (.int p4), .val (.int p5), .val (.int p6), .val (.int p7), .val (.int p8)] [(.int p7), (.int (5 : Int32)), (.ref b416), (.ref b416), (.ref b413), (.ref b413)]))
                obtain ⟨c444, Ar444, q444, S444, Nn444, H444, G444⟩ := id f442
                have hin444 : ¬ ((5 : Int32) < 0 ∨ c444.slots.size ≤ ((5 : Int32)).toNatClampNeg) := inb_of S444 ⟨by decide, by decide⟩
                obtain ⟨T444, h444, X444, e444, W444, st444⟩ := stC X439 hx hZ e439 Ar444 (j := (5 : Int32)) hin444 (g := (mkF m 198 #[.val (.int p1), .val (.int p2), .val (.int p3), .val (.int p4), .val (.int p5), .val (.int p6), .val (.int p7), .val (.int p8)] [(.int p7), (.int (5 : Int32)), (.ref b416), (.ref b416), (.ref b413), (.ref b413)])) rfl rfl (hb hby d_method_3_198)
                refine own_Go.st st444 ?_
                have N444 := Fr.snoc X444 N439 (by omega)
                have Sf446 : Safe Z consts_1 s.vm h439 b416 := Safe.arv hZ.alike f442 (by decide)
                have z444 : h439.size ≤ h444.size := Nat.le_of_eq W444.size.symm
                have f445 := Arv.set Ar444 q444 S444 Nn444 H444 G444 (fits_nar_char _) W444 5 rfl (Nat.le_of_ble_eq_true rfl)
                rw [own_nar (own_up hp7)] at f445
                have f447 : Arv Z h444 b416 k416 .char (6 : Int32) [(.int p2), (.int p3), (.int p4), (.int p5), (.int p6), (.int p7)] (.int (0 : Int32)) := f445
                have R444 : CHr Z consts_1 s.vm h0 s.vm h444 := R439.trans (CHr.wr W444 Sf446 R439.1)
                have Sf448 : Safe Z consts_1 s.vm h444 b413 := Safe.wr W444 Sf446 R439.1 Sf443
                show own_Go _ _ _ _ (T444.setTop (mkF m 199 #[.val (.int p1), .val (.int p2), .val (.int p3), .val (.int p4), .val (.int p5), .val (.int p6), .val (.int p7), .val (.int p8)] [(.ref b416), (.ref b413), (.ref b413)]))
                have f450 : Exa Z h416 b413 "java/lang/String" := A413.ext E416
                have f451 : Exa Z h419 b413 "java/lang/String" := f450.wr W419
                have f452 : Exa Z h424 b413 "java/lang/String" := f451.wr W424
                have f453 : Exa Z h429 b413 "java/lang/String" := f452.wr W429
                have f454 : Exa Z h434 b413 "java/lang/String" := f453.wr W434
                have f455 : Exa Z h439 b413 "java/lang/String" := f454.wr W439
                have f456 : Exa Z h444 b413 "java/lang/String" := f455.wr W444
                have f457 : Fld Z h416 b413 "java/lang/String" "value" "[B" .null := f414.ext E416
                have f458 : Fld Z h419 b413 "java/lang/String" "value" "[B" .null := f457.other W419 (Or.inl (by show @Ne Nat b413 b416; omega))
                have f459 : Fld Z h424 b413 "java/lang/String" "value" "[B" .null := f458.other W424 (Or.inl (by show @Ne Nat b413 b416; omega))
                have f460 : Fld Z h429 b413 "java/lang/String" "value" "[B" .null := f459.other W429 (Or.inl (by show @Ne Nat b413 b416; omega))
                have f461 : Fld Z h434 b413 "java/lang/String" "value" "[B" .null := f460.other W434 (Or.inl (by show @Ne Nat b413 b416; omega))
                have f462 : Fld Z h439 b413 "java/lang/String" "value" "[B" .null := f461.other W439 (Or.inl (by show @Ne Nat b413 b416; omega))
                have f463 : Fld Z h444 b413 "java/lang/String" "value" "[B" .null := f462.other W444 (Or.inl (by show @Ne Nat b413 b416; omega))
                have f464 : Fld Z h416 b413 "java/lang/String" "coder" "B" (.int (0 : Int32)) := f415.ext E416
                have f465 : Fld Z h419 b413 "java/lang/String" "coder" "B" (.int (0 : Int32)) := f464.other W419 (Or.inl (by show @Ne Nat b413 b416; omega))
                have f466 : Fld Z h424 b413 "java/lang/String" "coder" "B" (.int (0 : Int32)) := f465.other W424 (Or.inl (by show @Ne Nat b413 b416; omega))
                have f467 : Fld Z h429 b413 "java/lang/String" "coder" "B" (.int (0 : Int32)) := f466.other W429 (Or.inl (by show @Ne Nat b413 b416; omega))
                have f468 : Fld Z h434 b413 "java/lang/String" "coder" "B" (.int (0 : Int32)) := f467.other W434 (Or.inl (by show @Ne Nat b413 b416; omega))
                have f469 : Fld Z h439 b413 "java/lang/String" "coder" "B" (.int (0 : Int32)) := f468.other W439 (Or.inl (by show @Ne Nat b413 b416; omega))
                have f470 : Fld Z h444 b413 "java/lang/String" "coder" "B" (.int (0 : Int32)) := f469.other W444 (Or.inl (by show @Ne Nat b413 b416; omega))
                have f471 : Old Z Z.heap.size h413 := OL.ext E413
                have f472 : Old Z Z.heap.size h416 := f471.ext E416
                have f473 : Old Z Z.heap.size h419 := f472.wr W419 (by omega)
                have f474 : Old Z Z.heap.size h424 := f473.wr W424 (by omega)
                have f475 : Old Z Z.heap.size h429 := f474.wr W429 (by omega)
                have f476 : Old Z Z.heap.size h434 := f475.wr W434 (by omega)
                have f477 : Old Z Z.heap.size h439 := f476.wr W439 (by omega)
                have f478 : Old Z Z.heap.size h444 := f477.wr W444 (by omega)
                have hp449 : ∀ c ∈ ([p2, p3, p4, p5, p6, p7] : List Int32), ¬ c < 0 ∧ ¬ (255 : Int32) < c := (own_aS hp2 (own_aS hp3 (own_aS hp4 (own_aS hp5 (own_aS hp6 (own_aS hp7 own_a0))))))
                obtain ⟨_, _, ⟨T449, L449, k449, n449⟩, -, X449, ⟨Lc449, hQ449, l449, y449, z449⟩, st449⟩ := X444.specialBack hx (y := (⟨"java/lang/String", "<init>", "([C)V"⟩ : MethodName)) rfl hown (mvT hZ (hw _ (List.mem_of_getElem? (i := 12) rfl))) (mvT hZ (hw _ (List.mem_of_getElem? (i := 13) rfl))) (mvT hZ (hw _ (List.mem_of_getElem? (i := 14) rfl))) (by decide) (StrChars.Road.backV (W := 1) hZ (own_hws hw) (kI := 4) (hw _ (List.mem_of_getElem? (i := 9) rfl)) (cs := ([p2, p3, p4, p5, p6, p7] : List Int32)) (bs := (([p2, p3, p4, p5, p6, p7] : List Int32)).map (fun c => c.toInt8.toInt32)) (n := 6) (n0 := Z.heap.size) (by omega) (by omega) f456 f463 f470 f447 (st_COMPACT_STRINGS.ext f478.2) hzc rfl rfl (by decide) (by decide) hp449 rfl (by decide) (by decide)) (g := (mkF m 199 #[.val (.int p1), .val (.int p2), .val (.int p3), .val (.int p4), .val (.int p5), .val (.int p6), .val (.int p7), .val (.int p8)] [(.ref b416), (.ref b413), (.ref b413)])) rfl (by rw [hml]; rfl) (Steps.refl _) (a := b413) (argsL := [(.ref b416)]) (rest := [(.ref b413)]) (lenOf pd_80 rfl) rfl (by show 2 * 0 + _ ≤ _; exact Nat.le_of_eq rfl) (hb hby d_method_3_199) (fun _ _ => ⟨rfl, e444, (by decide : 2 + 1 ≤ _), (by decide : 10 + 6 ≤ _)⟩)
                dsimp only [Pt.U, Pt.locs, Pt.cells, Pt.slots] at X449 l449 y449 z449 st449 hQ449
                subst l449 y449 z449
                obtain ⟨rfl, N449q, K449, Ex449, Cd449, t449, kb449, u449, v449, w449, Vl449, Ar449⟩ := hQ449
                have N449 := Fr.app N444 N449q
                have z449 : h444.size ≤ T449.heap.size := K449.1
                have R449 : CHr Z consts_1 s.vm h0 s.vm T449.heap := R444.trans (CHr.keep K449 (sfS Sf448 sf0) R444.1)
                have Sf479 : Safe Z consts_1 s.vm T449.heap b413 := Safe.keep K449 (sfS Sf448 sf0) R444.1 Sf448
                have fT449 : own_Str Z T449.heap b413 t449 ([p2, p3, p4, p5, p6, p7] : List Int32) := ⟨kb449, 0, (6 : Int32), _, Ex449, Vl449, Cd449, Ar449, StrChars.Road.codOf rfl (fun c q => (hp449 c q).2), own_upL hp449, (Nat.le_of_ble_eq_true rfl)⟩
                have lt449 : @LT.lt Nat _ t449 T449.heap.size := fT449.ltv
                refine own_Go.tr st449 ?_
                show own_Go _ _ _ _ (T449.setTop (mkF m 202 #[.val (.int p1), .val (.int p2), .val (.int p3), .val (.int p4), .val (.int p5), .val (.int p6), .val (.int p7), .val (.int p8)] [(.ref b413)]))
                obtain ⟨fs480, hr480, hrun480, hend480, hret480⟩ := X449.leaveW hS0 (by omega) (v := some (.ref b413)) (fun h => by rw [Bd.returns] at h; cases h)
                have K481 : Keep h0 h413 [] := (Keep.refl h0 []).ext E413
                have K482 : Keep h0 h416 [] := K481.ext E416
                have K483 : Keep h0 h419 [] := K482.wr W419 (Or.inr (by omega))
                have K484 : Keep h0 h424 [] := K483.wr W424 (Or.inr (by omega))
                have K485 : Keep h0 h429 [] := K484.wr W429 (Or.inr (by omega))
                have K486 : Keep h0 h434 [] := K485.wr W434 (Or.inr (by omega))
                have K487 : Keep h0 h439 [] := K486.wr W439 (Or.inr (by omega))
                have K488 : Keep h0 h444 [] := K487.wr W444 (Or.inr (by omega))
                have K489 : Keep h0 T449.heap [] := K488.trans K449 (allS (Or.inr (by omega)) all0)
                subst hPP
                refine ⟨_, _, own_retA X449 hx Bd.returns rfl rfl (hb hby d_method_3_202) hr480, hrun480, hend480, _, _, rfl, ?_, ?_, hret480.1, hret480.2.1, hret480.2.2.1, hret480.2.2.2.mono (by decide) (by decide)⟩
                · show Q_make Z p1 p2 p3 p4 p5 p6 p7 p8 zc h0 _ T449.heap _
                  exact ⟨b413, t449, ([p2, p3, p4, p5, p6, p7] : List Int32), rfl, N449, K489, fT449, (by unfold own_mk; rw [if_neg hc154, if_neg hc172, if_neg hc200, if_neg hc238, if_neg hc286, if_neg hc344, if_pos hc412])⟩
                · have hfin := R449.trans (CHv.at X449 hZ hEL R449.1)
                  rw [← hh] at hfin
                  show CHr Z consts_1 s.vm s.heap T449.vm T449.heap
                  exact hfin
              ·
                refine own_Go.st (fun _ k => XS.icmpYes X0.here hx rfl (pc0 := 161) (pc' := 203) rfl (hb hby d_method_3_161) rfl (feq hc412).2 (by decide) (by decide) k) ?_
                show own_Go _ _ _ _ (s₁.setTop (mkF m 203 #[.val (.int p1), .val (.int p2), .val (.int p3), .val (.int p4), .val (.int p5), .val (.int p6), .val (.int p7), .val (.int p8)] []))
                obtain ⟨T490, h490, X490, e490, E490, A490, D490, U490, st490⟩ := newO X0 hx hZ hown (hw _ (List.mem_of_getElem? (i := 8) rfl)) (hw _ (List.mem_of_getElem? (i := 9) rfl)) (hw _ (List.mem_of_getElem? (i := 10) rfl)) e0 (g := (mkF m 203 #[.val (.int p1), .val (.int p2), .val (.int p3), .val (.int p4), .val (.int p5), .val (.int p6), .val (.int p7), .val (.int p8)] [])) rfl (hb hby d_method_3_203) (by decide) (by decide)
                obtain ⟨b490, g490⟩ : ∃ z, z = h0.size := ⟨_, rfl⟩
                rw [← g490] at A490 D490 U490 st490
                refine own_Go.st st490 ?_
                have z490 : h0.size ≤ h490.size := E490.1
                have lt_b490 : @LT.lt Nat _ b490 h490.size := A490.lt
                have f491 : Fld Z h490 b490 "java/lang/String" "value" "[B" .null := D490 (Or.inr (hw _ (List.mem_of_getElem? (i := 24) rfl))) (ty := (.array .byte)) (by decide)
                have f492 : Fld Z h490 b490 "java/lang/String" "coder" "B" (.int (0 : Int32)) := D490 (Or.inr (hw _ (List.mem_of_getElem? (i := 25) rfl))) (ty := .byte) (by decide)
                have R490 : CHr Z consts_1 s.vm h0 s.vm h490 := R0.trans (CHr.ext E490 R0.1)
                have Sf490 : Safe Z consts_1 s.vm h490 b490 := (Safe.new (Nat.le_of_eq g490.symm)).ext E490 R0.1
                show own_Go _ _ _ _ (T490.setTop (mkF m 206 #[.val (.int p1), .val (.int p2), .val (.int p3), .val (.int p4), .val (.int p5), .val (.int p6), .val (.int p7), .val (.int p8)] [(.ref b490)]))
                refine own_Go.st (fun _ k => XS.dup X490.here hx rfl (hb hby d_method_3_206) rfl rfl k) ?_
                show own_Go _ _ _ _ (T490.setTop (mkF m 207 #[.val (.int p1), .val (.int p2), .val (.int p3), .val (.int p4), .val (.int p5), .val (.int p6), .val (.int p7), .val (.int p8)] [(.ref b490), (.ref b490)]))
                refine own_Go.st (fun _ k => XS.bipush X490.here hx rfl (hb hby d_method_3_207) k) ?_
                show own_Go _ _ _ _ (T490.setTop (mkF m 209 #[.val (.int p1), .val (.int p2), .val (.int p3), .val (.int p4), .val (.int p5), .val (.int p6), .val (.int p7), .val (.int p8)] [(.int (7 : Int32)), (.ref b490), (.ref b490)]))
                obtain ⟨T493, h493, k493, X493, e493, E493, A493, st493⟩ := newP X490 hx hZ (hw _ (List.mem_of_getElem? (i := 11) rfl)) e490 (g := (mkF m 209 #[.val (.int p1), .val (.int p2), .val (.int p3), .val (.int p4), .val (.int p5), .val (.int p6), .val (.int p7), .val (.int p8)] [(.int (7 : Int32)), (.ref b490), (.ref b490)])) rfl (hb hby d_method_3_209) rfl (by decide) (cap := 7) (by decide) (by decide) (by decide) (by decide)
                obtain ⟨b493, g493⟩ : ∃ z, z = h490.size := ⟨_, rfl⟩
                rw [← g493] at A493 st493
                refine own_Go.st st493 ?_
                have z493 : h490.size ≤ h493.size := E493.1
                have f494 : Arv Z h493 b493 k493 .char (7 : Int32) [(.int (0 : Int32)), (.int (0 : Int32)), (.int (0 : Int32)), (.int (0 : Int32)), (.int (0 : Int32)), (.int (0 : Int32)), (.int (0 : Int32))] (.int (0 : Int32)) := (Arv.new A493 (by decide)).pad (pad_rep [] (.int (0 : Int32)) 7)
                have lt_b493 : @LT.lt Nat _ b493 h493.size := f494.lt
                have R493 : CHr Z consts_1 s.vm h0 s.vm h493 := R490.trans (CHr.ext E493 R490.1)
                have Sf495 : Safe Z consts_1 s.vm h493 b490 := Safe.ext E493 R490.1 Sf490
                show own_Go _ _ _ _ (T493.setTop (mkF m 211 #[.val (.int p1), .val (.int p2), .val (.int p3), .val (.int p4), .val (.int p5), .val (.int p6), .val (.int p7), .val (.int p8)] [(.ref b493), (.ref b490), (.ref b490)]))
                refine own_Go.st (fun _ k => XS.dup X493.here hx rfl (hb hby d_method_3_211) rfl rfl k) ?_
                show own_Go _ _ _ _ (T493.setTop (mkF m 212 #[.val (.int p1), .val (.int p2), .val (.int p3), .val (.int p4), .val (.int p5), .val (.int p6), .val (.int p7), .val (.int p8)] [(.ref b493), (.ref b493), (.ref b490), (.ref b490)]))
                refine own_Go.st (fun _ k => XS.iconst X493.here hx rfl (hb hby d_method_3_212) k) ?_
                show own_Go _ _ _ _ (T493.setTop (mkF m 213 #[.val (.int p1), .val (.int p2), .val (.int p3), .val (.int p4), .val (.int p5), .val (.int p6), .val (.int p7), .val (.int p8)] [(.int (0 : Int32)), (.ref b493), (.ref b493), (.ref b490), (.ref b490)]))
                refine own_Go.st (fun _ k => XS.iloadN X493.here hx rfl (hb hby d_method_3_213) rfl k) ?_
                show own_Go _ _ _ _ (T493.setTop (mkF m 214 #[.val (.int p1), .val (.int p2), .val (.int p3), .val (.int p4), .val (.int p5), .val (.int p6), .val (.int p7), .val (.int p8)] [(.int p2), (.int (0 : Int32)), (.ref b493), (.ref b493), (.ref b490), (.ref b490)]))
                obtain ⟨c496, Ar496, q496, S496, Nn496, H496, G496⟩ := id f494
                have hin496 : ¬ ((0 : Int32) < 0 ∨ c496.slots.size ≤ ((0 : Int32)).toNatClampNeg) := inb_of S496 ⟨by decide, by decide⟩
                obtain ⟨T496, h496, X496, e496, W496, st496⟩ := stC X493 hx hZ e493 Ar496 (j := (0 : Int32)) hin496 (g := (mkF m 214 #[.val (.int p1), .val (.int p2), .val (.int p3), .val (.int p4), .val (.int p5), .val (.int p6), .val (.int p7), .val (.int p8)] [(.int p2), (.int (0 : Int32)), (.ref b493), (.ref b493), (.ref b490), (.ref b490)])) rfl rfl (hb hby d_method_3_214)
                refine own_Go.st st496 ?_
                have N496 := Fr.snoc X496 N0 (by omega)
                have Sf498 : Safe Z consts_1 s.vm h493 b493 := Safe.arv hZ.alike f494 (by decide)
                have z496 : h493.size ≤ h496.size := Nat.le_of_eq W496.size.symm
                have f497 := Arv.set Ar496 q496 S496 Nn496 H496 G496 (fits_nar_char _) W496 0 rfl (Nat.le_of_ble_eq_true rfl)
                rw [own_nar (own_up hp2)] at f497
                have f499 : Arv Z h496 b493 k493 .char (7 : Int32) [(.int p2), (.int (0 : Int32)), (.int (0 : Int32)), (.int (0 : Int32)), (.int (0 : Int32)), (.int (0 : Int32)), (.int (0 : Int32))] (.int (0 : Int32)) := f497
                have R496 : CHr Z consts_1 s.vm h0 s.vm h496 := R493.trans (CHr.wr W496 Sf498 R493.1)
                have Sf500 : Safe Z consts_1 s.vm h496 b490 := Safe.wr W496 Sf498 R493.1 Sf495
                show own_Go _ _ _ _ (T496.setTop (mkF m 215 #[.val (.int p1), .val (.int p2), .val (.int p3), .val (.int p4), .val (.int p5), .val (.int p6), .val (.int p7), .val (.int p8)] [(.ref b493), (.ref b490), (.ref b490)]))
                refine own_Go.st (fun _ k => XS.dup X496.here hx rfl (hb hby d_method_3_215) rfl rfl k) ?_
                show own_Go _ _ _ _ (T496.setTop (mkF m 216 #[.val (.int p1), .val (.int p2), .val (.int p3), .val (.int p4), .val (.int p5), .val (.int p6), .val (.int p7), .val (.int p8)] [(.ref b493), (.ref b493), (.ref b490), (.ref b490)]))
                refine own_Go.st (fun _ k => XS.iconst X496.here hx rfl (hb hby d_method_3_216) k) ?_
                show own_Go _ _ _ _ (T496.setTop (mkF m 217 #[.val (.int p1), .val (.int p2), .val (.int p3), .val (.int p4), .val (.int p5), .val (.int p6), .val (.int p7), .val (.int p8)] [(.int (1 : Int32)), (.ref b493), (.ref b493), (.ref b490), (.ref b490)]))
                refine own_Go.st (fun _ k => XS.iloadN X496.here hx rfl (hb hby d_method_3_217) rfl k) ?_
                show own_Go _ _ _ _ (T496.setTop (mkF m 218 #[.val (.int p1), .val (.int p2), .val (.int p3), .val (.int p4), .val (.int p5), .val (.int p6), .val (.int p7), .val (.int p8)] [(.int p3), (.int (1 : Int32)), (.ref b493), (.ref b493), (.ref b490), (.ref b490)]))
                obtain ⟨c501, Ar501, q501, S501, Nn501, H501, G501⟩ := id f499
                have hin501 : ¬ ((1 : Int32) < 0 ∨ c501.slots.size ≤ ((1 : Int32)).toNatClampNeg) := inb_of S501 ⟨by decide, by decide⟩
                obtain ⟨T501, h501, X501, e501, W501, st501⟩ := stC X496 hx hZ e496 Ar501 (j := (1 : Int32)) hin501 (g := (mkF m 218 #[.val (.int p1), .val (.int p2), .val (.int p3), .val (.int p4), .val (.int p5), .val (.int p6), .val (.int p7), .val (.int p8)] [(.int p3), (.int (1 : Int32)), (.ref b493), (.ref b493), (.ref b490), (.ref b490)])) rfl rfl (hb hby d_method_3_218)
                refine own_Go.st st501 ?_
                have N501 := Fr.snoc X501 N496 (by omega)
                have Sf503 : Safe Z consts_1 s.vm h496 b493 := Safe.arv hZ.alike f499 (by decide)
                have z501 : h496.size ≤ h501.size := Nat.le_of_eq W501.size.symm
                have f502 := Arv.set Ar501 q501 S501 Nn501 H501 G501 (fits_nar_char _) W501 1 rfl (Nat.le_of_ble_eq_true rfl)
                rw [own_nar (own_up hp3)] at f502
                have f504 : Arv Z h501 b493 k493 .char (7 : Int32) [(.int p2), (.int p3), (.int (0 : Int32)), (.int (0 : Int32)), (.int (0 : Int32)), (.int (0 : Int32)), (.int (0 : Int32))] (.int (0 : Int32)) := f502
                have R501 : CHr Z consts_1 s.vm h0 s.vm h501 := R496.trans (CHr.wr W501 Sf503 R496.1)
                have Sf505 : Safe Z consts_1 s.vm h501 b490 := Safe.wr W501 Sf503 R496.1 Sf500
                show own_Go _ _ _ _ (T501.setTop (mkF m 219 #[.val (.int p1), .val (.int p2), .val (.int p3), .val (.int p4), .val (.int p5), .val (.int p6), .val (.int p7), .val (.int p8)] [(.ref b493), (.ref b490), (.ref b490)]))
                refine own_Go.st (fun _ k => XS.dup X501.here hx rfl (hb hby d_method_3_219) rfl rfl k) ?_
                show own_Go _ _ _ _ (T501.setTop (mkF m 220 #[.val (.int p1), .val (.int p2), .val (.int p3), .val (.int p4), .val (.int p5), .val (.int p6), .val (.int p7), .val (.int p8)] [(.ref b493), (.ref b493), (.ref b490), (.ref b490)]))
                refine own_Go.st (fun _ k => XS.iconst X501.here hx rfl (hb hby d_method_3_220) k) ?_
                show own_Go _ _ _ _ (T501.setTop (mkF m 221 #[.val (.int p1), .val (.int p2), .val (.int p3), .val (.int p4), .val (.int p5), .val (.int p6), .val (.int p7), .val (.int p8)] [(.int (2 : Int32)), (.ref b493), (.ref b493), (.ref b490), (.ref b490)]))
                refine own_Go.st (fun _ k => XS.iloadN X501.here hx rfl (hb hby d_method_3_221) rfl k) ?_
                show own_Go _ _ _ _ (T501.setTop (mkF m 222 #[.val (.int p1), .val (.int p2), .val (.int p3), .val (.int p4), .val (.int p5), .val (.int p6), .val (.int p7), .val (.int p8)] [(.int p4), (.int (2 : Int32)), (.ref b493), (.ref b493), (.ref b490), (.ref b490)]))
                obtain ⟨c506, Ar506, q506, S506, Nn506, H506, G506⟩ := id f504
                have hin506 : ¬ ((2 : Int32) < 0 ∨ c506.slots.size ≤ ((2 : Int32)).toNatClampNeg) := inb_of S506 ⟨by decide, by decide⟩
                obtain ⟨T506, h506, X506, e506, W506, st506⟩ := stC X501 hx hZ e501 Ar506 (j := (2 : Int32)) hin506 (g := (mkF m 222 #[.val (.int p1), .val (.int p2), .val (.int p3), .val (.int p4), .val (.int p5), .val (.int p6), .val (.int p7), .val (.int p8)] [(.int p4), (.int (2 : Int32)), (.ref b493), (.ref b493), (.ref b490), (.ref b490)])) rfl rfl (hb hby d_method_3_222)
                refine own_Go.st st506 ?_
                have N506 := Fr.snoc X506 N501 (by omega)
                have Sf508 : Safe Z consts_1 s.vm h501 b493 := Safe.arv hZ.alike f504 (by decide)
                have z506 : h501.size ≤ h506.size := Nat.le_of_eq W506.size.symm
                have f507 := Arv.set Ar506 q506 S506 Nn506 H506 G506 (fits_nar_char _) W506 2 rfl (Nat.le_of_ble_eq_true rfl)
                rw [own_nar (own_up hp4)] at f507
                have f509 : Arv Z h506 b493 k493 .char (7 : Int32) [(.int p2), (.int p3), (.int p4), (.int (0 : Int32)), (.int (0 : Int32)), (.int (0 : Int32)), (.int (0 : Int32))] (.int (0 : Int32)) := f507
                have R506 : CHr Z consts_1 s.vm h0 s.vm h506 := R501.trans (CHr.wr W506 Sf508 R501.1)
                have Sf510 : Safe Z consts_1 s.vm h506 b490 := Safe.wr W506 Sf508 R501.1 Sf505
                show own_Go _ _ _ _ (T506.setTop (mkF m 223 #[.val (.int p1), .val (.int p2), .val (.int p3), .val (.int p4), .val (.int p5), .val (.int p6), .val (.int p7), .val (.int p8)] [(.ref b493), (.ref b490), (.ref b490)]))
                refine own_Go.st (fun _ k => XS.dup X506.here hx rfl (hb hby d_method_3_223) rfl rfl k) ?_
                show own_Go _ _ _ _ (T506.setTop (mkF m 224 #[.val (.int p1), .val (.int p2), .val (.int p3), .val (.int p4), .val (.int p5), .val (.int p6), .val (.int p7), .val (.int p8)] [(.ref b493), (.ref b493), (.ref b490), (.ref b490)]))
                refine own_Go.st (fun _ k => XS.iconst X506.here hx rfl (hb hby d_method_3_224) k) ?_
                show own_Go _ _ _ _ (T506.setTop (mkF m 225 #[.val (.int p1), .val (.int p2), .val (.int p3), .val (.int p4), .val (.int p5), .val (.int p6), .val (.int p7), .val (.int p8)] [(.int (3 : Int32)), (.ref b493), (.ref b493), (.ref b490), (.ref b490)]))
                refine own_Go.st (fun _ k => XS.iload X506.here hx rfl (hb hby d_method_3_225) rfl k) ?_
                show own_Go _ _ _ _ (T506.setTop (mkF m 227 #[.val (.int p1), .val (.int p2), .val (.int p3), .val (.int p4), .val (.int p5), .val (.int p6), .val (.int p7), .val (.int p8)] [(.int p5), (.int (3 : Int32)), (.ref b493), (.ref b493), (.ref b490), (.ref b490)]))
                obtain ⟨c511, Ar511, q511, S511, Nn511, H511, G511⟩ := id f509
                have hin511 : ¬ ((3 : Int32) < 0 ∨ c511.slots.size ≤ ((3 : Int32)).toNatClampNeg) := inb_of S511 ⟨by decide, by decide⟩
                obtain ⟨T511, h511, X511, e511, W511, st511⟩ := stC X506 hx hZ e506 Ar511 (j := (3 : Int32)) hin511 (g := (mkF m 227 #[.val (.int p1), .val (.int p2), .val (.int p3), .val (.int p4), .val (.int p5), .val (.int p6), .val (.int p7), .val (.int p8)] [(.int p5), (.int (3 : Int32)), (.ref b493), (.ref b493), (.ref b490), (.ref b490)])) rfl rfl (hb hby d_method_3_227)
                refine own_Go.st st511 ?_
                have N511 := Fr.snoc X511 N506 (by omega)
                have Sf513 : Safe Z consts_1 s.vm h506 b493 := Safe.arv hZ.alike f509 (by decide)
                have z511 : h506.size ≤ h511.size := Nat.le_of_eq W511.size.symm
                have f512 := Arv.set Ar511 q511 S511 Nn511 H511 G511 (fits_nar_char _) W511 3 rfl (Nat.le_of_ble_eq_true rfl)
                rw [own_nar (own_up hp5)] at f512
                have f514 : Arv Z h511 b493 k493 .char (7 : Int32) [(.int p2), (.int p3), (.int p4), (.int p5), (.int (0 : Int32)), (.int (0 : Int32)), (.int (0 : Int32))] (.int (0 : Int32)) := f512
                have R511 : CHr Z consts_1 s.vm h0 s.vm h511 := R506.trans (CHr.wr W511 Sf513 R506.1)
                have Sf515 : Safe Z consts_1 s.vm h511 b490 := Safe.wr W511 Sf513 R506.1 Sf510
                show own_Go _ _ _ _ (T511.setTop (mkF m 228 #[.val (.int p1), .val (.int p2), .val (.int p3), .val (.int p4), .val (.int p5), .val (.int p6), .val (.int p7), .val (.int p8)] [(.ref b493), (.ref b490), (.ref b490)]))
                refine own_Go.st (fun _ k => XS.dup X511.here hx rfl (hb hby d_method_3_228) rfl rfl k) ?_
                show own_Go _ _ _ _ (T511.setTop (mkF m 229 #[.val (.int p1), .val (.int p2), .val (.int p3), .val (.int p4), .val (.int p5), .val (.int p6), .val (.int p7), .val (.int p8)] [(.ref b493), (.ref b493), (.ref b490), (.ref b490)]))
                refine own_Go.st (fun _ k => XS.iconst X511.here hx rfl (hb hby d_method_3_229) k) ?_
                show own_Go _ _ _ _ (T511.setTop (mkF m 230 #[.val (.int p1), .val (.int p2), .val (.int p3), .val (.int p4), .val (.int p5), .val (.int p6), .val (.int p7), .val (.int p8)] [(.int (4 : Int32)), (.ref b493), (.ref b493), (.ref b490), (.ref b490)]))
                refine own_Go.st (fun _ k => XS.iload X511.here hx rfl (hb hby d_method_3_230) rfl k) ?_
                show own_Go _ _ _ _ (T511.setTop (mkF m 232 #[.val (.int p1), .val (.int p2), .val (.int p3), .val (.int p4), .val (.int p5), .val (.int p6), .val (.int p7), .val (.int p8)] [(.int p6), (.int (4 : Int32)), (.ref b493), (.ref b493), (.ref b490), (.ref b490)]))
                obtain ⟨c516, Ar516, q516, S516, Nn516, H516, G516⟩ := id f514
                have hin516 : ¬ ((4 : Int32) < 0 ∨ c516.slots.size ≤ ((4 : Int32)).toNatClampNeg) := inb_of S516 ⟨by decide, by decide⟩
                obtain ⟨T516, h516, X516, e516, W516, st516⟩ := stC X511 hx hZ e511 Ar516 (j := (4 : Int32)) hin516 (g := (mkF m 232 #[.val (.int p1), .val (.int p2), .val (.int p3), .val (.int p4), .val (.int p5), .val (.int p6), .val (.int p7), .val (.int p8)] [(.int p6), (.int (4 : Int32)), (.ref b493), (.ref b493), (.ref b490), (.ref b490)])) rfl rfl (hb hby d_method_3_232)
                refine own_Go.st st516 ?_
                have N516 := Fr.snoc X516 N511 (by omega)
                have Sf518 : Safe Z consts_1 s.vm h511 b493 := Safe.arv hZ.alike f514 (by decide)
                have z516 : h511.size ≤ h516.size := Nat.le_of_eq W516.size.symm
                have f517 := Arv.set Ar516 q516 S516 Nn516 H516 G516 (fits_nar_char _) W516 4 rfl (Nat.le_of_ble_eq_true rfl)
                rw [own_nar (own_up hp6)] at f517
                have f519 : Arv Z h516 b493 k493 .char (7 : Int32) [(.int p2), (.int p3), (.int p4), (.int p5), (.int p6), (.int (0 : Int32)), (.int (0 : Int32))] (.int (0 : Int32)) := f517
                have R516 : CHr Z consts_1 s.vm h0 s.vm h516 := R511.trans (CHr.wr W516 Sf518 R511.1)
                have Sf520 : Safe Z consts_1 s.vm h516 b490 := Safe.wr W516 Sf518 R511.1 Sf515
                show own_Go _ _ _ _ (T516.setTop (mkF m 233 #[.val (.int p1), .val (.int p2), .val (.int p3), .val (.int p4), .val (.int p5), .val (.int p6), .val (.int p7), .val (.int p8)] [(.ref b493), (.ref b490), (.ref b490)]))
                refine own_Go.st (fun _ k => XS.dup X516.here hx rfl (hb hby d_method_3_233) rfl rfl k) ?_
                show own_Go _ _ _ _ (T516.setTop (mkF m 234 #[.val (.int p1), .val (.int p2), .val (.int p3), .val (.int p4), .val (.int p5), .val (.int p6), .val (.int p7), .val (.int p8)] [(.ref b493), (.ref b493), (.ref b490), (.ref b490)]))
                refine own_Go.st (fun _ k => XS.iconst X516.here hx rfl (hb hby d_method_3_234) k) ?_
                show own_Go _ _ _ _ (T516.setTop (mkF m 235 #[.val (.int p1), .val (.int p2), .val (.int p3), .val (.int p4), .val (.int p5), .val (.int p6), .val (.int p7), .val (.int p8)] [(.int (5 : Int32)), (.ref b493), (.ref b493), (.ref b490), (.ref b490)]))
                refine own_Go.st (fun _ k => XS.iload X516.here hx rfl (hb hby d_method_3_235) rfl k) ?_
                show own_Go _ _ _ _ (T516.setTop (mkF m 237 #[.val (.int p1), .val (.int p2), .val (.int p3), .val (.int p4), .val (.int p5), .val (.int p6), .val (.int p7), .val (.int p8)] [(.int p7), (.int (5 : Int32)), (.ref b493), (.ref b493), (.ref b490), (.ref b490)]))
                obtain ⟨c521, Ar521, q521, S521, Nn521, H521, G521⟩ := id f519
                have hin521 : ¬ ((5 : Int32) < 0 ∨ c521.slots.size ≤ ((5 : Int32)).toNatClampNeg) := inb_of S521 ⟨by decide, by decide⟩
                obtain ⟨T521, h521, X521, e521, W521, st521⟩ := stC X516 hx hZ e516 Ar521 (j := (5 : Int32)) hin521 (g := (mkF m 237 #[.val (.int p1), .val (.int p2), .val (.int p3), .val (.int p4), .val (.int p5), .val (.int p6), .val (.int p7), .val (.int p8)] [(.int p7), (.int (5 : Int32)), (.ref b493), (.ref b493), (.ref b490), (.ref b490)])) rfl rfl (hb hby d_method_3_237)
                refine own_Go.st st521 ?_
                have N521 := Fr.snoc X521 N516 (by omega)
                have Sf523 : Safe Z consts_1 s.vm h516 b493 := Safe.arv hZ.alike f519 (by decide)
                have z521 : h516.size ≤ h521.size := Nat.le_of_eq W521.size.symm
                have f522 := Arv.set Ar521 q521 S521 Nn521 H521 G521 (fits_nar_char _) W521 5 rfl (Nat.le_of_ble_eq_true rfl)
                rw [own_nar (own_up hp7)] at f522
                have f524 : Arv Z h521 b493 k493 .char (7 : Int32) [(.int p2), (.int p3), (.int p4), (.int p5), (.int p6), (.int p7), (.int (0 : Int32))] (.int (0 : Int32)) := f522
                have R521 : CHr Z consts_1 s.vm h0 s.vm h521 := R516.trans (CHr.wr W521 Sf523 R516.1)
                have Sf525 : Safe Z consts_1 s.vm h521 b490 := Safe.wr W521 Sf523 R516.1 Sf520
                show own_Go _ _ _ _ (T521.setTop (mkF m 238 #[.val (.int p1), .val (.int p2), .val (.int p3), .val (.int p4), .val (.int p5), .val (.int p6), .val (.int p7), .val (.int p8)] [(.ref b493), (.ref b490), (.ref b490)]))
                refine own_Go.st (fun _ k => XS.dup X521.here hx rfl (hb hby d_method_3_238) rfl rfl k) ?_
                show own_Go _ _ _ _ (T521.setTop (mkF m 239 #[.val (.int p1), .val (.int p2), .val (.int p3), .val (.int p4), .val (.int p5), .val (.int p6), .val (.int p7), .val (.int p8)] [(.ref b493), (.ref b493), (.ref b490), (.ref b490)]))
                refine own_Go.st (fun _ k => XS.bipush X521.here hx rfl (hb hby d_method_3_239) k) ?_
                show own_Go _ _ _ _ (T521.setTop (mkF m 241 #[.val (.int p1), .val (.int p2), .val (.int p3), .val (.int p4), .val (.int p5), .val (.int p6), .val (.int p7), .val (.int p8)] [(.int (6 : Int32)), (.ref b493), (.ref b493), (.ref b490), (.ref b490)]))
                refine own_Go.st (fun _ k => XS.iload X521.here hx rfl (hb hby d_method_3_241) rfl k) ?_
                show own_Go _ _ _ _ (T521.setTop (mkF m 243 #[.val (.int p1), .val (.int p2), .val (.int p3), .val (.int p4), .val (.int p5), .val (.int p6), .val (.int p7), .val (.int p8)] [(.int p8), (.int (6 : Int32)), (.ref b493), (.ref b493), (.ref b490), (.ref b490)]))
                obtain ⟨c526, Ar526, q526, S526, Nn526, H526, G526⟩ := id f524
                have hin526 : ¬ ((6 : Int32) < 0 ∨ c526.slots.size ≤ ((6 : Int32)).toNatClampNeg) := inb_of S526 ⟨by decide, by decide⟩
                obtain ⟨T526, h526, X526, e526, W526, st526⟩ := stC X521 hx hZ e521 Ar526 (j := (6 : Int32)) hin526 (g := (mkF m 243 #[.val (.int p1), .val (.int p2), .val (.int p3), .val (.int p4), .val (.int p5), .val (.int p6), .val (.int p7), .val (.int p8)] [(.int p8), (.int (6 : Int32)), (.ref b493), (.ref b493), (.ref b490), (.ref b490)])) rfl rfl (hb hby d_method_3_243)
                refine own_Go.st st526 ?_
                have N526 := Fr.snoc X526 N521 (by omega)
                have Sf528 : Safe Z consts_1 s.vm h521 b493 := Safe.arv hZ.alike f524 (by decide)
                have z526 : h521.size ≤ h526.size := Nat.le_of_eq W526.size.symm
                have f527 := Arv.set Ar526 q526 S526 Nn526 H526 G526 (fits_nar_char _) W526 6 rfl (Nat.le_of_ble_eq_true rfl)
                rw [own_nar (own_up hp8)] at f527
                have f529 : Arv Z h526 b493 k493 .char (7 : Int32) [(.int p2), (.int p3), (.int p4), (.int p5), (.int p6), (.int p7), (.int p8)] (.int (0 : Int32)) := f527
                have R526 : CHr Z consts_1 s.vm h0 s.vm h526 := R521.trans (CHr.wr W526 Sf528 R521.1)
                have Sf530 : Safe Z consts_1 s.vm h526 b490 := Safe.wr W526 Sf528 R521.1 Sf525
                show own_Go _ _ _ _ (T526.setTop (mkF m 244 #[.val (.int p1), .val (.int p2), .val (.int p3), .val (.int p4), .val (.int p5), .val (.int p6), .val (.int p7), .val (.int p8)] [(.ref b493), (.ref b490), (.ref b490)]))
                have f532 : Exa Z h493 b490 "java/lang/String" := A490.ext E493
                have f533 : Exa Z h496 b490 "java/lang/String" := f532.wr W496
                have f534 : Exa Z h501 b490 "java/lang/String" := f533.wr W501
                have f535 : Exa Z h506 b490 "java/lang/String" := f534.wr W506
                have f536 : Exa Z h511 b490 "java/lang/String" := f535.wr W511
                have f537 : Exa Z h516 b490 "java/lang/String" := f536.wr W516
                have f538 : Exa Z h521 b490 "java/lang/String" := f537.wr W521
                have f539 : Exa Z h526 b490 "java/lang/String" := f538.wr W526
                have f540 : Fld Z h493 b490 "java/lang/String" "value" "[B" .null := f491.ext E493
                have f541 : Fld Z h496 b490 "java/lang/String" "value" "[B" .null := f540.other W496 (Or.inl (by show @Ne Nat b490 b493; omega))
                have f542 : Fld Z h501 b490 "java/lang/String" "value" "[B" .null := f541.other W501 (Or.inl (by show @Ne Nat b490 b493; omega))
                have f543 : Fld Z h506 b490 "java/lang/String" "value" "[B" .null := f542.other W506 (Or.inl (by show @Ne Nat b490 b493; omega))
                have f544 : Fld Z h511 b490 "java/lang/String" "value" "[B" .null := f543.other W511 (Or.inl (by show @Ne Nat b490 b493; omega))
                have f545 : Fld Z h516 b490 "java/lang/String" "value" "[B" .null := f544.other W516 (Or.inl (by show @Ne Nat b490 b493; omega))
                have f546 : Fld Z h521 b490 "java/lang/String" "value" "[B" .null := f545.other W521 (Or.inl (by show @Ne Nat b490 b493; omega))
                have f547 : Fld Z h526 b490 "java/lang/String" "value" "[B" .null := f546.other W526 (Or.inl (by show @Ne Nat b490 b493; omega))
                have f548 : Fld Z h493 b490 "java/lang/String" "coder" "B" (.int (0 : Int32)) := f492.ext E493
                have f549 : Fld Z h496 b490 "java/lang/String" "coder" "B" (.int (0 : Int32)) := f548.other W496 (Or.inl (by show @Ne Nat b490 b493; omega))
                have f550 : Fld Z h501 b490 "java/lang/String" "coder" "B" (.int (0 : Int32)) := f549.other W501 (Or.inl (by show @Ne Nat b490 b493; omega))
                have f551 : Fld Z h506 b490 "java/lang/String" "coder" "B" (.int (0 : Int32)) := f550.other W506 (Or.inl (by show @Ne Nat b490 b493; omega))
                have f552 : Fld Z h511 b490 "java/lang/String" "coder" "B" (.int (0 : Int32)) := f551.other W511 (Or.inl (by show @Ne Nat b490 b493; omega))
                have f553 : Fld Z h516 b490 "java/lang/String" "coder" "B" (.int (0 : Int32)) := f552.other W516 (Or.inl (by show @Ne Nat b490 b493; omega))
                have f554 : Fld Z h521 b490 "java/lang/String" "coder" "B" (.int (0 : Int32)) := f553.other W521 (Or.inl (by show @Ne Nat b490 b493; omega))
                have f555 : Fld Z h526 b490 "java/lang/String" "coder" "B" (.int (0 : Int32)) := f554.other W526 (Or.inl (by show @Ne Nat b490 b493; omega))
                have f556 : Old Z Z.heap.size h490 := OL.ext E490
                have f557 : Old Z Z.heap.size h493 := f556.ext E493
                have f558 : Old Z Z.heap.size h496 := f557.wr W496 (by omega)
                have f559 : Old Z Z.heap.size h501 := f558.wr W501 (by omega)
                have f560 : Old Z Z.heap.size h506 := f559.wr W506 (by omega)
                have f561 : Old Z Z.heap.size h511 := f560.wr W511 (by omega)
                have f562 : Old Z Z.heap.size h516 := f561.wr W516 (by omega)
                have f563 : Old Z Z.heap.size h521 := f562.wr W521 (by omega)
                have f564 : Old Z Z.heap.size h526 := f563.wr W526 (by omega)
                have hp531 : ∀ c ∈ ([p2, p3, p4, p5, p6, p7, p8] : List Int32), ¬ c < 0 ∧ ¬ (255 : Int32) < c := (own_aS hp2 (own_aS hp3 (own_aS hp4 (own_aS hp5 (own_aS hp6 (own_aS hp7 (own_aS hp8 own_a0)))))))
                obtain ⟨_, _, ⟨T531, L531, k531, n531⟩, -, X531, ⟨Lc531, hQ531, l531, y531, z531⟩, st531⟩ := X526.specialBack hx (y := (⟨"java/lang/String", "<init>", "([C)V"⟩ : MethodName)) rfl hown (mvT hZ (hw _ (List.mem_of_getElem? (i := 12) rfl))) (mvT hZ (hw _ (List.mem_of_getElem? (i := 13) rfl))) (mvT hZ (hw _ (List.mem_of_getElem? (i := 14) rfl))) (by decide) (StrChars.Road.backV (W := 1) hZ (own_hws hw) (kI := 4) (hw _ (List.mem_of_getElem? (i := 9) rfl)) (cs := ([p2, p3, p4, p5, p6, p7, p8] : List Int32)) (bs := (([p2, p3, p4, p5, p6, p7, p8] : List Int32)).map (fun c => c.toInt8.toInt32)) (n := 7) (n0 := Z.heap.size) (by omega) (by omega) f539 f547 f555 f529 (st_COMPACT_STRINGS.ext f564.2) hzc rfl rfl (by decide) (by decide) hp531 rfl (by decide) (by decide)) (g := (mkF m 244 #[.val (.int p1), .val (.int p2), .val (.int p3), .val (.int p4), .val (.int p5), .val (.int p6), .val (.int p7), .val (.int p8)] [(.ref b493), (.ref b490), (.ref b490)])) rfl (by rw [hml]; rfl) (Steps.refl _) (a := b490) (argsL := [(.ref b493)]) (rest := [(.ref b490)]) (lenOf pd_80 rfl) rfl (by show 2 * 0 + _ ≤ _; exact Nat.le_of_eq rfl) (hb hby d_method_3_244) (fun _ _ => ⟨rfl, e526, (by decide : 2 + 1 ≤ _), (by decide : 11 + 7 ≤ _)⟩)
                dsimp only [Pt.U, Pt.locs, Pt.cells, Pt.slots] at X531 l531 y531 z531 st531 hQ531
                subst l531 y531 z531
                obtain ⟨rfl, N531q, K531, Ex531, Cd531, t531, kb531, u531, v531, w531, Vl531, Ar531⟩ := hQ531
                have N531 := Fr.app N526 N531q
                have z531 : h526.size ≤ T531.heap.size := K531.1
                have R531 : CHr Z consts_1 s.vm h0 s.vm T531.heap := R526.trans (CHr.keep K531 (sfS Sf530 sf0) R526.1)
                have Sf565 : Safe Z consts_1 s.vm T531.heap b490 := Safe.keep K531 (sfS Sf530 sf0) R526.1 Sf530
                have fT531 : own_Str Z T531.heap b490 t531 ([p2, p3, p4, p5, p6, p7, p8] : List Int32) := ⟨kb531, 0, (7 : Int32), _, Ex531, Vl531, Cd531, Ar531, StrChars.Road.codOf rfl (fun c q => (hp531 c q).2), own_upL hp531, (Nat.le_of_ble_eq_true rfl)⟩
                have lt531 : @LT.lt Nat _ t531 T531.heap.size := fT531.ltv
                refine own_Go.tr st531 ?_
                show own_Go _ _ _ _ (T531.setTop (mkF m 247 #[.val (.int p1), .val (.int p2), .val (.int p3), .val (.int p4), .val (.int p5), .val (.int p6), .val (.int p7), .val (.int p8)] [(.ref b490)]))
                obtain ⟨fs566, hr566, hrun566, hend566, hret566⟩ := X531.leaveW hS0 (by omega) (v := some (.ref b490)) (fun h => by rw [Bd.returns] at h; cases h)
                have K567 : Keep h0 h490 [] := (Keep.refl h0 []).ext E490
                have K568 : Keep h0 h493 [] := K567.ext E493
                have K569 : Keep h0 h496 [] := K568.wr W496 (Or.inr (by omega))
                have K570 : Keep h0 h501 [] := K569.wr W501 (Or.inr (by omega))
                have K571 : Keep h0 h506 [] := K570.wr W506 (Or.inr (by omega))
                have K572 : Keep h0 h511 [] := K571.wr W511 (Or.inr (by omega))
                have K573 : Keep h0 h516 [] := K572.wr W516 (Or.inr (by omega))
                have K574 : Keep h0 h521 [] := K573.wr W521 (Or.inr (by omega))
                have K575 : Keep h0 h526 [] := K574.wr W526 (Or.inr (by omega))
                have K576 : Keep h0 T531.heap [] := K575.trans K531 (allS (Or.inr (by omega)) all0)
                subst hPP
                refine ⟨_, _, own_retA X531 hx Bd.returns rfl rfl (hb hby d_method_3_247) hr566, hrun566, hend566, _, _, rfl, ?_, ?_, hret566.1, hret566.2.1, hret566.2.2.1, hret566.2.2.2.mono (by decide) (by decide)⟩
                · show Q_make Z p1 p2 p3 p4 p5 p6 p7 p8 zc h0 _ T531.heap _
                  exact ⟨b490, t531, ([p2, p3, p4, p5, p6, p7, p8] : List Int32), rfl, N531, K576, fT531, (by unfold own_mk; rw [if_neg hc154, if_neg hc172, if_neg hc200, if_neg hc238, if_neg hc286, if_neg hc344, if_neg hc412])⟩
                · have hfin := R531.trans (CHv.at X531 hZ hEL R531.1)
                  rw [← hh] at hfin
                  show CHr Z consts_1 s.vm s.heap T531.vm T531.heap
                  exact hfin

theorem own_one {r : Int32} {A : Prop} (h : (r = 1 ∧ A) ∨ (r = 0 ∧ ¬ A)) (q : ¬ (r = (0 : Int32))) : A := h.elim (fun a => a.2) (fun a => absurd a.1 q)
theorem own_zero {r : Int32} {A : Prop} (h : (r = 1 ∧ A) ∨ (r = 0 ∧ ¬ A)) (q : r = (0 : Int32)) : ¬ A := h.elim (fun a => by rw [a.1] at q; exact absurd q (by decide)) (fun a => a.2)

theorem pn_255 : plainName "com/example/net30/net30/http/Gzip" = true := by first | (simp [plainName, overriddenIn]; done) | decide +kernel
theorem ef_256 (m : MethodId) (x0 : Nat) : entryFrame m #[(.ref x0)] 1 = mkF m 0 #[.val (.ref x0)] [] := by first | (simp [entryFrame, mkF, argsToLocals, Value.category]; done) | rfl
theorem d_prog_2_method_2_0 : decode prog_2_method_2_code 0 = .ok (.aload_n 0, 1) := by decide +kernel
theorem d_prog_2_method_2_1 : decode prog_2_method_2_code 1 = .ok (.ldc 9, 2) := by decide +kernel
theorem pd_259 : parseMethodDescriptor "(Ljava/lang/Object;)Z" = some ⟨[(.object "java/lang/Object")], some .boolean⟩ := by decide +kernel
theorem d_prog_2_method_2_3 : decode prog_2_method_2_code 3 = .ok (.invokevirtual 11, 3) := by decide +kernel
theorem d_prog_2_method_2_6 : decode prog_2_method_2_code 6 = .ok (.ifCond .ne 12, 3) := by decide +kernel
theorem d_prog_2_method_2_9 : decode prog_2_method_2_code 9 = .ok (.aload_n 0, 1) := by decide +kernel
theorem d_prog_2_method_2_10 : decode prog_2_method_2_code 10 = .ok (.ldc 17, 2) := by decide +kernel
theorem d_prog_2_method_2_12 : decode prog_2_method_2_code 12 = .ok (.invokevirtual 11, 3) := by decide +kernel
theorem d_prog_2_method_2_15 : decode prog_2_method_2_code 15 = .ok (.ifCond .eq 7, 3) := by decide +kernel
theorem d_prog_2_method_2_22 : decode prog_2_method_2_code 22 = .ok (.iconst 0, 1) := by decide +kernel
theorem d_prog_2_method_2_23 : decode prog_2_method_2_code 23 = .ok (.ireturn, 1) := by decide +kernel
theorem d_prog_2_method_2_18 : decode prog_2_method_2_code 18 = .ok (.iconst 1, 1) := by decide +kernel
theorem d_prog_2_method_2_19 : decode prog_2_method_2_code 19 = .ok (.goto 4, 3) := by decide +kernel
def Q_names (Z : State) (a1 : Nat) (t : Nat) (cs : List Int32) (zc : Int32) (h0 : Heap) (v : Option Value) (h : Heap) (L : List Loc) : Prop := ∃ (r : Int32), v = some (.int r) ∧ Fr Z.heap.size L ∧ Keep h0 h [] ∧ ((r = 1 ∧ (cs = ([(103 : Int32), (122 : Int32), (105 : Int32), (112 : Int32)] : List Int32) ∨ cs = ([(120 : Int32), (45 : Int32), (103 : Int32), (122 : Int32), (105 : Int32), (112 : Int32)] : List Int32))) ∨ (r = 0 ∧ ¬ (cs = ([(103 : Int32), (122 : Int32), (105 : Int32), (112 : Int32)] : List Int32) ∨ cs = ([(120 : Int32), (45 : Int32), (103 : Int32), (122 : Int32), (105 : Int32), (112 : Int32)] : List Int32))))
set_option maxRecDepth 65536 in
set_option maxHeartbeats 40000000 in
theorem rm_names (l : Launch) (Z : State) (a0 : Array Value) (hw : ∀ d ∈ tables_1, d.before a0 Z = true) (ws : List Jvm.Cond) (a1 : Nat) (t : Nat) (cs : List Int32) (zc : Int32) (h0 : Heap) (hEL : EW Z a0 consts_1) (OL : Old Z Z.heap.size h0) (p0_ : own_Str Z h0 a1 t cs) (st_COMPACT_STRINGS : Sta Z Z.heap "java/lang/String" "COMPACT_STRINGS" "Z" (.int zc)) (hzc : ¬ zc = 0) :
    MetFree l (⟨"com/example/net30/net30/http/Gzip", "names", "(Ljava/lang/String;)Z"⟩ : MethodName) (head1 (Jvm.Cond.code (⟨"com/example/net30/net30/http/Gzip", "names", "(Ljava/lang/String;)Z"⟩ : MethodName) prog_2_method_2_code 1 (some .boolean) :: ws) ({ frames := 2, cells := 4, slots := 48, locals := 29 } : Room)) (fun a U => a = #[(.ref a1)] ∧ Z.Warmed39 U.vm ∧ U.heap = h0 ∧ CHv Z consts_1 U.vm h0) (fun _ _ _ _ _ => True) (fun _ U o U' => ∃ v L, o = .returned v ∧ Q_names Z a1 t cs zc h0 v U'.heap L ∧ CHr Z consts_1 U.vm U.heap U'.vm U'.heap ∧ ReturnedEndW U o U' L ({ frames := 2, cells := 4, slots := 48, locals := 29 } : Room).cells ({ frames := 2, cells := 4, slots := 48, locals := 29 } : Room).slots) := by
  refine MetFree.of_bodySF (plainFor_of_name pn_255) hisR ?_
  intro p e s m args below meth c s₁ Bd hml0 hP hK
  obtain ⟨rfl, hZ, hh, hC0⟩ := hP
  have hx := Bd.exec
  have hby := Bd.bytes
  have hml : c.maxLocals = 1 := hml0
  have hown : s.vm.findClass "com/example/net30/net30/http/Gzip" = some m.cls := findClass_of_methodNamed Bd.named
  have hnm := (name_of_methodNamed Bd.named Bd.method).1
  have X0 : Stand p l e ({ frames := 2, cells := 4, slots := 48, locals := 29 } : Room) (s.setVm s.vm) m #[(.ref a1)] below meth c s₁ [] 0 0 := Stand.of_body Bd
  have e0 : s₁.heap = h0 := by rw [← hh, Bd.state]; rfl
  have N0 := Fr.nil Z.heap.size
  have Z0 : Z.heap.size ≤ h0.size := OL.2.1
  have hS0 : s.Since s.vm h0.size := (State.WarmedH.refl s).since _
  have wS := own_wS hw
  have R0 : CHr Z consts_1 s.vm h0 s.vm h0 := CHr.refl hC0
  have lt_0 : @LT.lt Nat _ a1 h0.size := p0_.lt
  have ltv_0 : @LT.lt Nat _ t h0.size := p0_.ltv
  obtain ⟨PP, hPP⟩ : ∃ PP : Outcome → State → Prop, PP = (fun o tE => ∃ v L, o = .returned v ∧ Q_names Z a1 t cs zc h0 v tE.heap L ∧ CHr Z consts_1 s.vm s.heap tE.vm tE.heap ∧ ReturnedEndW s o tE L ({ frames := 2, cells := 4, slots := 48, locals := 29 } : Room).cells ({ frames := 2, cells := 4, slots := 48, locals := 29 } : Room).slots) := ⟨_, rfl⟩
  show own_Go p.tables e below (fun o tE => ∃ v L, o = .returned v ∧ Q_names Z a1 t cs zc h0 v tE.heap L ∧ CHr Z consts_1 s.vm s.heap tE.vm tE.heap ∧ ReturnedEndW s o tE L ({ frames := 2, cells := 4, slots := 48, locals := 29 } : Room).cells ({ frames := 2, cells := 4, slots := 48, locals := 29 } : Room).slots) (s₁.setTop (entryFrame m #[(.ref a1)] 1))
  rw [← hPP]
  refine own_Go.st (fun t k => castTop (ef_256 m a1) k) ?_
  show own_Go _ _ _ _ (s₁.setTop (mkF m 0 #[.val (.ref a1)] []))
  refine own_Go.st (fun _ k => XS.aloadN X0.here hx rfl (hb hby d_prog_2_method_2_0) rfl rfl k) ?_
  show own_Go _ _ _ _ (s₁.setTop (mkF m 1 #[.val (.ref a1)] [(.ref a1)]))
  obtain ⟨a577, T577, h577, kk577, t577, kb577, X577, e577, E577, hS577, hk577, hZ577, hown577, A577, C577, V577, B577, la577, lb577, ch577, Li577, sf577, st577⟩ := ldcCH X0 hx hZ hown (hw _ (List.mem_of_getElem? (i := 34) rfl)) wS e0 hS0 (by omega) hEL (by decide) R0.1 (vs := [(.int (103 : Int32)), (.int (122 : Int32)), (.int (105 : Int32)), (.int (112 : Int32))]) (z := (4 : Int32)) (by decide) (by decide) (by decide) (g := (mkF m 1 #[.val (.ref a1)] [(.ref a1)])) rfl (hb hby d_prog_2_method_2_1) (n := 16) (by decide) (by decide) (by decide) (by decide)
  refine own_Go.st st577 ?_
  have z577 : h0.size ≤ h577.size := E577.1
  have la577' : @LT.lt Nat _ a577 h577.size := la577
  have lb577' : @LT.lt Nat _ t577 h577.size := lb577
  have R577 : CHr Z consts_1 s.vm h0 T577.vm h577 := R0.trans ch577
  have fT577 : own_Str Z h577 a577 t577 ([(103 : Int32), (122 : Int32), (105 : Int32), (112 : Int32)] : List Int32) := ⟨kb577, 0, (4 : Int32), [(.int (103 : Int32)), (.int (122 : Int32)), (.int (105 : Int32)), (.int (112 : Int32))], A577, V577, C577, B577, Or.inl ⟨rfl, rfl, rfl, (by decide)⟩, (by decide), (by decide)⟩
  show own_Go _ _ _ _ (T577.setTop (mkF m 3 #[.val (.ref a1)] [(.ref a577), (.ref a1)]))
  have f579 : own_Str Z h577 a1 t cs := p0_.ext E577
  obtain ⟨kb580, cd580, N580_, vs580, s1580, s2580, s3580, s4580, s5580, s6580, s7580⟩ := id f579
  obtain ⟨kb581, cd581, N581_, vs581, s1581, s2581, s3581, s4581, s5581, s6581, s7581⟩ := id fT577
  have f582 : Old Z Z.heap.size h577 := OL.ext E577
  obtain ⟨cq578, kq578, q578a, q578b, q578c⟩ := isOf hZ577 e577 f579.exa
  obtain ⟨_, _, ⟨T578, L578, k578, n578⟩, -, X578, ⟨Lc578, hQ578, l578, y578, z578⟩, st578⟩ := X577.virtualBack hx (y := (⟨"java/lang/String", "equals", "(Ljava/lang/Object;)Z"⟩ : MethodName)) (z := (⟨"java/lang/String", "equals", "(Ljava/lang/Object;)Z"⟩ : MethodName)) hown577 (mvT hZ577 (hw _ (List.mem_of_getElem? (i := 35) rfl))) (mvT hZ577 (hw _ (List.mem_of_getElem? (i := 36) rfl))) (notFace_of_selects (args := #[]) (mvT hZ577 (hw _ (List.mem_of_getElem? (i := 38) rfl)))) (mvT hZ577 (hw _ (List.mem_of_getElem? (i := 38) rfl))) (mvT hZ577 (hw _ (List.mem_of_getElem? (i := 37) rfl))) (by decide) (StrChars.Road.eqW (W := 0) hZ577 (own_heq hw) (kI := 4) (hw _ (List.mem_of_getElem? (i := 9) rfl)) s1580 s2580 s3580 s4580 s5580 s6580 s7580 s1581 s2581 s3581 s4581 s5581 s6581 s7581 (st_COMPACT_STRINGS.ext f582.2) hzc (by decide) (by decide)) q578a q578c (g := (mkF m 3 #[.val (.ref a1)] [(.ref a577), (.ref a1)])) rfl (by rw [hml]; rfl) (Steps.refl _) (argsL := [(.ref a577)]) (rest := []) (lenOf pd_259 rfl) rfl (by show 2 * 0 + _ ≤ _; exact Nat.le_of_eq rfl) (hb hby d_prog_2_method_2_3) (fun _ _ => ⟨rfl, e577, (by decide : 2 + 0 ≤ _), (by decide : 20 + 0 ≤ _)⟩)
  dsimp only [Pt.U, Pt.locs, Pt.cells, Pt.slots] at X578 l578 y578 z578 st578 hQ578
  subst l578 y578 z578
  obtain ⟨hv578, rfl, K578⟩ := hQ578
  obtain ⟨r578, rfl, he578⟩ := own_eqv hv578
  have N578 := Fr.app N0 (Fr.nil Z.heap.size)
  refine own_Go.tr st578 ?_
  show own_Go _ _ _ _ (T578.setTop (mkF m 6 #[.val (.ref a1)] [(.int r578)]))
  by_cases hc583 : r578 = (0 : Int32)
  ·
    refine own_Go.st (fun _ k => XS.ifNo X578.here hx rfl (hb hby d_prog_2_method_2_6) rfl ((if0 _ _).trans (teq hc583).2) k) ?_
    show own_Go _ _ _ _ (T578.setTop (mkF m 9 #[.val (.ref a1)] []))
    refine own_Go.st (fun _ k => XS.aloadN X578.here hx rfl (hb hby d_prog_2_method_2_9) rfl rfl k) ?_
    show own_Go _ _ _ _ (T578.setTop (mkF m 10 #[.val (.ref a1)] [(.ref a1)]))
    obtain ⟨a584, T584, h584, kk584, t584, kb584, X584, e584, E584, hS584, hk584, hZ584, hown584, A584, C584, V584, B584, la584, lb584, ch584, Li584, sf584, st584⟩ := ldcCH X578 hx hZ577 hown577 (hw _ (List.mem_of_getElem? (i := 46) rfl)) wS K578 hS577 (by omega) hEL (by decide) R577.1 (vs := [(.int (120 : Int32)), (.int (45 : Int32)), (.int (103 : Int32)), (.int (122 : Int32)), (.int (105 : Int32)), (.int (112 : Int32))]) (z := (6 : Int32)) (by decide) (by decide) (by decide) (g := (mkF m 10 #[.val (.ref a1)] [(.ref a1)])) rfl (hb hby d_prog_2_method_2_10) (n := 24) (by decide) (by decide) (by decide) (by decide)
    refine own_Go.st st584 ?_
    have z584 : h577.size ≤ h584.size := E584.1
    have la584' : @LT.lt Nat _ a584 h584.size := la584
    have lb584' : @LT.lt Nat _ t584 h584.size := lb584
    have R584 : CHr Z consts_1 s.vm h0 T584.vm h584 := R577.trans ch584
    have fT584 : own_Str Z h584 a584 t584 ([(120 : Int32), (45 : Int32), (103 : Int32), (122 : Int32), (105 : Int32), (112 : Int32)] : List Int32) := ⟨kb584, 0, (6 : Int32), [(.int (120 : Int32)), (.int (45 : Int32)), (.int (103 : Int32)), (.int (122 : Int32)), (.int (105 : Int32)), (.int (112 : Int32))], A584, V584, C584, B584, Or.inl ⟨rfl, rfl, rfl, (by decide)⟩, (by decide), (by decide)⟩
    show own_Go _ _ _ _ (T584.setTop (mkF m 12 #[.val (.ref a1)] [(.ref a584), (.ref a1)]))
    have f586 : own_Str Z h584 a1 t cs := f579.ext E584
    obtain ⟨kb587, cd587, N587_, vs587, s1587, s2587, s3587, s4587, s5587, s6587, s7587⟩ := id f586
    obtain ⟨kb588, cd588, N588_, vs588, s1588, s2588, s3588, s4588, s5588, s6588, s7588⟩ := id fT584
    have f589 : Old Z Z.heap.size h584 := f582.ext E584
    obtain ⟨cq585, kq585, q585a, q585b, q585c⟩ := isOf hZ584 e584 f586.exa
    obtain ⟨_, _, ⟨T585, L585, k585, n585⟩, -, X585, ⟨Lc585, hQ585, l585, y585, z585⟩, st585⟩ := X584.virtualBack hx (y := (⟨"java/lang/String", "equals", "(Ljava/lang/Object;)Z"⟩ : MethodName)) (z := (⟨"java/lang/String", "equals", "(Ljava/lang/Object;)Z"⟩ : MethodName)) hown584 (mvT hZ584 (hw _ (List.mem_of_getElem? (i := 35) rfl))) (mvT hZ584 (hw _ (List.mem_of_getElem? (i := 36) rfl))) (notFace_of_selects (args := #[]) (mvT hZ584 (hw _ (List.mem_of_getElem? (i := 38) rfl)))) (mvT hZ584 (hw _ (List.mem_of_getElem? (i := 38) rfl))) (mvT hZ584 (hw _ (List.mem_of_getElem? (i := 37) rfl))) (by decide) (StrChars.Road.eqW (W := 0) hZ584 (own_heq hw) (kI := 4) (hw _ (List.mem_of_getElem? (i := 9) rfl)) s1587 s2587 s3587 s4587 s5587 s6587 s7587 s1588 s2588 s3588 s4588 s5588 s6588 s7588 (st_COMPACT_STRINGS.ext f589.2) hzc (by decide) (by decide)) q585a q585c (g := (mkF m 12 #[.val (.ref a1)] [(.ref a584), (.ref a1)])) rfl (by rw [hml]; rfl) (Steps.refl _) (argsL := [(.ref a584)]) (rest := []) (lenOf pd_259 rfl) rfl (by show 2 * 0 + _ ≤ _; exact Nat.le_of_eq rfl) (hb hby d_prog_2_method_2_12) (fun _ _ => ⟨rfl, e584, (by decide : 4 + 0 ≤ _), (by decide : 48 + 0 ≤ _)⟩)
    dsimp only [Pt.U, Pt.locs, Pt.cells, Pt.slots] at X585 l585 y585 z585 st585 hQ585
    subst l585 y585 z585
    obtain ⟨hv585, rfl, K585⟩ := hQ585
    obtain ⟨r585, rfl, he585⟩ := own_eqv hv585
    have N585 := Fr.app N578 (Fr.nil Z.heap.size)
    refine own_Go.tr st585 ?_
    show own_Go _ _ _ _ (T585.setTop (mkF m 15 #[.val (.ref a1)] [(.int r585)]))
    by_cases hc590 : r585 = (0 : Int32)
    ·
      refine own_Go.st (fun _ k => XS.ifYes X585.here hx rfl (pc0 := 15) (pc' := 22) rfl (hb hby d_prog_2_method_2_15) rfl ((if0 _ _).trans (teq hc590).1) (by decide) (by decide) k) ?_
      show own_Go _ _ _ _ (T585.setTop (mkF m 22 #[.val (.ref a1)] []))
      refine own_Go.st (fun _ k => XS.iconst X585.here hx rfl (hb hby d_prog_2_method_2_22) k) ?_
      show own_Go _ _ _ _ (T585.setTop (mkF m 23 #[.val (.ref a1)] [(.int (0 : Int32))]))
      obtain ⟨fs591, hr591, hrun591, hend591, hret591⟩ := X585.leaveW hS584 (by rw [K585]; exact (by omega)) (v := some (.int (nar .boolean (0 : Int32)))) (fun h => by rw [Bd.returns] at h; cases h)
      have K592 : Keep h0 h577 [] := (Keep.refl h0 []).ext E577
      have K593 : Keep h0 h584 [] := K592.ext E584
      subst hPP
      refine ⟨_, _, retN X585 hx (t := .boolean) Bd.returns (by simp) (hb hby d_prog_2_method_2_23) hr591, hrun591, hend591, _, _, rfl, ?_, ?_, hret591.1, hret591.2.1, hret591.2.2.1, hret591.2.2.2.mono (by decide) (by decide)⟩
      · show Q_names Z a1 t cs zc h0 _ T585.heap _
        rw [K585]
        exact ⟨_, rfl, N585, K593, (Or.inr ⟨rfl, fun q => q.elim (own_zero he578 hc583) (own_zero he585 hc590)⟩)⟩
      · have hfin := R584.trans (CHv.at X585 hZ584 hEL R584.1)
        rw [← hh] at hfin
        show CHr Z consts_1 s.vm s.heap T585.vm T585.heap
        rw [K585]
        exact hfin
    ·
      refine own_Go.st (fun _ k => XS.ifNo X585.here hx rfl (hb hby d_prog_2_method_2_15) rfl ((if0 _ _).trans (feq hc590).1) k) ?_
      show own_Go _ _ _ _ (T585.setTop (mkF m 18 #[.val (.ref a1)] []))
      refine own_Go.st (fun _ k => XS.iconst X585.here hx rfl (hb hby d_prog_2_method_2_18) k) ?_
      show own_Go _ _ _ _ (T585.setTop (mkF m 19 #[.val (.ref a1)] [(.int (1 : Int32))]))
      refine own_Go.st (fun _ k => XS.goto X585.here hx rfl (pc0 := 19) (pc' := 23) rfl (hb hby d_prog_2_method_2_19) (by decide) (by decide) k) ?_
      show own_Go _ _ _ _ (T585.setTop (mkF m 23 #[.val (.ref a1)] [(.int (1 : Int32))]))
      obtain ⟨fs594, hr594, hrun594, hend594, hret594⟩ := X585.leaveW hS584 (by rw [K585]; exact (by omega)) (v := some (.int (nar .boolean (1 : Int32)))) (fun h => by rw [Bd.returns] at h; cases h)
      have K595 : Keep h0 h577 [] := (Keep.refl h0 []).ext E577
      have K596 : Keep h0 h584 [] := K595.ext E584
      subst hPP
      refine ⟨_, _, retN X585 hx (t := .boolean) Bd.returns (by simp) (hb hby d_prog_2_method_2_23) hr594, hrun594, hend594, _, _, rfl, ?_, ?_, hret594.1, hret594.2.1, hret594.2.2.1, hret594.2.2.2.mono (by decide) (by decide)⟩
      · show Q_names Z a1 t cs zc h0 _ T585.heap _
        rw [K585]
        exact ⟨_, rfl, N585, K596, (Or.inl ⟨rfl, Or.inr (own_one he585 hc590)⟩)⟩
      · have hfin := R584.trans (CHv.at X585 hZ584 hEL R584.1)
        rw [← hh] at hfin
        show CHr Z consts_1 s.vm s.heap T585.vm T585.heap
        rw [K585]
        exact hfin
  ·
    refine own_Go.st (fun _ k => XS.ifYes X578.here hx rfl (pc0 := 6) (pc' := 18) rfl (hb hby d_prog_2_method_2_6) rfl ((if0 _ _).trans (feq hc583).2) (by decide) (by decide) k) ?_
    show own_Go _ _ _ _ (T578.setTop (mkF m 18 #[.val (.ref a1)] []))
    refine own_Go.st (fun _ k => XS.iconst X578.here hx rfl (hb hby d_prog_2_method_2_18) k) ?_
    show own_Go _ _ _ _ (T578.setTop (mkF m 19 #[.val (.ref a1)] [(.int (1 : Int32))]))
    refine own_Go.st (fun _ k => XS.goto X578.here hx rfl (pc0 := 19) (pc' := 23) rfl (hb hby d_prog_2_method_2_19) (by decide) (by decide) k) ?_
    show own_Go _ _ _ _ (T578.setTop (mkF m 23 #[.val (.ref a1)] [(.int (1 : Int32))]))
    obtain ⟨fs597, hr597, hrun597, hend597, hret597⟩ := X578.leaveW hS577 (by rw [K578]; exact (by omega)) (v := some (.int (nar .boolean (1 : Int32)))) (fun h => by rw [Bd.returns] at h; cases h)
    have K598 : Keep h0 h577 [] := (Keep.refl h0 []).ext E577
    subst hPP
    refine ⟨_, _, retN X578 hx (t := .boolean) Bd.returns (by simp) (hb hby d_prog_2_method_2_23) hr597, hrun597, hend597, _, _, rfl, ?_, ?_, hret597.1, hret597.2.1, hret597.2.2.1, hret597.2.2.2.mono (by decide) (by decide)⟩
    · show Q_names Z a1 t cs zc h0 _ T578.heap _
      rw [K578]
      exact ⟨_, rfl, N578, K598, (Or.inl ⟨rfl, Or.inl (own_one he578 hc583)⟩)⟩
    · have hfin := R577.trans (CHv.at X578 hZ577 hEL R577.1)
      rw [← hh] at hfin
      show CHr Z consts_1 s.vm s.heap T578.vm T578.heap
      rw [K578]
      exact hfin
theorem ef_270 (m : MethodId) (x0 : Int64) (x1 : Int64) (x2 : Int32) : entryFrame m #[(.long x0), (.long x1), (.int x2)] maxLocals = mkF m 0 #[.val (.long x0), .second, .val (.long x1), .second, .val (.int x2), .unset, .unset, .unset, .unset, .unset, .unset, .unset, .unset, .unset, .unset, .unset, .unset] [] := by first | (simp [entryFrame, mkF, argsToLocals, Value.category, maxLocals]; done) | rfl
theorem pd_271 : parseMethodDescriptor "(I)C" = some ⟨[.int], some .char⟩ := by decide +kernel
theorem pd_272 : parseMethodDescriptor "(ICCCCCCC)Ljava/lang/String;" = some ⟨[.int, .char, .char, .char, .char, .char, .char, .char], some (.object "java/lang/String")⟩ := by decide +kernel
theorem pd_273 : parseMethodDescriptor "(Ljava/lang/String;)Z" = some ⟨[(.object "java/lang/String")], some .boolean⟩ := by decide +kernel
def Q_law (Z : State) (q1 : Int64) (q2 : Int64) (p1 : Int32) (zc : Int32) (h0 : Heap) (v : Option Value) (h : Heap) (L : List Loc) : Prop := v = some (.int (1 : Int32)) ∧ Fr Z.heap.size L ∧ Keep h0 h []
set_option maxRecDepth 65536 in
set_option maxHeartbeats 40000000 in
theorem rm_law (l : Launch) (Z : State) (a0 : Array Value) (hw : ∀ d ∈ tables_1, d.before a0 Z = true) (ws : List Jvm.Cond) (q1 : Int64) (q2 : Int64) (p1 : Int32) (zc : Int32) (h0 : Heap) (hEL : EW Z a0 consts_1) (OL : Old Z Z.heap.size h0) (st_COMPACT_STRINGS : Sta Z Z.heap "java/lang/String" "COMPACT_STRINGS" "Z" (.int zc)) (hzc : ¬ zc = 0) :
    MetFree l x (head1 (Jvm.Cond.code x code maxLocals ret :: ws) room_1) (fun a U => a = #[(.long q1), (.long q2), (.int p1)] ∧ Z.Warmed39 U.vm ∧ U.heap = h0 ∧ CHv Z consts_1 U.vm h0) (fun _ _ _ _ _ => True) (fun _ U o U' => ∃ v L, o = .returned v ∧ Q_law Z q1 q2 p1 zc h0 v U'.heap L ∧ CHr Z consts_1 U.vm U.heap U'.vm U'.heap ∧ ReturnedEndW U o U' L 24 3200) := by
  refine MetFree.of_bodySF (plainFor_of_name pn_25) hisR ?_
  intro p e s m args below meth c s₁ Bd hml0 hP hK
  obtain ⟨rfl, hZ, hh, hC0⟩ := hP
  have hx := Bd.exec
  have hby := Bd.bytes
  have hml : c.maxLocals = 17 := hml0
  have hown : s.vm.findClass "com/example/net30/net30/http/GzipNamesPinLaw" = some m.cls := findClass_of_methodNamed Bd.named
  have hnm := (name_of_methodNamed Bd.named Bd.method).1
  have X0 : Stand p l e room_1 (s.setVm s.vm) m #[(.long q1), (.long q2), (.int p1)] below meth c s₁ [] 0 0 := Stand.of_body Bd
  have e0 : s₁.heap = h0 := by rw [← hh, Bd.state]; rfl
  have N0 := Fr.nil Z.heap.size
  have Z0 : Z.heap.size ≤ h0.size := OL.2.1
  have hS0 : s.Since s.vm h0.size := (State.WarmedH.refl s).since _
  have wS := own_wS hw
  have R0 : CHr Z consts_1 s.vm h0 s.vm h0 := CHr.refl hC0
  obtain ⟨PP, hPP⟩ : ∃ PP : Outcome → State → Prop, PP = (fun o tE => ∃ v L, o = .returned v ∧ Q_law Z q1 q2 p1 zc h0 v tE.heap L ∧ CHr Z consts_1 s.vm s.heap tE.vm tE.heap ∧ ReturnedEndW s o tE L 24 3200) := ⟨_, rfl⟩
  show own_Go p.tables e below (fun o tE => ∃ v L, o = .returned v ∧ Q_law Z q1 q2 p1 zc h0 v tE.heap L ∧ CHr Z consts_1 s.vm s.heap tE.vm tE.heap ∧ ReturnedEndW s o tE L 24 3200) (s₁.setTop (entryFrame m #[(.long q1), (.long q2), (.int p1)] maxLocals))
  rw [← hPP]
  refine own_Go.st (fun t k => castTop (ef_270 m q1 q2 p1) k) ?_
  show own_Go _ _ _ _ (s₁.setTop (mkF m 0 #[.val (.long q1), .second, .val (.long q2), .second, .val (.int p1), .unset, .unset, .unset, .unset, .unset, .unset, .unset, .unset, .unset, .unset, .unset, .unset] []))
  refine own_Go.st (fun _ k => XS.iload X0.here hx rfl (hb hby at_0) rfl k) ?_
  show own_Go _ _ _ _ (s₁.setTop (mkF m 2 #[.val (.long q1), .second, .val (.long q2), .second, .val (.int p1), .unset, .unset, .unset, .unset, .unset, .unset, .unset, .unset, .unset, .unset, .unset, .unset] [(.int p1)]))
  refine own_Go.st (fun _ k => XS.bipush X0.here hx rfl (hb hby at_2) k) ?_
  show own_Go _ _ _ _ (s₁.setTop (mkF m 4 #[.val (.long q1), .second, .val (.long q2), .second, .val (.int p1), .unset, .unset, .unset, .unset, .unset, .unset, .unset, .unset, .unset, .unset, .unset, .unset] [(.int (7 : Int32)), (.int p1)]))
  refine own_Go.st (fun _ k => XS.iand X0.here hx rfl (hb hby at_4) rfl k) ?_
  show own_Go _ _ _ _ (s₁.setTop (mkF m 5 #[.val (.long q1), .second, .val (.long q2), .second, .val (.int p1), .unset, .unset, .unset, .unset, .unset, .unset, .unset, .unset, .unset, .unset, .unset, .unset] [(.int (p1 &&& (7 : Int32)))]))
  refine own_Go.st (fun _ k => XS.istore X0.here hx rfl (hb hby at_5) rfl (l' := #[.val (.long q1), .second, .val (.long q2), .second, .val (.int p1), .val (.int (p1 &&& (7 : Int32))), .unset, .unset, .unset, .unset, .unset, .unset, .unset, .unset, .unset, .unset, .unset]) rfl k) ?_
  show own_Go _ _ _ _ (s₁.setTop (mkF m 7 #[.val (.long q1), .second, .val (.long q2), .second, .val (.int p1), .val (.int (p1 &&& (7 : Int32))), .unset, .unset, .unset, .unset, .unset, .unset, .unset, .unset, .unset, .unset, .unset] []))
  have hn8 := own_n8 p1
  generalize hne : (p1 &&& (7 : Int32)) = nn at hn8 ⊢
  refine own_Go.st (fun _ k => XS.lloadN X0.here hx rfl (hb hby at_7) rfl k) ?_
  show own_Go _ _ _ _ (s₁.setTop (mkF m 8 #[.val (.long q1), .second, .val (.long q2), .second, .val (.int p1), .val (.int nn), .unset, .unset, .unset, .unset, .unset, .unset, .unset, .unset, .unset, .unset, .unset] [(.long q1)]))
  refine own_Go.st (X0.ldc2Long hx hown (mvT hZ (hw _ (List.mem_of_getElem? (i := 0) rfl))) (g := (mkF m 8 #[.val (.long q1), .second, .val (.long q2), .second, .val (.int p1), .val (.int nn), .unset, .unset, .unset, .unset, .unset, .unset, .unset, .unset, .unset, .unset, .unset] [(.long q1)])) rfl (hb hby at_8)) ?_
  show own_Go _ _ _ _ (s₁.setTop (mkF m 11 #[.val (.long q1), .second, .val (.long q2), .second, .val (.int p1), .val (.int nn), .unset, .unset, .unset, .unset, .unset, .unset, .unset, .unset, .unset, .unset, .unset] [(.long (511 : Int64)), (.long q1)]))
  refine own_Go.st (fun _ k => XS.land X0.here hx rfl (hb hby at_11) rfl k) ?_
  show own_Go _ _ _ _ (s₁.setTop (mkF m 12 #[.val (.long q1), .second, .val (.long q2), .second, .val (.int p1), .val (.int nn), .unset, .unset, .unset, .unset, .unset, .unset, .unset, .unset, .unset, .unset, .unset] [(.long (q1 &&& (511 : Int64)))]))
  refine own_Go.st (fun _ k => XS.l2i X0.here hx rfl (hb hby at_12) rfl k) ?_
  show own_Go _ _ _ _ (s₁.setTop (mkF m 13 #[.val (.long q1), .second, .val (.long q2), .second, .val (.int p1), .val (.int nn), .unset, .unset, .unset, .unset, .unset, .unset, .unset, .unset, .unset, .unset, .unset] [(.int ((q1 &&& (511 : Int64)).toInt32))]))
  obtain ⟨_, _, ⟨T599, L599, k599, n599⟩, -, X599, ⟨Lc599, hQ599, l599, y599, z599⟩, st599⟩ := Jvm.LawKit.callS X0 hx (y := (⟨"com/example/net30/net30/http/GzipNamesPinLaw", "ch", "(I)C"⟩ : MethodName)) hown (mvT hZ (hw _ (List.mem_of_getElem? (i := 1) rfl))) (mvT hZ (hw _ (List.mem_of_getElem? (i := 2) rfl))) (mvT hZ (hw _ (List.mem_of_getElem? (i := 3) rfl))) (mvT hZ (hw _ (List.mem_of_getElem? (i := 4) rfl))) (by decide) (backOf (W := 0) (rm_ch l Z a0 hw [] ((q1 &&& (511 : Int64)).toInt32) h0 OL (own_m9 _)) hZ (hw _ (List.mem_of_getElem? (i := 4) rfl)) (hw _ (List.mem_of_getElem? (i := 3) rfl)) (by decide) (by decide)) (g := (mkF m 13 #[.val (.long q1), .second, .val (.long q2), .second, .val (.int p1), .val (.int nn), .unset, .unset, .unset, .unset, .unset, .unset, .unset, .unset, .unset, .unset, .unset] [(.int ((q1 &&& (511 : Int64)).toInt32))])) rfl (by rw [hml]; rfl) (argsL := [(.int ((q1 &&& (511 : Int64)).toInt32))]) (rest := []) (lenOf pd_271 rfl) rfl (by show 2 * 0 + _ ≤ _; exact Nat.le_of_eq rfl) (hb hby at_13) (fun _ _ => ⟨rfl, e0, (by decide : 0 + 0 ≤ _), (by decide : 0 + 0 ≤ _)⟩)
  dsimp only [Pt.U, Pt.locs, Pt.cells, Pt.slots] at X599 l599 y599 z599 st599 hQ599
  subst l599 y599 z599
  obtain ⟨c_599, rfl, N599q, K599, pr599_0⟩ := hQ599
  have N599 := Fr.app N0 N599q
  refine own_Go.st st599 ?_
  show own_Go _ _ _ _ (T599.setTop (mkF m 16 #[.val (.long q1), .second, .val (.long q2), .second, .val (.int p1), .val (.int nn), .unset, .unset, .unset, .unset, .unset, .unset, .unset, .unset, .unset, .unset, .unset] [(.int c_599)]))
  refine own_Go.st (fun _ k => XS.istore X599.here hx rfl (hb hby at_16) rfl (l' := #[.val (.long q1), .second, .val (.long q2), .second, .val (.int p1), .val (.int nn), .val (.int c_599), .unset, .unset, .unset, .unset, .unset, .unset, .unset, .unset, .unset, .unset]) rfl k) ?_
  show own_Go _ _ _ _ (T599.setTop (mkF m 18 #[.val (.long q1), .second, .val (.long q2), .second, .val (.int p1), .val (.int nn), .val (.int c_599), .unset, .unset, .unset, .unset, .unset, .unset, .unset, .unset, .unset, .unset] []))
  refine own_Go.st (fun _ k => XS.lloadN X599.here hx rfl (hb hby at_18) rfl k) ?_
  show own_Go _ _ _ _ (T599.setTop (mkF m 19 #[.val (.long q1), .second, .val (.long q2), .second, .val (.int p1), .val (.int nn), .val (.int c_599), .unset, .unset, .unset, .unset, .unset, .unset, .unset, .unset, .unset, .unset] [(.long q1)]))
  refine own_Go.st (fun _ k => XS.bipush X599.here hx rfl (hb hby at_19) k) ?_
  show own_Go _ _ _ _ (T599.setTop (mkF m 21 #[.val (.long q1), .second, .val (.long q2), .second, .val (.int p1), .val (.int nn), .val (.int c_599), .unset, .unset, .unset, .unset, .unset, .unset, .unset, .unset, .unset, .unset] [(.int (9 : Int32)), (.long q1)]))
  refine own_Go.st (fun _ k => XS.lushr X599.here hx rfl (hb hby at_21) rfl k) ?_
  show own_Go _ _ _ _ (T599.setTop (mkF m 22 #[.val (.long q1), .second, .val (.long q2), .second, .val (.int p1), .val (.int nn), .val (.int c_599), .unset, .unset, .unset, .unset, .unset, .unset, .unset, .unset, .unset, .unset] [(.long ((q1.toUInt64 >>> ((9 : Int32) &&& 0x3f).toInt64.toUInt64).toInt64))]))
  refine own_Go.st (X599.ldc2Long hx hown (mvT hZ (hw _ (List.mem_of_getElem? (i := 0) rfl))) (g := (mkF m 22 #[.val (.long q1), .second, .val (.long q2), .second, .val (.int p1), .val (.int nn), .val (.int c_599), .unset, .unset, .unset, .unset, .unset, .unset, .unset, .unset, .unset, .unset] [(.long ((q1.toUInt64 >>> ((9 : Int32) &&& 0x3f).toInt64.toUInt64).toInt64))])) rfl (hb hby at_22)) ?_
  show own_Go _ _ _ _ (T599.setTop (mkF m 25 #[.val (.long q1), .second, .val (.long q2), .second, .val (.int p1), .val (.int nn), .val (.int c_599), .unset, .unset, .unset, .unset, .unset, .unset, .unset, .unset, .unset, .unset] [(.long (511 : Int64)), (.long ((q1.toUInt64 >>> ((9 : Int32) &&& 0x3f).toInt64.toUInt64).toInt64))]))
  refine own_Go.st (fun _ k => XS.land X599.here hx rfl (hb hby at_25) rfl k) ?_
  show own_Go _ _ _ _ (T599.setTop (mkF m 26 #[.val (.long q1), .second, .val (.long q2), .second, .val (.int p1), .val (.int nn), .val (.int c_599), .unset, .unset, .unset, .unset, .unset, .unset, .unset, .unset, .unset, .unset] [(.long (((q1.toUInt64 >>> ((9 : Int32) &&& 0x3f).toInt64.toUInt64).toInt64) &&& (511 : Int64)))]))
  refine own_Go.st (fun _ k => XS.l2i X599.here hx rfl (hb hby at_26) rfl k) ?_
  show own_Go _ _ _ _ (T599.setTop (mkF m 27 #[.val (.long q1), .second, .val (.long q2), .second, .val (.int p1), .val (.int nn), .val (.int c_599), .unset, .unset, .unset, .unset, .unset, .unset, .unset, .unset, .unset, .unset] [(.int ((((q1.toUInt64 >>> ((9 : Int32) &&& 0x3f).toInt64.toUInt64).toInt64) &&& (511 : Int64)).toInt32))]))
  obtain ⟨_, _, ⟨T600, L600, k600, n600⟩, -, X600, ⟨Lc600, hQ600, l600, y600, z600⟩, st600⟩ := Jvm.LawKit.callS X599 hx (y := (⟨"com/example/net30/net30/http/GzipNamesPinLaw", "ch", "(I)C"⟩ : MethodName)) hown (mvT hZ (hw _ (List.mem_of_getElem? (i := 1) rfl))) (mvT hZ (hw _ (List.mem_of_getElem? (i := 2) rfl))) (mvT hZ (hw _ (List.mem_of_getElem? (i := 3) rfl))) (mvT hZ (hw _ (List.mem_of_getElem? (i := 4) rfl))) (by decide) (backOf (W := 0) (rm_ch l Z a0 hw [] ((((q1.toUInt64 >>> ((9 : Int32) &&& 0x3f).toInt64.toUInt64).toInt64) &&& (511 : Int64)).toInt32) h0 OL (own_m9 _)) hZ (hw _ (List.mem_of_getElem? (i := 4) rfl)) (hw _ (List.mem_of_getElem? (i := 3) rfl)) (by decide) (by decide)) (g := (mkF m 27 #[.val (.long q1), .second, .val (.long q2), .second, .val (.int p1), .val (.int nn), .val (.int c_599), .unset, .unset, .unset, .unset, .unset, .unset, .unset, .unset, .unset, .unset] [(.int ((((q1.toUInt64 >>> ((9 : Int32) &&& 0x3f).toInt64.toUInt64).toInt64) &&& (511 : Int64)).toInt32))])) rfl (by rw [hml]; rfl) (argsL := [(.int ((((q1.toUInt64 >>> ((9 : Int32) &&& 0x3f).toInt64.toUInt64).toInt64) &&& (511 : Int64)).toInt32))]) (rest := []) (lenOf pd_271 rfl) rfl (by show 2 * 0 + _ ≤ _; exact Nat.le_of_eq rfl) (hb hby at_27) (fun _ _ => ⟨rfl, K599, (by decide : 0 + 0 ≤ _), (by decide : 0 + 0 ≤ _)⟩)
  dsimp only [Pt.U, Pt.locs, Pt.cells, Pt.slots] at X600 l600 y600 z600 st600 hQ600
  subst l600 y600 z600
  obtain ⟨c_600, rfl, N600q, K600, pr600_0⟩ := hQ600
  have N600 := Fr.app N599 N600q
  refine own_Go.st st600 ?_
  show own_Go _ _ _ _ (T600.setTop (mkF m 30 #[.val (.long q1), .second, .val (.long q2), .second, .val (.int p1), .val (.int nn), .val (.int c_599), .unset, .unset, .unset, .unset, .unset, .unset, .unset, .unset, .unset, .unset] [(.int c_600)]))
  refine own_Go.st (fun _ k => XS.istore X600.here hx rfl (hb hby at_30) rfl (l' := #[.val (.long q1), .second, .val (.long q2), .second, .val (.int p1), .val (.int nn), .val (.int c_599), .val (.int c_600), .unset, .unset, .unset, .unset, .unset, .unset, .unset, .unset, .unset]) rfl k) ?_
  show own_Go _ _ _ _ (T600.setTop (mkF m 32 #[.val (.long q1), .second, .val (.long q2), .second, .val (.int p1), .val (.int nn), .val (.int c_599), .val (.int c_600), .unset, .unset, .unset, .unset, .unset, .unset, .unset, .unset, .unset] []))
  refine own_Go.st (fun _ k => XS.lloadN X600.here hx rfl (hb hby at_32) rfl k) ?_
  show own_Go _ _ _ _ (T600.setTop (mkF m 33 #[.val (.long q1), .second, .val (.long q2), .second, .val (.int p1), .val (.int nn), .val (.int c_599), .val (.int c_600), .unset, .unset, .unset, .unset, .unset, .unset, .unset, .unset, .unset] [(.long q1)]))
  refine own_Go.st (fun _ k => XS.bipush X600.here hx rfl (hb hby at_33) k) ?_
  show own_Go _ _ _ _ (T600.setTop (mkF m 35 #[.val (.long q1), .second, .val (.long q2), .second, .val (.int p1), .val (.int nn), .val (.int c_599), .val (.int c_600), .unset, .unset, .unset, .unset, .unset, .unset, .unset, .unset, .unset] [(.int (18 : Int32)), (.long q1)]))
  refine own_Go.st (fun _ k => XS.lushr X600.here hx rfl (hb hby at_35) rfl k) ?_
  show own_Go _ _ _ _ (T600.setTop (mkF m 36 #[.val (.long q1), .second, .val (.long q2), .second, .val (.int p1), .val (.int nn), .val (.int c_599), .val (.int c_600), .unset, .unset, .unset, .unset, .unset, .unset, .unset, .unset, .unset] [(.long ((q1.toUInt64 >>> ((18 : Int32) &&& 0x3f).toInt64.toUInt64).toInt64))]))
  refine own_Go.st (X600.ldc2Long hx hown (mvT hZ (hw _ (List.mem_of_getElem? (i := 0) rfl))) (g := (mkF m 36 #[.val (.long q1), .second, .val (.long q2), .second, .val (.int p1), .val (.int nn), .val (.int c_599), .val (.int c_600), .unset, .unset, .unset, .unset, .unset, .unset, .unset, .unset, .unset] [(.long ((q1.toUInt64 >>> ((18 : Int32) &&& 0x3f).toInt64.toUInt64).toInt64))])) rfl (hb hby at_36)) ?_
  show own_Go _ _ _ _ (T600.setTop (mkF m 39 #[.val (.long q1), .second, .val (.long q2), .second, .val (.int p1), .val (.int nn), .val (.int c_599), .val (.int c_600), .unset, .unset, .unset, .unset, .unset, .unset, .unset, .unset, .unset] [(.long (511 : Int64)), (.long ((q1.toUInt64 >>> ((18 : Int32) &&& 0x3f).toInt64.toUInt64).toInt64))]))
  refine own_Go.st (fun _ k => XS.land X600.here hx rfl (hb hby at_39) rfl k) ?_
  show own_Go _ _ _ _ (T600.setTop (mkF m 40 #[.val (.long q1), .second, .val (.long q2), .second, .val (.int p1), .val (.int nn), .val (.int c_599), .val (.int c_600), .unset, .unset, .unset, .unset, .unset, .unset, .unset, .unset, .unset] [(.long (((q1.toUInt64 >>> ((18 : Int32) &&& 0x3f).toInt64.toUInt64).toInt64) &&& (511 : Int64)))]))
  refine own_Go.st (fun _ k => XS.l2i X600.here hx rfl (hb hby at_40) rfl k) ?_
  show own_Go _ _ _ _ (T600.setTop (mkF m 41 #[.val (.long q1), .second, .val (.long q2), .second, .val (.int p1), .val (.int nn), .val (.int c_599), .val (.int c_600), .unset, .unset, .unset, .unset, .unset, .unset, .unset, .unset, .unset] [(.int ((((q1.toUInt64 >>> ((18 : Int32) &&& 0x3f).toInt64.toUInt64).toInt64) &&& (511 : Int64)).toInt32))]))
  obtain ⟨_, _, ⟨T601, L601, k601, n601⟩, -, X601, ⟨Lc601, hQ601, l601, y601, z601⟩, st601⟩ := Jvm.LawKit.callS X600 hx (y := (⟨"com/example/net30/net30/http/GzipNamesPinLaw", "ch", "(I)C"⟩ : MethodName)) hown (mvT hZ (hw _ (List.mem_of_getElem? (i := 1) rfl))) (mvT hZ (hw _ (List.mem_of_getElem? (i := 2) rfl))) (mvT hZ (hw _ (List.mem_of_getElem? (i := 3) rfl))) (mvT hZ (hw _ (List.mem_of_getElem? (i := 4) rfl))) (by decide) (backOf (W := 0) (rm_ch l Z a0 hw [] ((((q1.toUInt64 >>> ((18 : Int32) &&& 0x3f).toInt64.toUInt64).toInt64) &&& (511 : Int64)).toInt32) h0 OL (own_m9 _)) hZ (hw _ (List.mem_of_getElem? (i := 4) rfl)) (hw _ (List.mem_of_getElem? (i := 3) rfl)) (by decide) (by decide)) (g := (mkF m 41 #[.val (.long q1), .second, .val (.long q2), .second, .val (.int p1), .val (.int nn), .val (.int c_599), .val (.int c_600), .unset, .unset, .unset, .unset, .unset, .unset, .unset, .unset, .unset] [(.int ((((q1.toUInt64 >>> ((18 : Int32) &&& 0x3f).toInt64.toUInt64).toInt64) &&& (511 : Int64)).toInt32))])) rfl (by rw [hml]; rfl) (argsL := [(.int ((((q1.toUInt64 >>> ((18 : Int32) &&& 0x3f).toInt64.toUInt64).toInt64) &&& (511 : Int64)).toInt32))]) (rest := []) (lenOf pd_271 rfl) rfl (by show 2 * 0 + _ ≤ _; exact Nat.le_of_eq rfl) (hb hby at_41) (fun _ _ => ⟨rfl, K600, (by decide : 0 + 0 ≤ _), (by decide : 0 + 0 ≤ _)⟩)
  dsimp only [Pt.U, Pt.locs, Pt.cells, Pt.slots] at X601 l601 y601 z601 st601 hQ601
  subst l601 y601 z601
  obtain ⟨c_601, rfl, N601q, K601, pr601_0⟩ := hQ601
  have N601 := Fr.app N600 N601q
  refine own_Go.st st601 ?_
  show own_Go _ _ _ _ (T601.setTop (mkF m 44 #[.val (.long q1), .second, .val (.long q2), .second, .val (.int p1), .val (.int nn), .val (.int c_599), .val (.int c_600), .unset, .unset, .unset, .unset, .unset, .unset, .unset, .unset, .unset] [(.int c_601)]))
  refine own_Go.st (fun _ k => XS.istore X601.here hx rfl (hb hby at_44) rfl (l' := #[.val (.long q1), .second, .val (.long q2), .second, .val (.int p1), .val (.int nn), .val (.int c_599), .val (.int c_600), .val (.int c_601), .unset, .unset, .unset, .unset, .unset, .unset, .unset, .unset]) rfl k) ?_
  show own_Go _ _ _ _ (T601.setTop (mkF m 46 #[.val (.long q1), .second, .val (.long q2), .second, .val (.int p1), .val (.int nn), .val (.int c_599), .val (.int c_600), .val (.int c_601), .unset, .unset, .unset, .unset, .unset, .unset, .unset, .unset] []))
  refine own_Go.st (fun _ k => XS.lloadN X601.here hx rfl (hb hby at_46) rfl k) ?_
  show own_Go _ _ _ _ (T601.setTop (mkF m 47 #[.val (.long q1), .second, .val (.long q2), .second, .val (.int p1), .val (.int nn), .val (.int c_599), .val (.int c_600), .val (.int c_601), .unset, .unset, .unset, .unset, .unset, .unset, .unset, .unset] [(.long q1)]))
  refine own_Go.st (fun _ k => XS.bipush X601.here hx rfl (hb hby at_47) k) ?_
  show own_Go _ _ _ _ (T601.setTop (mkF m 49 #[.val (.long q1), .second, .val (.long q2), .second, .val (.int p1), .val (.int nn), .val (.int c_599), .val (.int c_600), .val (.int c_601), .unset, .unset, .unset, .unset, .unset, .unset, .unset, .unset] [(.int (27 : Int32)), (.long q1)]))
  refine own_Go.st (fun _ k => XS.lushr X601.here hx rfl (hb hby at_49) rfl k) ?_
  show own_Go _ _ _ _ (T601.setTop (mkF m 50 #[.val (.long q1), .second, .val (.long q2), .second, .val (.int p1), .val (.int nn), .val (.int c_599), .val (.int c_600), .val (.int c_601), .unset, .unset, .unset, .unset, .unset, .unset, .unset, .unset] [(.long ((q1.toUInt64 >>> ((27 : Int32) &&& 0x3f).toInt64.toUInt64).toInt64))]))
  refine own_Go.st (X601.ldc2Long hx hown (mvT hZ (hw _ (List.mem_of_getElem? (i := 0) rfl))) (g := (mkF m 50 #[.val (.long q1), .second, .val (.long q2), .second, .val (.int p1), .val (.int nn), .val (.int c_599), .val (.int c_600), .val (.int c_601), .unset, .unset, .unset, .unset, .unset, .unset, .unset, .unset] [(.long ((q1.toUInt64 >>> ((27 : Int32) &&& 0x3f).toInt64.toUInt64).toInt64))])) rfl (hb hby at_50)) ?_
  show own_Go _ _ _ _ (T601.setTop (mkF m 53 #[.val (.long q1), .second, .val (.long q2), .second, .val (.int p1), .val (.int nn), .val (.int c_599), .val (.int c_600), .val (.int c_601), .unset, .unset, .unset, .unset, .unset, .unset, .unset, .unset] [(.long (511 : Int64)), (.long ((q1.toUInt64 >>> ((27 : Int32) &&& 0x3f).toInt64.toUInt64).toInt64))]))
  refine own_Go.st (fun _ k => XS.land X601.here hx rfl (hb hby at_53) rfl k) ?_
  show own_Go _ _ _ _ (T601.setTop (mkF m 54 #[.val (.long q1), .second, .val (.long q2), .second, .val (.int p1), .val (.int nn), .val (.int c_599), .val (.int c_600), .val (.int c_601), .unset, .unset, .unset, .unset, .unset, .unset, .unset, .unset] [(.long (((q1.toUInt64 >>> ((27 : Int32) &&& 0x3f).toInt64.toUInt64).toInt64) &&& (511 : Int64)))]))
  refine own_Go.st (fun _ k => XS.l2i X601.here hx rfl (hb hby at_54) rfl k) ?_
  show own_Go _ _ _ _ (T601.setTop (mkF m 55 #[.val (.long q1), .second, .val (.long q2), .second, .val (.int p1), .val (.int nn), .val (.int c_599), .val (.int c_600), .val (.int c_601), .unset, .unset, .unset, .unset, .unset, .unset, .unset, .unset] [(.int ((((q1.toUInt64 >>> ((27 : Int32) &&& 0x3f).toInt64.toUInt64).toInt64) &&& (511 : Int64)).toInt32))]))
  obtain ⟨_, _, ⟨T602, L602, k602, n602⟩, -, X602, ⟨Lc602, hQ602, l602, y602, z602⟩, st602⟩ := Jvm.LawKit.callS X601 hx (y := (⟨"com/example/net30/net30/http/GzipNamesPinLaw", "ch", "(I)C"⟩ : MethodName)) hown (mvT hZ (hw _ (List.mem_of_getElem? (i := 1) rfl))) (mvT hZ (hw _ (List.mem_of_getElem? (i := 2) rfl))) (mvT hZ (hw _ (List.mem_of_getElem? (i := 3) rfl))) (mvT hZ (hw _ (List.mem_of_getElem? (i := 4) rfl))) (by decide) (backOf (W := 0) (rm_ch l Z a0 hw [] ((((q1.toUInt64 >>> ((27 : Int32) &&& 0x3f).toInt64.toUInt64).toInt64) &&& (511 : Int64)).toInt32) h0 OL (own_m9 _)) hZ (hw _ (List.mem_of_getElem? (i := 4) rfl)) (hw _ (List.mem_of_getElem? (i := 3) rfl)) (by decide) (by decide)) (g := (mkF m 55 #[.val (.long q1), .second, .val (.long q2), .second, .val (.int p1), .val (.int nn), .val (.int c_599), .val (.int c_600), .val (.int c_601), .unset, .unset, .unset, .unset, .unset, .unset, .unset, .unset] [(.int ((((q1.toUInt64 >>> ((27 : Int32) &&& 0x3f).toInt64.toUInt64).toInt64) &&& (511 : Int64)).toInt32))])) rfl (by rw [hml]; rfl) (argsL := [(.int ((((q1.toUInt64 >>> ((27 : Int32) &&& 0x3f).toInt64.toUInt64).toInt64) &&& (511 : Int64)).toInt32))]) (rest := []) (lenOf pd_271 rfl) rfl (by show 2 * 0 + _ ≤ _; exact Nat.le_of_eq rfl) (hb hby at_55) (fun _ _ => ⟨rfl, K601, (by decide : 0 + 0 ≤ _), (by decide : 0 + 0 ≤ _)⟩)
  dsimp only [Pt.U, Pt.locs, Pt.cells, Pt.slots] at X602 l602 y602 z602 st602 hQ602
  subst l602 y602 z602
  obtain ⟨c_602, rfl, N602q, K602, pr602_0⟩ := hQ602
  have N602 := Fr.app N601 N602q
  refine own_Go.st st602 ?_
  show own_Go _ _ _ _ (T602.setTop (mkF m 58 #[.val (.long q1), .second, .val (.long q2), .second, .val (.int p1), .val (.int nn), .val (.int c_599), .val (.int c_600), .val (.int c_601), .unset, .unset, .unset, .unset, .unset, .unset, .unset, .unset] [(.int c_602)]))
  refine own_Go.st (fun _ k => XS.istore X602.here hx rfl (hb hby at_58) rfl (l' := #[.val (.long q1), .second, .val (.long q2), .second, .val (.int p1), .val (.int nn), .val (.int c_599), .val (.int c_600), .val (.int c_601), .val (.int c_602), .unset, .unset, .unset, .unset, .unset, .unset, .unset]) rfl k) ?_
  show own_Go _ _ _ _ (T602.setTop (mkF m 60 #[.val (.long q1), .second, .val (.long q2), .second, .val (.int p1), .val (.int nn), .val (.int c_599), .val (.int c_600), .val (.int c_601), .val (.int c_602), .unset, .unset, .unset, .unset, .unset, .unset, .unset] []))
  refine own_Go.st (fun _ k => XS.lloadN X602.here hx rfl (hb hby at_60) rfl k) ?_
  show own_Go _ _ _ _ (T602.setTop (mkF m 61 #[.val (.long q1), .second, .val (.long q2), .second, .val (.int p1), .val (.int nn), .val (.int c_599), .val (.int c_600), .val (.int c_601), .val (.int c_602), .unset, .unset, .unset, .unset, .unset, .unset, .unset] [(.long q2)]))
  refine own_Go.st (X602.ldc2Long hx hown (mvT hZ (hw _ (List.mem_of_getElem? (i := 0) rfl))) (g := (mkF m 61 #[.val (.long q1), .second, .val (.long q2), .second, .val (.int p1), .val (.int nn), .val (.int c_599), .val (.int c_600), .val (.int c_601), .val (.int c_602), .unset, .unset, .unset, .unset, .unset, .unset, .unset] [(.long q2)])) rfl (hb hby at_61)) ?_
  show own_Go _ _ _ _ (T602.setTop (mkF m 64 #[.val (.long q1), .second, .val (.long q2), .second, .val (.int p1), .val (.int nn), .val (.int c_599), .val (.int c_600), .val (.int c_601), .val (.int c_602), .unset, .unset, .unset, .unset, .unset, .unset, .unset] [(.long (511 : Int64)), (.long q2)]))
  refine own_Go.st (fun _ k => XS.land X602.here hx rfl (hb hby at_64) rfl k) ?_
  show own_Go _ _ _ _ (T602.setTop (mkF m 65 #[.val (.long q1), .second, .val (.long q2), .second, .val (.int p1), .val (.int nn), .val (.int c_599), .val (.int c_600), .val (.int c_601), .val (.int c_602), .unset, .unset, .unset, .unset, .unset, .unset, .unset] [(.long (q2 &&& (511 : Int64)))]))
  refine own_Go.st (fun _ k => XS.l2i X602.here hx rfl (hb hby at_65) rfl k) ?_
  show own_Go _ _ _ _ (T602.setTop (mkF m 66 #[.val (.long q1), .second, .val (.long q2), .second, .val (.int p1), .val (.int nn), .val (.int c_599), .val (.int c_600), .val (.int c_601), .val (.int c_602), .unset, .unset, .unset, .unset, .unset, .unset, .unset] [(.int ((q2 &&& (511 : Int64)).toInt32))]))
  obtain ⟨_, _, ⟨T603, L603, k603, n603⟩, -, X603, ⟨Lc603, hQ603, l603, y603, z603⟩, st603⟩ := Jvm.LawKit.callS X602 hx (y := (⟨"com/example/net30/net30/http/GzipNamesPinLaw", "ch", "(I)C"⟩ : MethodName)) hown (mvT hZ (hw _ (List.mem_of_getElem? (i := 1) rfl))) (mvT hZ (hw _ (List.mem_of_getElem? (i := 2) rfl))) (mvT hZ (hw _ (List.mem_of_getElem? (i := 3) rfl))) (mvT hZ (hw _ (List.mem_of_getElem? (i := 4) rfl))) (by decide) (backOf (W := 0) (rm_ch l Z a0 hw [] ((q2 &&& (511 : Int64)).toInt32) h0 OL (own_m9 _)) hZ (hw _ (List.mem_of_getElem? (i := 4) rfl)) (hw _ (List.mem_of_getElem? (i := 3) rfl)) (by decide) (by decide)) (g := (mkF m 66 #[.val (.long q1), .second, .val (.long q2), .second, .val (.int p1), .val (.int nn), .val (.int c_599), .val (.int c_600), .val (.int c_601), .val (.int c_602), .unset, .unset, .unset, .unset, .unset, .unset, .unset] [(.int ((q2 &&& (511 : Int64)).toInt32))])) rfl (by rw [hml]; rfl) (argsL := [(.int ((q2 &&& (511 : Int64)).toInt32))]) (rest := []) (lenOf pd_271 rfl) rfl (by show 2 * 0 + _ ≤ _; exact Nat.le_of_eq rfl) (hb hby at_66) (fun _ _ => ⟨rfl, K602, (by decide : 0 + 0 ≤ _), (by decide : 0 + 0 ≤ _)⟩)
  dsimp only [Pt.U, Pt.locs, Pt.cells, Pt.slots] at X603 l603 y603 z603 st603 hQ603
  subst l603 y603 z603
  obtain ⟨c_603, rfl, N603q, K603, pr603_0⟩ := hQ603
  have N603 := Fr.app N602 N603q
  refine own_Go.st st603 ?_
  show own_Go _ _ _ _ (T603.setTop (mkF m 69 #[.val (.long q1), .second, .val (.long q2), .second, .val (.int p1), .val (.int nn), .val (.int c_599), .val (.int c_600), .val (.int c_601), .val (.int c_602), .unset, .unset, .unset, .unset, .unset, .unset, .unset] [(.int c_603)]))
  refine own_Go.st (fun _ k => XS.istore X603.here hx rfl (hb hby at_69) rfl (l' := #[.val (.long q1), .second, .val (.long q2), .second, .val (.int p1), .val (.int nn), .val (.int c_599), .val (.int c_600), .val (.int c_601), .val (.int c_602), .val (.int c_603), .unset, .unset, .unset, .unset, .unset, .unset]) rfl k) ?_
  show own_Go _ _ _ _ (T603.setTop (mkF m 71 #[.val (.long q1), .second, .val (.long q2), .second, .val (.int p1), .val (.int nn), .val (.int c_599), .val (.int c_600), .val (.int c_601), .val (.int c_602), .val (.int c_603), .unset, .unset, .unset, .unset, .unset, .unset] []))
  refine own_Go.st (fun _ k => XS.lloadN X603.here hx rfl (hb hby at_71) rfl k) ?_
  show own_Go _ _ _ _ (T603.setTop (mkF m 72 #[.val (.long q1), .second, .val (.long q2), .second, .val (.int p1), .val (.int nn), .val (.int c_599), .val (.int c_600), .val (.int c_601), .val (.int c_602), .val (.int c_603), .unset, .unset, .unset, .unset, .unset, .unset] [(.long q2)]))
  refine own_Go.st (fun _ k => XS.bipush X603.here hx rfl (hb hby at_72) k) ?_
  show own_Go _ _ _ _ (T603.setTop (mkF m 74 #[.val (.long q1), .second, .val (.long q2), .second, .val (.int p1), .val (.int nn), .val (.int c_599), .val (.int c_600), .val (.int c_601), .val (.int c_602), .val (.int c_603), .unset, .unset, .unset, .unset, .unset, .unset] [(.int (9 : Int32)), (.long q2)]))
  refine own_Go.st (fun _ k => XS.lushr X603.here hx rfl (hb hby at_74) rfl k) ?_
  show own_Go _ _ _ _ (T603.setTop (mkF m 75 #[.val (.long q1), .second, .val (.long q2), .second, .val (.int p1), .val (.int nn), .val (.int c_599), .val (.int c_600), .val (.int c_601), .val (.int c_602), .val (.int c_603), .unset, .unset, .unset, .unset, .unset, .unset] [(.long ((q2.toUInt64 >>> ((9 : Int32) &&& 0x3f).toInt64.toUInt64).toInt64))]))
  refine own_Go.st (X603.ldc2Long hx hown (mvT hZ (hw _ (List.mem_of_getElem? (i := 0) rfl))) (g := (mkF m 75 #[.val (.long q1), .second, .val (.long q2), .second, .val (.int p1), .val (.int nn), .val (.int c_599), .val (.int c_600), .val (.int c_601), .val (.int c_602), .val (.int c_603), .unset, .unset, .unset, .unset, .unset, .unset] [(.long ((q2.toUInt64 >>> ((9 : Int32) &&& 0x3f).toInt64.toUInt64).toInt64))])) rfl (hb hby at_75)) ?_
  show own_Go _ _ _ _ (T603.setTop (mkF m 78 #[.val (.long q1), .second, .val (.long q2), .second, .val (.int p1), .val (.int nn), .val (.int c_599), .val (.int c_600), .val (.int c_601), .val (.int c_602), .val (.int c_603), .unset, .unset, .unset, .unset, .unset, .unset] [(.long (511 : Int64)), (.long ((q2.toUInt64 >>> ((9 : Int32) &&& 0x3f).toInt64.toUInt64).toInt64))]))
  refine own_Go.st (fun _ k => XS.land X603.here hx rfl (hb hby at_78) rfl k) ?_
  show own_Go _ _ _ _ (T603.setTop (mkF m 79 #[.val (.long q1), .second, .val (.long q2), .second, .val (.int p1), .val (.int nn), .val (.int c_599), .val (.int c_600), .val (.int c_601), .val (.int c_602), .val (.int c_603), .unset, .unset, .unset, .unset, .unset, .unset] [(.long (((q2.toUInt64 >>> ((9 : Int32) &&& 0x3f).toInt64.toUInt64).toInt64) &&& (511 : Int64)))]))
  refine own_Go.st (fun _ k => XS.l2i X603.here hx rfl (hb hby at_79) rfl k) ?_
  show own_Go _ _ _ _ (T603.setTop (mkF m 80 #[.val (.long q1), .second, .val (.long q2), .second, .val (.int p1), .val (.int nn), .val (.int c_599), .val (.int c_600), .val (.int c_601), .val (.int c_602), .val (.int c_603), .unset, .unset, .unset, .unset, .unset, .unset] [(.int ((((q2.toUInt64 >>> ((9 : Int32) &&& 0x3f).toInt64.toUInt64).toInt64) &&& (511 : Int64)).toInt32))]))
  obtain ⟨_, _, ⟨T604, L604, k604, n604⟩, -, X604, ⟨Lc604, hQ604, l604, y604, z604⟩, st604⟩ := Jvm.LawKit.callS X603 hx (y := (⟨"com/example/net30/net30/http/GzipNamesPinLaw", "ch", "(I)C"⟩ : MethodName)) hown (mvT hZ (hw _ (List.mem_of_getElem? (i := 1) rfl))) (mvT hZ (hw _ (List.mem_of_getElem? (i := 2) rfl))) (mvT hZ (hw _ (List.mem_of_getElem? (i := 3) rfl))) (mvT hZ (hw _ (List.mem_of_getElem? (i := 4) rfl))) (by decide) (backOf (W := 0) (rm_ch l Z a0 hw [] ((((q2.toUInt64 >>> ((9 : Int32) &&& 0x3f).toInt64.toUInt64).toInt64) &&& (511 : Int64)).toInt32) h0 OL (own_m9 _)) hZ (hw _ (List.mem_of_getElem? (i := 4) rfl)) (hw _ (List.mem_of_getElem? (i := 3) rfl)) (by decide) (by decide)) (g := (mkF m 80 #[.val (.long q1), .second, .val (.long q2), .second, .val (.int p1), .val (.int nn), .val (.int c_599), .val (.int c_600), .val (.int c_601), .val (.int c_602), .val (.int c_603), .unset, .unset, .unset, .unset, .unset, .unset] [(.int ((((q2.toUInt64 >>> ((9 : Int32) &&& 0x3f).toInt64.toUInt64).toInt64) &&& (511 : Int64)).toInt32))])) rfl (by rw [hml]; rfl) (argsL := [(.int ((((q2.toUInt64 >>> ((9 : Int32) &&& 0x3f).toInt64.toUInt64).toInt64) &&& (511 : Int64)).toInt32))]) (rest := []) (lenOf pd_271 rfl) rfl (by show 2 * 0 + _ ≤ _; exact Nat.le_of_eq rfl) (hb hby at_80) (fun _ _ => ⟨rfl, K603, (by decide : 0 + 0 ≤ _), (by decide : 0 + 0 ≤ _)⟩)
  dsimp only [Pt.U, Pt.locs, Pt.cells, Pt.slots] at X604 l604 y604 z604 st604 hQ604
  subst l604 y604 z604
  obtain ⟨c_604, rfl, N604q, K604, pr604_0⟩ := hQ604
  have N604 := Fr.app N603 N604q
  refine own_Go.st st604 ?_
  show own_Go _ _ _ _ (T604.setTop (mkF m 83 #[.val (.long q1), .second, .val (.long q2), .second, .val (.int p1), .val (.int nn), .val (.int c_599), .val (.int c_600), .val (.int c_601), .val (.int c_602), .val (.int c_603), .unset, .unset, .unset, .unset, .unset, .unset] [(.int c_604)]))
  refine own_Go.st (fun _ k => XS.istore X604.here hx rfl (hb hby at_83) rfl (l' := #[.val (.long q1), .second, .val (.long q2), .second, .val (.int p1), .val (.int nn), .val (.int c_599), .val (.int c_600), .val (.int c_601), .val (.int c_602), .val (.int c_603), .val (.int c_604), .unset, .unset, .unset, .unset, .unset]) rfl k) ?_
  show own_Go _ _ _ _ (T604.setTop (mkF m 85 #[.val (.long q1), .second, .val (.long q2), .second, .val (.int p1), .val (.int nn), .val (.int c_599), .val (.int c_600), .val (.int c_601), .val (.int c_602), .val (.int c_603), .val (.int c_604), .unset, .unset, .unset, .unset, .unset] []))
  refine own_Go.st (fun _ k => XS.lloadN X604.here hx rfl (hb hby at_85) rfl k) ?_
  show own_Go _ _ _ _ (T604.setTop (mkF m 86 #[.val (.long q1), .second, .val (.long q2), .second, .val (.int p1), .val (.int nn), .val (.int c_599), .val (.int c_600), .val (.int c_601), .val (.int c_602), .val (.int c_603), .val (.int c_604), .unset, .unset, .unset, .unset, .unset] [(.long q2)]))
  refine own_Go.st (fun _ k => XS.bipush X604.here hx rfl (hb hby at_86) k) ?_
  show own_Go _ _ _ _ (T604.setTop (mkF m 88 #[.val (.long q1), .second, .val (.long q2), .second, .val (.int p1), .val (.int nn), .val (.int c_599), .val (.int c_600), .val (.int c_601), .val (.int c_602), .val (.int c_603), .val (.int c_604), .unset, .unset, .unset, .unset, .unset] [(.int (18 : Int32)), (.long q2)]))
  refine own_Go.st (fun _ k => XS.lushr X604.here hx rfl (hb hby at_88) rfl k) ?_
  show own_Go _ _ _ _ (T604.setTop (mkF m 89 #[.val (.long q1), .second, .val (.long q2), .second, .val (.int p1), .val (.int nn), .val (.int c_599), .val (.int c_600), .val (.int c_601), .val (.int c_602), .val (.int c_603), .val (.int c_604), .unset, .unset, .unset, .unset, .unset] [(.long ((q2.toUInt64 >>> ((18 : Int32) &&& 0x3f).toInt64.toUInt64).toInt64))]))
  refine own_Go.st (X604.ldc2Long hx hown (mvT hZ (hw _ (List.mem_of_getElem? (i := 0) rfl))) (g := (mkF m 89 #[.val (.long q1), .second, .val (.long q2), .second, .val (.int p1), .val (.int nn), .val (.int c_599), .val (.int c_600), .val (.int c_601), .val (.int c_602), .val (.int c_603), .val (.int c_604), .unset, .unset, .unset, .unset, .unset] [(.long ((q2.toUInt64 >>> ((18 : Int32) &&& 0x3f).toInt64.toUInt64).toInt64))])) rfl (hb hby at_89)) ?_
  show own_Go _ _ _ _ (T604.setTop (mkF m 92 #[.val (.long q1), .second, .val (.long q2), .second, .val (.int p1), .val (.int nn), .val (.int c_599), .val (.int c_600), .val (.int c_601), .val (.int c_602), .val (.int c_603), .val (.int c_604), .unset, .unset, .unset, .unset, .unset] [(.long (511 : Int64)), (.long ((q2.toUInt64 >>> ((18 : Int32) &&& 0x3f).toInt64.toUInt64).toInt64))]))
  refine own_Go.st (fun _ k => XS.land X604.here hx rfl (hb hby at_92) rfl k) ?_
  show own_Go _ _ _ _ (T604.setTop (mkF m 93 #[.val (.long q1), .second, .val (.long q2), .second, .val (.int p1), .val (.int nn), .val (.int c_599), .val (.int c_600), .val (.int c_601), .val (.int c_602), .val (.int c_603), .val (.int c_604), .unset, .unset, .unset, .unset, .unset] [(.long (((q2.toUInt64 >>> ((18 : Int32) &&& 0x3f).toInt64.toUInt64).toInt64) &&& (511 : Int64)))]))
  refine own_Go.st (fun _ k => XS.l2i X604.here hx rfl (hb hby at_93) rfl k) ?_
  show own_Go _ _ _ _ (T604.setTop (mkF m 94 #[.val (.long q1), .second, .val (.long q2), .second, .val (.int p1), .val (.int nn), .val (.int c_599), .val (.int c_600), .val (.int c_601), .val (.int c_602), .val (.int c_603), .val (.int c_604), .unset, .unset, .unset, .unset, .unset] [(.int ((((q2.toUInt64 >>> ((18 : Int32) &&& 0x3f).toInt64.toUInt64).toInt64) &&& (511 : Int64)).toInt32))]))
  obtain ⟨_, _, ⟨T605, L605, k605, n605⟩, -, X605, ⟨Lc605, hQ605, l605, y605, z605⟩, st605⟩ := Jvm.LawKit.callS X604 hx (y := (⟨"com/example/net30/net30/http/GzipNamesPinLaw", "ch", "(I)C"⟩ : MethodName)) hown (mvT hZ (hw _ (List.mem_of_getElem? (i := 1) rfl))) (mvT hZ (hw _ (List.mem_of_getElem? (i := 2) rfl))) (mvT hZ (hw _ (List.mem_of_getElem? (i := 3) rfl))) (mvT hZ (hw _ (List.mem_of_getElem? (i := 4) rfl))) (by decide) (backOf (W := 0) (rm_ch l Z a0 hw [] ((((q2.toUInt64 >>> ((18 : Int32) &&& 0x3f).toInt64.toUInt64).toInt64) &&& (511 : Int64)).toInt32) h0 OL (own_m9 _)) hZ (hw _ (List.mem_of_getElem? (i := 4) rfl)) (hw _ (List.mem_of_getElem? (i := 3) rfl)) (by decide) (by decide)) (g := (mkF m 94 #[.val (.long q1), .second, .val (.long q2), .second, .val (.int p1), .val (.int nn), .val (.int c_599), .val (.int c_600), .val (.int c_601), .val (.int c_602), .val (.int c_603), .val (.int c_604), .unset, .unset, .unset, .unset, .unset] [(.int ((((q2.toUInt64 >>> ((18 : Int32) &&& 0x3f).toInt64.toUInt64).toInt64) &&& (511 : Int64)).toInt32))])) rfl (by rw [hml]; rfl) (argsL := [(.int ((((q2.toUInt64 >>> ((18 : Int32) &&& 0x3f).toInt64.toUInt64).toInt64) &&& (511 : Int64)).toInt32))]) (rest := []) (lenOf pd_271 rfl) rfl (by show 2 * 0 + _ ≤ _; exact Nat.le_of_eq rfl) (hb hby at_94) (fun _ _ => ⟨rfl, K604, (by decide : 0 + 0 ≤ _), (by decide : 0 + 0 ≤ _)⟩)
  dsimp only [Pt.U, Pt.locs, Pt.cells, Pt.slots] at X605 l605 y605 z605 st605 hQ605
  subst l605 y605 z605
  obtain ⟨c_605, rfl, N605q, K605, pr605_0⟩ := hQ605
  have N605 := Fr.app N604 N605q
  refine own_Go.st st605 ?_
  show own_Go _ _ _ _ (T605.setTop (mkF m 97 #[.val (.long q1), .second, .val (.long q2), .second, .val (.int p1), .val (.int nn), .val (.int c_599), .val (.int c_600), .val (.int c_601), .val (.int c_602), .val (.int c_603), .val (.int c_604), .unset, .unset, .unset, .unset, .unset] [(.int c_605)]))
  refine own_Go.st (fun _ k => XS.istore X605.here hx rfl (hb hby at_97) rfl (l' := #[.val (.long q1), .second, .val (.long q2), .second, .val (.int p1), .val (.int nn), .val (.int c_599), .val (.int c_600), .val (.int c_601), .val (.int c_602), .val (.int c_603), .val (.int c_604), .val (.int c_605), .unset, .unset, .unset, .unset]) rfl k) ?_
  show own_Go _ _ _ _ (T605.setTop (mkF m 99 #[.val (.long q1), .second, .val (.long q2), .second, .val (.int p1), .val (.int nn), .val (.int c_599), .val (.int c_600), .val (.int c_601), .val (.int c_602), .val (.int c_603), .val (.int c_604), .val (.int c_605), .unset, .unset, .unset, .unset] []))
  refine own_Go.st (fun _ k => XS.iload X605.here hx rfl (hb hby at_99) rfl k) ?_
  show own_Go _ _ _ _ (T605.setTop (mkF m 101 #[.val (.long q1), .second, .val (.long q2), .second, .val (.int p1), .val (.int nn), .val (.int c_599), .val (.int c_600), .val (.int c_601), .val (.int c_602), .val (.int c_603), .val (.int c_604), .val (.int c_605), .unset, .unset, .unset, .unset] [(.int nn)]))
  refine own_Go.st (fun _ k => XS.iload X605.here hx rfl (hb hby at_101) rfl k) ?_
  show own_Go _ _ _ _ (T605.setTop (mkF m 103 #[.val (.long q1), .second, .val (.long q2), .second, .val (.int p1), .val (.int nn), .val (.int c_599), .val (.int c_600), .val (.int c_601), .val (.int c_602), .val (.int c_603), .val (.int c_604), .val (.int c_605), .unset, .unset, .unset, .unset] [(.int c_599), (.int nn)]))
  refine own_Go.st (fun _ k => XS.iload X605.here hx rfl (hb hby at_103) rfl k) ?_
  show own_Go _ _ _ _ (T605.setTop (mkF m 105 #[.val (.long q1), .second, .val (.long q2), .second, .val (.int p1), .val (.int nn), .val (.int c_599), .val (.int c_600), .val (.int c_601), .val (.int c_602), .val (.int c_603), .val (.int c_604), .val (.int c_605), .unset, .unset, .unset, .unset] [(.int c_600), (.int c_599), (.int nn)]))
  refine own_Go.st (fun _ k => XS.iload X605.here hx rfl (hb hby at_105) rfl k) ?_
  show own_Go _ _ _ _ (T605.setTop (mkF m 107 #[.val (.long q1), .second, .val (.long q2), .second, .val (.int p1), .val (.int nn), .val (.int c_599), .val (.int c_600), .val (.int c_601), .val (.int c_602), .val (.int c_603), .val (.int c_604), .val (.int c_605), .unset, .unset, .unset, .unset] [(.int c_601), (.int c_600), (.int c_599), (.int nn)]))
  refine own_Go.st (fun _ k => XS.iload X605.here hx rfl (hb hby at_107) rfl k) ?_
  show own_Go _ _ _ _ (T605.setTop (mkF m 109 #[.val (.long q1), .second, .val (.long q2), .second, .val (.int p1), .val (.int nn), .val (.int c_599), .val (.int c_600), .val (.int c_601), .val (.int c_602), .val (.int c_603), .val (.int c_604), .val (.int c_605), .unset, .unset, .unset, .unset] [(.int c_602), (.int c_601), (.int c_600), (.int c_599), (.int nn)]))
  refine own_Go.st (fun _ k => XS.iload X605.here hx rfl (hb hby at_109) rfl k) ?_
  show own_Go _ _ _ _ (T605.setTop (mkF m 111 #[.val (.long q1), .second, .val (.long q2), .second, .val (.int p1), .val (.int nn), .val (.int c_599), .val (.int c_600), .val (.int c_601), .val (.int c_602), .val (.int c_603), .val (.int c_604), .val (.int c_605), .unset, .unset, .unset, .unset] [(.int c_603), (.int c_602), (.int c_601), (.int c_600), (.int c_599), (.int nn)]))
  refine own_Go.st (fun _ k => XS.iload X605.here hx rfl (hb hby at_111) rfl k) ?_
  show own_Go _ _ _ _ (T605.setTop (mkF m 113 #[.val (.long q1), .second, .val (.long q2), .second, .val (.int p1), .val (.int nn), .val (.int c_599), .val (.int c_600), .val (.int c_601), .val (.int c_602), .val (.int c_603), .val (.int c_604), .val (.int c_605), .unset, .unset, .unset, .unset] [(.int c_604), (.int c_603), (.int c_602), (.int c_601), (.int c_600), (.int c_599), (.int nn)]))
  refine own_Go.st (fun _ k => XS.iload X605.here hx rfl (hb hby at_113) rfl k) ?_
  show own_Go _ _ _ _ (T605.setTop (mkF m 115 #[.val (.long q1), .second, .val (.long q2), .second, .val (.int p1), .val (.int nn), .val (.int c_599), .val (.int c_600), .val (.int c_601), .val (.int c_602), .val (.int c_603), .val (.int c_604), .val (.int c_605), .unset, .unset, .unset, .unset] [(.int c_605), (.int c_604), (.int c_603), (.int c_602), (.int c_601), (.int c_600), (.int c_599), (.int nn)]))
  obtain ⟨_, _, ⟨T606, L606, k606, n606⟩, -, X606, hs606, hg606, ⟨Lc606, hQ606, l606, y606, z606, ch606⟩, st606⟩ := callSS X605 hx (y := (⟨"com/example/net30/net30/http/GzipNamesPinLaw", "make", "(ICCCCCCC)Ljava/lang/String;"⟩ : MethodName)) hown (mvT hZ (hw _ (List.mem_of_getElem? (i := 5) rfl))) (mvT hZ (hw _ (List.mem_of_getElem? (i := 6) rfl))) (mvT hZ (hw _ (List.mem_of_getElem? (i := 3) rfl))) (mvT hZ (hw _ (List.mem_of_getElem? (i := 7) rfl))) (by decide) (backOfSH (s := s) (vm0 := s.vm) (W := 0) (rm_make l Z a0 hw [] nn c_599 c_600 c_601 c_602 c_603 c_604 c_605 zc h0 hEL OL st_COMPACT_STRINGS (by first | assumption | decide) (by first | assumption | decide) (by first | assumption | decide) (by first | assumption | decide) (by first | assumption | decide) (by first | assumption | decide) (by first | assumption | decide) (by first | assumption | decide)) hZ (hw _ (List.mem_of_getElem? (i := 7) rfl)) (hw _ (List.mem_of_getElem? (i := 3) rfl)) (by decide) (by decide) hEL R0.1) (g := (mkF m 115 #[.val (.long q1), .second, .val (.long q2), .second, .val (.int p1), .val (.int nn), .val (.int c_599), .val (.int c_600), .val (.int c_601), .val (.int c_602), .val (.int c_603), .val (.int c_604), .val (.int c_605), .unset, .unset, .unset, .unset] [(.int c_605), (.int c_604), (.int c_603), (.int c_602), (.int c_601), (.int c_600), (.int c_599), (.int nn)])) rfl (by rw [hml]; rfl) (argsL := [(.int nn), (.int c_599), (.int c_600), (.int c_601), (.int c_602), (.int c_603), (.int c_604), (.int c_605)]) (rest := []) (lenOf pd_272 rfl) rfl (by show 2 * 0 + _ ≤ _; exact Nat.le_of_eq rfl) (hb hby at_115) (fun _ _ => ⟨rfl, K605, (by decide : 0 + 6 ≤ _), (by decide : 0 + 18 ≤ _)⟩)
  dsimp only [Pt.U, Pt.locs, Pt.cells, Pt.slots] at X606 l606 y606 z606 st606 hQ606 hs606 hg606 ch606
  subst l606 y606 z606
  obtain ⟨x_606, t_606, cs_606, rfl, N606q, K606, f606_0, pr606_0⟩ := hQ606
  have N606 := Fr.app N605 N606q
  obtain ⟨Y606, hS606, hZ606, hown606⟩ := rebS hS0 (n1 := h0.size) (by omega) X606 hs606 (by have := hg606; first | exact this | (rw [← K605]; exact this)) hZ hown
  have z606 : h0.size ≤ T606.heap.size := K606.1
  have R606 : CHr Z consts_1 s.vm h0 T606.vm T606.heap := R0.trans ch606
  have lt606_0 : @LT.lt Nat _ x_606 T606.heap.size := f606_0.lt
  have ltv606_0 : @LT.lt Nat _ t_606 T606.heap.size := f606_0.ltv
  refine own_Go.tr st606 ?_
  show own_Go _ _ _ _ (T606.setTop (mkF m 118 #[.val (.long q1), .second, .val (.long q2), .second, .val (.int p1), .val (.int nn), .val (.int c_599), .val (.int c_600), .val (.int c_601), .val (.int c_602), .val (.int c_603), .val (.int c_604), .val (.int c_605), .unset, .unset, .unset, .unset] [(.ref x_606)]))
  refine own_Go.st (fun _ k => XS.astore Y606.here hx rfl (hb hby at_118) rfl rfl (l' := #[.val (.long q1), .second, .val (.long q2), .second, .val (.int p1), .val (.int nn), .val (.int c_599), .val (.int c_600), .val (.int c_601), .val (.int c_602), .val (.int c_603), .val (.int c_604), .val (.int c_605), .val (.ref x_606), .unset, .unset, .unset]) rfl k) ?_
  show own_Go _ _ _ _ (T606.setTop (mkF m 120 #[.val (.long q1), .second, .val (.long q2), .second, .val (.int p1), .val (.int nn), .val (.int c_599), .val (.int c_600), .val (.int c_601), .val (.int c_602), .val (.int c_603), .val (.int c_604), .val (.int c_605), .val (.ref x_606), .unset, .unset, .unset] []))
  have J607 : ∀ (g1 : Int32), (g1 = if nn = 4 ∧ c_599 = 103 ∧ c_600 = 122 ∧ c_601 = 105 ∧ c_602 = 112 then 1 else 0) → own_Go p.tables e below PP (T606.setTop (mkF m 159 #[.val (.long q1), .second, .val (.long q2), .second, .val (.int p1), .val (.int nn), .val (.int c_599), .val (.int c_600), .val (.int c_601), .val (.int c_602), .val (.int c_603), .val (.int c_604), .val (.int c_605), .val (.ref x_606), .unset, .unset, .unset] [(.int g1)])) := by
    intro g1 hJ607
    refine own_Go.st (fun _ k => XS.istore Y606.here hx rfl (hb hby at_159) rfl (l' := #[.val (.long q1), .second, .val (.long q2), .second, .val (.int p1), .val (.int nn), .val (.int c_599), .val (.int c_600), .val (.int c_601), .val (.int c_602), .val (.int c_603), .val (.int c_604), .val (.int c_605), .val (.ref x_606), .val (.int g1), .unset, .unset]) rfl k) ?_
    show own_Go _ _ _ _ (T606.setTop (mkF m 161 #[.val (.long q1), .second, .val (.long q2), .second, .val (.int p1), .val (.int nn), .val (.int c_599), .val (.int c_600), .val (.int c_601), .val (.int c_602), .val (.int c_603), .val (.int c_604), .val (.int c_605), .val (.ref x_606), .val (.int g1), .unset, .unset] []))
    have J608 : ∀ (g2 : Int32), (g2 = if nn = 6 ∧ c_599 = 120 ∧ c_600 = 45 ∧ c_601 = 103 ∧ c_602 = 122 ∧ c_603 = 105 ∧ c_604 = 112 then 1 else 0) → own_Go p.tables e below PP (T606.setTop (mkF m 215 #[.val (.long q1), .second, .val (.long q2), .second, .val (.int p1), .val (.int nn), .val (.int c_599), .val (.int c_600), .val (.int c_601), .val (.int c_602), .val (.int c_603), .val (.int c_604), .val (.int c_605), .val (.ref x_606), .val (.int g1), .unset, .unset] [(.int g2)])) := by
      intro g2 hJ608
      refine own_Go.st (fun _ k => XS.istore Y606.here hx rfl (hb hby at_215) rfl (l' := #[.val (.long q1), .second, .val (.long q2), .second, .val (.int p1), .val (.int nn), .val (.int c_599), .val (.int c_600), .val (.int c_601), .val (.int c_602), .val (.int c_603), .val (.int c_604), .val (.int c_605), .val (.ref x_606), .val (.int g1), .val (.int g2), .unset]) rfl k) ?_
      show own_Go _ _ _ _ (T606.setTop (mkF m 217 #[.val (.long q1), .second, .val (.long q2), .second, .val (.int p1), .val (.int nn), .val (.int c_599), .val (.int c_600), .val (.int c_601), .val (.int c_602), .val (.int c_603), .val (.int c_604), .val (.int c_605), .val (.ref x_606), .val (.int g1), .val (.int g2), .unset] []))
      have J609 : ∀ (g3 : Int32), ((g3 = 0 ∧ g1 = 0 ∧ g2 = 0) ∨ (g3 = 1 ∧ (¬ g1 = 0 ∨ ¬ g2 = 0))) → own_Go p.tables e below PP (T606.setTop (mkF m 232 #[.val (.long q1), .second, .val (.long q2), .second, .val (.int p1), .val (.int nn), .val (.int c_599), .val (.int c_600), .val (.int c_601), .val (.int c_602), .val (.int c_603), .val (.int c_604), .val (.int c_605), .val (.ref x_606), .val (.int g1), .val (.int g2), .unset] [(.int g3)])) := by
        intro g3 hJ609
        refine own_Go.st (fun _ k => XS.istore Y606.here hx rfl (hb hby at_232) rfl (l' := #[.val (.long q1), .second, .val (.long q2), .second, .val (.int p1), .val (.int nn), .val (.int c_599), .val (.int c_600), .val (.int c_601), .val (.int c_602), .val (.int c_603), .val (.int c_604), .val (.int c_605), .val (.ref x_606), .val (.int g1), .val (.int g2), .val (.int g3)]) rfl k) ?_
        show own_Go _ _ _ _ (T606.setTop (mkF m 234 #[.val (.long q1), .second, .val (.long q2), .second, .val (.int p1), .val (.int nn), .val (.int c_599), .val (.int c_600), .val (.int c_601), .val (.int c_602), .val (.int c_603), .val (.int c_604), .val (.int c_605), .val (.ref x_606), .val (.int g1), .val (.int g2), .val (.int g3)] []))
        refine own_Go.st (fun _ k => XS.aload Y606.here hx rfl (hb hby at_234) rfl rfl k) ?_
        show own_Go _ _ _ _ (T606.setTop (mkF m 236 #[.val (.long q1), .second, .val (.long q2), .second, .val (.int p1), .val (.int nn), .val (.int c_599), .val (.int c_600), .val (.int c_601), .val (.int c_602), .val (.int c_603), .val (.int c_604), .val (.int c_605), .val (.ref x_606), .val (.int g1), .val (.int g2), .val (.int g3)] [(.ref x_606)]))
        have f611 : Old Z Z.heap.size T606.heap := OL.keep K606 all0
        obtain ⟨_, _, ⟨T610, L610, k610, n610⟩, -, X610, hs610, hg610, ⟨Lc610, hQ610, l610, y610, z610, ch610⟩, st610⟩ := callSS Y606 hx (y := (⟨"com/example/net30/net30/http/Gzip", "names", "(Ljava/lang/String;)Z"⟩ : MethodName)) hown606 (mvT hZ606 (hw _ (List.mem_of_getElem? (i := 30) rfl))) (mvT hZ606 (hw _ (List.mem_of_getElem? (i := 31) rfl))) (mvT hZ606 (hw _ (List.mem_of_getElem? (i := 32) rfl))) (mvT hZ606 (hw _ (List.mem_of_getElem? (i := 33) rfl))) (by decide) (backOfSH (s := s) (vm0 := T606.vm) (W := 0) (rm_names l Z a0 hw [] x_606 t_606 cs_606 zc T606.heap hEL f611 f606_0 st_COMPACT_STRINGS (by first | assumption | decide)) hZ606 (hw _ (List.mem_of_getElem? (i := 33) rfl)) (hw _ (List.mem_of_getElem? (i := 32) rfl)) (by decide) (by decide) hEL R606.1) (g := (mkF m 236 #[.val (.long q1), .second, .val (.long q2), .second, .val (.int p1), .val (.int nn), .val (.int c_599), .val (.int c_600), .val (.int c_601), .val (.int c_602), .val (.int c_603), .val (.int c_604), .val (.int c_605), .val (.ref x_606), .val (.int g1), .val (.int g2), .val (.int g3)] [(.ref x_606)])) rfl (by rw [hml]; rfl) (argsL := [(.ref x_606)]) (rest := []) (lenOf pd_273 rfl) rfl (by show 2 * 0 + _ ≤ _; exact Nat.le_of_eq rfl) (hb hby at_236) (fun _ _ => ⟨rfl, rfl, (by decide : 6 + 4 ≤ _), (by decide : 18 + 48 ≤ _)⟩)
        dsimp only [Pt.U, Pt.locs, Pt.cells, Pt.slots] at X610 l610 y610 z610 st610 hQ610 hs610 hg610 ch610
        subst l610 y610 z610
        obtain ⟨r_610, rfl, N610q, K610, pr610_0⟩ := hQ610
        have N610 := Fr.app N606 N610q
        obtain ⟨Y610, hS610, hZ610, hown610⟩ := rebS hS606 (n1 := T606.heap.size) (by omega) X610 hs610 (by have := hg610; first | exact this | (rw [← rfl]; exact this)) hZ606 hown606
        have z610 : T606.heap.size ≤ T610.heap.size := K610.1
        have R610 : CHr Z consts_1 s.vm h0 T610.vm T610.heap := R606.trans ch610
        rw [pr606_0] at pr610_0
        refine own_Go.tr st610 ?_
        show own_Go _ _ _ _ (T610.setTop (mkF m 239 #[.val (.long q1), .second, .val (.long q2), .second, .val (.int p1), .val (.int nn), .val (.int c_599), .val (.int c_600), .val (.int c_601), .val (.int c_602), .val (.int c_603), .val (.int c_604), .val (.int c_605), .val (.ref x_606), .val (.int g1), .val (.int g2), .val (.int g3)] [(.int r_610)]))
        refine own_Go.st (fun _ k => XS.iload Y610.here hx rfl (hb hby at_239) rfl k) ?_
        show own_Go _ _ _ _ (T610.setTop (mkF m 241 #[.val (.long q1), .second, .val (.long q2), .second, .val (.int p1), .val (.int nn), .val (.int c_599), .val (.int c_600), .val (.int c_601), .val (.int c_602), .val (.int c_603), .val (.int c_604), .val (.int c_605), .val (.ref x_606), .val (.int g1), .val (.int g2), .val (.int g3)] [(.int g3), (.int r_610)]))
        have hc612 : r_610 = g3 := own_fin (own_gz nn c_599 c_600 c_601 c_602 c_603 c_604 c_605 hn8) (own_xgz nn c_599 c_600 c_601 c_602 c_603 c_604 c_605 hn8) hJ607 hJ608 hJ609 pr610_0
        refine own_Go.st (fun _ k => XS.icmpNo Y610.here hx rfl (hb hby at_241) rfl (teq hc612).2 k) ?_
        show own_Go _ _ _ _ (T610.setTop (mkF m 244 #[.val (.long q1), .second, .val (.long q2), .second, .val (.int p1), .val (.int nn), .val (.int c_599), .val (.int c_600), .val (.int c_601), .val (.int c_602), .val (.int c_603), .val (.int c_604), .val (.int c_605), .val (.ref x_606), .val (.int g1), .val (.int g2), .val (.int g3)] []))
        refine own_Go.st (fun _ k => XS.iconst Y610.here hx rfl (hb hby at_244) k) ?_
        show own_Go _ _ _ _ (T610.setTop (mkF m 245 #[.val (.long q1), .second, .val (.long q2), .second, .val (.int p1), .val (.int nn), .val (.int c_599), .val (.int c_600), .val (.int c_601), .val (.int c_602), .val (.int c_603), .val (.int c_604), .val (.int c_605), .val (.ref x_606), .val (.int g1), .val (.int g2), .val (.int g3)] [(.int (1 : Int32))]))
        refine own_Go.st (fun _ k => XS.goto Y610.here hx rfl (pc0 := 245) (pc' := 249) rfl (hb hby at_245) (by decide) (by decide) k) ?_
        show own_Go _ _ _ _ (T610.setTop (mkF m 249 #[.val (.long q1), .second, .val (.long q2), .second, .val (.int p1), .val (.int nn), .val (.int c_599), .val (.int c_600), .val (.int c_601), .val (.int c_602), .val (.int c_603), .val (.int c_604), .val (.int c_605), .val (.ref x_606), .val (.int g1), .val (.int g2), .val (.int g3)] [(.int (1 : Int32))]))
        obtain ⟨fs613, hr613, hrun613, hend613, hret613⟩ := Y610.leaveW hS610 (by omega) (v := some (.int (nar .boolean (1 : Int32)))) (fun h => by rw [Bd.returns] at h; cases h)
        have K614 : Keep h0 T606.heap [] := (Keep.refl h0 []).trans K606 all0
        have K615 : Keep h0 T610.heap [] := K614.trans K610 all0
        subst hPP
        refine ⟨_, _, retN Y610 hx (t := .boolean) Bd.returns (by simp) (hb hby at_249) hr613, hrun613, hend613, _, _, rfl, ?_, ?_, hret613.1, hret613.2.1, hret613.2.2.1, hret613.2.2.2.mono (by decide) (by decide)⟩
        · show Q_law Z q1 q2 p1 zc h0 _ T610.heap _
          exact ⟨rfl, N610, K615⟩
        · have hfin := R610.trans (CHv.at Y610 hZ610 hEL R610.1)
          rw [← hh] at hfin
          show CHr Z consts_1 s.vm s.heap T610.vm T610.heap
          exact hfin
      refine own_Go.st (fun _ k => XS.iload Y606.here hx rfl (hb hby at_217) rfl k) ?_
      show own_Go _ _ _ _ (T606.setTop (mkF m 219 #[.val (.long q1), .second, .val (.long q2), .second, .val (.int p1), .val (.int nn), .val (.int c_599), .val (.int c_600), .val (.int c_601), .val (.int c_602), .val (.int c_603), .val (.int c_604), .val (.int c_605), .val (.ref x_606), .val (.int g1), .val (.int g2), .unset] [(.int g1)]))
      by_cases hc616 : g1 = (0 : Int32)
      ·
        refine own_Go.st (fun _ k => XS.ifNo Y606.here hx rfl (hb hby at_219) rfl ((if0 _ _).trans (teq hc616).2) k) ?_
        show own_Go _ _ _ _ (T606.setTop (mkF m 222 #[.val (.long q1), .second, .val (.long q2), .second, .val (.int p1), .val (.int nn), .val (.int c_599), .val (.int c_600), .val (.int c_601), .val (.int c_602), .val (.int c_603), .val (.int c_604), .val (.int c_605), .val (.ref x_606), .val (.int g1), .val (.int g2), .unset] []))
        refine own_Go.st (fun _ k => XS.iload Y606.here hx rfl (hb hby at_222) rfl k) ?_
        show own_Go _ _ _ _ (T606.setTop (mkF m 224 #[.val (.long q1), .second, .val (.long q2), .second, .val (.int p1), .val (.int nn), .val (.int c_599), .val (.int c_600), .val (.int c_601), .val (.int c_602), .val (.int c_603), .val (.int c_604), .val (.int c_605), .val (.ref x_606), .val (.int g1), .val (.int g2), .unset] [(.int g2)]))
        by_cases hc617 : g2 = (0 : Int32)
        ·
          refine own_Go.st (fun _ k => XS.ifYes Y606.here hx rfl (pc0 := 224) (pc' := 231) rfl (hb hby at_224) rfl ((if0 _ _).trans (teq hc617).1) (by decide) (by decide) k) ?_
          show own_Go _ _ _ _ (T606.setTop (mkF m 231 #[.val (.long q1), .second, .val (.long q2), .second, .val (.int p1), .val (.int nn), .val (.int c_599), .val (.int c_600), .val (.int c_601), .val (.int c_602), .val (.int c_603), .val (.int c_604), .val (.int c_605), .val (.ref x_606), .val (.int g1), .val (.int g2), .unset] []))
          refine own_Go.st (fun _ k => XS.iconst Y606.here hx rfl (hb hby at_231) k) ?_
          show own_Go _ _ _ _ (T606.setTop (mkF m 232 #[.val (.long q1), .second, .val (.long q2), .second, .val (.int p1), .val (.int nn), .val (.int c_599), .val (.int c_600), .val (.int c_601), .val (.int c_602), .val (.int c_603), .val (.int c_604), .val (.int c_605), .val (.ref x_606), .val (.int g1), .val (.int g2), .unset] [(.int (0 : Int32))]))
          exact J609 (0 : Int32) (by simp [hc616, hc617])
        ·
          refine own_Go.st (fun _ k => XS.ifNo Y606.here hx rfl (hb hby at_224) rfl ((if0 _ _).trans (feq hc617).1) k) ?_
          show own_Go _ _ _ _ (T606.setTop (mkF m 227 #[.val (.long q1), .second, .val (.long q2), .second, .val (.int p1), .val (.int nn), .val (.int c_599), .val (.int c_600), .val (.int c_601), .val (.int c_602), .val (.int c_603), .val (.int c_604), .val (.int c_605), .val (.ref x_606), .val (.int g1), .val (.int g2), .unset] []))
          refine own_Go.st (fun _ k => XS.iconst Y606.here hx rfl (hb hby at_227) k) ?_
          show own_Go _ _ _ _ (T606.setTop (mkF m 228 #[.val (.long q1), .second, .val (.long q2), .second, .val (.int p1), .val (.int nn), .val (.int c_599), .val (.int c_600), .val (.int c_601), .val (.int c_602), .val (.int c_603), .val (.int c_604), .val (.int c_605), .val (.ref x_606), .val (.int g1), .val (.int g2), .unset] [(.int (1 : Int32))]))
          refine own_Go.st (fun _ k => XS.goto Y606.here hx rfl (pc0 := 228) (pc' := 232) rfl (hb hby at_228) (by decide) (by decide) k) ?_
          show own_Go _ _ _ _ (T606.setTop (mkF m 232 #[.val (.long q1), .second, .val (.long q2), .second, .val (.int p1), .val (.int nn), .val (.int c_599), .val (.int c_600), .val (.int c_601), .val (.int c_602), .val (.int c_603), .val (.int c_604), .val (.int c_605), .val (.ref x_606), .val (.int g1), .val (.int g2), .unset] [(.int (1 : Int32))]))
          exact J609 (1 : Int32) (by simp [hc616, hc617])
      ·
        refine own_Go.st (fun _ k => XS.ifYes Y606.here hx rfl (pc0 := 219) (pc' := 227) rfl (hb hby at_219) rfl ((if0 _ _).trans (feq hc616).2) (by decide) (by decide) k) ?_
        show own_Go _ _ _ _ (T606.setTop (mkF m 227 #[.val (.long q1), .second, .val (.long q2), .second, .val (.int p1), .val (.int nn), .val (.int c_599), .val (.int c_600), .val (.int c_601), .val (.int c_602), .val (.int c_603), .val (.int c_604), .val (.int c_605), .val (.ref x_606), .val (.int g1), .val (.int g2), .unset] []))
        refine own_Go.st (fun _ k => XS.iconst Y606.here hx rfl (hb hby at_227) k) ?_
        show own_Go _ _ _ _ (T606.setTop (mkF m 228 #[.val (.long q1), .second, .val (.long q2), .second, .val (.int p1), .val (.int nn), .val (.int c_599), .val (.int c_600), .val (.int c_601), .val (.int c_602), .val (.int c_603), .val (.int c_604), .val (.int c_605), .val (.ref x_606), .val (.int g1), .val (.int g2), .unset] [(.int (1 : Int32))]))
        refine own_Go.st (fun _ k => XS.goto Y606.here hx rfl (pc0 := 228) (pc' := 232) rfl (hb hby at_228) (by decide) (by decide) k) ?_
        show own_Go _ _ _ _ (T606.setTop (mkF m 232 #[.val (.long q1), .second, .val (.long q2), .second, .val (.int p1), .val (.int nn), .val (.int c_599), .val (.int c_600), .val (.int c_601), .val (.int c_602), .val (.int c_603), .val (.int c_604), .val (.int c_605), .val (.ref x_606), .val (.int g1), .val (.int g2), .unset] [(.int (1 : Int32))]))
        exact J609 (1 : Int32) (by simp [hc616])
    refine own_Go.st (fun _ k => XS.iload Y606.here hx rfl (hb hby at_161) rfl k) ?_
    show own_Go _ _ _ _ (T606.setTop (mkF m 163 #[.val (.long q1), .second, .val (.long q2), .second, .val (.int p1), .val (.int nn), .val (.int c_599), .val (.int c_600), .val (.int c_601), .val (.int c_602), .val (.int c_603), .val (.int c_604), .val (.int c_605), .val (.ref x_606), .val (.int g1), .unset, .unset] [(.int nn)]))
    refine own_Go.st (fun _ k => XS.bipush Y606.here hx rfl (hb hby at_163) k) ?_
    show own_Go _ _ _ _ (T606.setTop (mkF m 165 #[.val (.long q1), .second, .val (.long q2), .second, .val (.int p1), .val (.int nn), .val (.int c_599), .val (.int c_600), .val (.int c_601), .val (.int c_602), .val (.int c_603), .val (.int c_604), .val (.int c_605), .val (.ref x_606), .val (.int g1), .unset, .unset] [(.int (6 : Int32)), (.int nn)]))
    by_cases hc618 : nn = (6 : Int32)
    ·
      refine own_Go.st (fun _ k => XS.icmpNo Y606.here hx rfl (hb hby at_165) rfl (teq hc618).2 k) ?_
      show own_Go _ _ _ _ (T606.setTop (mkF m 168 #[.val (.long q1), .second, .val (.long q2), .second, .val (.int p1), .val (.int nn), .val (.int c_599), .val (.int c_600), .val (.int c_601), .val (.int c_602), .val (.int c_603), .val (.int c_604), .val (.int c_605), .val (.ref x_606), .val (.int g1), .unset, .unset] []))
      refine own_Go.st (fun _ k => XS.iload Y606.here hx rfl (hb hby at_168) rfl k) ?_
      show own_Go _ _ _ _ (T606.setTop (mkF m 170 #[.val (.long q1), .second, .val (.long q2), .second, .val (.int p1), .val (.int nn), .val (.int c_599), .val (.int c_600), .val (.int c_601), .val (.int c_602), .val (.int c_603), .val (.int c_604), .val (.int c_605), .val (.ref x_606), .val (.int g1), .unset, .unset] [(.int c_599)]))
      refine own_Go.st (fun _ k => XS.bipush Y606.here hx rfl (hb hby at_170) k) ?_
      show own_Go _ _ _ _ (T606.setTop (mkF m 172 #[.val (.long q1), .second, .val (.long q2), .second, .val (.int p1), .val (.int nn), .val (.int c_599), .val (.int c_600), .val (.int c_601), .val (.int c_602), .val (.int c_603), .val (.int c_604), .val (.int c_605), .val (.ref x_606), .val (.int g1), .unset, .unset] [(.int (120 : Int32)), (.int c_599)]))
      by_cases hc619 : c_599 = (120 : Int32)
      ·
        refine own_Go.st (fun _ k => XS.icmpNo Y606.here hx rfl (hb hby at_172) rfl (teq hc619).2 k) ?_
        show own_Go _ _ _ _ (T606.setTop (mkF m 175 #[.val (.long q1), .second, .val (.long q2), .second, .val (.int p1), .val (.int nn), .val (.int c_599), .val (.int c_600), .val (.int c_601), .val (.int c_602), .val (.int c_603), .val (.int c_604), .val (.int c_605), .val (.ref x_606), .val (.int g1), .unset, .unset] []))
        refine own_Go.st (fun _ k => XS.iload Y606.here hx rfl (hb hby at_175) rfl k) ?_
        show own_Go _ _ _ _ (T606.setTop (mkF m 177 #[.val (.long q1), .second, .val (.long q2), .second, .val (.int p1), .val (.int nn), .val (.int c_599), .val (.int c_600), .val (.int c_601), .val (.int c_602), .val (.int c_603), .val (.int c_604), .val (.int c_605), .val (.ref x_606), .val (.int g1), .unset, .unset] [(.int c_600)]))
        refine own_Go.st (fun _ k => XS.bipush Y606.here hx rfl (hb hby at_177) k) ?_
        show own_Go _ _ _ _ (T606.setTop (mkF m 179 #[.val (.long q1), .second, .val (.long q2), .second, .val (.int p1), .val (.int nn), .val (.int c_599), .val (.int c_600), .val (.int c_601), .val (.int c_602), .val (.int c_603), .val (.int c_604), .val (.int c_605), .val (.ref x_606), .val (.int g1), .unset, .unset] [(.int (45 : Int32)), (.int c_600)]))
        by_cases hc620 : c_600 = (45 : Int32)
        ·
          refine own_Go.st (fun _ k => XS.icmpNo Y606.here hx rfl (hb hby at_179) rfl (teq hc620).2 k) ?_
          show own_Go _ _ _ _ (T606.setTop (mkF m 182 #[.val (.long q1), .second, .val (.long q2), .second, .val (.int p1), .val (.int nn), .val (.int c_599), .val (.int c_600), .val (.int c_601), .val (.int c_602), .val (.int c_603), .val (.int c_604), .val (.int c_605), .val (.ref x_606), .val (.int g1), .unset, .unset] []))
          refine own_Go.st (fun _ k => XS.iload Y606.here hx rfl (hb hby at_182) rfl k) ?_
          show own_Go _ _ _ _ (T606.setTop (mkF m 184 #[.val (.long q1), .second, .val (.long q2), .second, .val (.int p1), .val (.int nn), .val (.int c_599), .val (.int c_600), .val (.int c_601), .val (.int c_602), .val (.int c_603), .val (.int c_604), .val (.int c_605), .val (.ref x_606), .val (.int g1), .unset, .unset] [(.int c_601)]))
          refine own_Go.st (fun _ k => XS.bipush Y606.here hx rfl (hb hby at_184) k) ?_
          show own_Go _ _ _ _ (T606.setTop (mkF m 186 #[.val (.long q1), .second, .val (.long q2), .second, .val (.int p1), .val (.int nn), .val (.int c_599), .val (.int c_600), .val (.int c_601), .val (.int c_602), .val (.int c_603), .val (.int c_604), .val (.int c_605), .val (.ref x_606), .val (.int g1), .unset, .unset] [(.int (103 : Int32)), (.int c_601)]))
          by_cases hc621 : c_601 = (103 : Int32)
          ·
            refine own_Go.st (fun _ k => XS.icmpNo Y606.here hx rfl (hb hby at_186) rfl (teq hc621).2 k) ?_
            show own_Go _ _ _ _ (T606.setTop (mkF m 189 #[.val (.long q1), .second, .val (.long q2), .second, .val (.int p1), .val (.int nn), .val (.int c_599), .val (.int c_600), .val (.int c_601), .val (.int c_602), .val (.int c_603), .val (.int c_604), .val (.int c_605), .val (.ref x_606), .val (.int g1), .unset, .unset] []))
            refine own_Go.st (fun _ k => XS.iload Y606.here hx rfl (hb hby at_189) rfl k) ?_
            show own_Go _ _ _ _ (T606.setTop (mkF m 191 #[.val (.long q1), .second, .val (.long q2), .second, .val (.int p1), .val (.int nn), .val (.int c_599), .val (.int c_600), .val (.int c_601), .val (.int c_602), .val (.int c_603), .val (.int c_604), .val (.int c_605), .val (.ref x_606), .val (.int g1), .unset, .unset] [(.int c_602)]))
            refine own_Go.st (fun _ k => XS.bipush Y606.here hx rfl (hb hby at_191) k) ?_
            show own_Go _ _ _ _ (T606.setTop (mkF m 193 #[.val (.long q1), .second, .val (.long q2), .second, .val (.int p1), .val (.int nn), .val (.int c_599), .val (.int c_600), .val (.int c_601), .val (.int c_602), .val (.int c_603), .val (.int c_604), .val (.int c_605), .val (.ref x_606), .val (.int g1), .unset, .unset] [(.int (122 : Int32)), (.int c_602)]))
            by_cases hc622 : c_602 = (122 : Int32)
            ·
              refine own_Go.st (fun _ k => XS.icmpNo Y606.here hx rfl (hb hby at_193) rfl (teq hc622).2 k) ?_
              show own_Go _ _ _ _ (T606.setTop (mkF m 196 #[.val (.long q1), .second, .val (.long q2), .second, .val (.int p1), .val (.int nn), .val (.int c_599), .val (.int c_600), .val (.int c_601), .val (.int c_602), .val (.int c_603), .val (.int c_604), .val (.int c_605), .val (.ref x_606), .val (.int g1), .unset, .unset] []))
              refine own_Go.st (fun _ k => XS.iload Y606.here hx rfl (hb hby at_196) rfl k) ?_
              show own_Go _ _ _ _ (T606.setTop (mkF m 198 #[.val (.long q1), .second, .val (.long q2), .second, .val (.int p1), .val (.int nn), .val (.int c_599), .val (.int c_600), .val (.int c_601), .val (.int c_602), .val (.int c_603), .val (.int c_604), .val (.int c_605), .val (.ref x_606), .val (.int g1), .unset, .unset] [(.int c_603)]))
              refine own_Go.st (fun _ k => XS.bipush Y606.here hx rfl (hb hby at_198) k) ?_
              show own_Go _ _ _ _ (T606.setTop (mkF m 200 #[.val (.long q1), .second, .val (.long q2), .second, .val (.int p1), .val (.int nn), .val (.int c_599), .val (.int c_600), .val (.int c_601), .val (.int c_602), .val (.int c_603), .val (.int c_604), .val (.int c_605), .val (.ref x_606), .val (.int g1), .unset, .unset] [(.int (105 : Int32)), (.int c_603)]))
              by_cases hc623 : c_603 = (105 : Int32)
              ·
                refine own_Go.st (fun _ k => XS.icmpNo Y606.here hx rfl (hb hby at_200) rfl (teq hc623).2 k) ?_
                show own_Go _ _ _ _ (T606.setTop (mkF m 203 #[.val (.long q1), .second, .val (.long q2), .second, .val (.int p1), .val (.int nn), .val (.int c_599), .val (.int c_600), .val (.int c_601), .val (.int c_602), .val (.int c_603), .val (.int c_604), .val (.int c_605), .val (.ref x_606), .val (.int g1), .unset, .unset] []))
                refine own_Go.st (fun _ k => XS.iload Y606.here hx rfl (hb hby at_203) rfl k) ?_
                show own_Go _ _ _ _ (T606.setTop (mkF m 205 #[.val (.long q1), .second, .val (.long q2), .second, .val (.int p1), .val (.int nn), .val (.int c_599), .val (.int c_600), .val (.int c_601), .val (.int c_602), .val (.int c_603), .val (.int c_604), .val (.int c_605), .val (.ref x_606), .val (.int g1), .unset, .unset] [(.int c_604)]))
                refine own_Go.st (fun _ k => XS.bipush Y606.here hx rfl (hb hby at_205) k) ?_
                show own_Go _ _ _ _ (T606.setTop (mkF m 207 #[.val (.long q1), .second, .val (.long q2), .second, .val (.int p1), .val (.int nn), .val (.int c_599), .val (.int c_600), .val (.int c_601), .val (.int c_602), .val (.int c_603), .val (.int c_604), .val (.int c_605), .val (.ref x_606), .val (.int g1), .unset, .unset] [(.int (112 : Int32)), (.int c_604)]))
                by_cases hc624 : c_604 = (112 : Int32)
                ·
                  refine own_Go.st (fun _ k => XS.icmpNo Y606.here hx rfl (hb hby at_207) rfl (teq hc624).2 k) ?_
                  show own_Go _ _ _ _ (T606.setTop (mkF m 210 #[.val (.long q1), .second, .val (.long q2), .second, .val (.int p1), .val (.int nn), .val (.int c_599), .val (.int c_600), .val (.int c_601), .val (.int c_602), .val (.int c_603), .val (.int c_604), .val (.int c_605), .val (.ref x_606), .val (.int g1), .unset, .unset] []))
                  refine own_Go.st (fun _ k => XS.iconst Y606.here hx rfl (hb hby at_210) k) ?_
                  show own_Go _ _ _ _ (T606.setTop (mkF m 211 #[.val (.long q1), .second, .val (.long q2), .second, .val (.int p1), .val (.int nn), .val (.int c_599), .val (.int c_600), .val (.int c_601), .val (.int c_602), .val (.int c_603), .val (.int c_604), .val (.int c_605), .val (.ref x_606), .val (.int g1), .unset, .unset] [(.int (1 : Int32))]))
                  refine own_Go.st (fun _ k => XS.goto Y606.here hx rfl (pc0 := 211) (pc' := 215) rfl (hb hby at_211) (by decide) (by decide) k) ?_
                  show own_Go _ _ _ _ (T606.setTop (mkF m 215 #[.val (.long q1), .second, .val (.long q2), .second, .val (.int p1), .val (.int nn), .val (.int c_599), .val (.int c_600), .val (.int c_601), .val (.int c_602), .val (.int c_603), .val (.int c_604), .val (.int c_605), .val (.ref x_606), .val (.int g1), .unset, .unset] [(.int (1 : Int32))]))
                  exact J608 (1 : Int32) (by simp [hc618, hc619, hc620, hc621, hc622, hc623, hc624])
                ·
                  refine own_Go.st (fun _ k => XS.icmpYes Y606.here hx rfl (pc0 := 207) (pc' := 214) rfl (hb hby at_207) rfl (feq hc624).2 (by decide) (by decide) k) ?_
                  show own_Go _ _ _ _ (T606.setTop (mkF m 214 #[.val (.long q1), .second, .val (.long q2), .second, .val (.int p1), .val (.int nn), .val (.int c_599), .val (.int c_600), .val (.int c_601), .val (.int c_602), .val (.int c_603), .val (.int c_604), .val (.int c_605), .val (.ref x_606), .val (.int g1), .unset, .unset] []))
                  refine own_Go.st (fun _ k => XS.iconst Y606.here hx rfl (hb hby at_214) k) ?_
                  show own_Go _ _ _ _ (T606.setTop (mkF m 215 #[.val (.long q1), .second, .val (.long q2), .second, .val (.int p1), .val (.int nn), .val (.int c_599), .val (.int c_600), .val (.int c_601), .val (.int c_602), .val (.int c_603), .val (.int c_604), .val (.int c_605), .val (.ref x_606), .val (.int g1), .unset, .unset] [(.int (0 : Int32))]))
                  exact J608 (0 : Int32) (by simp [hc618, hc619, hc620, hc621, hc622, hc623, hc624])
              ·
                refine own_Go.st (fun _ k => XS.icmpYes Y606.here hx rfl (pc0 := 200) (pc' := 214) rfl (hb hby at_200) rfl (feq hc623).2 (by decide) (by decide) k) ?_
                show own_Go _ _ _ _ (T606.setTop (mkF m 214 #[.val (.long q1), .second, .val (.long q2), .second, .val (.int p1), .val (.int nn), .val (.int c_599), .val (.int c_600), .val (.int c_601), .val (.int c_602), .val (.int c_603), .val (.int c_604), .val (.int c_605), .val (.ref x_606), .val (.int g1), .unset, .unset] []))
                refine own_Go.st (fun _ k => XS.iconst Y606.here hx rfl (hb hby at_214) k) ?_
                show own_Go _ _ _ _ (T606.setTop (mkF m 215 #[.val (.long q1), .second, .val (.long q2), .second, .val (.int p1), .val (.int nn), .val (.int c_599), .val (.int c_600), .val (.int c_601), .val (.int c_602), .val (.int c_603), .val (.int c_604), .val (.int c_605), .val (.ref x_606), .val (.int g1), .unset, .unset] [(.int (0 : Int32))]))
                exact J608 (0 : Int32) (by simp [hc618, hc619, hc620, hc621, hc622, hc623])
            ·
              refine own_Go.st (fun _ k => XS.icmpYes Y606.here hx rfl (pc0 := 193) (pc' := 214) rfl (hb hby at_193) rfl (feq hc622).2 (by decide) (by decide) k) ?_
              show own_Go _ _ _ _ (T606.setTop (mkF m 214 #[.val (.long q1), .second, .val (.long q2), .second, .val (.int p1), .val (.int nn), .val (.int c_599), .val (.int c_600), .val (.int c_601), .val (.int c_602), .val (.int c_603), .val (.int c_604), .val (.int c_605), .val (.ref x_606), .val (.int g1), .unset, .unset] []))
              refine own_Go.st (fun _ k => XS.iconst Y606.here hx rfl (hb hby at_214) k) ?_
              show own_Go _ _ _ _ (T606.setTop (mkF m 215 #[.val (.long q1), .second, .val (.long q2), .second, .val (.int p1), .val (.int nn), .val (.int c_599), .val (.int c_600), .val (.int c_601), .val (.int c_602), .val (.int c_603), .val (.int c_604), .val (.int c_605), .val (.ref x_606), .val (.int g1), .unset, .unset] [(.int (0 : Int32))]))
              exact J608 (0 : Int32) (by simp [hc618, hc619, hc620, hc621, hc622])
          ·
            refine own_Go.st (fun _ k => XS.icmpYes Y606.here hx rfl (pc0 := 186) (pc' := 214) rfl (hb hby at_186) rfl (feq hc621).2 (by decide) (by decide) k) ?_
            show own_Go _ _ _ _ (T606.setTop (mkF m 214 #[.val (.long q1), .second, .val (.long q2), .second, .val (.int p1), .val (.int nn), .val (.int c_599), .val (.int c_600), .val (.int c_601), .val (.int c_602), .val (.int c_603), .val (.int c_604), .val (.int c_605), .val (.ref x_606), .val (.int g1), .unset, .unset] []))
            refine own_Go.st (fun _ k => XS.iconst Y606.here hx rfl (hb hby at_214) k) ?_
            show own_Go _ _ _ _ (T606.setTop (mkF m 215 #[.val (.long q1), .second, .val (.long q2), .second, .val (.int p1), .val (.int nn), .val (.int c_599), .val (.int c_600), .val (.int c_601), .val (.int c_602), .val (.int c_603), .val (.int c_604), .val (.int c_605), .val (.ref x_606), .val (.int g1), .unset, .unset] [(.int (0 : Int32))]))
            exact J608 (0 : Int32) (by simp [hc618, hc619, hc620, hc621])
        ·
          refine own_Go.st (fun _ k => XS.icmpYes Y606.here hx rfl (pc0 := 179) (pc' := 214) rfl (hb hby at_179) rfl (feq hc620).2 (by decide) (by decide) k) ?_
          show own_Go _ _ _ _ (T606.setTop (mkF m 214 #[.val (.long q1), .second, .val (.long q2), .second, .val (.int p1), .val (.int nn), .val (.int c_599), .val (.int c_600), .val (.int c_601), .val (.int c_602), .val (.int c_603), .val (.int c_604), .val (.int c_605), .val (.ref x_606), .val (.int g1), .unset, .unset] []))
          refine own_Go.st (fun _ k => XS.iconst Y606.here hx rfl (hb hby at_214) k) ?_
          show own_Go _ _ _ _ (T606.setTop (mkF m 215 #[.val (.long q1), .second, .val (.long q2), .second, .val (.int p1), .val (.int nn), .val (.int c_599), .val (.int c_600), .val (.int c_601), .val (.int c_602), .val (.int c_603), .val (.int c_604), .val (.int c_605), .val (.ref x_606), .val (.int g1), .unset, .unset] [(.int (0 : Int32))]))
          exact J608 (0 : Int32) (by simp [hc618, hc619, hc620])
      ·
        refine own_Go.st (fun _ k => XS.icmpYes Y606.here hx rfl (pc0 := 172) (pc' := 214) rfl (hb hby at_172) rfl (feq hc619).2 (by decide) (by decide) k) ?_
        show own_Go _ _ _ _ (T606.setTop (mkF m 214 #[.val (.long q1), .second, .val (.long q2), .second, .val (.int p1), .val (.int nn), .val (.int c_599), .val (.int c_600), .val (.int c_601), .val (.int c_602), .val (.int c_603), .val (.int c_604), .val (.int c_605), .val (.ref x_606), .val (.int g1), .unset, .unset] []))
        refine own_Go.st (fun _ k => XS.iconst Y606.here hx rfl (hb hby at_214) k) ?_
        show own_Go _ _ _ _ (T606.setTop (mkF m 215 #[.val (.long q1), .second, .val (.long q2), .second, .val (.int p1), .val (.int nn), .val (.int c_599), .val (.int c_600), .val (.int c_601), .val (.int c_602), .val (.int c_603), .val (.int c_604), .val (.int c_605), .val (.ref x_606), .val (.int g1), .unset, .unset] [(.int (0 : Int32))]))
        exact J608 (0 : Int32) (by simp [hc618, hc619])
    ·
      refine own_Go.st (fun _ k => XS.icmpYes Y606.here hx rfl (pc0 := 165) (pc' := 214) rfl (hb hby at_165) rfl (feq hc618).2 (by decide) (by decide) k) ?_
      show own_Go _ _ _ _ (T606.setTop (mkF m 214 #[.val (.long q1), .second, .val (.long q2), .second, .val (.int p1), .val (.int nn), .val (.int c_599), .val (.int c_600), .val (.int c_601), .val (.int c_602), .val (.int c_603), .val (.int c_604), .val (.int c_605), .val (.ref x_606), .val (.int g1), .unset, .unset] []))
      refine own_Go.st (fun _ k => XS.iconst Y606.here hx rfl (hb hby at_214) k) ?_
      show own_Go _ _ _ _ (T606.setTop (mkF m 215 #[.val (.long q1), .second, .val (.long q2), .second, .val (.int p1), .val (.int nn), .val (.int c_599), .val (.int c_600), .val (.int c_601), .val (.int c_602), .val (.int c_603), .val (.int c_604), .val (.int c_605), .val (.ref x_606), .val (.int g1), .unset, .unset] [(.int (0 : Int32))]))
      exact J608 (0 : Int32) (by simp [hc618])
  refine own_Go.st (fun _ k => XS.iload Y606.here hx rfl (hb hby at_120) rfl k) ?_
  show own_Go _ _ _ _ (T606.setTop (mkF m 122 #[.val (.long q1), .second, .val (.long q2), .second, .val (.int p1), .val (.int nn), .val (.int c_599), .val (.int c_600), .val (.int c_601), .val (.int c_602), .val (.int c_603), .val (.int c_604), .val (.int c_605), .val (.ref x_606), .unset, .unset, .unset] [(.int nn)]))
  refine own_Go.st (fun _ k => XS.iconst Y606.here hx rfl (hb hby at_122) k) ?_
  show own_Go _ _ _ _ (T606.setTop (mkF m 123 #[.val (.long q1), .second, .val (.long q2), .second, .val (.int p1), .val (.int nn), .val (.int c_599), .val (.int c_600), .val (.int c_601), .val (.int c_602), .val (.int c_603), .val (.int c_604), .val (.int c_605), .val (.ref x_606), .unset, .unset, .unset] [(.int (4 : Int32)), (.int nn)]))
  by_cases hc625 : nn = (4 : Int32)
  ·
    refine own_Go.st (fun _ k => XS.icmpNo Y606.here hx rfl (hb hby at_123) rfl (teq hc625).2 k) ?_
    show own_Go _ _ _ _ (T606.setTop (mkF m 126 #[.val (.long q1), .second, .val (.long q2), .second, .val (.int p1), .val (.int nn), .val (.int c_599), .val (.int c_600), .val (.int c_601), .val (.int c_602), .val (.int c_603), .val (.int c_604), .val (.int c_605), .val (.ref x_606), .unset, .unset, .unset] []))
    refine own_Go.st (fun _ k => XS.iload Y606.here hx rfl (hb hby at_126) rfl k) ?_
    show own_Go _ _ _ _ (T606.setTop (mkF m 128 #[.val (.long q1), .second, .val (.long q2), .second, .val (.int p1), .val (.int nn), .val (.int c_599), .val (.int c_600), .val (.int c_601), .val (.int c_602), .val (.int c_603), .val (.int c_604), .val (.int c_605), .val (.ref x_606), .unset, .unset, .unset] [(.int c_599)]))
    refine own_Go.st (fun _ k => XS.bipush Y606.here hx rfl (hb hby at_128) k) ?_
    show own_Go _ _ _ _ (T606.setTop (mkF m 130 #[.val (.long q1), .second, .val (.long q2), .second, .val (.int p1), .val (.int nn), .val (.int c_599), .val (.int c_600), .val (.int c_601), .val (.int c_602), .val (.int c_603), .val (.int c_604), .val (.int c_605), .val (.ref x_606), .unset, .unset, .unset] [(.int (103 : Int32)), (.int c_599)]))
    by_cases hc626 : c_599 = (103 : Int32)
    ·
      refine own_Go.st (fun _ k => XS.icmpNo Y606.here hx rfl (hb hby at_130) rfl (teq hc626).2 k) ?_
      show own_Go _ _ _ _ (T606.setTop (mkF m 133 #[.val (.long q1), .second, .val (.long q2), .second, .val (.int p1), .val (.int nn), .val (.int c_599), .val (.int c_600), .val (.int c_601), .val (.int c_602), .val (.int c_603), .val (.int c_604), .val (.int c_605), .val (.ref x_606), .unset, .unset, .unset] []))
      refine own_Go.st (fun _ k => XS.iload Y606.here hx rfl (hb hby at_133) rfl k) ?_
      show own_Go _ _ _ _ (T606.setTop (mkF m 135 #[.val (.long q1), .second, .val (.long q2), .second, .val (.int p1), .val (.int nn), .val (.int c_599), .val (.int c_600), .val (.int c_601), .val (.int c_602), .val (.int c_603), .val (.int c_604), .val (.int c_605), .val (.ref x_606), .unset, .unset, .unset] [(.int c_600)]))
      refine own_Go.st (fun _ k => XS.bipush Y606.here hx rfl (hb hby at_135) k) ?_
      show own_Go _ _ _ _ (T606.setTop (mkF m 137 #[.val (.long q1), .second, .val (.long q2), .second, .val (.int p1), .val (.int nn), .val (.int c_599), .val (.int c_600), .val (.int c_601), .val (.int c_602), .val (.int c_603), .val (.int c_604), .val (.int c_605), .val (.ref x_606), .unset, .unset, .unset] [(.int (122 : Int32)), (.int c_600)]))
      by_cases hc627 : c_600 = (122 : Int32)
      ·
        refine own_Go.st (fun _ k => XS.icmpNo Y606.here hx rfl (hb hby at_137) rfl (teq hc627).2 k) ?_
        show own_Go _ _ _ _ (T606.setTop (mkF m 140 #[.val (.long q1), .second, .val (.long q2), .second, .val (.int p1), .val (.int nn), .val (.int c_599), .val (.int c_600), .val (.int c_601), .val (.int c_602), .val (.int c_603), .val (.int c_604), .val (.int c_605), .val (.ref x_606), .unset, .unset, .unset] []))
        refine own_Go.st (fun _ k => XS.iload Y606.here hx rfl (hb hby at_140) rfl k) ?_
        show own_Go _ _ _ _ (T606.setTop (mkF m 142 #[.val (.long q1), .second, .val (.long q2), .second, .val (.int p1), .val (.int nn), .val (.int c_599), .val (.int c_600), .val (.int c_601), .val (.int c_602), .val (.int c_603), .val (.int c_604), .val (.int c_605), .val (.ref x_606), .unset, .unset, .unset] [(.int c_601)]))
        refine own_Go.st (fun _ k => XS.bipush Y606.here hx rfl (hb hby at_142) k) ?_
        show own_Go _ _ _ _ (T606.setTop (mkF m 144 #[.val (.long q1), .second, .val (.long q2), .second, .val (.int p1), .val (.int nn), .val (.int c_599), .val (.int c_600), .val (.int c_601), .val (.int c_602), .val (.int c_603), .val (.int c_604), .val (.int c_605), .val (.ref x_606), .unset, .unset, .unset] [(.int (105 : Int32)), (.int c_601)]))
        by_cases hc628 : c_601 = (105 : Int32)
        ·
          refine own_Go.st (fun _ k => XS.icmpNo Y606.here hx rfl (hb hby at_144) rfl (teq hc628).2 k) ?_
          show own_Go _ _ _ _ (T606.setTop (mkF m 147 #[.val (.long q1), .second, .val (.long q2), .second, .val (.int p1), .val (.int nn), .val (.int c_599), .val (.int c_600), .val (.int c_601), .val (.int c_602), .val (.int c_603), .val (.int c_604), .val (.int c_605), .val (.ref x_606), .unset, .unset, .unset] []))
          refine own_Go.st (fun _ k => XS.iload Y606.here hx rfl (hb hby at_147) rfl k) ?_
          show own_Go _ _ _ _ (T606.setTop (mkF m 149 #[.val (.long q1), .second, .val (.long q2), .second, .val (.int p1), .val (.int nn), .val (.int c_599), .val (.int c_600), .val (.int c_601), .val (.int c_602), .val (.int c_603), .val (.int c_604), .val (.int c_605), .val (.ref x_606), .unset, .unset, .unset] [(.int c_602)]))
          refine own_Go.st (fun _ k => XS.bipush Y606.here hx rfl (hb hby at_149) k) ?_
          show own_Go _ _ _ _ (T606.setTop (mkF m 151 #[.val (.long q1), .second, .val (.long q2), .second, .val (.int p1), .val (.int nn), .val (.int c_599), .val (.int c_600), .val (.int c_601), .val (.int c_602), .val (.int c_603), .val (.int c_604), .val (.int c_605), .val (.ref x_606), .unset, .unset, .unset] [(.int (112 : Int32)), (.int c_602)]))
          by_cases hc629 : c_602 = (112 : Int32)
          ·
            refine own_Go.st (fun _ k => XS.icmpNo Y606.here hx rfl (hb hby at_151) rfl (teq hc629).2 k) ?_
            show own_Go _ _ _ _ (T606.setTop (mkF m 154 #[.val (.long q1), .second, .val (.long q2), .second, .val (.int p1), .val (.int nn), .val (.int c_599), .val (.int c_600), .val (.int c_601), .val (.int c_602), .val (.int c_603), .val (.int c_604), .val (.int c_605), .val (.ref x_606), .unset, .unset, .unset] []))
            refine own_Go.st (fun _ k => XS.iconst Y606.here hx rfl (hb hby at_154) k) ?_
            show own_Go _ _ _ _ (T606.setTop (mkF m 155 #[.val (.long q1), .second, .val (.long q2), .second, .val (.int p1), .val (.int nn), .val (.int c_599), .val (.int c_600), .val (.int c_601), .val (.int c_602), .val (.int c_603), .val (.int c_604), .val (.int c_605), .val (.ref x_606), .unset, .unset, .unset] [(.int (1 : Int32))]))
            refine own_Go.st (fun _ k => XS.goto Y606.here hx rfl (pc0 := 155) (pc' := 159) rfl (hb hby at_155) (by decide) (by decide) k) ?_
            show own_Go _ _ _ _ (T606.setTop (mkF m 159 #[.val (.long q1), .second, .val (.long q2), .second, .val (.int p1), .val (.int nn), .val (.int c_599), .val (.int c_600), .val (.int c_601), .val (.int c_602), .val (.int c_603), .val (.int c_604), .val (.int c_605), .val (.ref x_606), .unset, .unset, .unset] [(.int (1 : Int32))]))
            exact J607 (1 : Int32) (by simp [hc625, hc626, hc627, hc628, hc629])
          ·
            refine own_Go.st (fun _ k => XS.icmpYes Y606.here hx rfl (pc0 := 151) (pc' := 158) rfl (hb hby at_151) rfl (feq hc629).2 (by decide) (by decide) k) ?_
            show own_Go _ _ _ _ (T606.setTop (mkF m 158 #[.val (.long q1), .second, .val (.long q2), .second, .val (.int p1), .val (.int nn), .val (.int c_599), .val (.int c_600), .val (.int c_601), .val (.int c_602), .val (.int c_603), .val (.int c_604), .val (.int c_605), .val (.ref x_606), .unset, .unset, .unset] []))
            refine own_Go.st (fun _ k => XS.iconst Y606.here hx rfl (hb hby at_158) k) ?_
            show own_Go _ _ _ _ (T606.setTop (mkF m 159 #[.val (.long q1), .second, .val (.long q2), .second, .val (.int p1), .val (.int nn), .val (.int c_599), .val (.int c_600), .val (.int c_601), .val (.int c_602), .val (.int c_603), .val (.int c_604), .val (.int c_605), .val (.ref x_606), .unset, .unset, .unset] [(.int (0 : Int32))]))
            exact J607 (0 : Int32) (by simp [hc625, hc626, hc627, hc628, hc629])
        ·
          refine own_Go.st (fun _ k => XS.icmpYes Y606.here hx rfl (pc0 := 144) (pc' := 158) rfl (hb hby at_144) rfl (feq hc628).2 (by decide) (by decide) k) ?_
          show own_Go _ _ _ _ (T606.setTop (mkF m 158 #[.val (.long q1), .second, .val (.long q2), .second, .val (.int p1), .val (.int nn), .val (.int c_599), .val (.int c_600), .val (.int c_601), .val (.int c_602), .val (.int c_603), .val (.int c_604), .val (.int c_605), .val (.ref x_606), .unset, .unset, .unset] []))
          refine own_Go.st (fun _ k => XS.iconst Y606.here hx rfl (hb hby at_158) k) ?_
          show own_Go _ _ _ _ (T606.setTop (mkF m 159 #[.val (.long q1), .second, .val (.long q2), .second, .val (.int p1), .val (.int nn), .val (.int c_599), .val (.int c_600), .val (.int c_601), .val (.int c_602), .val (.int c_603), .val (.int c_604), .val (.int c_605), .val (.ref x_606), .unset, .unset, .unset] [(.int (0 : Int32))]))
          exact J607 (0 : Int32) (by simp [hc625, hc626, hc627, hc628])
      ·
        refine own_Go.st (fun _ k => XS.icmpYes Y606.here hx rfl (pc0 := 137) (pc' := 158) rfl (hb hby at_137) rfl (feq hc627).2 (by decide) (by decide) k) ?_
        show own_Go _ _ _ _ (T606.setTop (mkF m 158 #[.val (.long q1), .second, .val (.long q2), .second, .val (.int p1), .val (.int nn), .val (.int c_599), .val (.int c_600), .val (.int c_601), .val (.int c_602), .val (.int c_603), .val (.int c_604), .val (.int c_605), .val (.ref x_606), .unset, .unset, .unset] []))
        refine own_Go.st (fun _ k => XS.iconst Y606.here hx rfl (hb hby at_158) k) ?_
        show own_Go _ _ _ _ (T606.setTop (mkF m 159 #[.val (.long q1), .second, .val (.long q2), .second, .val (.int p1), .val (.int nn), .val (.int c_599), .val (.int c_600), .val (.int c_601), .val (.int c_602), .val (.int c_603), .val (.int c_604), .val (.int c_605), .val (.ref x_606), .unset, .unset, .unset] [(.int (0 : Int32))]))
        exact J607 (0 : Int32) (by simp [hc625, hc626, hc627])
    ·
      refine own_Go.st (fun _ k => XS.icmpYes Y606.here hx rfl (pc0 := 130) (pc' := 158) rfl (hb hby at_130) rfl (feq hc626).2 (by decide) (by decide) k) ?_
      show own_Go _ _ _ _ (T606.setTop (mkF m 158 #[.val (.long q1), .second, .val (.long q2), .second, .val (.int p1), .val (.int nn), .val (.int c_599), .val (.int c_600), .val (.int c_601), .val (.int c_602), .val (.int c_603), .val (.int c_604), .val (.int c_605), .val (.ref x_606), .unset, .unset, .unset] []))
      refine own_Go.st (fun _ k => XS.iconst Y606.here hx rfl (hb hby at_158) k) ?_
      show own_Go _ _ _ _ (T606.setTop (mkF m 159 #[.val (.long q1), .second, .val (.long q2), .second, .val (.int p1), .val (.int nn), .val (.int c_599), .val (.int c_600), .val (.int c_601), .val (.int c_602), .val (.int c_603), .val (.int c_604), .val (.int c_605), .val (.ref x_606), .unset, .unset, .unset] [(.int (0 : Int32))]))
      exact J607 (0 : Int32) (by simp [hc625, hc626])
  ·
    refine own_Go.st (fun _ k => XS.icmpYes Y606.here hx rfl (pc0 := 123) (pc' := 158) rfl (hb hby at_123) rfl (feq hc625).2 (by decide) (by decide) k) ?_
    show own_Go _ _ _ _ (T606.setTop (mkF m 158 #[.val (.long q1), .second, .val (.long q2), .second, .val (.int p1), .val (.int nn), .val (.int c_599), .val (.int c_600), .val (.int c_601), .val (.int c_602), .val (.int c_603), .val (.int c_604), .val (.int c_605), .val (.ref x_606), .unset, .unset, .unset] []))
    refine own_Go.st (fun _ k => XS.iconst Y606.here hx rfl (hb hby at_158) k) ?_
    show own_Go _ _ _ _ (T606.setTop (mkF m 159 #[.val (.long q1), .second, .val (.long q2), .second, .val (.int p1), .val (.int nn), .val (.int c_599), .val (.int c_600), .val (.int c_601), .val (.int c_602), .val (.int c_603), .val (.int c_604), .val (.int c_605), .val (.ref x_606), .unset, .unset, .unset] [(.int (0 : Int32))]))
    exact J607 (0 : Int32) (by simp [hc625])
set_option maxRecDepth 65536 in
set_option maxHeartbeats 40000000 in
theorem comes_1 {Post : Tables → Env → Array Value → State → Outcome → State → Prop} (hpost : ∀ tb e args s v u, (limb_1_1.after args s (.returned v) u = true ∧ limb_1_2.after args s (.returned v) u = true ∧ True) → ReturnedEndW s (.returned v) u (Jvm.fieldLocs frame_1_writes args s ++ Jvm.arrayLocs frame_1_arrays args s ++ Jvm.staticLocs frame_1_statics s) 24 3200 → Post tb e args s (.returned v) u) :
    ArmFor flags0 classFile x code maxLocals ret World_1 tables_1 room_1 Calls_1 rest_1 Pre_1 Post := by
  intro l hfl _ _ p e ha hc hk s m args below hf hA hF happ hP
  obtain ⟨hcalls, hrest, hpre⟩ := hP
  obtain ⟨-, -, -, hnamed, -, -, -, hat⟩ := (Spec.applies_iff hf).mp happ
  obtain ⟨hg, hn⟩ := and_e (Cond.before_iff.mp (show (Jvm.Cond.and given_1 narrow_1).before args s = true from hpre))
  obtain ⟨g0, r0⟩ := and_e hg
  obtain ⟨g1, r1⟩ := and_e r0
  obtain ⟨g2, r2⟩ := and_e r1
  obtain ⟨w0, w1, w2, rfl⟩ : ∃ w0 w1 w2 : Value, args = #[w0, w1, w2] := by
    have hs : args.size = 3 := by simpa [Cond.value, given_1] using g0
    obtain ⟨L⟩ := args
    match L, hs with
    | [w0, w1, w2], _ => exact ⟨w0, w1, w2, rfl⟩
  have hw := fun d (hd : d ∈ tables_1) => atoms_spec (ws := Jvm.Cond.code x code maxLocals ret :: tables_1) hat d (List.mem_cons_of_mem _ hd)
  obtain ⟨hsets, hown0⟩ := atoms_of _ (rest_1_c_eq ▸ (show rest_1_c.before _ s = true from hrest))
  have hfit : Fit s := fun {y c} hc i hi => by
    obtain ⟨ha, rfl⟩ := Array.getElem?_eq_some_iff.mp hc
    have q := List.all_eq_true.mp ((Array.all_eq_true_iff_forall_mem.mp hF) _ (Array.getElem_mem ha)) i (List.mem_range.mpr hi)
    simpa [Array.getElem?_eq_getElem hi] using q
  obtain ⟨i0, e0⟩ := isL_v g1
  obtain rfl : w0 = (.long i0) := Option.some.inj e0
  obtain ⟨i1, e1⟩ := isL_v g2
  obtain rfl : w1 = (.long i1) := Option.some.inj e1
  obtain ⟨i2, e2⟩ := is_v r2
  obtain rfl : w2 = (.int i2) := Option.some.inj e2
  obtain ⟨zc, ez⟩ := is_v (Cond.before_iff.mp (hsets _ (List.mem_of_getElem? (i := 1) rfl)))
  have st_zc : Sta s s.heap "java/lang/String" "COMPACT_STRINGS" "Z" (.int zc) := Sta.start ez (Or.inl (hsets _ (List.mem_of_getElem? (i := 0) rfl)))
  have hzc : ¬ (zc = (0 : Int32)) := gotF (Cond.eq_ints ez (Term.int_eval (0))) (not_v (Cond.before_iff.mp (hsets _ (List.mem_of_getElem? (i := 2) rfl))))
  have hEL : EW s _ consts_1 := (EW.cons (hw _ (List.mem_of_getElem? (i := 34) rfl)) (by decide) (EW.cons (hw _ (List.mem_of_getElem? (i := 46) rfl)) (by decide) (EW.cons (hw _ (List.mem_of_getElem? (i := 22) rfl)) (by decide) EW.nil)))
  have hC0 : CHv s consts_1 s.vm s.heap := CHv.start hEL (fun p hp => hcalls.1 p hp) (hsets _ (List.mem_of_getElem? (i := 2) rfl)) (hw _ (List.mem_of_getElem? (i := 23) rfl)) (hw _ (List.mem_of_getElem? (i := 9) rfl))
  obtain ⟨n, o, h1, h2, h3, _, L, rfl, ⟨rfl, N, -⟩, -, hq⟩ := rm_law l s _ hw tables_1 i0 i1 i2 zc s.heap hEL (Old.start s) st_zc hzc p e ha hc hk s m _ below hf ((Spec.applies_iff_loose hf).mp happ).1 ⟨rfl, State.Warmed39.refl s, rfl, hC0⟩ trivial
  refine ⟨n, _, h1, h2, h3, hpost _ _ _ _ _ _ ⟨Cond.after_iff.mpr rfl, Cond.after_iff.mpr (eq_i res_at (Term.int_eval (1)) rfl), trivial⟩ ⟨hq.1, hq.2.1, hq.2.2.1, (hq.2.2.2.sift fun y hy => Or.inr (N y hy)).mono (by decide) (by decide)⟩⟩
theorem main_1_1 : Claimed_1_1 := comes_1 fun _ _ _ _ _ _ h hF => ⟨h.1, hF⟩
theorem main_1_2 : Claimed_1_2 := comes_1 fun _ _ _ _ _ _ h hF => ⟨h.2.1, hF⟩
end Jvm.Pilot.@@N@@
namespace Jvm.Pilot.@@N@@
open Jvm Jvm.ClassFile Sem Op Lib Jvm.Free Jvm.Stand Jvm.Pilot.@@N@@.Jvm.D
/-! MADE BY PROGRAM (witnessworld.py) out of the Statement's table words and the real class files: 20 classes; the members and pool entries that the words name. The judged class is class 1, her method 3. -/
namespace start1
open Jvm.ClassFile
def u (s : String) : CpInfo := .utf8 (stringToUtf16 s)
/-- a pool by its gaps: so many unusable entries, then the entry; so many at the end -/
def gap : Nat → List CpInfo → List CpInfo
  | 0, r => r
  | n + 1, r => .unusable :: gap n r
def poolList (es : List (Nat × CpInfo)) (last : Nat) : List CpInfo := es.foldr (fun e r => gap e.1 (e.2 :: r)) (gap last [])
def pool (es : List (Nat × CpInfo)) (last : Nat) : Array CpInfo := ⟨poolList es last⟩
def fileOf (pool : Array CpInfo) (this : Nat) (attrs : Array Attribute := #[]) (ms : Array MethodInfo := #[]) (fl : Nat := 33) (sup : Nat := 0) (ifs : Array Nat := #[]) (fds : Array FieldInfo := #[]) : ClassFile where
  minorVersion := 0
  majorVersion := 65
  constantPool := pool
  accessFlags := fl
  thisClass := this
  superClass := sup
  interfaces := ifs
  fields := fds
  methods := ms
  attributes := attrs
def plain (name : String) (sup : Option ClassId) : Class where
  name := name
  kind := .ordinary
  loader := none
  accessFlags := 33
  super := sup
  interfaces := #[]
  cf := none
  fields := #[]
  methods := #[]
  instanceTypes := #[]
  staticTypes := #[]
  resolved := #[]
  callSites := []
  init := .initialized
  statics := none
  mirror := none

def pool0 : Array CpInfo := pool [(5, u "<init>"), (0, u "()V"), (1, .class_ 10), (1, u "java/lang/Object")] 113

def k0c0 : Code := { maxStack := 0, maxLocals := 1, code := object_method_1_code, exceptionTable := #[], attributes := #[] }
def k0m0 : Method := { name := "<init>", desc := "()V", sig := { parameters := [], returnType := none }, accessFlags := 1, code := some k0c0 }
/-- java/lang/Object -/
def k0 : Class := { plain "java/lang/Object" none with
  accessFlags := 33
  interfaces := #[]
  cf := some (fileOf pool0 8 #[] #[{ accessFlags := 1, nameIndex := 5, descriptorIndex := 6, attributes := #[] }] 33 0 #[] #[])
  fields := #[]
  methods := #[k0m0]
  instanceTypes := #[]
  staticTypes := #[]
  resolved := Array.replicate 124 none
  statics := none }

def pool1 : Array CpInfo := pool [(2, .class_ 4), (1, u "java/lang/Object"), (0, u "<init>"), (0, u "()V"), (0, .class_ 8), (0, u "java/lang/String"), (0, .methodref 7 10), (0, .nameAndType 5 11), (0, u "([C)V"), (0, .long 511), (1, .methodref 15 16), (0, .class_ 17), (0, .nameAndType 18 19), (0, u "com/example/net30/net30/http/GzipNamesPinLaw"), (0, u "ch"), (0, u "(I)C"), (0, .methodref 15 21), (0, .nameAndType 22 23), (0, u "make"), (0, u "(ICCCCCCC)Ljava/lang/String;"), (0, .methodref 25 26), (0, .class_ 27), (0, .nameAndType 28 29), (0, u "com/example/net30/net30/http/Gzip"), (0, u "names"), (0, u "(Ljava/lang/String;)Z"), (3, u "law"), (0, u "(JJI)Z")] 2

def k1m0 : Method := { name := "<init>", desc := "()V", sig := { parameters := [], returnType := none }, accessFlags := 2, code := none }
def k1c1 : Code := { maxStack := 2, maxLocals := 2, code := method_2_code, exceptionTable := #[], attributes := #[] }
def k1m1 : Method := { name := "ch", desc := "(I)C", sig := { parameters := [.int], returnType := some .char }, accessFlags := 10, code := some k1c1 }
def k1c2 : Code := { maxStack := 6, maxLocals := 8, code := method_3_code, exceptionTable := #[], attributes := #[] }
def k1m2 : Method := { name := "make", desc := "(ICCCCCCC)Ljava/lang/String;", sig := { parameters := [.int, .char, .char, .char, .char, .char, .char, .char], returnType := some (.object "java/lang/String") }, accessFlags := 10, code := some k1c2 }
def k1c3 : Code := { maxStack := 8, maxLocals := 17, code := code, exceptionTable := #[], attributes := #[] }
def k1m3 : Method := { name := "law", desc := "(JJI)Z", sig := { parameters := [.long, .long, .int], returnType := some .boolean }, accessFlags := 9, code := some k1c3 }
/-- com/example/net30/net30/http/GzipNamesPinLaw -/
def k1 : Class := { plain "com/example/net30/net30/http/GzipNamesPinLaw" (some 0) with
  accessFlags := 49
  interfaces := #[]
  cf := some (fileOf pool1 15 #[] #[{ accessFlags := 2, nameIndex := 5, descriptorIndex := 6, attributes := #[] }, { accessFlags := 10, nameIndex := 18, descriptorIndex := 19, attributes := #[] }, { accessFlags := 10, nameIndex := 22, descriptorIndex := 23, attributes := #[] }, { accessFlags := 9, nameIndex := 33, descriptorIndex := 34, attributes := #[] }] 49 2 #[] #[])
  fields := #[]
  methods := #[k1m0, k1m1, k1m2, k1m3]
  instanceTypes := #[]
  staticTypes := #[]
  resolved := Array.replicate 37 none
  statics := none }

def pool2 : Array CpInfo := pool [(1, .class_ 2), (0, u "java/io/Serializable"), (0, .class_ 4), (0, u "java/lang/Object")] 2

/-- java/io/Serializable -/
def k2 : Class := { plain "java/io/Serializable" (some 0) with
  accessFlags := 1537
  interfaces := #[]
  cf := some (fileOf pool2 1 #[] #[] 1537 3 #[] #[])
  fields := #[]
  methods := #[]
  instanceTypes := #[]
  staticTypes := #[]
  resolved := Array.replicate 7 none
  statics := none }

def pool3 : Array CpInfo := pool [(1, .class_ 2), (0, u "java/lang/Comparable"), (0, .class_ 4), (0, u "java/lang/Object")] 7

/-- java/lang/Comparable -/
def k3 : Class := { plain "java/lang/Comparable" (some 0) with
  accessFlags := 1537
  interfaces := #[]
  cf := some (fileOf pool3 1 #[] #[] 1537 3 #[] #[])
  fields := #[]
  methods := #[]
  instanceTypes := #[]
  staticTypes := #[]
  resolved := Array.replicate 12 none
  statics := none }

def pool4 : Array CpInfo := pool [(2, .class_ 4), (1, u "java/lang/CharSequence"), (42, .class_ 48), (0, u "java/lang/CharSequence$1CodePointIterator"), (10, .class_ 60), (0, u "java/lang/CharSequence$1CharIterator"), (5, .class_ 67), (0, u "java/lang/Object")] 63

/-- java/lang/CharSequence -/
def k4 : Class := { plain "java/lang/CharSequence" (some 0) with
  accessFlags := 1537
  interfaces := #[]
  cf := some (fileOf pool4 2 #[.nestMembers #[47, 59]] #[] 1537 66 #[] #[])
  fields := #[]
  methods := #[]
  instanceTypes := #[]
  staticTypes := #[]
  resolved := Array.replicate 131 none
  statics := none }

def pool5 : Array CpInfo := pool [(1, .class_ 2), (0, u "java/lang/constant/Constable"), (0, .class_ 4), (0, u "java/lang/Object")] 6

/-- java/lang/constant/Constable -/
def k5 : Class := { plain "java/lang/constant/Constable" (some 0) with
  accessFlags := 1537
  interfaces := #[]
  cf := some (fileOf pool5 1 #[] #[] 1537 3 #[] #[])
  fields := #[]
  methods := #[]
  instanceTypes := #[]
  staticTypes := #[]
  resolved := Array.replicate 11 none
  statics := none }

def pool6 : Array CpInfo := pool [(1, .class_ 2), (0, u "java/lang/constant/ConstantDesc"), (0, .class_ 4), (0, u "java/lang/Object")] 32

/-- java/lang/constant/ConstantDesc -/
def k6 : Class := { plain "java/lang/constant/ConstantDesc" (some 0) with
  accessFlags := 1537
  interfaces := #[]
  cf := some (fileOf pool6 1 #[] #[] 1537 3 #[] #[])
  fields := #[]
  methods := #[]
  instanceTypes := #[]
  staticTypes := #[]
  resolved := Array.replicate 37 none
  statics := none }

def pool7 : Array CpInfo := pool [(1, .methodref 2 3), (0, .class_ 4), (0, .nameAndType 5 6), (0, u "java/lang/Object"), (0, u "<init>"), (0, u "()V"), (0, .string 8), (0, u ""), (0, .fieldref 10 11), (0, .class_ 12), (0, .nameAndType 13 14), (0, u "java/lang/String"), (0, u "value"), (0, u "[B"), (0, .fieldref 10 16), (0, .nameAndType 17 18), (0, u "coder"), (0, u "B"), (2, u "hash"), (0, u "I"), (2, u "hashIsZero"), (0, u "Z"), (0, .methodref 10 28), (0, .nameAndType 5 29), (0, u "([CIILjava/lang/Void;)V"), (8, .fieldref 10 39), (0, .nameAndType 40 26), (0, u "COMPACT_STRINGS"), (1, .class_ 44), (1, u "java/lang/StringUTF16"), (0, u "compress"), (1, .methodref 42 48), (0, .nameAndType 49 50), (0, u "coderFromArrayLen"), (0, u "([BI)B"), (56, .class_ 109), (1, u "java/lang/StringLatin1"), (67, .methodref 42 178), (0, .nameAndType 45 179), (0, u "([CII)[B"), (361, .methodref 107 542), (0, .nameAndType 543 544), (0, u "equals"), (0, u "([B[B)Z"), (28, u "(Ljava/lang/Object;)Z"), (1, .class_ 576), (0, u "java/lang/CharSequence"), (22, u "CASE_INSENSITIVE_ORDER"), (0, u "Ljava/util/Comparator;"), (409, u "([C)V"), (90, u "serialPersistentFields"), (0, u "[Ljava/io/ObjectStreamField;"), (0, .class_ 1104), (0, u "java/lang/String$CaseInsensitiveComparator"), (1, .class_ 1107), (0, u "java/io/Serializable"), (0, .class_ 1109), (0, u "java/lang/Comparable"), (0, .class_ 1111), (0, u "java/lang/constant/Constable"), (0, .class_ 1113), (0, u "java/lang/constant/ConstantDesc"), (2, u "serialVersionUID"), (0, u "J"), (3, u "REPL"), (0, u "C"), (2, u "LATIN1"), (1, u "UTF16")] 323

def k7m0 : Method := { name := "<init>", desc := "()V", sig := { parameters := [], returnType := none }, accessFlags := 1, code := none }
def k7c1 : Code := { maxStack := 5, maxLocals := 2, code := jdk_42_method_3_code, exceptionTable := #[], attributes := #[] }
def k7m1 : Method := { name := "<init>", desc := "([C)V", sig := { parameters := [(.array .char)], returnType := none }, accessFlags := 1, code := some k7c1 }
def k7c2 : Code := { maxStack := 2, maxLocals := 3, code := jdk_42_method_66_code, exceptionTable := #[], attributes := #[] }
def k7m2 : Method := { name := "equals", desc := "(Ljava/lang/Object;)Z", sig := { parameters := [(.object "java/lang/Object")], returnType := some .boolean }, accessFlags := 1, code := some k7c2 }
def k7c3 : Code := { maxStack := 4, maxLocals := 6, code := jdk_42_method_149_code, exceptionTable := #[], attributes := #[] }
def k7m3 : Method := { name := "<init>", desc := "([CIILjava/lang/Void;)V", sig := { parameters := [(.array .char), .int, .int, (.object "java/lang/Void")], returnType := none }, accessFlags := 2, code := some k7c3 }
/-- java/lang/String -/
def k7 : Class := { plain "java/lang/String" (some 0) with
  accessFlags := 49
  interfaces := #[2, 3, 4, 5, 6]
  cf := some (fileOf pool7 10 #[.nestMembers #[1103]] #[{ accessFlags := 1, nameIndex := 5, descriptorIndex := 6, attributes := #[] }, { accessFlags := 1, nameIndex := 5, descriptorIndex := 1010, attributes := #[] }, { accessFlags := 1, nameIndex := 543, descriptorIndex := 573, attributes := #[] }, { accessFlags := 2, nameIndex := 5, descriptorIndex := 29, attributes := #[] }] 49 2 #[1106, 1108, 575, 1110, 1112] #[{ accessFlags := 18, nameIndex := 13, descriptorIndex := 14, attributes := #[] }, { accessFlags := 18, nameIndex := 17, descriptorIndex := 18, attributes := #[] }, { accessFlags := 2, nameIndex := 21, descriptorIndex := 22, attributes := #[] }, { accessFlags := 2, nameIndex := 25, descriptorIndex := 26, attributes := #[] }, { accessFlags := 26, nameIndex := 1116, descriptorIndex := 1117, attributes := #[] }, { accessFlags := 24, nameIndex := 40, descriptorIndex := 26, attributes := #[] }, { accessFlags := 26, nameIndex := 1101, descriptorIndex := 1102, attributes := #[] }, { accessFlags := 26, nameIndex := 1121, descriptorIndex := 1122, attributes := #[] }, { accessFlags := 25, nameIndex := 599, descriptorIndex := 600, attributes := #[] }, { accessFlags := 24, nameIndex := 1125, descriptorIndex := 18, attributes := #[] }, { accessFlags := 24, nameIndex := 1127, descriptorIndex := 18, attributes := #[] }])
  fields := #[{ name := "value", type := (.array .byte), accessFlags := 18, slot := 0, constantValue := 0 }, { name := "coder", type := .byte, accessFlags := 18, slot := 1, constantValue := 0 }, { name := "hash", type := .int, accessFlags := 2, slot := 2, constantValue := 0 }, { name := "hashIsZero", type := .boolean, accessFlags := 2, slot := 3, constantValue := 0 }, { name := "serialVersionUID", type := .long, accessFlags := 26, slot := 0, constantValue := 0 }, { name := "COMPACT_STRINGS", type := .boolean, accessFlags := 24, slot := 1, constantValue := 0 }, { name := "serialPersistentFields", type := (.array (.object "java/io/ObjectStreamField")), accessFlags := 26, slot := 2, constantValue := 0 }, { name := "REPL", type := .char, accessFlags := 26, slot := 3, constantValue := 0 }, { name := "CASE_INSENSITIVE_ORDER", type := (.object "java/util/Comparator"), accessFlags := 25, slot := 4, constantValue := 0 }, { name := "LATIN1", type := .byte, accessFlags := 24, slot := 5, constantValue := 0 }, { name := "UTF16", type := .byte, accessFlags := 24, slot := 6, constantValue := 0 }]
  methods := #[k7m0, k7m1, k7m2, k7m3]
  instanceTypes := #[(.array .byte), .byte, .int, .boolean]
  staticTypes := #[.long, .boolean, (.array (.object "java/io/ObjectStreamField")), .char, (.object "java/util/Comparator"), .byte, .byte]
  resolved := Array.replicate 1451 none
  statics := some 0 }

def pool8 : Array CpInfo := pool [(2, .class_ 4), (1, u "java/lang/Object"), (0, u "<init>"), (0, u "()V"), (0, .class_ 8), (0, u "com/example/net30/net30/http/Gzip"), (0, .string 10), (0, u "gzip"), (0, .methodref 12 13), (0, .class_ 14), (0, .nameAndType 15 16), (0, u "java/lang/String"), (0, u "equals"), (0, u "(Ljava/lang/Object;)Z"), (0, .string 18), (0, u "x-gzip"), (152, u "CODING"), (0, u "Ljava/lang/String;"), (1, u "ALIAS"), (0, u "HEADER_BYTES"), (0, u "I"), (1, u "TRAILER_BYTES"), (1, u "ISIZE_MASK"), (0, u "J"), (0, u "ID1"), (1, u "ID2"), (1, u "DEFLATE"), (0, u "FHCRC"), (1, u "FEXTRA"), (1, u "FNAME"), (0, u "FCOMMENT"), (1, u "RESERVED"), (1, u "BUFFER_BYTES"), (0, u "HEADER_CUT_SHORT"), (2, u "names"), (0, u "(Ljava/lang/String;)Z")] 28

def k8m0 : Method := { name := "<init>", desc := "()V", sig := { parameters := [], returnType := none }, accessFlags := 2, code := none }
def k8c1 : Code := { maxStack := 2, maxLocals := 1, code := prog_2_method_2_code, exceptionTable := #[], attributes := #[] }
def k8m1 : Method := { name := "names", desc := "(Ljava/lang/String;)Z", sig := { parameters := [(.object "java/lang/String")], returnType := some .boolean }, accessFlags := 8, code := some k8c1 }
/-- com/example/net30/net30/http/Gzip -/
def k8 : Class := { plain "com/example/net30/net30/http/Gzip" (some 0) with
  accessFlags := 48
  interfaces := #[]
  cf := some (fileOf pool8 7 #[] #[{ accessFlags := 2, nameIndex := 5, descriptorIndex := 6, attributes := #[] }, { accessFlags := 8, nameIndex := 200, descriptorIndex := 201, attributes := #[] }] 48 2 #[] #[{ accessFlags := 24, nameIndex := 171, descriptorIndex := 172, attributes := #[] }, { accessFlags := 26, nameIndex := 174, descriptorIndex := 172, attributes := #[] }, { accessFlags := 26, nameIndex := 175, descriptorIndex := 176, attributes := #[] }, { accessFlags := 26, nameIndex := 178, descriptorIndex := 176, attributes := #[] }, { accessFlags := 26, nameIndex := 180, descriptorIndex := 181, attributes := #[] }, { accessFlags := 26, nameIndex := 182, descriptorIndex := 176, attributes := #[] }, { accessFlags := 26, nameIndex := 184, descriptorIndex := 176, attributes := #[] }, { accessFlags := 26, nameIndex := 186, descriptorIndex := 176, attributes := #[] }, { accessFlags := 26, nameIndex := 187, descriptorIndex := 176, attributes := #[] }, { accessFlags := 26, nameIndex := 189, descriptorIndex := 176, attributes := #[] }, { accessFlags := 26, nameIndex := 191, descriptorIndex := 176, attributes := #[] }, { accessFlags := 26, nameIndex := 192, descriptorIndex := 176, attributes := #[] }, { accessFlags := 26, nameIndex := 194, descriptorIndex := 176, attributes := #[] }, { accessFlags := 26, nameIndex := 196, descriptorIndex := 176, attributes := #[] }, { accessFlags := 26, nameIndex := 197, descriptorIndex := 172, attributes := #[] }])
  fields := #[{ name := "CODING", type := (.object "java/lang/String"), accessFlags := 24, slot := 0, constantValue := 0 }, { name := "ALIAS", type := (.object "java/lang/String"), accessFlags := 26, slot := 1, constantValue := 0 }, { name := "HEADER_BYTES", type := .int, accessFlags := 26, slot := 2, constantValue := 0 }, { name := "TRAILER_BYTES", type := .int, accessFlags := 26, slot := 3, constantValue := 0 }, { name := "ISIZE_MASK", type := .long, accessFlags := 26, slot := 4, constantValue := 0 }, { name := "ID1", type := .int, accessFlags := 26, slot := 5, constantValue := 0 }, { name := "ID2", type := .int, accessFlags := 26, slot := 6, constantValue := 0 }, { name := "DEFLATE", type := .int, accessFlags := 26, slot := 7, constantValue := 0 }, { name := "FHCRC", type := .int, accessFlags := 26, slot := 8, constantValue := 0 }, { name := "FEXTRA", type := .int, accessFlags := 26, slot := 9, constantValue := 0 }, { name := "FNAME", type := .int, accessFlags := 26, slot := 10, constantValue := 0 }, { name := "FCOMMENT", type := .int, accessFlags := 26, slot := 11, constantValue := 0 }, { name := "RESERVED", type := .int, accessFlags := 26, slot := 12, constantValue := 0 }, { name := "BUFFER_BYTES", type := .int, accessFlags := 26, slot := 13, constantValue := 0 }, { name := "HEADER_CUT_SHORT", type := (.object "java/lang/String"), accessFlags := 26, slot := 14, constantValue := 0 }]
  methods := #[k8m0, k8m1]
  instanceTypes := #[]
  staticTypes := #[(.object "java/lang/String"), (.object "java/lang/String"), .int, .int, .long, .int, .int, .int, .int, .int, .int, .int, .int, .int, (.object "java/lang/String")]
  resolved := Array.replicate 230 none
  statics := none }

def pool9 : Array CpInfo := pool [(4, .class_ 6), (1, u "java/lang/Object"), (0, u "<init>"), (0, u "()V"), (5, .class_ 16), (1, u "java/lang/StringLatin1"), (104, u "$assertionsDisabled"), (0, u "Z"), (98, .class_ 223), (1, u "java/lang/StringLatin1$LinesSpliterator"), (57, u "equals"), (0, u "([B[B)Z"), (107, .class_ 391), (0, u "java/lang/StringLatin1$CharsSpliterator")] 3

def k9m0 : Method := { name := "<init>", desc := "()V", sig := { parameters := [], returnType := none }, accessFlags := 0, code := none }
def k9c1 : Code := { maxStack := 3, maxLocals := 3, code := jdk_43_method_13_code, exceptionTable := #[], attributes := #[] }
def k9m1 : Method := { name := "equals", desc := "([B[B)Z", sig := { parameters := [(.array .byte), (.array .byte)], returnType := some .boolean }, accessFlags := 9, code := some k9c1 }
/-- java/lang/StringLatin1 -/
def k9 : Class := { plain "java/lang/StringLatin1" (some 0) with
  accessFlags := 48
  interfaces := #[]
  cf := some (fileOf pool9 14 #[.nestMembers #[390, 221]] #[{ accessFlags := 0, nameIndex := 7, descriptorIndex := 8, attributes := #[] }, { accessFlags := 9, nameIndex := 281, descriptorIndex := 282, attributes := #[] }] 48 4 #[] #[{ accessFlags := 4120, nameIndex := 121, descriptorIndex := 122, attributes := #[] }])
  fields := #[{ name := "$assertionsDisabled", type := .boolean, accessFlags := 4120, slot := 0, constantValue := 0 }]
  methods := #[k9m0, k9m1]
  instanceTypes := #[]
  staticTypes := #[.boolean]
  resolved := Array.replicate 395 none
  statics := none }

def pool10 : Array CpInfo := pool [(6, .class_ 8), (1, u "java/lang/Object"), (0, u "<init>"), (0, u "()V"), (1, .class_ 14), (1, u "java/lang/StringUTF16"), (31, u "$assertionsDisabled"), (0, u "Z"), (13, u "HI_BYTE_SHIFT"), (0, u "I"), (2, u "LO_BYTE_SHIFT"), (49, .methodref 12 116), (0, .nameAndType 117 118), (0, u "compress"), (0, u "([CI[BII)I"), (3, u "([CII)[B"), (138, u "coderFromArrayLen"), (0, u "([BI)B"), (106, .class_ 371), (1, u "java/lang/StringUTF16$LinesSpliterator"), (58, u "MAX_LENGTH"), (196, .class_ 628), (0, u "java/lang/StringUTF16$CodePointsSpliterator"), (0, .class_ 630), (0, u "java/lang/StringUTF16$CharsSpliterator")] 4

def k10m0 : Method := { name := "<init>", desc := "()V", sig := { parameters := [], returnType := none }, accessFlags := 0, code := none }
def k10c1 : Code := { maxStack := 2, maxLocals := 2, code := jdk_52_method_15_code, exceptionTable := #[], attributes := #[] }
def k10m1 : Method := { name := "coderFromArrayLen", desc := "([BI)B", sig := { parameters := [(.array .byte), .int], returnType := some .byte }, accessFlags := 8, code := some k10c1 }
def k10c2 : Code := { maxStack := 5, maxLocals := 6, code := jdk_52_method_16_code, exceptionTable := #[], attributes := #[] }
def k10m2 : Method := { name := "compress", desc := "([CII)[B", sig := { parameters := [(.array .char), .int, .int], returnType := some (.array .byte) }, accessFlags := 9, code := some k10c2 }
def k10c3 : Code := { maxStack := 3, maxLocals := 7, code := jdk_52_method_21_code, exceptionTable := #[], attributes := #[] }
def k10m3 : Method := { name := "compress", desc := "([CI[BII)I", sig := { parameters := [(.array .char), .int, (.array .byte), .int, .int], returnType := some .int }, accessFlags := 9, code := some k10c3 }
/-- java/lang/StringUTF16 -/
def k10 : Class := { plain "java/lang/StringUTF16" (some 0) with
  accessFlags := 48
  interfaces := #[]
  cf := some (fileOf pool10 12 #[.nestMembers #[627, 629, 369]] #[{ accessFlags := 0, nameIndex := 9, descriptorIndex := 10, attributes := #[] }, { accessFlags := 8, nameIndex := 261, descriptorIndex := 262, attributes := #[] }, { accessFlags := 9, nameIndex := 117, descriptorIndex := 122, attributes := #[] }, { accessFlags := 9, nameIndex := 117, descriptorIndex := 118, attributes := #[] }] 48 6 #[] #[{ accessFlags := 26, nameIndex := 61, descriptorIndex := 62, attributes := #[] }, { accessFlags := 26, nameIndex := 65, descriptorIndex := 62, attributes := #[] }, { accessFlags := 24, nameIndex := 430, descriptorIndex := 62, attributes := #[] }, { accessFlags := 4120, nameIndex := 46, descriptorIndex := 47, attributes := #[] }])
  fields := #[{ name := "HI_BYTE_SHIFT", type := .int, accessFlags := 26, slot := 0, constantValue := 0 }, { name := "LO_BYTE_SHIFT", type := .int, accessFlags := 26, slot := 1, constantValue := 0 }, { name := "MAX_LENGTH", type := .int, accessFlags := 24, slot := 2, constantValue := 0 }, { name := "$assertionsDisabled", type := .boolean, accessFlags := 4120, slot := 3, constantValue := 0 }]
  methods := #[k10m0, k10m1, k10m2, k10m3]
  instanceTypes := #[]
  staticTypes := #[.int, .int, .int, .boolean]
  resolved := Array.replicate 635 none
  statics := none }

def pool11 : Array CpInfo := pool [(2, .class_ 4), (1, u "java/lang/Object"), (0, u "<init>"), (0, u "()V"), (17, .class_ 26), (1, u "jdk/internal/util/Preconditions"), (28, .class_ 56), (0, u "jdk/internal/util/Preconditions$4"), (57, .class_ 115), (0, u "jdk/internal/util/Preconditions$1"), (7, u "SIOOBE_FORMATTER"), (0, u "Ljava/util/function/BiFunction;"), (0, .class_ 126), (0, u "jdk/internal/util/Preconditions$2"), (3, u "AIOOBE_FORMATTER"), (0, .class_ 132), (0, u "jdk/internal/util/Preconditions$3"), (3, u "IOOBE_FORMATTER")] 57

def k11m0 : Method := { name := "<init>", desc := "()V", sig := { parameters := [], returnType := none }, accessFlags := 1, code := none }
/-- jdk/internal/util/Preconditions -/
def k11 : Class := { plain "jdk/internal/util/Preconditions" (some 0) with
  accessFlags := 33
  interfaces := #[]
  cf := some (fileOf pool11 24 #[.nestMembers #[55, 131, 125, 114]] #[{ accessFlags := 1, nameIndex := 5, descriptorIndex := 6, attributes := #[] }] 33 2 #[] #[{ accessFlags := 25, nameIndex := 123, descriptorIndex := 124, attributes := #[] }, { accessFlags := 25, nameIndex := 130, descriptorIndex := 124, attributes := #[] }, { accessFlags := 25, nameIndex := 136, descriptorIndex := 124, attributes := #[] }])
  fields := #[{ name := "SIOOBE_FORMATTER", type := (.object "java/util/function/BiFunction"), accessFlags := 25, slot := 0, constantValue := 0 }, { name := "AIOOBE_FORMATTER", type := (.object "java/util/function/BiFunction"), accessFlags := 25, slot := 1, constantValue := 0 }, { name := "IOOBE_FORMATTER", type := (.object "java/util/function/BiFunction"), accessFlags := 25, slot := 2, constantValue := 0 }]
  methods := #[k11m0]
  instanceTypes := #[]
  staticTypes := #[(.object "java/util/function/BiFunction"), (.object "java/util/function/BiFunction"), (.object "java/util/function/BiFunction")]
  resolved := Array.replicate 194 none
  statics := some 1 }

def pool12 : Array CpInfo := pool [(9, u "<init>"), (6, .class_ 18), (1, u "java/lang/Object"), (0, u "()V"), (1, .class_ 23), (1, u "jdk/internal/util/ArraysSupport"), (0, u "LOG2_ARRAY_LONG_INDEX_SCALE"), (0, u "I"), (2, u "U"), (0, u "Ljdk/internal/misc/Unsafe;"), (8, u "BIG_ENDIAN"), (0, u "Z"), (8, u "LOG2_BYTE_BIT_SIZE"), (4, u "LOG2_ARRAY_INT_INDEX_SCALE"), (54, u "JLA"), (0, u "Ljdk/internal/access/JavaLangAccess;"), (11, u "LOG2_ARRAY_BOOLEAN_INDEX_SCALE"), (9, u "LOG2_ARRAY_BYTE_INDEX_SCALE"), (5, u "LOG2_ARRAY_CHAR_INDEX_SCALE"), (5, u "LOG2_ARRAY_SHORT_INDEX_SCALE"), (18, u "LOG2_ARRAY_FLOAT_INDEX_SCALE"), (24, u "LOG2_ARRAY_DOUBLE_INDEX_SCALE"), (89, u "T_BOOLEAN"), (2, u "T_CHAR"), (1, u "T_FLOAT"), (1, u "T_DOUBLE"), (1, u "T_BYTE"), (1, u "T_SHORT"), (1, u "T_INT"), (1, u "T_LONG"), (1, u "SOFT_MAX_ARRAY_LENGTH")] 83

def k12m0 : Method := { name := "<init>", desc := "()V", sig := { parameters := [], returnType := none }, accessFlags := 2, code := none }
/-- jdk/internal/util/ArraysSupport -/
def k12 : Class := { plain "jdk/internal/util/ArraysSupport" (some 0) with
  accessFlags := 33
  interfaces := #[]
  cf := some (fileOf pool12 21 #[] #[{ accessFlags := 2, nameIndex := 9, descriptorIndex := 19, attributes := #[] }] 33 16 #[] #[{ accessFlags := 24, nameIndex := 28, descriptorIndex := 29, attributes := #[] }, { accessFlags := 26, nameIndex := 38, descriptorIndex := 39, attributes := #[] }, { accessFlags := 25, nameIndex := 121, descriptorIndex := 25, attributes := #[] }, { accessFlags := 25, nameIndex := 131, descriptorIndex := 25, attributes := #[] }, { accessFlags := 25, nameIndex := 137, descriptorIndex := 25, attributes := #[] }, { accessFlags := 25, nameIndex := 143, descriptorIndex := 25, attributes := #[] }, { accessFlags := 25, nameIndex := 53, descriptorIndex := 25, attributes := #[] }, { accessFlags := 25, nameIndex := 24, descriptorIndex := 25, attributes := #[] }, { accessFlags := 25, nameIndex := 162, descriptorIndex := 25, attributes := #[] }, { accessFlags := 25, nameIndex := 187, descriptorIndex := 25, attributes := #[] }, { accessFlags := 26, nameIndex := 48, descriptorIndex := 25, attributes := #[] }, { accessFlags := 25, nameIndex := 277, descriptorIndex := 25, attributes := #[] }, { accessFlags := 25, nameIndex := 280, descriptorIndex := 25, attributes := #[] }, { accessFlags := 25, nameIndex := 282, descriptorIndex := 25, attributes := #[] }, { accessFlags := 25, nameIndex := 284, descriptorIndex := 25, attributes := #[] }, { accessFlags := 25, nameIndex := 286, descriptorIndex := 25, attributes := #[] }, { accessFlags := 25, nameIndex := 288, descriptorIndex := 25, attributes := #[] }, { accessFlags := 25, nameIndex := 290, descriptorIndex := 25, attributes := #[] }, { accessFlags := 25, nameIndex := 292, descriptorIndex := 25, attributes := #[] }, { accessFlags := 26, nameIndex := 108, descriptorIndex := 109, attributes := #[] }, { accessFlags := 25, nameIndex := 294, descriptorIndex := 25, attributes := #[] }])
  fields := #[{ name := "U", type := (.object "jdk/internal/misc/Unsafe"), accessFlags := 24, slot := 0, constantValue := 0 }, { name := "BIG_ENDIAN", type := .boolean, accessFlags := 26, slot := 1, constantValue := 0 }, { name := "LOG2_ARRAY_BOOLEAN_INDEX_SCALE", type := .int, accessFlags := 25, slot := 2, constantValue := 0 }, { name := "LOG2_ARRAY_BYTE_INDEX_SCALE", type := .int, accessFlags := 25, slot := 3, constantValue := 0 }, { name := "LOG2_ARRAY_CHAR_INDEX_SCALE", type := .int, accessFlags := 25, slot := 4, constantValue := 0 }, { name := "LOG2_ARRAY_SHORT_INDEX_SCALE", type := .int, accessFlags := 25, slot := 5, constantValue := 0 }, { name := "LOG2_ARRAY_INT_INDEX_SCALE", type := .int, accessFlags := 25, slot := 6, constantValue := 0 }, { name := "LOG2_ARRAY_LONG_INDEX_SCALE", type := .int, accessFlags := 25, slot := 7, constantValue := 0 }, { name := "LOG2_ARRAY_FLOAT_INDEX_SCALE", type := .int, accessFlags := 25, slot := 8, constantValue := 0 }, { name := "LOG2_ARRAY_DOUBLE_INDEX_SCALE", type := .int, accessFlags := 25, slot := 9, constantValue := 0 }, { name := "LOG2_BYTE_BIT_SIZE", type := .int, accessFlags := 26, slot := 10, constantValue := 0 }, { name := "T_BOOLEAN", type := .int, accessFlags := 25, slot := 11, constantValue := 0 }, { name := "T_CHAR", type := .int, accessFlags := 25, slot := 12, constantValue := 0 }, { name := "T_FLOAT", type := .int, accessFlags := 25, slot := 13, constantValue := 0 }, { name := "T_DOUBLE", type := .int, accessFlags := 25, slot := 14, constantValue := 0 }, { name := "T_BYTE", type := .int, accessFlags := 25, slot := 15, constantValue := 0 }, { name := "T_SHORT", type := .int, accessFlags := 25, slot := 16, constantValue := 0 }, { name := "T_INT", type := .int, accessFlags := 25, slot := 17, constantValue := 0 }, { name := "T_LONG", type := .int, accessFlags := 25, slot := 18, constantValue := 0 }, { name := "JLA", type := (.object "jdk/internal/access/JavaLangAccess"), accessFlags := 26, slot := 19, constantValue := 0 }, { name := "SOFT_MAX_ARRAY_LENGTH", type := .int, accessFlags := 25, slot := 20, constantValue := 0 }]
  methods := #[k12m0]
  instanceTypes := #[]
  staticTypes := #[(.object "jdk/internal/misc/Unsafe"), .boolean, .int, .int, .int, .int, .int, .int, .int, .int, .int, .int, .int, .int, .int, .int, .int, .int, .int, (.object "jdk/internal/access/JavaLangAccess"), .int]
  resolved := Array.replicate 378 none
  statics := none }

def pool13 : Array CpInfo := pool [(1, u "java/lang/Cloneable"), (0, .class_ 1), (0, u "java/lang/Object"), (0, .class_ 3)] 3

/-- java/lang/Cloneable -/
def k13 : Class := { plain "java/lang/Cloneable" (some 0) with
  accessFlags := 1537
  interfaces := #[]
  cf := some (fileOf pool13 2 #[] #[] 1537 4 #[] #[])
  fields := #[]
  methods := #[]
  instanceTypes := #[]
  staticTypes := #[]
  resolved := Array.replicate 8 none
  statics := none }

/-- the primitive byte -/
def k14 : Class := { plain "byte" none with kind := .primitive 'B', accessFlags := 0x411 }
/-- [B -/
def k15 : Class := { plain "[B" (some 0) with kind := .array 14 .byte, interfaces := #[13, 2], accessFlags := 1041 }

/-- the primitive char -/
def k16 : Class := { plain "char" none with kind := .primitive 'C', accessFlags := 0x411 }
/-- [C -/
def k17 : Class := { plain "[C" (some 0) with kind := .array 16 .char, interfaces := #[13, 2], accessFlags := 1041 }

/-- the primitive int -/
def k18 : Class := { plain "int" none with kind := .primitive 'I', accessFlags := 0x411 }
/-- [I -/
def k19 : Class := { plain "[I" (some 0) with kind := .array 18 .int, interfaces := #[13, 2], accessFlags := 1041 }

def heap : Heap := #[{ cls := 7, slots := #[.long 0, .int 1, .null, .int 0, .null, .int 0, .int 0], vm := .statics 7 },
  { cls := 11, slots := #[.null, .null, .null], vm := .statics 11 }]
def classes : Array Class := #[k0, k1, k2, k3, k4, k5, k6, k7, k8, k9, k10, k11, k12, k13, k14, k15, k16, k17, k18, k19]
def interned : List (Array UInt16 × Addr) := []
def slotsUsed : Nat := 10
def theMethod : MethodId := ⟨1, 3⟩
def args0 : Array Value := #[.long 5, .long 2, .int 7]
def aboutOver (below : List Frame) : State where
  vm := { classes := classes, interned := interned.toArray }
  heap := heap
  slotsUsed := slotsUsed
  threads := #[{ frames := .invoking theMethod args0 :: below }]
def below0 : List Frame := [.native { method := ⟨0, 0⟩, args := #[] }]
def about1 : State := aboutOver below0
def p0 : Program := .bare "" "" ""
def e0 : Env := launch0.env 0 0 0
theorem w_frames : about1.frames = Frame.invoking theMethod args0 :: below0 := rfl
set_option maxRecDepth 65536 in
theorem w_args : argsFit about1.vm theMethod args0 = true := by decide +kernel
set_option maxRecDepth 65536 in
theorem w_heap : heapFits about1 = true := by decide +kernel
set_option maxRecDepth 65536 in
theorem w_runnable : about1.curStatus? = some .runnable := by decide +kernel
set_option maxRecDepth 65536 in
theorem w_alone : about1.alone = true := by decide +kernel
set_option maxRecDepth 65536 in
theorem w_named : about1.methodNamed? x = some theMethod := by decide +kernel
set_option maxRecDepth 65536 in
theorem w_hears : about1.hears theMethod below0 = true := by decide +kernel
set_option maxRecDepth 65536 in
theorem w_ripe : about1.ripe theMethod args0 below0 = true := by decide +kernel
theorem w_running : about1.status = .running := rfl
set_option maxRecDepth 65536 in
theorem w_room : about1.hasRoom e0.platform room_1 = true :=
  launch0.hasRoom_least _ room_1 (by decide +kernel) (by decide +kernel) (by decide +kernel) (by decide +kernel) (by decide +kernel) (by decide +kernel)
theorem allAtoms_all (ts : List Jvm.Cond) (a : Array Jvm.Value) (st : Jvm.State) : (allAtoms ts).before a st = ts.all (fun c => c.before a st) := by
  induction ts with
  | nil => rfl
  | cons c t ih =>
    show (Jvm.Cond.and c (allAtoms t)).before a st = _
    rw [Jvm.Cond.before_and, ih, List.all_cons]
def words1 : List Jvm.Cond := Jvm.Cond.code x code maxLocals ret :: tables_1
/-- a 'code' word, met by the world's own term for the bytes: nothing is compared byte by byte -/
theorem code_word {y : MethodName} {bytes : ByteArray} {mx : Nat} {rt : Option FieldType} {a : Array Value} {s : State} {m : MethodId} {meth : Method} {c : Code} (h1 : s.methodNamed? y = some m) (h2 : s.vm.method? m = some meth) (h3 : meth.code = some c) (h4 : c.code = bytes)
    (h5 : (c.maxLocals == mx && c.exceptionTable.isEmpty && decide (c.maxStack ≤ mostOperands) && decide (meth.sig.returnType = rt) && !meth.locks && decide (parseMethodDescriptor y.desc = some meth.sig)) = true) : (Jvm.Cond.code y bytes mx rt).before a s = true := by
  simp only [Bool.and_eq_true, beq_iff_eq, Bool.not_eq_true', decide_eq_true_eq] at h5
  obtain ⟨⟨⟨⟨⟨g1, g2⟩, g3⟩, g4⟩, g5⟩, g6⟩ := h5
  simp [Cond.before, Cond.holds, Cond.value, h1, h2, h3, h4, g1, g2, g3, g4, g5, g6]
def isCode : Jvm.Cond → Bool
  | .code _ _ _ _ => true
  | _ => false
theorem all_split {L : List Jvm.Cond} {P : Jvm.Cond → Bool} (h1 : L.all (fun c => isCode c || P c) = true) (h2 : ∀ c ∈ L.filter isCode, P c = true) : L.all P = true := by
  refine List.all_eq_true.mpr fun c hc => ?_
  have h := List.all_eq_true.mp h1 c hc
  rcases Bool.eq_false_or_eq_true (isCode c) with hi | hi
  · exact h2 c (List.mem_filter.mpr ⟨hc, hi⟩)
  · simpa [hi] using h
set_option maxRecDepth 65536 in
theorem w_c0 : (Jvm.Cond.code x code maxLocals ret).before args0 about1 = true := code_word (m := ⟨1, 3⟩) (meth := k1m3) (c := k1c3) (by decide +kernel) rfl rfl rfl (by decide +kernel)
set_option maxRecDepth 65536 in
theorem w_c1 : (Jvm.Cond.code ({ cls := "com/example/net30/net30/http/GzipNamesPinLaw", name := "ch", desc := "(I)C" } : Jvm.MethodName) method_2_code (2 : Nat) (Option.some Jvm.ClassFile.FieldType.char)).before args0 about1 = true := code_word (m := ⟨1, 1⟩) (meth := k1m1) (c := k1c1) (by decide +kernel) rfl rfl rfl (by decide +kernel)
set_option maxRecDepth 65536 in
theorem w_c2 : (Jvm.Cond.code ({ cls := "com/example/net30/net30/http/GzipNamesPinLaw", name := "make", desc := "(ICCCCCCC)Ljava/lang/String;" } : Jvm.MethodName) method_3_code (8 : Nat) (Option.some (Jvm.ClassFile.FieldType.object "java/lang/String"))).before args0 about1 = true := code_word (m := ⟨1, 2⟩) (meth := k1m2) (c := k1c2) (by decide +kernel) rfl rfl rfl (by decide +kernel)
set_option maxRecDepth 65536 in
theorem w_c3 : (Jvm.Cond.code ({ cls := "java/lang/String", name := "<init>", desc := "([C)V" } : Jvm.MethodName) jdk_42_method_3_code (2 : Nat) (Option.none : Option Jvm.ClassFile.FieldType)).before args0 about1 = true := code_word (m := ⟨7, 1⟩) (meth := k7m1) (c := k7c1) (by decide +kernel) rfl rfl rfl (by decide +kernel)
set_option maxRecDepth 65536 in
theorem w_c4 : (Jvm.Cond.code ({ cls := "java/lang/String", name := "<init>", desc := "([CIILjava/lang/Void;)V" } : Jvm.MethodName) jdk_42_method_149_code (6 : Nat) (Option.none : Option Jvm.ClassFile.FieldType)).before args0 about1 = true := code_word (m := ⟨7, 3⟩) (meth := k7m3) (c := k7c3) (by decide +kernel) rfl rfl rfl (by decide +kernel)
set_option maxRecDepth 65536 in
theorem w_c5 : (Jvm.Cond.code ({ cls := "java/lang/Object", name := "<init>", desc := "()V" } : Jvm.MethodName) object_method_1_code (1 : Nat) (Option.none : Option Jvm.ClassFile.FieldType)).before args0 about1 = true := code_word (m := ⟨0, 0⟩) (meth := k0m0) (c := k0c0) (by decide +kernel) rfl rfl rfl (by decide +kernel)
set_option maxRecDepth 65536 in
theorem w_c6 : (Jvm.Cond.code ({ cls := "com/example/net30/net30/http/Gzip", name := "names", desc := "(Ljava/lang/String;)Z" } : Jvm.MethodName) prog_2_method_2_code (1 : Nat) (Option.some Jvm.ClassFile.FieldType.boolean)).before args0 about1 = true := code_word (m := ⟨8, 1⟩) (meth := k8m1) (c := k8c1) (by decide +kernel) rfl rfl rfl (by decide +kernel)
set_option maxRecDepth 65536 in
theorem w_c7 : (Jvm.Cond.code ({ cls := "java/lang/String", name := "equals", desc := "(Ljava/lang/Object;)Z" } : Jvm.MethodName) jdk_42_method_66_code (3 : Nat) (Option.some Jvm.ClassFile.FieldType.boolean)).before args0 about1 = true := code_word (m := ⟨7, 2⟩) (meth := k7m2) (c := k7c2) (by decide +kernel) rfl rfl rfl (by decide +kernel)
set_option maxRecDepth 65536 in
theorem w_c8 : (Jvm.Cond.code ({ cls := "java/lang/StringLatin1", name := "equals", desc := "([B[B)Z" } : Jvm.MethodName) jdk_43_method_13_code (3 : Nat) (Option.some Jvm.ClassFile.FieldType.boolean)).before args0 about1 = true := code_word (m := ⟨9, 1⟩) (meth := k9m1) (c := k9c1) (by decide +kernel) rfl rfl rfl (by decide +kernel)
set_option maxRecDepth 65536 in
theorem w_c9 : (Jvm.Cond.code ({ cls := "java/lang/StringUTF16", name := "compress", desc := "([CII)[B" } : Jvm.MethodName) jdk_52_method_16_code (6 : Nat) (Option.some (Jvm.ClassFile.FieldType.array Jvm.ClassFile.FieldType.byte))).before args0 about1 = true := code_word (m := ⟨10, 2⟩) (meth := k10m2) (c := k10c2) (by decide +kernel) rfl rfl rfl (by decide +kernel)
set_option maxRecDepth 65536 in
theorem w_c10 : (Jvm.Cond.code ({ cls := "java/lang/StringUTF16", name := "compress", desc := "([CI[BII)I" } : Jvm.MethodName) jdk_52_method_21_code (7 : Nat) (Option.some Jvm.ClassFile.FieldType.int)).before args0 about1 = true := code_word (m := ⟨10, 3⟩) (meth := k10m3) (c := k10c3) (by decide +kernel) rfl rfl rfl (by decide +kernel)
set_option maxRecDepth 65536 in
theorem w_c11 : (Jvm.Cond.code ({ cls := "java/lang/StringUTF16", name := "coderFromArrayLen", desc := "([BI)B" } : Jvm.MethodName) jdk_52_method_15_code (2 : Nat) (Option.some Jvm.ClassFile.FieldType.byte)).before args0 about1 = true := code_word (m := ⟨10, 1⟩) (meth := k10m1) (c := k10c1) (by decide +kernel) rfl rfl rfl (by decide +kernel)
def codes1 : List Jvm.Cond := [Jvm.Cond.code x code maxLocals ret, Jvm.Cond.code ({ cls := "com/example/net30/net30/http/GzipNamesPinLaw", name := "ch", desc := "(I)C" } : Jvm.MethodName) method_2_code (2 : Nat) (Option.some Jvm.ClassFile.FieldType.char), Jvm.Cond.code ({ cls := "com/example/net30/net30/http/GzipNamesPinLaw", name := "make", desc := "(ICCCCCCC)Ljava/lang/String;" } : Jvm.MethodName) method_3_code (8 : Nat) (Option.some (Jvm.ClassFile.FieldType.object "java/lang/String")), Jvm.Cond.code ({ cls := "java/lang/String", name := "<init>", desc := "([C)V" } : Jvm.MethodName) jdk_42_method_3_code (2 : Nat) (Option.none : Option Jvm.ClassFile.FieldType), Jvm.Cond.code ({ cls := "java/lang/String", name := "<init>", desc := "([CIILjava/lang/Void;)V" } : Jvm.MethodName) jdk_42_method_149_code (6 : Nat) (Option.none : Option Jvm.ClassFile.FieldType), Jvm.Cond.code ({ cls := "java/lang/Object", name := "<init>", desc := "()V" } : Jvm.MethodName) object_method_1_code (1 : Nat) (Option.none : Option Jvm.ClassFile.FieldType), Jvm.Cond.code ({ cls := "com/example/net30/net30/http/Gzip", name := "names", desc := "(Ljava/lang/String;)Z" } : Jvm.MethodName) prog_2_method_2_code (1 : Nat) (Option.some Jvm.ClassFile.FieldType.boolean), Jvm.Cond.code ({ cls := "java/lang/String", name := "equals", desc := "(Ljava/lang/Object;)Z" } : Jvm.MethodName) jdk_42_method_66_code (3 : Nat) (Option.some Jvm.ClassFile.FieldType.boolean), Jvm.Cond.code ({ cls := "java/lang/StringLatin1", name := "equals", desc := "([B[B)Z" } : Jvm.MethodName) jdk_43_method_13_code (3 : Nat) (Option.some Jvm.ClassFile.FieldType.boolean), Jvm.Cond.code ({ cls := "java/lang/StringUTF16", name := "compress", desc := "([CII)[B" } : Jvm.MethodName) jdk_52_method_16_code (6 : Nat) (Option.some (Jvm.ClassFile.FieldType.array Jvm.ClassFile.FieldType.byte)), Jvm.Cond.code ({ cls := "java/lang/StringUTF16", name := "compress", desc := "([CI[BII)I" } : Jvm.MethodName) jdk_52_method_21_code (7 : Nat) (Option.some Jvm.ClassFile.FieldType.int), Jvm.Cond.code ({ cls := "java/lang/StringUTF16", name := "coderFromArrayLen", desc := "([BI)B" } : Jvm.MethodName) jdk_52_method_15_code (2 : Nat) (Option.some Jvm.ClassFile.FieldType.byte)]
set_option maxRecDepth 65536 in
theorem codes_eq : words1.filter isCode = codes1 := rfl
theorem w_codes : ∀ c ∈ words1.filter isCode, c.before args0 about1 = true := by
  rw [codes_eq]
  intro c hc
  simp only [codes1, List.mem_cons, List.not_mem_nil, or_false] at hc
  rcases hc with rfl | rfl | rfl | rfl | rfl | rfl | rfl | rfl | rfl | rfl | rfl | rfl
  · exact w_c0
  · exact w_c1
  · exact w_c2
  · exact w_c3
  · exact w_c4
  · exact w_c5
  · exact w_c6
  · exact w_c7
  · exact w_c8
  · exact w_c9
  · exact w_c10
  · exact w_c11
set_option maxRecDepth 65536 in
theorem w_t1 : (words1.take 24).all (fun c => isCode c || c.before args0 about1) = true := by decide +kernel
set_option maxRecDepth 65536 in
theorem w_t2 : ((words1.drop 24).take 24).all (fun c => isCode c || c.before args0 about1) = true := by decide +kernel
set_option maxRecDepth 65536 in
theorem w_t3 : ((words1.drop 24).drop 24).all (fun c => isCode c || c.before args0 about1) = true := by decide +kernel
theorem w_tables : (allAtoms (Jvm.Cond.code x code maxLocals ret :: tables_1)).before args0 about1 = true := by
  rw [allAtoms_all]
  show words1.all (fun c => c.before args0 about1) = true
  refine all_split ?_ w_codes
  rw [← List.take_append_drop 24 words1, List.all_append, w_t1, ← List.take_append_drop 24 (words1.drop 24), List.all_append, w_t2, w_t3]
  rfl
set_option maxRecDepth 65536 in
theorem w_rest : rest_1_c.before args0 about1 = true := by decide +kernel
set_option maxRecDepth 65536 in
theorem w_case : (Jvm.Cond.and given_1 narrow_1).before args0 about1 = true := by decide +kernel
set_option maxRecDepth 65536 in
theorem w_consts : constsHeld consts_1 about1 := Jvm.Lit.constsHeldB_iff.mp (by decide +kernel)
theorem w_applies : (headSpec (Jvm.Cond.code x code maxLocals ret :: tables_1) room_1).applies x e0.platform about1 = true :=
  (Spec.applies_iff w_frames).mpr ⟨w_running, w_runnable, w_alone, w_named, w_hears, w_ripe, w_room, w_tables⟩
theorem atStart : AtStart classFile x code maxLocals ret World_1 tables_1 room_1 Calls_1 rest_1 Pre_1 launch0 p0 e0 about1 theMethod args0 below0 :=
  ⟨lists_1, trivial, launch0.admits_env _ _ _, launch0.least_env, fairChoices_fair.cas, fairChoices_fair.clock, w_frames, w_args, w_heap, w_applies, ⟨w_consts, trivial⟩, w_rest, w_case⟩
end start1
theorem witness_1 : WitnessClaimed_1 := ⟨start1.p0, start1.e0, start1.about1, start1.theMethod, start1.args0, start1.below0, start1.atStart⟩
end Jvm.Pilot.@@N@@
