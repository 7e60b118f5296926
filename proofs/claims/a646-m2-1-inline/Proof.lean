import JvmDerived
import JvmDerived.Pilot.@@N@@Statement
import JvmDerived.Pilot.@@N@@Code
set_option linter.unusedVariables false
set_option linter.unusedSimpArgs false

/- laws to paste: Road.backV, Road.lenW, Road.eqW, Road.codOf (cut by pick.py; bodies as the Statement names them) -/
namespace Jvm.Pilot.@@N@@
namespace StrChars
open Jvm Sem ClassFile Op Lib Jvm.Stand Jvm.Free.XT Jvm.Free.ALB Jvm.Free.JM Jvm.Free
open Jvm.Lib.Cold (StaticIs)
/-- a char array whose places are chars -/
def Ch (a : Addr) (A : Cell) (U : State) : Prop := Arr .char a A U ∧ Typed .char A
theorem Ch.mv {a : Addr} {A : Cell} {U U' : State} (h : Ch a A U) (hal : U.vm.Alike U'.vm) (hh : U'.heap = U.heap) : Ch a A U' := ⟨h.1.mv hal hh, h.2⟩
theorem Ch.keep {a : Addr} {A : Cell} {U U' : State} (h : Ch a A U) (hal : U.vm.Alike U'.vm) (hk : U'.heap[a]? = some A) : Ch a A U' := ⟨h.1.keep hal hk, h.2⟩
/-- what place i of a char[]'s cell holds -/
def cv (A : Cell) (i : Nat) : Int32 := match A.slots[i]? with | some (.int x) => x | _ => 0
theorem Ch.get {a : Addr} {A : Cell} {U : State} (h : Ch a A U) {i : Nat} (hi : i < A.slots.size) : A.slots[i]? = some (.int (cv A i)) := by
  have e := Array.getElem?_eq_getElem hi
  have f := h.2 i _ e
  unfold cv; rw [e]
  generalize A.slots[i] = v at f
  cases v <;> simp [fits] at f ⊢
/-- the byte that i2b leaves of a char -/
def lo8 (x : Int32) : Int32 := x.toInt8.toInt32
theorem fits_lo8 (y : Int32) : fits .byte (.int (lo8 y)) = true := by
  have h1 := y.toInt8.le_toInt
  have h2 := y.toInt8.toInt_lt
  simp only [lo8, fits, Bool.and_eq_true, decide_eq_true_eq, Int32.le_iff_toInt_le, Int8.toInt_toInt32, show (-128 : Int32).toInt = -128 from by decide, show (127 : Int32).toInt = 127 from by decide]
  omega
/-- A' is A but that each place j of lo .. hi - 1 holds f j -/
def Laid (A A' : Cell) (lo hi : Nat) (f : Nat → Value) : Prop := A'.cls = A.cls ∧ A'.vm = A.vm ∧ A'.slots.size = A.slots.size ∧ ∀ i, A'.slots[i]? = if lo ≤ i ∧ i < hi then some (f i) else A.slots[i]?
theorem Laid.zero (A : Cell) (lo : Nat) (f : Nat → Value) : Laid A A lo (lo + 0) f := ⟨rfl, rfl, rfl, fun i => by rw [if_neg (by omega)]⟩
theorem Laid.step {A Ak : Cell} {lo k : Nat} {f : Nat → Value} {v : Value} (h : Laid A Ak lo k f) (hlo : lo ≤ k) (hk : k < Ak.slots.size) (hv : v = f k) : Laid A (Ak.setSlot k v) lo (k + 1) f := by
  refine ⟨h.1, h.2.1, by simpa [Cell.setSlot] using h.2.2.1, fun i => ?_⟩
  by_cases e : k = i
  · subst e; rw [Cell.slots_setSlot_self v hk, if_pos (by omega), hv]
  · rw [Cell.slots_setSlot_ne v e, h.2.2.2 i]
    by_cases q : lo ≤ i ∧ i < k
    · rw [if_pos q, if_pos (by omega)]
    · rw [if_neg q, if_neg (by omega)]
def U16 : String := "java/lang/StringUTF16"
namespace Cmp5
def yN : MethodName := ⟨"java/lang/StringUTF16", "compress", "([CI[BII)I"⟩
abbrev yB : ByteArray := jdk_52_method_21_code
theorem d0 : decode yB 0 = .ok (.iconst 0, 1) := by decide +kernel
theorem d1 : decode yB 1 = .ok (.istore 5, 2) := by decide +kernel
theorem d3 : decode yB 3 = .ok (.iload 5, 2) := by decide +kernel
theorem d5 : decode yB 5 = .ok (.iload 4, 2) := by decide +kernel
theorem d7 : decode yB 7 = .ok (.if_icmp (.ge) 37, 3) := by decide +kernel
theorem d10 : decode yB 10 = .ok (.aload_n 0, 1) := by decide +kernel
theorem d11 : decode yB 11 = .ok (.iload_n 1, 1) := by decide +kernel
theorem d12 : decode yB 12 = .ok (.caload, 1) := by decide +kernel
theorem d13 : decode yB 13 = .ok (.istore 6, 2) := by decide +kernel
theorem d15 : decode yB 15 = .ok (.iload 6, 2) := by decide +kernel
theorem d17 : decode yB 17 = .ok (.sipush 255, 3) := by decide +kernel
theorem d20 : decode yB 20 = .ok (.if_icmp (.le) 6, 3) := by decide +kernel
theorem d26 : decode yB 26 = .ok (.aload_n 2, 1) := by decide +kernel
theorem d27 : decode yB 27 = .ok (.iload_n 3, 1) := by decide +kernel
theorem d28 : decode yB 28 = .ok (.iload 6, 2) := by decide +kernel
theorem d30 : decode yB 30 = .ok (.i2b, 1) := by decide +kernel
theorem d31 : decode yB 31 = .ok (.bastore, 1) := by decide +kernel
theorem d32 : decode yB 32 = .ok (.iinc 1 1, 3) := by decide +kernel
theorem d35 : decode yB 35 = .ok (.iinc 3 1, 3) := by decide +kernel
theorem d38 : decode yB 38 = .ok (.iinc 5 1, 3) := by decide +kernel
theorem d41 : decode yB 41 = .ok (.goto (-38), 3) := by decide +kernel
theorem d44 : decode yB 44 = .ok (.iload 4, 2) := by decide +kernel
theorem d46 : decode yB 46 = .ok (.ireturn, 1) := by decide +kernel
def site : List Cond := []
def tab : Cond := tabOf yN yB 7 (some .int) site
def P (b : Addr) (A : Cell) (d : Addr) (B : Cell) (o q len : Nat) (args : Array Value) (s : State) : Prop := args = #[.ref b, .int (Int32.ofNat o), .ref d, .int (Int32.ofNat q), .int (Int32.ofNat len)] ∧ Ch b A s ∧ Arr .byte d B s ∧ b ≠ d ∧ o + len ≤ A.slots.size ∧ q + len ≤ B.slots.size ∧ ∀ i, i < len → ¬ 255 < cv A (o + i)
def E (b : Addr) (A : Cell) (d : Addr) (B : Cell) (o q len : Nat) (r : Option Value) (s u : State) : Prop := r = some (.int (Int32.ofNat len)) ∧ ∃ B', Put d B' s u ∧ Laid B B' q (q + len) (fun j => Value.int (lo8 (cv A (o + (j - q)))))
/-- no char of the range above 255: len; the places written hold each char's low byte -/
theorem law (l : Launch) (b : Addr) (A : Cell) (d : Addr) (B : Cell) (o q len : Nat) : Law l yN 5 5 0 0 yB 7 (some .int) site (P b A d B o q len) (E b A d B o q len) (copyLocs d q len) 0 0 := by
  refine Law.of_walk (plainFor_of_name (by decide +kernel)) (by decide +kernel) (by decide +kernel) (by decide) (fun _ _ h => by rw [h.1]; rfl) (fun _ U U' hal hh h => ⟨h.1, h.2.1.mv hal hh, h.2.2.1.mv hal hh, h.2.2.2⟩) (fun r U U' V V' h1 hal h2 h => ⟨h.1, h.2.elim fun B' q => ⟨B', q.1.mv h1 h2, q.2⟩⟩) ?_
  intro p e s m args below meth c s₁ X0 hexec hbytes hml hret hlk hnm hown hh0 W hP
  obtain ⟨rfl, hA, hB, hne, l1, l2, hp⟩ := hP
  have c1 : Steps p.tables e below (s₁.setTop (entryFrame m #[.ref b, .int (Int32.ofNat o), .ref d, .int (Int32.ofNat q), .int (Int32.ofNat len)] 7)) (s₁.setTop (mkF m 0 #[.val (.ref b), .val (.int (Int32.ofNat o)), .val (.ref d), .val (.int (Int32.ofNat q)), .val (.int (Int32.ofNat len)), .unset, .unset] [])) := entry rfl
  have hA0 := hA.1.mv X0.warmed.alike hh0
  have hB0 := hB.mv X0.warmed.alike hh0
  have a31 := hA.1.2.2.2
  have c2 : Steps p.tables e below (s₁.setTop (entryFrame m #[.ref b, .int (Int32.ofNat o), .ref d, .int (Int32.ofNat q), .int (Int32.ofNat len)] 7)) (s₁.setTop (mkF m 3 #[.val (.ref b), .val (.int (Int32.ofNat o)), .val (.ref d), .val (.int (Int32.ofNat q)), .val (.int (Int32.ofNat len)), .val (.int 0), .unset] [])) := c1.trans (by
    refine iconstV X0.here hexec rfl 0 (hb hbytes d0) (by decide) ?_
    refine XS.istore X0.here hexec rfl (hb hbytes d1) rfl rfl ?_
    exact Steps.refl _)
  have loop : ∀ (r i : Nat), i + r = len → ∀ (z : Slot), (z = .unset ∨ ∃ w, z = .val w ∧ w.category = 1) → ∀ (Tl : State) (Bk : Cell), Stand p l e { frames := 0, locals := 0, cells := 0, slots := 0 } s m #[.ref b, .int (Int32.ofNat o), .ref d, .int (Int32.ofNat q), .int (Int32.ofNat len)] below meth c Tl ([] ++ copyLocs d q i) 0 0 → Put d Bk s₁ Tl → Laid B Bk q (q + i) (fun j => Value.int (lo8 (cv A (o + (j - q))))) →
      Steps p.tables e below (s₁.setTop (entryFrame m #[.ref b, .int (Int32.ofNat o), .ref d, .int (Int32.ofNat q), .int (Int32.ofNat len)] 7)) (Tl.setTop (mkF m 3 #[.val (.ref b), .val (.int (Int32.ofNat (o + i))), .val (.ref d), .val (.int (Int32.ofNat (q + i))), .val (.int (Int32.ofNat len)), .val (.int (Int32.ofNat i)), z] [])) → ∃ (T' : State) (B' : Cell) (z' : Slot), Stand p l e { frames := 0, locals := 0, cells := 0, slots := 0 } s m #[.ref b, .int (Int32.ofNat o), .ref d, .int (Int32.ofNat q), .int (Int32.ofNat len)] below meth c T' ([] ++ copyLocs d q len) 0 0 ∧ Put d B' s₁ T' ∧ Laid B B' q (q + len) (fun j => Value.int (lo8 (cv A (o + (j - q))))) ∧
      Steps p.tables e below (s₁.setTop (entryFrame m #[.ref b, .int (Int32.ofNat o), .ref d, .int (Int32.ofNat q), .int (Int32.ofNat len)] 7)) (T'.setTop (mkF m 3 #[.val (.ref b), .val (.int (Int32.ofNat (o + len))), .val (.ref d), .val (.int (Int32.ofNat (q + len))), .val (.int (Int32.ofNat len)), .val (.int (Int32.ofNat len)), z'] [])) := by
    intro r
    induction r with
    | zero =>
      intro i hi z hz Tl Bk Xl pl fl cl
      have hil : i = len := by omega
      rw [hil] at Xl fl cl
      exact ⟨Tl, Bk, z, Xl, pl, fl, cl⟩
    | succ r ih =>
      intro i hi z hz Tl Bk Xl pl fl cl
      have all := X0.warmed.alike.symm.trans Xl.warmed.alike
      have hAl := hA0.keep all (pl.other hne hA0.1)
      have hBk := hB0.like all pl.1 fl.1 fl.2.1 fl.2.2.1
      have hlt : q + i < Bk.slots.size := by rw [fl.2.2.1]; omega
      have c3 : Steps p.tables e below (s₁.setTop (entryFrame m #[.ref b, .int (Int32.ofNat o), .ref d, .int (Int32.ofNat q), .int (Int32.ofNat len)] 7)) (Tl.setTop (mkF m 12 #[.val (.ref b), .val (.int (Int32.ofNat (o + i))), .val (.ref d), .val (.int (Int32.ofNat (q + i))), .val (.int (Int32.ofNat len)), .val (.int (Int32.ofNat i)), z] [.int (Int32.ofNat (o + i)), .ref b])) := cl.trans (by
        refine XS.iload Xl.here hexec rfl (hb hbytes d3) rfl ?_
        refine XS.iload Xl.here hexec rfl (hb hbytes d5) rfl ?_
        refine XS.icmpNo Xl.here hexec rfl (hb hbytes d7) rfl (ii_ge_f (lt32 (by omega) (by omega))) ?_
        refine XS.aloadN Xl.here hexec rfl (hb hbytes d10) rfl rfl ?_
        refine XS.iloadN Xl.here hexec rfl (hb hbytes d11) rfl ?_
        exact Steps.refl _)
      have c4 : Steps p.tables e below (s₁.setTop (entryFrame m #[.ref b, .int (Int32.ofNat o), .ref d, .int (Int32.ofNat q), .int (Int32.ofNat len)] 7)) (Tl.setTop (mkF m 13 #[.val (.ref b), .val (.int (Int32.ofNat (o + i))), .val (.ref d), .val (.int (Int32.ofNat (q + i))), .val (.int (Int32.ofNat len)), .val (.int (Int32.ofNat i)), z] [.int (cv A (o + i))])) := c3.trans (by
        refine Xl.aget hexec hAl rfl (hA.get (i := o + i) (by omega)) rfl rfl (hb hbytes d12) ?_
        exact Steps.refl _)
      have c5 : Steps p.tables e below (s₁.setTop (entryFrame m #[.ref b, .int (Int32.ofNat o), .ref d, .int (Int32.ofNat q), .int (Int32.ofNat len)] 7)) (Tl.setTop (mkF m 15 #[.val (.ref b), .val (.int (Int32.ofNat (o + i))), .val (.ref d), .val (.int (Int32.ofNat (q + i))), .val (.int (Int32.ofNat len)), .val (.int (Int32.ofNat i)), .val (.int (cv A (o + i)))] [])) := c4.trans (by
        refine XS.istoreS Xl.here hexec rfl (hb hbytes d13) rfl rfl hz ?_
        exact Steps.refl _)
      have c6 : Steps p.tables e below (s₁.setTop (entryFrame m #[.ref b, .int (Int32.ofNat o), .ref d, .int (Int32.ofNat q), .int (Int32.ofNat len)] 7)) (Tl.setTop (mkF m 31 #[.val (.ref b), .val (.int (Int32.ofNat (o + i))), .val (.ref d), .val (.int (Int32.ofNat (q + i))), .val (.int (Int32.ofNat len)), .val (.int (Int32.ofNat i)), .val (.int (cv A (o + i)))] [.int (lo8 (cv A (o + i))), .int (Int32.ofNat (q + i)), .ref d])) := c5.trans (by
        refine XS.iload Xl.here hexec rfl (hb hbytes d15) rfl ?_
        refine sipushV Xl.here hexec rfl 255 (hb hbytes d17) (by decide) ?_
        refine XS.icmpYes Xl.here hexec rfl (pc0 := 20) rfl (hb hbytes d20) rfl (ii_le_t (hp i (by omega))) (by decide) rfl ?_
        refine XS.aloadN Xl.here hexec rfl (hb hbytes d26) rfl rfl ?_
        refine XS.iloadN Xl.here hexec rfl (hb hbytes d27) rfl ?_
        refine XS.iload Xl.here hexec rfl (hb hbytes d28) rfl ?_
        refine i2b Xl.here hexec rfl (hb hbytes d30) rfl ?_
        exact Steps.refl _)
      obtain ⟨T7, X7, p7, st7⟩ := Xl.aput hexec hBk rfl hlt rfl (fits_lo8 (cv A (o + i))) (g := (mkF m 31 #[.val (.ref b), .val (.int (Int32.ofNat (o + i))), .val (.ref d), .val (.int (Int32.ofNat (q + i))), .val (.int (Int32.ofNat len)), .val (.int (Int32.ofNat i)), .val (.int (cv A (o + i)))] [.int (lo8 (cv A (o + i))), .int (Int32.ofNat (q + i)), .ref d])) rfl (rest := []) rfl (hb hbytes d31)
      have c8 : Steps p.tables e below (s₁.setTop (entryFrame m #[.ref b, .int (Int32.ofNat o), .ref d, .int (Int32.ofNat q), .int (Int32.ofNat len)] 7)) (T7.setTop (mkF m 32 #[.val (.ref b), .val (.int (Int32.ofNat (o + i))), .val (.ref d), .val (.int (Int32.ofNat (q + i))), .val (.int (Int32.ofNat len)), .val (.int (Int32.ofNat i)), .val (.int (cv A (o + i)))] [])) := c6.trans (st7 _ (Steps.refl _))
      have c9 : Steps p.tables e below (s₁.setTop (entryFrame m #[.ref b, .int (Int32.ofNat o), .ref d, .int (Int32.ofNat q), .int (Int32.ofNat len)] 7)) (T7.setTop (mkF m 3 #[.val (.ref b), .val (.int (Int32.ofNat (o + i) + 1)), .val (.ref d), .val (.int (Int32.ofNat (q + i) + 1)), .val (.int (Int32.ofNat len)), .val (.int (Int32.ofNat i + 1)), .val (.int (cv A (o + i)))] [])) := c8.trans (by
        refine iincV X7.here hexec rfl 1 (hb hbytes d32) (by decide) rfl rfl ?_
        refine iincV X7.here hexec rfl 1 (hb hbytes d35) (by decide) rfl rfl ?_
        refine iincV X7.here hexec rfl 1 (hb hbytes d38) (by decide) rfl rfl ?_
        refine XS.goto X7.here hexec rfl (pc0 := 41) rfl (hb hbytes d41) (by decide) rfl ?_
        exact Steps.refl _)
      have c10 : Steps p.tables e below (s₁.setTop (entryFrame m #[.ref b, .int (Int32.ofNat o), .ref d, .int (Int32.ofNat q), .int (Int32.ofNat len)] 7)) (T7.setTop (mkF m 3 #[.val (.ref b), .val (.int (Int32.ofNat (o + (i + 1)))), .val (.ref d), .val (.int (Int32.ofNat (q + (i + 1)))), .val (.int (Int32.ofNat len)), .val (.int (Int32.ofNat (i + 1))), .val (.int (cv A (o + i)))] [])) := by
        have := c9
        rw [succ32, succ32, succ32] at this
        exact this
      exact ih (i + 1) (by omega) _ (Or.inr ⟨_, rfl, rfl⟩) T7 _ (by rw [copyLocs_step, ← List.append_assoc]; exact X7) (pl.trans p7) (fl.step (by omega) hlt (by simp)) c10
  obtain ⟨T9, B9, z9, X9, p9, f9, g9⟩ := loop len 0 (by omega) .unset (Or.inl rfl) s₁ B (by simpa [copyLocs] using X0) ⟨hB0.1, fun _ _ => rfl, rfl⟩ (Laid.zero _ _ _) c2
  have c11 : Steps p.tables e below (s₁.setTop (entryFrame m #[.ref b, .int (Int32.ofNat o), .ref d, .int (Int32.ofNat q), .int (Int32.ofNat len)] 7)) (T9.setTop (mkF m 46 #[.val (.ref b), .val (.int (Int32.ofNat (o + len))), .val (.ref d), .val (.int (Int32.ofNat (q + len))), .val (.int (Int32.ofNat len)), .val (.int (Int32.ofNat len)), z9] [.int (Int32.ofNat len)])) := g9.trans (by
    refine XS.iload X9.here hexec rfl (hb hbytes d3) rfl ?_
    refine XS.iload X9.here hexec rfl (hb hbytes d5) rfl ?_
    refine XS.icmpYes X9.here hexec rfl (pc0 := 7) rfl (hb hbytes d7) rfl (ii_ge_t (nlt32 (by omega) (Nat.le_refl _))) (by decide) rfl ?_
    refine XS.iload X9.here hexec rfl (hb hbytes d44) rfl ?_
    exact Steps.refl _)
  exact ⟨T9, some (.int (Int32.ofNat len)), _, _, _, X9, by simp, rfl, rfl, (fun h => by cases h), ⟨rfl, B9, p9.from hh0, f9⟩, fun fs hl => c11.trans (X9.ireturnOut hexec hret rfl (Or.inl rfl) (hb hbytes d46) hl)⟩
end Cmp5
namespace Cmp3
def yN : MethodName := ⟨"java/lang/StringUTF16", "compress", "([CII)[B"⟩
abbrev yB : ByteArray := jdk_52_method_16_code
theorem d0 : decode yB 0 = .ok (.iload_n 2, 1) := by decide +kernel
theorem d1 : decode yB 1 = .ok (.newarray .byte, 2) := by decide +kernel
theorem d3 : decode yB 3 = .ok (.astore_n 3, 1) := by decide +kernel
theorem d4 : decode yB 4 = .ok (.aload_n 0, 1) := by decide +kernel
theorem d5 : decode yB 5 = .ok (.iload_n 1, 1) := by decide +kernel
theorem d6 : decode yB 6 = .ok (.aload_n 3, 1) := by decide +kernel
theorem d7 : decode yB 7 = .ok (.iconst 0, 1) := by decide +kernel
theorem d8 : decode yB 8 = .ok (.iload_n 2, 1) := by decide +kernel
theorem d9 : decode yB 9 = .ok (.invokestatic 115, 3) := by decide +kernel
theorem d12 : decode yB 12 = .ok (.istore 4, 2) := by decide +kernel
theorem d14 : decode yB 14 = .ok (.iload 4, 2) := by decide +kernel
theorem d16 : decode yB 16 = .ok (.iload_n 2, 1) := by decide +kernel
theorem d17 : decode yB 17 = .ok (.if_icmp (.eq) 40, 3) := by decide +kernel
theorem d57 : decode yB 57 = .ok (.aload_n 3, 1) := by decide +kernel
theorem d58 : decode yB 58 = .ok (.areturn, 1) := by decide +kernel
def site : List Cond := [.arrayClass .byte, Cmp5.tab] ++ staticW U16 115 Cmp5.yN
def tab : Cond := tabOf yN yB 6 (some (.array .byte)) site
def P (b : Addr) (A : Cell) (o len : Nat) (args : Array Value) (s : State) : Prop := args = #[.ref b, .int (Int32.ofNat o), .int (Int32.ofNat len)] ∧ Ch b A s ∧ o + len ≤ A.slots.size ∧ len ≤ 536870912 ∧ ∀ i, i < len → ¬ 255 < cv A (o + i)
def E (b : Addr) (A : Cell) (o len : Nat) (r : Option Value) (s u : State) : Prop := NewArr .byte "[B" len (fun j => .int (lo8 (cv A (o + j)))) r s u ∧ u.heap.size = s.heap.size + 1
/-- no char of the range above 255: a new byte[] of their low bytes -/
theorem law (l : Launch) (b : Addr) (A : Cell) (o len : Nat) : Law l yN 3 3 1 18 yB 6 (some (.array .byte)) site (P b A o len) (E b A o len) [] 1 len := by
  refine Law.of_walk (plainFor_of_name (by decide +kernel)) (by decide +kernel) (by decide +kernel) (by decide) (fun _ _ h => by rw [h.1]; rfl) (fun _ U U' hal hh h => ⟨h.1, h.2.1.mv hal hh, h.2.2⟩) (fun r U U' V V' h1 hal h2 h => ⟨NewArr.mv r U U' V V' h1 hal h2 h.1, by rw [h1, h2]; exact h.2⟩) ?_
  intro p e s m args below meth c s₁ X0 hexec hbytes hml hret hlk hnm hown hh0 W hP
  obtain ⟨rfl, hA, l1, l2, hp⟩ := hP
  have a31 := hA.1.2.2.2
  have c1 : Steps p.tables e below (s₁.setTop (entryFrame m #[.ref b, .int (Int32.ofNat o), .int (Int32.ofNat len)] 6)) (s₁.setTop (mkF m 0 #[.val (.ref b), .val (.int (Int32.ofNat o)), .val (.int (Int32.ofNat len)), .unset, .unset, .unset] [])) := entry rfl
  have c2 : Steps p.tables e below (s₁.setTop (entryFrame m #[.ref b, .int (Int32.ofNat o), .int (Int32.ofNat len)] 6)) (s₁.setTop (mkF m 1 #[.val (.ref b), .val (.int (Int32.ofNat o)), .val (.int (Int32.ofNat len)), .unset, .unset, .unset] [.int (Int32.ofNat len)])) := c1.trans (by
    refine XS.iloadN X0.here hexec rfl (hb hbytes d0) rfl ?_
    exact Steps.refl _)
  obtain ⟨T3, B3, X3, ba3, bs3, bv3, bh3, bf3, st3⟩ := X0.anew hexec (atype := .byte) (wk W (.arrayClass .byte)) rfl (by show len * 1 ≤ _; omega) (by omega) (g := (mkF m 1 #[.val (.ref b), .val (.int (Int32.ofNat o)), .val (.int (Int32.ofNat len)), .unset, .unset, .unset] [.int (Int32.ofNat len)])) rfl (hb hbytes d1) (rest := []) rfl (Nat.le_refl _) (by show 0 + len ≤ len; omega)
  rw [hh0] at ba3 st3
  have kp3 : XT.Kept s T3 := (XT.Kept.of_eq hh0).push bh3
  have hA3 := hA.keep X3.warmed.alike (kp3 _ _ hA.1.1)
  have hne : b ≠ s.heap.size := hA.1.ne
  have c4 : Steps p.tables e below (s₁.setTop (entryFrame m #[.ref b, .int (Int32.ofNat o), .int (Int32.ofNat len)] 6)) (T3.setTop (mkF m 3 #[.val (.ref b), .val (.int (Int32.ofNat o)), .val (.int (Int32.ofNat len)), .unset, .unset, .unset] [.ref s.heap.size])) := c2.trans (st3 _ (Steps.refl _))
  have c5 : Steps p.tables e below (s₁.setTop (entryFrame m #[.ref b, .int (Int32.ofNat o), .int (Int32.ofNat len)] 6)) (T3.setTop (mkF m 9 #[.val (.ref b), .val (.int (Int32.ofNat o)), .val (.int (Int32.ofNat len)), .val (.ref s.heap.size), .unset, .unset] [.int (Int32.ofNat len), .int 0, .ref s.heap.size, .int (Int32.ofNat o), .ref b])) := c4.trans (by
    refine XS.astoreN X3.here hexec rfl (hb hbytes d3) rfl rfl rfl ?_
    refine XS.aloadN X3.here hexec rfl (hb hbytes d4) rfl rfl ?_
    refine XS.iloadN X3.here hexec rfl (hb hbytes d5) rfl ?_
    refine XS.aloadN X3.here hexec rfl (hb hbytes d6) rfl rfl ?_
    refine iconstV X3.here hexec rfl 0 (hb hbytes d7) (by decide) ?_
    refine XS.iloadN X3.here hexec rfl (hb hbytes d8) rfl ?_
    exact Steps.refl _)
  obtain ⟨v6, T6, X6, E6, g6⟩ := X3.callS hexec (Cmp5.law l b A s.heap.size B3 o 0 len) hown (wks W (staticW U16 115 Cmp5.yN)) (wk W Cmp5.tab) (W := 0) (Nat.le_of_ble_eq_true rfl) (Nat.le_of_ble_eq_true rfl) (Nat.le_refl _) (by show 0 + len + 0 ≤ len; omega) (g := (mkF m 9 #[.val (.ref b), .val (.int (Int32.ofNat o)), .val (.int (Int32.ofNat len)), .val (.ref s.heap.size), .unset, .unset] [.int (Int32.ofNat len), .int (Int32.ofNat 0), .ref s.heap.size, .int (Int32.ofNat o), .ref b])) rfl (by rw [hml]; rfl) c5 (argsL := [.ref b, .int (Int32.ofNat o), .ref s.heap.size, .int (Int32.ofNat 0), .int (Int32.ofNat len)]) (rest := []) rfl rfl (by show 2 * 0 + 0 ≤ _; decide) (hb hbytes d9) (⟨rfl, hA3, ba3, hne, l1, by rw [bs3]; simp, hp⟩)
  obtain ⟨rfl, B6, p6, f6⟩ := E6
  have c7 : Steps p.tables e below (s₁.setTop (entryFrame m #[.ref b, .int (Int32.ofNat o), .int (Int32.ofNat len)] 6)) (T6.setTop (mkF m 12 #[.val (.ref b), .val (.int (Int32.ofNat o)), .val (.int (Int32.ofNat len)), .val (.ref s.heap.size), .unset, .unset] [.int (Int32.ofNat len)])) := g6
  have c8 : Steps p.tables e below (s₁.setTop (entryFrame m #[.ref b, .int (Int32.ofNat o), .int (Int32.ofNat len)] 6)) (T6.setTop (mkF m 58 #[.val (.ref b), .val (.int (Int32.ofNat o)), .val (.int (Int32.ofNat len)), .val (.ref s.heap.size), .val (.int (Int32.ofNat len)), .unset] [.ref s.heap.size])) := c7.trans (by
    refine XS.istore X6.here hexec rfl (hb hbytes d12) rfl rfl ?_
    refine XS.iload X6.here hexec rfl (hb hbytes d14) rfl ?_
    refine XS.iloadN X6.here hexec rfl (hb hbytes d16) rfl ?_
    refine XS.icmpYes X6.here hexec rfl (pc0 := 17) rfl (hb hbytes d17) rfl (ii_eq_t rfl) (by decide) rfl ?_
    refine XS.aloadN X6.here hexec rfl (hb hbytes d57) rfl rfl ?_
    exact Steps.refl _)
  have X8 := X6.wide (L' := []) (cells' := 1) (slots' := len) (fun x hx hlt => by
    simp only [List.nil_append, copyLocs, List.mem_map, List.mem_range] at hx
    obtain ⟨i, -, rfl⟩ := hx
    exact absurd hlt (Nat.lt_irrefl _)) (Nat.le_refl _) (by omega)
  exact ⟨T6, some (.ref s.heap.size), _, _, _, X8, rfl, rfl, rfl, (fun h => by cases h), ⟨⟨rfl, B6, ba3.like (X3.warmed.alike.symm.trans X6.warmed.alike) p6.1 f6.1 f6.2.1 f6.2.2.1, f6.2.1.trans bv3, by rw [X6.warmed.alike.findClass, f6.1]; exact bf3, by rw [f6.2.2.1, bs3]; simp, fun j hj => by rw [f6.2.2.2 j, if_pos (by omega)]; rfl, kp3.put p6 (Nat.le_refl _)⟩, by rw [p6.2.2, bh3, hh0]; simp⟩, fun fs hl => c8.trans (X8.areturnOut hexec rfl hret rfl (hb hbytes d58) hl)⟩
end Cmp3
namespace CodL
def yN : MethodName := ⟨"java/lang/StringUTF16", "coderFromArrayLen", "([BI)B"⟩
abbrev yB : ByteArray := jdk_52_method_15_code
theorem d0 : decode yB 0 = .ok (.iload_n 1, 1) := by decide +kernel
theorem d1 : decode yB 1 = .ok (.aload_n 0, 1) := by decide +kernel
theorem d2 : decode yB 2 = .ok (.arraylength, 1) := by decide +kernel
theorem d3 : decode yB 3 = .ok (.isub, 1) := by decide +kernel
theorem d4 : decode yB 4 = .ok (.bipush 31, 2) := by decide +kernel
theorem d6 : decode yB 6 = .ok (.iushr, 1) := by decide +kernel
theorem d7 : decode yB 7 = .ok (.i2b, 1) := by decide +kernel
theorem d8 : decode yB 8 = .ok (.ireturn, 1) := by decide +kernel
def site : List Cond := []
def tab : Cond := tabOf yN yB 2 (some .byte) site
def P (d : Addr) (B : Cell) (args : Array Value) (s : State) : Prop := args = #[.ref d, .int (Int32.ofNat B.slots.size)] ∧ Arr .byte d B s
def E (r : Option Value) (s u : State) : Prop := XT.PureE (some (.int 0)) r s u
/-- an array as long as the number of chars: LATIN1 -/
theorem law (l : Launch) (d : Addr) (B : Cell) : Law l yN 2 2 0 0 yB 2 (some .byte) site (P d B) E [] 0 0 := by
  refine Law.of_walk (plainFor_of_name (by decide +kernel)) (by decide +kernel) (by decide +kernel) (by decide) (fun _ _ h => by rw [h.1]; rfl) (fun _ U U' hal hh h => ⟨h.1, h.2.mv hal hh⟩) (fun r U U' V V' h1 hal h2 h => XT.PureE.mv r U U' V V' h1 hal h2 h) ?_
  intro p e s m args below meth c s₁ X0 hexec hbytes hml hret hlk hnm hown hh0 W hP
  obtain ⟨rfl, hB⟩ := hP
  have hB0 := hB.mv X0.warmed.alike hh0
  have c1 : Steps p.tables e below (s₁.setTop (entryFrame m #[.ref d, .int (Int32.ofNat B.slots.size)] 2)) (s₁.setTop (mkF m 0 #[.val (.ref d), .val (.int (Int32.ofNat B.slots.size))] [])) := entry rfl
  have c2 : Steps p.tables e below (s₁.setTop (entryFrame m #[.ref d, .int (Int32.ofNat B.slots.size)] 2)) (s₁.setTop (mkF m 2 #[.val (.ref d), .val (.int (Int32.ofNat B.slots.size))] [.ref d, .int (Int32.ofNat B.slots.size)])) := c1.trans (by
    refine XS.iloadN X0.here hexec rfl (hb hbytes d0) rfl ?_
    refine XS.aloadN X0.here hexec rfl (hb hbytes d1) rfl rfl ?_
    exact Steps.refl _)
  have c3 : Steps p.tables e below (s₁.setTop (entryFrame m #[.ref d, .int (Int32.ofNat B.slots.size)] 2)) (s₁.setTop (mkF m 8 #[.val (.ref d), .val (.int (Int32.ofNat B.slots.size))] [.int (lo8 (ushr (Int32.ofNat B.slots.size - Int32.ofNat B.slots.size) 31))])) := c2.trans (by
    refine X0.alen hexec hB0 rfl rfl (hb hbytes d2) ?_
    refine XS.isub X0.here hexec rfl (hb hbytes d3) rfl ?_
    refine bipushV X0.here hexec rfl 31 (hb hbytes d4) (by decide) ?_
    refine iushr X0.here hexec rfl (hb hbytes d6) rfl ?_
    refine i2b X0.here hexec rfl (hb hbytes d7) rfl ?_
    exact Steps.refl _)
  have e0 : lo8 (ushr (Int32.ofNat B.slots.size - Int32.ofNat B.slots.size) 31) = 0 := by rw [Int32.sub_self]; decide
  rw [e0] at c3
  exact ⟨s₁, some (.int 0), _, _, _, X0, rfl, rfl, rfl, (fun h => by cases h), ⟨rfl, hh0⟩, fun fs hl => c3.trans (X0.ireturnOut hexec hret rfl (Or.inr (Or.inr (Or.inl rfl))) (hb hbytes d8) hl)⟩
end CodL
/-- the String at a is Latin-1 over a new byte[] (the heap's one new cell): the low bytes of the len chars of A from o on; every cell but a is kept -/
def Got (a : Addr) (D : Cell) (fV fC : Field) (A : Cell) (o len : Nat) (r : Option Value) (s u : State) : Prop := r = none ∧ ∃ D' V : Cell, Blank "java/lang/String" a D' u ∧ Same D D' [fV.slot, fC.slot] ∧ D'.slots[fV.slot]? = some (.ref s.heap.size) ∧ D'.slots[fC.slot]? = some (.int 0) ∧ Arr .byte s.heap.size V u ∧ V.vm = .none ∧ u.vm.findClass "[B" = some V.cls ∧ V.slots.size = len ∧ (∀ j, j < len → V.slots[j]? = some (.int (lo8 (cv A (o + j))))) ∧ (∀ (y : Addr) (c : Cell), y ≠ a → s.heap[y]? = some c → u.heap[y]? = some c) ∧ u.heap.size = s.heap.size + 1
theorem Got.mv {a : Addr} {D A : Cell} {fV fC : Field} {o len : Nat} : ∀ r (U U' V V' : State), U'.heap = U.heap → V.vm.Alike V'.vm → V'.heap = V.heap → Got a D fV fC A o len r U V → Got a D fV fC A o len r U' V' :=
  fun r U U' V V' h1 hal h2 ⟨e0, D', X, a1, a2, a3, a4, a5, a6, a7, a8, a9, a10, a11⟩ => ⟨e0, D', X, a1.mv hal h2, a2, by rw [h1]; exact a3, a4, by rw [h1]; exact a5.mv hal h2, a6, by rw [hal.findClass]; exact a7, a8, a9, by rw [h1, h2]; exact a10, by rw [h1, h2]; exact a11⟩
namespace New4
def yN : MethodName := ⟨"java/lang/String", "<init>", "([CIILjava/lang/Void;)V"⟩
abbrev yB : ByteArray := jdk_42_method_149_code
theorem d0 : decode yB 0 = .ok (.aload_n 0, 1) := by decide +kernel
theorem d1 : decode yB 1 = .ok (.invokespecial 1, 3) := by decide +kernel
theorem d4 : decode yB 4 = .ok (.iload_n 3, 1) := by decide +kernel
theorem d5 : decode yB 5 = .ok (.ifCond (.ne) 22, 3) := by decide +kernel
theorem d27 : decode yB 27 = .ok (.getstatic 38, 3) := by decide +kernel
theorem d30 : decode yB 30 = .ok (.ifCond (.eq) 28, 3) := by decide +kernel
theorem d33 : decode yB 33 = .ok (.aload_n 1, 1) := by decide +kernel
theorem d34 : decode yB 34 = .ok (.iload_n 2, 1) := by decide +kernel
theorem d35 : decode yB 35 = .ok (.iload_n 3, 1) := by decide +kernel
theorem d36 : decode yB 36 = .ok (.invokestatic 177, 3) := by decide +kernel
theorem d39 : decode yB 39 = .ok (.astore 5, 2) := by decide +kernel
theorem d41 : decode yB 41 = .ok (.aload_n 0, 1) := by decide +kernel
theorem d42 : decode yB 42 = .ok (.aload 5, 2) := by decide +kernel
theorem d44 : decode yB 44 = .ok (.iload_n 3, 1) := by decide +kernel
theorem d45 : decode yB 45 = .ok (.invokestatic 47, 3) := by decide +kernel
theorem d48 : decode yB 48 = .ok (.putfield 15, 3) := by decide +kernel
theorem d51 : decode yB 51 = .ok (.aload_n 0, 1) := by decide +kernel
theorem d52 : decode yB 52 = .ok (.aload 5, 2) := by decide +kernel
theorem d54 : decode yB 54 = .ok (.putfield 9, 3) := by decide +kernel
theorem d57 : decode yB 57 = .ok (.return_, 1) := by decide +kernel
def site : List Cond := [.fieldLink "java/lang/String" 38 "java/lang/String" "COMPACT_STRINGS" "Z", Cmp3.tab, CodL.tab, .laysFinal "java/lang/String" "java/lang/String" "value" "[B", .fieldLink "java/lang/String" 9 "java/lang/String" "value" "[B", .laysFinal "java/lang/String" "java/lang/String" "coder" "B", .fieldLink "java/lang/String" 15 "java/lang/String" "coder" "B"] ++ objW "java/lang/String" 1 ++ staticW "java/lang/String" 177 Cmp3.yN ++ staticW "java/lang/String" 47 CodL.yN
def tab : Cond := tabOf yN yB 6 none site
def P (a : Addr) (D : Cell) (fV fC : Field) (b : Addr) (A : Cell) (z : Int32) (o len : Nat) (args : Array Value) (s : State) : Prop := args = #[.ref a, .ref b, .int (Int32.ofNat o), .int (Int32.ofNat len), .null] ∧ Blank "java/lang/String" a D s ∧ Found "java/lang/String" "value" "[B" fV s ∧ Found "java/lang/String" "coder" "B" fC s ∧ Ch b A s ∧ StaticIs s "java/lang/String" "COMPACT_STRINGS" "Z" (.int z) ∧ ¬ z = 0 ∧ 0 < len ∧ o + len ≤ A.slots.size ∧ len ≤ 536870912 ∧ ∀ i, i < len → ¬ 255 < cv A (o + i)
def E (a : Addr) (D : Cell) (fV fC : Field) (A : Cell) (o len : Nat) (r : Option Value) (s u : State) : Prop := Got a D fV fC A o len r s u
/-- len > 0, no char of the range above 255: a Latin-1 String of their low bytes -/
theorem law (l : Launch) (a : Addr) (D : Cell) (fV fC : Field) (b : Addr) (A : Cell) (z : Int32) (o len : Nat) : Law l yN 5 4 2 35 yB 6 none site (P a D fV fC b A z o len) (E a D fV fC A o len) [⟨a, fC.slot⟩, ⟨a, fV.slot⟩] 1 len := by
  refine Law.of_walk (plainFor_of_name (by decide +kernel)) (by decide +kernel) (by decide +kernel) (by decide) (fun _ _ h => by rw [h.1]; rfl) (fun _ U U' hal hh h => ⟨h.1, h.2.1.mv hal hh, h.2.2.1.al hal, h.2.2.2.1.al hal, h.2.2.2.2.1.mv hal hh, h.2.2.2.2.2.1.there hal hh, h.2.2.2.2.2.2⟩) (fun r U U' V V' h1 hal h2 h => Got.mv r U U' V V' h1 hal h2 h) ?_
  intro p e s m args below meth c s₁ X0 hexec hbytes hml hret hlk hnm hown hh0 W hP
  obtain ⟨rfl, hB, f1, f2, hA, s1, hz, l0, l1, l2, hp⟩ := hP
  have a31 := hA.1.2.2.2
  have c1 : Steps p.tables e below (s₁.setTop (entryFrame m #[.ref a, .ref b, .int (Int32.ofNat o), .int (Int32.ofNat len), .null] 6)) (s₁.setTop (mkF m 0 #[.val (.ref a), .val (.ref b), .val (.int (Int32.ofNat o)), .val (.int (Int32.ofNat len)), .val .null, .unset] [])) := entry rfl
  have c2 : Steps p.tables e below (s₁.setTop (entryFrame m #[.ref a, .ref b, .int (Int32.ofNat o), .int (Int32.ofNat len), .null] 6)) (s₁.setTop (mkF m 1 #[.val (.ref a), .val (.ref b), .val (.int (Int32.ofNat o)), .val (.int (Int32.ofNat len)), .val .null, .unset] [.ref a])) := c1.trans (by
    refine XS.aloadN X0.here hexec rfl (hb hbytes d0) rfl rfl ?_
    exact Steps.refl _)
  obtain ⟨T3, X3, q3, st3⟩ := X0.oinit hexec hown (wks W (objW "java/lang/String" 1)) (g := (mkF m 1 #[.val (.ref a), .val (.ref b), .val (.int (Int32.ofNat o)), .val (.int (Int32.ofNat len)), .val .null, .unset] [.ref a])) rfl (by rw [hml]; rfl) (rest := []) rfl (hb hbytes d1) (W := 0) (by show 2 * 0 + 0 ≤ _; decide) (Nat.le_of_ble_eq_true rfl) (Nat.le_of_ble_eq_true rfl)
  have hh3 := q3.trans hh0
  have c4 : Steps p.tables e below (s₁.setTop (entryFrame m #[.ref a, .ref b, .int (Int32.ofNat o), .int (Int32.ofNat len), .null] 6)) (T3.setTop (mkF m 27 #[.val (.ref a), .val (.ref b), .val (.int (Int32.ofNat o)), .val (.int (Int32.ofNat len)), .val .null, .unset] [])) := (c2.trans (st3 _ (Steps.refl _))).trans (by
    refine XS.iloadN X3.here hexec rfl (hb hbytes d4) rfl ?_
    refine XS.ifYes X3.here hexec rfl (pc0 := 5) rfl (hb hbytes d5) rfl (i0_ne_t (nz32 (by omega) l0)) (by decide) rfl ?_
    exact Steps.refl _)
  obtain ⟨T5, X5, q5, st5⟩ := X3.sget hexec hown (wk W (.fieldLink "java/lang/String" 38 "java/lang/String" "COMPACT_STRINGS" "Z")) s1 (fun _ _ h => by rw [hh3]; exact h) (g := (mkF m 27 #[.val (.ref a), .val (.ref b), .val (.int (Int32.ofNat o)), .val (.int (Int32.ofNat len)), .val .null, .unset] [])) rfl (hb hbytes d27)
  have hh5 := q5.trans hh3
  have c6 : Steps p.tables e below (s₁.setTop (entryFrame m #[.ref a, .ref b, .int (Int32.ofNat o), .int (Int32.ofNat len), .null] 6)) (T5.setTop (mkF m 30 #[.val (.ref a), .val (.ref b), .val (.int (Int32.ofNat o)), .val (.int (Int32.ofNat len)), .val .null, .unset] [.int z])) := c4.trans (st5 _ (Steps.refl _))
  have c7 : Steps p.tables e below (s₁.setTop (entryFrame m #[.ref a, .ref b, .int (Int32.ofNat o), .int (Int32.ofNat len), .null] 6)) (T5.setTop (mkF m 36 #[.val (.ref a), .val (.ref b), .val (.int (Int32.ofNat o)), .val (.int (Int32.ofNat len)), .val .null, .unset] [.int (Int32.ofNat len), .int (Int32.ofNat o), .ref b])) := c6.trans (by
    refine XS.ifNo X5.here hexec rfl (hb hbytes d30) rfl (i0_eq_f hz) ?_
    refine XS.aloadN X5.here hexec rfl (hb hbytes d33) rfl rfl ?_
    refine XS.iloadN X5.here hexec rfl (hb hbytes d34) rfl ?_
    refine XS.iloadN X5.here hexec rfl (hb hbytes d35) rfl ?_
    exact Steps.refl _)
  obtain ⟨v8, T8, X8, E8, g8⟩ := X5.callS hexec (Cmp3.law l b A o len) hown (wks W (staticW "java/lang/String" 177 Cmp3.yN)) (wk W Cmp3.tab) (W := 0) (Nat.le_of_ble_eq_true rfl) (Nat.le_of_ble_eq_true rfl) (Nat.le_refl _) (by show 0 + len ≤ len; omega) (g := (mkF m 36 #[.val (.ref a), .val (.ref b), .val (.int (Int32.ofNat o)), .val (.int (Int32.ofNat len)), .val .null, .unset] [.int (Int32.ofNat len), .int (Int32.ofNat o), .ref b])) rfl (by rw [hml]; rfl) c7 (argsL := [.ref b, .int (Int32.ofNat o), .int (Int32.ofNat len)]) (rest := []) rfl rfl (by show 2 * 0 + 0 ≤ _; decide) (hb hbytes d36) (⟨rfl, hA.mv X5.warmed.alike hh5, l1, l2, hp⟩)
  obtain ⟨e8, z8⟩ := E8
  obtain ⟨rfl, N, n1, n2, n3, n4, n5, n6⟩ := NewArr.mv _ T5 s _ _ hh5.symm (Vm.Alike.refl _) rfl e8
  rw [hh5] at z8
  have hB1 := hB.keep X8.warmed.alike (n6 _ _ hB.1)
  have hne : s.heap.size ≠ a := (Nat.ne_of_lt (Array.getElem?_eq_some_iff.mp hB.1).1).symm
  have c9 : Steps p.tables e below (s₁.setTop (entryFrame m #[.ref a, .ref b, .int (Int32.ofNat o), .int (Int32.ofNat len), .null] 6)) (T8.setTop (mkF m 39 #[.val (.ref a), .val (.ref b), .val (.int (Int32.ofNat o)), .val (.int (Int32.ofNat len)), .val .null, .unset] [.ref s.heap.size])) := g8
  have c10 : Steps p.tables e below (s₁.setTop (entryFrame m #[.ref a, .ref b, .int (Int32.ofNat o), .int (Int32.ofNat len), .null] 6)) (T8.setTop (mkF m 45 #[.val (.ref a), .val (.ref b), .val (.int (Int32.ofNat o)), .val (.int (Int32.ofNat len)), .val .null, .val (.ref s.heap.size)] [.int (Int32.ofNat N.slots.size), .ref s.heap.size, .ref a])) := by
    have hc : Steps p.tables e below (s₁.setTop (entryFrame m #[.ref a, .ref b, .int (Int32.ofNat o), .int (Int32.ofNat len), .null] 6)) (T8.setTop (mkF m 45 #[.val (.ref a), .val (.ref b), .val (.int (Int32.ofNat o)), .val (.int (Int32.ofNat len)), .val .null, .val (.ref s.heap.size)] [.int (Int32.ofNat len), .ref s.heap.size, .ref a])) := c9.trans (by
      refine XS.astore X8.here hexec rfl (hb hbytes d39) rfl rfl rfl ?_
      refine XS.aloadN X8.here hexec rfl (hb hbytes d41) rfl rfl ?_
      refine XS.aload X8.here hexec rfl (hb hbytes d42) rfl rfl ?_
      refine XS.iloadN X8.here hexec rfl (hb hbytes d44) rfl ?_
      exact Steps.refl _)
    rw [n4]; exact hc
  obtain ⟨v11, T11, X11, E11, g11⟩ := X8.callS hexec (CodL.law l s.heap.size N) hown (wks W (staticW "java/lang/String" 47 CodL.yN)) (wk W CodL.tab) (W := 1) (Nat.le_of_ble_eq_true rfl) (Nat.le_of_ble_eq_true rfl) (Nat.le_refl _) (by show 0 + len + 0 ≤ len; omega) (g := (mkF m 45 #[.val (.ref a), .val (.ref b), .val (.int (Int32.ofNat o)), .val (.int (Int32.ofNat len)), .val .null, .val (.ref s.heap.size)] [.int (Int32.ofNat N.slots.size), .ref s.heap.size, .ref a])) rfl (by rw [hml]; rfl) c10 (argsL := [.ref s.heap.size, .int (Int32.ofNat N.slots.size)]) (rest := [.ref a]) rfl rfl (by show 2 * 0 + (1 + 0) ≤ _; decide) (hb hbytes d45) (⟨rfl, n1⟩)
  obtain ⟨rfl, q11⟩ := E11
  have hB11 := hB1.mv (X8.warmed.alike.symm.trans X11.warmed.alike) q11
  have c12 : Steps p.tables e below (s₁.setTop (entryFrame m #[.ref a, .ref b, .int (Int32.ofNat o), .int (Int32.ofNat len), .null] 6)) (T11.setTop (mkF m 48 #[.val (.ref a), .val (.ref b), .val (.int (Int32.ofNat o)), .val (.int (Int32.ofNat len)), .val .null, .val (.ref s.heap.size)] [.int 0, .ref a])) := g11
  obtain ⟨T13, X13, p13, bl13, sl13, st13⟩ := X11.finit hexec hown (wk W (.fieldLink "java/lang/String" 15 "java/lang/String" "coder" "B")) (Or.inr ⟨_, (wk W (.laysFinal "java/lang/String" "java/lang/String" "coder" "B"))⟩) (Or.inl ⟨rfl, hnm⟩) f2 (Or.inl rfl) hB11 (t := .byte) (by decide +kernel) rfl (g := (mkF m 48 #[.val (.ref a), .val (.ref b), .val (.int (Int32.ofNat o)), .val (.int (Int32.ofNat len)), .val .null, .val (.ref s.heap.size)] [.int 0, .ref a])) rfl (rest := []) rfl (hb hbytes d48)
  have c14 : Steps p.tables e below (s₁.setTop (entryFrame m #[.ref a, .ref b, .int (Int32.ofNat o), .int (Int32.ofNat len), .null] 6)) (T13.setTop (mkF m 54 #[.val (.ref a), .val (.ref b), .val (.int (Int32.ofNat o)), .val (.int (Int32.ofNat len)), .val .null, .val (.ref s.heap.size)] [.ref s.heap.size, .ref a])) := (c12.trans (st13 _ (Steps.refl _))).trans (by
    refine XS.aloadN X13.here hexec rfl (hb hbytes d51) rfl rfl ?_
    refine XS.aload X13.here hexec rfl (hb hbytes d52) rfl rfl ?_
    exact Steps.refl _)
  obtain ⟨T15, X15, p15, bl15, sl15, st15⟩ := X13.finit hexec hown (wk W (.fieldLink "java/lang/String" 9 "java/lang/String" "value" "[B")) (Or.inr ⟨_, (wk W (.laysFinal "java/lang/String" "java/lang/String" "value" "[B"))⟩) (Or.inl ⟨rfl, hnm⟩) f1 (Or.inl rfl) bl13 (t := (.array .byte)) (by decide +kernel) rfl (g := (mkF m 54 #[.val (.ref a), .val (.ref b), .val (.int (Int32.ofNat o)), .val (.int (Int32.ofNat len)), .val .null, .val (.ref s.heap.size)] [.ref s.heap.size, .ref a])) rfl (rest := []) rfl (hb hbytes d54)
  have c16 : Steps p.tables e below (s₁.setTop (entryFrame m #[.ref a, .ref b, .int (Int32.ofNat o), .int (Int32.ofNat len), .null] 6)) (T15.setTop (mkF m 57 #[.val (.ref a), .val (.ref b), .val (.int (Int32.ofNat o)), .val (.int (Int32.ofNat len)), .val .null, .val (.ref s.heap.size)] [])) := c14.trans (st15 _ (Steps.refl _))
  have ap := apart (Or.inr ⟨_, (wk W (.laysFinal "java/lang/String" "java/lang/String" "value" "[B"))⟩) (Or.inr ⟨_, (wk W (.laysFinal "java/lang/String" "java/lang/String" "coder" "B"))⟩) f1 f2 (t₁ := .array .byte) (t₂ := .byte) (by decide +kernel) (by decide +kernel) (by decide)
  have al := X8.warmed.alike.symm.trans X15.warmed.alike
  have n7 : T11.heap[s.heap.size]? = some N := by rw [q11]; exact n1.1
  exact ⟨T15, none, _, _, _, X15, by simp, rfl, by omega, (fun _ => rfl), ⟨rfl, _, N, bl15, ((Same.refl D _).set _ (by simp)).set _ (by simp), sl15, (Cell.slots_setSlot_ne _ ap).trans sl13, n1.keep al (p15.other hne (p13.other hne n7)), n2, by rw [al.findClass]; exact n3, n4, n5, fun y c h1 h2 => p15.other h1 (p13.other h1 (by rw [q11]; exact n6 y c h2)), by rw [p15.2.2, p13.2.2, q11]; exact z8⟩, fun fs hl => c16.trans (X15.returnOut hexec hret (hb hbytes d57) hl)⟩
end New4
namespace New1
def yN : MethodName := ⟨"java/lang/String", "<init>", "([C)V"⟩
abbrev yB : ByteArray := jdk_42_method_3_code
theorem d0 : decode yB 0 = .ok (.aload_n 0, 1) := by decide +kernel
theorem d1 : decode yB 1 = .ok (.aload_n 1, 1) := by decide +kernel
theorem d2 : decode yB 2 = .ok (.iconst 0, 1) := by decide +kernel
theorem d3 : decode yB 3 = .ok (.aload_n 1, 1) := by decide +kernel
theorem d4 : decode yB 4 = .ok (.arraylength, 1) := by decide +kernel
theorem d5 : decode yB 5 = .ok (.aconst_null, 1) := by decide +kernel
theorem d6 : decode yB 6 = .ok (.invokespecial 27, 3) := by decide +kernel
theorem d9 : decode yB 9 = .ok (.return_, 1) := by decide +kernel
def site : List Cond := [New4.tab] ++ initW "java/lang/String" 27 New4.yN
def tab : Cond := tabOf yN yB 2 none site
def P (a : Addr) (D : Cell) (fV fC : Field) (b : Addr) (A : Cell) (z : Int32) (args : Array Value) (s : State) : Prop := args = #[.ref a, .ref b] ∧ Blank "java/lang/String" a D s ∧ Found "java/lang/String" "value" "[B" fV s ∧ Found "java/lang/String" "coder" "B" fC s ∧ Ch b A s ∧ StaticIs s "java/lang/String" "COMPACT_STRINGS" "Z" (.int z) ∧ ¬ z = 0 ∧ 0 < A.slots.size ∧ A.slots.size ≤ 536870912 ∧ ∀ i, i < A.slots.size → ¬ 255 < cv A i
def E (a : Addr) (D : Cell) (fV fC : Field) (A : Cell) (r : Option Value) (s u : State) : Prop := Got a D fV fC A 0 A.slots.size r s u
/-- new String(chars), not empty, no char above 255: a Latin-1 String of their low bytes -/
theorem law (l : Launch) (a : Addr) (D : Cell) (fV fC : Field) (b : Addr) (A : Cell) (z : Int32) : Law l yN 2 1 3 52 yB 2 none site (P a D fV fC b A z) (E a D fV fC A) [⟨a, fC.slot⟩, ⟨a, fV.slot⟩] 1 A.slots.size := by
  refine Law.of_walk (plainFor_of_name (by decide +kernel)) (by decide +kernel) (by decide +kernel) (by decide) (fun _ _ h => by rw [h.1]; rfl) (fun _ U U' hal hh h => ⟨h.1, h.2.1.mv hal hh, h.2.2.1.al hal, h.2.2.2.1.al hal, h.2.2.2.2.1.mv hal hh, h.2.2.2.2.2.1.there hal hh, h.2.2.2.2.2.2⟩) (fun r U U' V V' h1 hal h2 h => Got.mv r U U' V V' h1 hal h2 h) ?_
  intro p e s m args below meth c s₁ X0 hexec hbytes hml hret hlk hnm hown hh0 W hP
  obtain ⟨rfl, hB, f1, f2, hA, s1, hz, l0, l2, hp⟩ := hP
  have c1 : Steps p.tables e below (s₁.setTop (entryFrame m #[.ref a, .ref b] 2)) (s₁.setTop (mkF m 0 #[.val (.ref a), .val (.ref b)] [])) := entry rfl
  have c2 : Steps p.tables e below (s₁.setTop (entryFrame m #[.ref a, .ref b] 2)) (s₁.setTop (mkF m 6 #[.val (.ref a), .val (.ref b)] [.null, .int (Int32.ofNat A.slots.size), .int 0, .ref b, .ref a])) := c1.trans (by
    refine XS.aloadN X0.here hexec rfl (hb hbytes d0) rfl rfl ?_
    refine XS.aloadN X0.here hexec rfl (hb hbytes d1) rfl rfl ?_
    refine iconstV X0.here hexec rfl 0 (hb hbytes d2) (by decide) ?_
    refine XS.aloadN X0.here hexec rfl (hb hbytes d3) rfl rfl ?_
    refine X0.alen hexec (hA.1.mv X0.warmed.alike hh0) rfl rfl (hb hbytes d4) ?_
    refine XS.aconstNull X0.here hexec rfl (hb hbytes d5) ?_
    exact Steps.refl _)
  obtain ⟨v3, T3, X3, E3, g3⟩ := X0.callN hexec (New4.law l a D fV fC b A z 0 A.slots.size) rfl hown (wks W (initW "java/lang/String" 27 New4.yN)) (W New4.tab (by simp only [site, List.mem_cons, List.mem_append, true_or, or_true])) (W := 0) (Nat.le_of_ble_eq_true rfl) (Nat.le_of_ble_eq_true rfl) (Nat.le_refl _) (by show 0 + A.slots.size ≤ A.slots.size; omega) (g := (mkF m 6 #[.val (.ref a), .val (.ref b)] [.null, .int (Int32.ofNat A.slots.size), .int (Int32.ofNat 0), .ref b, .ref a])) rfl (by rw [hml]; rfl) c2 (argsL := [.ref b, .int (Int32.ofNat 0), .int (Int32.ofNat A.slots.size), .null]) (rest := []) rfl rfl (by show 2 * 0 + 0 ≤ _; decide) (hb hbytes d6) (⟨rfl, hB.mv X0.warmed.alike hh0, f1.al X0.warmed.alike, f2.al X0.warmed.alike, hA.mv X0.warmed.alike hh0, s1.there X0.warmed.alike hh0, hz, l0, by omega, l2, fun i hi => by rw [Nat.zero_add]; exact hp i hi⟩)
  have e0 := Got.mv _ s₁ s _ _ hh0.symm (Vm.Alike.refl _) rfl E3
  obtain rfl := e0.1
  have c4 : Steps p.tables e below (s₁.setTop (entryFrame m #[.ref a, .ref b] 2)) (T3.setTop (mkF m 9 #[.val (.ref a), .val (.ref b)] [])) := g3
  exact ⟨T3, none, _, _, _, X3, by simp, rfl, by omega, (fun _ => rfl), e0, fun fs hl => c4.trans (X3.returnOut hexec hret (hb hbytes d9) hl)⟩
theorem pays {l : Launch} {R : Room} {p : Program} {e : Env} {below : List Frame} {s : State} {sargs : Array Value} {len W : Nat} (a : Addr) (D : Cell) (fV fC : Field) (b : Addr) (A : Cell) (z : Int32) (htab : tab.before sargs s = true) (hfr : 4 ≤ R.frames) (hlo : W + 65 ≤ R.locals) :
    Back l R p e below s sargs yN len W (fun A₁ a₁ => A₁.cells + 1 ≤ R.cells ∧ A₁.slots + A.slots.size ≤ R.slots ∧ P a D fV fC b A z a₁ A₁.U) (fun A₁ _ v₁ B₁ => E a D fV fC A v₁ A₁.U B₁.U ∧ B₁.locs = A₁.locs ++ [⟨a, fC.slot⟩, ⟨a, fV.slot⟩] ∧ B₁.cells = A₁.cells + 1 ∧ B₁.slots = A₁.slots + A.slots.size) :=
  (law l a D fV fC b A z).pays htab hfr (by omega)
end New1
/-- the byte, read back as charAt reads it, is the char -/
theorem lo8_mask {x : Int32} (h0 : ¬ x < 0) (h1 : ¬ 255 < x) : lo8 x &&& 255 = x := by
  have t : ∀ k : Fin 256, lo8 (Int32.ofNat k.val) &&& 255 = Int32.ofNat k.val := by decide +kernel
  rw [Int32.lt_iff_toInt_lt] at h0 h1
  have e0 : (0 : Int32).toInt = 0 := rfl
  have e1 : (255 : Int32).toInt = 255 := rfl
  obtain ⟨k, hk⟩ : ∃ k : Nat, x.toInt = k := ⟨x.toInt.toNat, by omega⟩
  have hx : x = Int32.ofNat k := Int32.toInt_inj.mp (by rw [hk, Int32.toInt_ofNat_small (by omega)])
  rw [hx]
  exact t ⟨k, by omega⟩
end StrChars
namespace StrChars.Road
open Jvm Sem ClassFile Op Lib Jvm.Stand Jvm.Free Jvm.Free.XT
open Jvm.Lib.Cold (StaticIs)
abbrev ST : String := "java/lang/String"
/-- every table word that New1's law asks, flat -/
abbrev words : List Jvm.Cond := [.code New1.yN New1.yB 2 none, .initialized ST, .methodLink ST 27 New4.yN, .instanceMethod New4.yN,
  .code New4.yN New4.yB 6 none, .fieldLink ST 38 ST "COMPACT_STRINGS" "Z", .laysFinal ST ST "value" "[B", .fieldLink ST 9 ST "value" "[B", .laysFinal ST ST "coder" "B", .fieldLink ST 15 ST "coder" "B",
  .methodLink ST 1 Lib.objectInit, .instanceMethod Lib.objectInit, .code Lib.objectInit ⟨#[0xb1]⟩ 1 none, .methodLink ST 177 Cmp3.yN, .static Cmp3.yN, .methodLink ST 47 CodL.yN, .static CodL.yN,
  .code Cmp3.yN Cmp3.yB 6 (some (.array .byte)), .initialized U16, .arrayClass .byte, .methodLink U16 115 Cmp5.yN, .static Cmp5.yN, .code Cmp5.yN Cmp5.yB 7 (some .int), .code CodL.yN CodL.yB 2 (some .byte)]
theorem tab_of {a : Array Value} {s : State} (h : ∀ w ∈ words, w.before a s = true) : New1.tab.before a s = true := by
  have h5 : Cmp5.tab.before a s = true := unparts (wk h (.code Cmp5.yN Cmp5.yB 7 (some .int))) (wks h (.initialized Cmp5.yN.cls :: Cmp5.site))
  have hc : CodL.tab.before a s = true := unparts (wk h (.code CodL.yN CodL.yB 2 (some .byte))) (wks h (.initialized CodL.yN.cls :: CodL.site))
  have q5 : ∀ w ∈ Cmp5.tab :: words, w.before a s = true := fun w hw => (List.mem_cons.mp hw).elim (fun e => e ▸ h5) (h w)
  have h3 : Cmp3.tab.before a s = true := unparts (wk q5 (.code Cmp3.yN Cmp3.yB 6 (some (.array .byte)))) (wks q5 (.initialized Cmp3.yN.cls :: Cmp3.site))
  have q3 : ∀ w ∈ Cmp3.tab :: CodL.tab :: words, w.before a s = true := fun w hw => (List.mem_cons.mp hw).elim (fun e => e ▸ h3) fun hw => (List.mem_cons.mp hw).elim (fun e => e ▸ hc) (h w)
  have h4 : New4.tab.before a s = true := unparts (wk q3 (.code New4.yN New4.yB 6 none)) (wks q3 (.initialized New4.yN.cls :: New4.site))
  have q4 : ∀ w ∈ New4.tab :: words, w.before a s = true := fun w hw => (List.mem_cons.mp hw).elim (fun e => e ▸ h4) (h w)
  exact unparts (wk q4 (.code New1.yN New1.yB 2 none)) (wks q4 (.initialized New1.yN.cls :: New1.site))
/-- the words ride from the start Z to the walk's own state -/
theorem moved {Z s : State} {a0 args : Array Value} (hZ : Z.Warmed39 s.vm) (hw : ∀ d ∈ words, d.before a0 Z = true) : ∀ d ∈ words, d.before args s = true := fun d hd => by
  have q := hw d hd
  have t : ∀ d ∈ words, d = .arrayClass .byte ∨ (d.onTables && d.keepsFace) = true := by decide +kernel
  rcases t d hd with rfl | t
  · exact RoadKit.mvA hZ q
  · exact RoadKit.mv hZ q t
/-- WHAT COMES BACK, over the tables of the start Z: h the heap at the call, h' behind it -/
def Q (Z : State) (x : Addr) (A : Cell) (h : Heap) (v : Option Value) (h' : Heap) (L : List Loc) : Prop := v = none ∧ (∀ y ∈ L, y.base = x) ∧ RoadKit.Keep h h' [x] ∧ h'.size = h.size + 1 ∧ RoadKit.Exa Z h' x ST ∧ RoadKit.Fld Z h' x ST "value" "[B" (.ref h.size) ∧ RoadKit.Fld Z h' x ST "coder" "B" (.int 0) ∧
  (∃ V : Cell, RoadKit.Arr Z h' h.size V .byte ∧ V.vm = .none ∧ Z.vm.findClass "[B" = some V.cls ∧ V.slots.size = A.slots.size ∧ ∀ j, j < A.slots.size → V.slots[j]? = some (.int (lo8 (cv A j)))) ∧
  ∀ (O n d : String) (w : Value), RoadKit.Fld Z h x O n d w → RoadKit.slotOf Z O n d ≠ RoadKit.slotOf Z ST "value" "[B" → RoadKit.slotOf Z O n d ≠ RoadKit.slotOf Z ST "coder" "B" → RoadKit.Fld Z h' x O n d w
/-- **new String(chars) AT A CALL, IN THE ROAD'S FORM**: for specialBack behind newO: x the fresh String, b the char[] with the cell A -/
theorem back {p : Program} {l : Launch} {e : Env} {R : Room} {s : State} {args : Array Value} {below : List Frame} {len W : Nat} {Z : State} {a0 : Array Value} {h : Heap} (hZ : Z.Warmed39 s.vm) (hw : ∀ d ∈ words, d.before a0 Z = true) {kI : Nat} (wi : (Jvm.Cond.instantiable ST kI).before a0 Z = true)
    {x b : Addr} {A : Cell} {z : Int32} {v0 c0 : Value} (E : RoadKit.Exa Z h x ST) (V : RoadKit.Fld Z h x ST "value" "[B" v0) (C : RoadKit.Fld Z h x ST "coder" "B" c0) (K : RoadKit.Arr Z h b A .char) (hty : Typed .char A) (S : RoadKit.Sta Z h ST "COMPACT_STRINGS" "Z" (.int z)) (hz : ¬ z = 0)
    (l0 : 0 < A.slots.size) (l2 : A.slots.size ≤ 536870912) (hp : ∀ i, i < A.slots.size → ¬ 255 < cv A i) (hfr : 4 ≤ R.frames) (hlo : W + 65 ≤ R.locals) :
    Back l R p e below s args New1.yN len W (fun P a => a = #[.ref x, .ref b] ∧ P.U.heap = h ∧ P.cells + 1 ≤ R.cells ∧ P.slots + A.slots.size ≤ R.slots)
      (fun P _ v B => ∃ L, Q Z x A h v B.U.heap L ∧ B.locs = P.locs ++ L ∧ B.cells = P.cells + 1 ∧ B.slots = P.slots + A.slots.size) := by
  intro m meth c P g ig mk a X hg hsize hdg hW hn hp'
  obtain ⟨rfl, rfl, r1, r2⟩ := hp'
  have al : Z.vm.Alike P.U.vm := hZ.alike.trans X.warmed.alike
  obtain ⟨D, cfV, kV, iV, fV, hD, gV, stV, knV, obV, asV, slV⟩ := id V
  obtain ⟨D', cfC, kC, iC, fC, hD', gC, stC, -, -, asC, slC⟩ := id C
  cases hD.symm.trans hD'
  obtain ⟨D2, kD, e1, e2, e3, e4, e5⟩ := id E
  cases hD.symm.trans e1
  obtain ⟨c2, k2, i1, i2, i3, -⟩ := Cond.instantiable_spec wi
  cases e2.symm.trans i1
  cases e3.symm.trans i2
  obtain ⟨kU, u1, u2⟩ := al.2.2 _ _ e3
  have hB : Blank ST x D P.U := ⟨hD, ⟨knV, fun q hq => by rw [hq] at obV; cases obV⟩, by rw [al.findClass]; exact e2, kU, u1, by rw [u2]; exact i3, by rw [u2]; exact e5 i3⟩
  have F1 : Found ST "value" "[B" fV P.U := ⟨SBG.found_only al ⟨cfV, kV, iV, gV⟩, stV⟩
  have F2 : Found ST "coder" "B" fC P.U := ⟨SBG.found_only al ⟨cfC, kC, iC, gC⟩, stC⟩
  have hA : Ch b A P.U := ⟨⟨K.1, State.isArrayOf_alike al K.2.1, K.2.2, by omega⟩, hty⟩
  have hS : StaticIs P.U ST "COMPACT_STRINGS" "Z" (.int z) := by
    obtain ⟨cfS, iS, kS, fS, st, cS, t1, t2, t3, t4, t5, t6, t7⟩ := S
    exact StaticIs.there (s := { Z with heap := P.U.heap }) ⟨cfS, iS, kS, fS, st, cS, t1, t2, t3, t4, t5, (fun q => by rw [q] at t6; cases t6), t7⟩ al rfl
  obtain ⟨v, B, X', ⟨⟨hv, E', V', q1, q2, q3, q4, q5, q6, q7, q8, q9, q10, q11⟩, hl, hc, hs⟩, st⟩ := New1.pays x D fV fC b A z (tab_of (moved hZ hw)) hfr hlo m meth c P g ig mk _ X hg hsize hdg hW hn ⟨r1, r2, rfl, hB, F1, F2, hA, hS, hz, l0, l2, hp⟩
  have al' : Z.vm.Alike B.U.vm := hZ.alike.trans X'.warmed.alike
  have hsz : E'.slots.size = D.slots.size := by
    obtain ⟨-, -, -, kB, w1, w2, w3⟩ := q1
    obtain ⟨kB', y1, y2⟩ := al'.2.2 _ _ e3
    rw [q2.2.1] at w1
    cases w1.symm.trans y1
    rw [w3, e5 i3, y2]
  refine ⟨v, B, X', ⟨_, ⟨hv, ?_, ⟨by omega, fun y cy hy hn' => q10 y cy (by simpa using hn') hy, fun y cy hy => ?_⟩, q11, ⟨E', _, q1.1, by rw [q2.2.1]; exact e2, by rw [q2.2.1]; exact e3, by rw [q2.1]; exact obV, fun _ => by rw [hsz]; exact e5 i3⟩,
    ⟨E', cfV, kV, iV, fV, q1.1, gV, stV, by rw [q2.1]; exact knV, by rw [q2.1]; exact obV, by rw [q2.2.1]; exact asV, q3⟩, ⟨E', cfC, kC, iC, fC, q1.1, gC, stC, by rw [q2.1]; exact knV, by rw [q2.1]; exact obV, by rw [q2.2.1]; exact asC, q4⟩,
    ⟨V', ⟨q5.1, State.isArrayOf_alike al'.symm q5.2.1, q5.2.2.1⟩, q6, by rw [← al'.findClass]; exact q7, q8, fun j hj => by have := q9 j hj; rwa [Nat.zero_add] at this⟩, fun O n d w F n1 n2 => ?_⟩, hl, hc, hs⟩, st⟩
  · intro y hy
    simp only [List.mem_cons, List.not_mem_nil, or_false] at hy
    rcases hy with rfl | rfl <;> rfl
  · by_cases q : y = x
    · subst q
      cases hD.symm.trans hy
      exact ⟨E', q1.1, q2.2.1, q2.1, hsz⟩
    · exact ⟨cy, q10 y cy q hy, rfl, rfl, rfl⟩
  · obtain ⟨D3, cf, k, i, f, g1, g2, g3, g4, g5, g6, g7⟩ := F
    cases hD.symm.trans g1
    simp only [RoadKit.slotOf, g2, gV, gC, Option.map_some, Option.getD_some] at n1 n2
    exact ⟨E', cf, k, i, f, q1.1, g2, g3, by rw [q2.1]; exact g4, by rw [q2.1]; exact g5, by rw [q2.2.1]; exact g6, by rw [q2.2.2 f.slot (by simp [n1, n2])]; exact g7⟩
end StrChars.Road
namespace StrChars.Road
open Jvm Sem ClassFile Op Lib Jvm.Stand Jvm.Free Jvm.Free.XT
/-- WHAT COMES BACK, the byte[] as a list of values -/
def QA (Z : State) (x : Addr) (zn : Int32) (cs : List Int32) (h : Heap) (v : Option Value) (h' : Heap) (L : List Loc) : Prop := v = none ∧ (∀ y ∈ L, y.base = x) ∧ RoadKit.Keep h h' [x] ∧ h'.size = h.size + 1 ∧ RoadKit.Exa Z h' x ST ∧ RoadKit.Fld Z h' x ST "value" "[B" (.ref h.size) ∧ RoadKit.Fld Z h' x ST "coder" "B" (.int 0) ∧
  (∃ kb, Z.vm.findClass "[B" = some kb ∧ RoadKit.Arv Z h' h.size kb .byte zn (cs.map fun c => .int (lo8 c)) (.int 0)) ∧
  ∀ (O n d : String) (w : Value), RoadKit.Fld Z h x O n d w → RoadKit.slotOf Z O n d ≠ RoadKit.slotOf Z ST "value" "[B" → RoadKit.slotOf Z O n d ≠ RoadKit.slotOf Z ST "coder" "B" → RoadKit.Fld Z h' x O n d w
/-- **new String(chars) AT A CALL, THE ARRAYS AS LISTS**: the char[] at b holds cs, not empty, no char above 255 -/
theorem backArv {p : Program} {l : Launch} {e : Env} {R : Room} {s : State} {args : Array Value} {below : List Frame} {len W : Nat} {Z : State} {a0 : Array Value} {h : Heap} (hZ : Z.Warmed39 s.vm) (hw : ∀ d ∈ words, d.before a0 Z = true) {kI : Nat} (wi : (Jvm.Cond.instantiable ST kI).before a0 Z = true)
    {x b : Addr} {k : ClassId} {zn z : Int32} {cs : List Int32} {dv v0 c0 : Value} (E : RoadKit.Exa Z h x ST) (V : RoadKit.Fld Z h x ST "value" "[B" v0) (C : RoadKit.Fld Z h x ST "coder" "B" c0) (K : RoadKit.Arv Z h b k .char zn (cs.map Value.int) dv) (S : RoadKit.Sta Z h ST "COMPACT_STRINGS" "Z" (.int z)) (hz : ¬ z = 0)
    (hlen : zn.toNatClampNeg = cs.length) (h0 : 0 < cs.length) (hbig : cs.length ≤ 536870912) (hall : ∀ c ∈ cs, ¬ 255 < c) (hfr : 4 ≤ R.frames) (hlo : W + 65 ≤ R.locals) :
    Back l R p e below s args New1.yN len W (fun P a => a = #[.ref x, .ref b] ∧ P.U.heap = h ∧ P.cells + 1 ≤ R.cells ∧ P.slots + cs.length ≤ R.slots)
      (fun P _ v B => ∃ L, QA Z x zn cs h v B.U.heap L ∧ B.locs = P.locs ++ L ∧ B.cells = P.cells + 1 ∧ B.slots = P.slots + cs.length) := by
  obtain ⟨A, K1, K2, K3, K4, K5, K6⟩ := K
  have e : A.slots.size = cs.length := K3.trans hlen
  have hat : ∀ (i : Nat) (hi : i < cs.length), A.slots[i]? = some (.int cs[i]) := fun i hi => by rw [K5 i (by omega)]; simp [List.getD_eq_getElem?_getD, hi]
  have hcv : ∀ (i : Nat) (hi : i < cs.length), cv A i = cs[i] := fun i hi => by unfold cv; rw [hat i hi]
  have hty : Typed .char A := fun i v hv => by
    have hi : i < A.slots.size := (Array.getElem?_eq_some_iff.mp hv).1
    have q := K5 i hi
    rw [hv] at q
    rw [Option.some.inj q]
    exact K6 i hi
  refine Back.mono (back hZ hw wi E V C K1 hty S hz (by omega) (by omega) (fun i hi => by rw [hcv i (by omega)]; exact hall _ (List.getElem_mem _)) hfr hlo) (fun P a hp => ⟨hp.1, hp.2.1, hp.2.2.1, by rw [e]; exact hp.2.2.2⟩) (fun P a v B hp hq => ?_)
  obtain ⟨L, ⟨q1, q2, q3, q4, q5, q6, q7, ⟨V', v1, v2, v3, v4, v5⟩, q9⟩, hl, hc, hs⟩ := hq
  refine ⟨L, ⟨q1, q2, q3, q4, q5, q6, q7, ⟨V'.cls, v3, V', v1, rfl, by rw [v4, e, hlen], K4, fun i hi => ?_, fun i hi => ?_⟩, q9⟩, hl, hc, by rw [hs, e]⟩
  · have hi' : i < cs.length := by omega
    rw [v5 i (by omega), hcv i hi']; simp [List.getD_eq_getElem?_getD, hi']
  · have hi' : i < cs.length := by omega
    simp only [List.getD_eq_getElem?_getD, List.getElem?_map, List.getElem?_eq_getElem hi', Option.map_some, Option.getD_some]
    exact fits_lo8 _
end StrChars.Road
namespace StrChars.Road
open Jvm Sem ClassFile Op Lib Jvm.Stand Jvm.Free Jvm.Free.XT
/-- WHAT COMES BACK, in the writer's own shape -/
def QV (Z : State) (x : Addr) (N : Int32) (bs : List Int32) (h : Heap) (n0 : Nat) (v : Option Value) (h' : Heap) (L : List Loc) : Prop := v = none ∧ RoadKit.Fr n0 L ∧ RoadKit.Keep h h' [x] ∧ RoadKit.Exa Z h' x ST ∧ RoadKit.Fld Z h' x ST "coder" "B" (.int 0) ∧
  ∃ (t : Addr) (kb : ClassId), n0 ≤ t ∧ h.size ≤ t ∧ ¬ t = x ∧ RoadKit.Fld Z h' x ST "value" "[B" (.ref t) ∧ RoadKit.Arv Z h' t kb .byte N (bs.map Value.int) (.int 0)
/-- **new String(chars) AT A CALL, FOR THE WRITER**: a char[] of n known ints, each 0 to 255 -/
theorem backV {p : Program} {l : Launch} {e : Env} {R : Room} {s : State} {args : Array Value} {below : List Frame} {len W : Nat} {Z : State} {a0 : Array Value} {h : Heap} (hZ : Z.Warmed39 s.vm) (hw : ∀ d ∈ words, d.before a0 Z = true) {kI : Nat} (wi : (Jvm.Cond.instantiable ST kI).before a0 Z = true)
    {x b : Addr} {kC : ClassId} {cs bs : List Int32} {d v0 c0 : Value} {z N : Int32} {n n0 : Nat} (hx0 : n0 ≤ x) (hh0 : n0 ≤ h.size) (E : RoadKit.Exa Z h x ST) (V : RoadKit.Fld Z h x ST "value" "[B" v0) (C : RoadKit.Fld Z h x ST "coder" "B" c0) (K : RoadKit.Arv Z h b kC .char N (cs.map Value.int) d) (S : RoadKit.Sta Z h ST "COMPACT_STRINGS" "Z" (.int z)) (hz : ¬ z = 0)
    (hn : cs.length = n) (hN : N = Int32.ofNat n) (l0 : 0 < n) (l2 : n ≤ 4000) (hp : ∀ c ∈ cs, ¬ c < 0 ∧ ¬ (255 : Int32) < c) (hb : bs = cs.map (fun c => c.toInt8.toInt32)) (hfr : 4 ≤ R.frames) (hlo : W + 65 ≤ R.locals) :
    Back l R p e below s args (⟨"java/lang/String", "<init>", "([C)V"⟩ : MethodName) len W (fun P a => a = #[.ref x, .ref b] ∧ P.U.heap = h ∧ P.cells + 1 ≤ R.cells ∧ P.slots + n ≤ R.slots)
      (fun P _ v B => ∃ L, QV Z x N bs h n0 v B.U.heap L ∧ B.locs = P.locs ++ L ∧ B.cells = P.cells + 1 ∧ B.slots = P.slots + n) := by
  subst hn hN hb
  refine Back.mono (backArv hZ hw wi E V C K S hz (n32 (by omega)) l0 (by omega) (fun c hc => (hp c hc).2) hfr hlo) (fun P a hp => hp) (fun P a v B hp hq => ?_)
  obtain ⟨L, ⟨q1, q2, q3, q4, q5, q6, q7, ⟨kb, v1, v2⟩, q9⟩, hl, hc, hs⟩ := hq
  exact ⟨L, ⟨q1, fun y hy => by rw [q2 y hy]; exact hx0, q3, q5, q7, h.size, kb, hh0, Nat.le_refl _, Nat.ne_of_gt E.lt, q6, by rw [List.map_map]; exact v2⟩, hl, hc, hs⟩
end StrChars.Road
namespace StrChars
open Jvm Sem ClassFile Op Lib Jvm.Stand Jvm.Free.XT Jvm.Free.ALB Jvm.Free.JM Jvm.Free
open Jvm.Lib.Cold (StaticIs)
def hi8 (x : Int32) : Int32 := lo8 (x >>> ((8 : Int32) &&& 31))
/-- what StringUTF16.getChar makes of two bytes -/
def pairCh (u v : Int32) : Int32 := (((u &&& 255) <<< ((0 : Int32) &&& 31)) ||| ((v &&& 255) <<< ((8 : Int32) &&& 31))).toUInt32.toUInt16.toUInt32.toInt32
theorem shr0 (c : Int32) : c >>> ((0 : Int32) &&& 31) = c := by
  have e : ((0 : Int32) &&& 31) = 0 := by decide
  rw [e]
  apply Int32.toBitVec_inj.mp
  rw [Int32.toBitVec_shiftRight]
  have e1 : ((0 : Int32).toBitVec.smod 32) = 0#32 := by decide
  rw [e1, BitVec.sshiftRight_eq']
  exact BitVec.sshiftRight_zero
theorem lo8_and (x : Int32) : (lo8 x &&& 255).toBitVec.toNat = x.toBitVec.toNat % 256 := by
  have h : (lo8 x).toBitVec = (x.toBitVec.signExtend 8).signExtend 32 := by rw [lo8, Int8.toBitVec_toInt32, Int32.toBitVec_toInt8]
  rw [Int32.toBitVec_and, BitVec.toNat_and, h]
  have e : ((x.toBitVec.signExtend 8).signExtend 32).toNat % 256 = x.toBitVec.toNat % 256 := by
    rw [BitVec.toNat_signExtend]
    have hlt := x.toBitVec.isLt
    simp only [BitVec.toNat_setWidth, BitVec.toNat_signExtend]
    split <;> split <;> omega
  rw [← e]
  exact Nat.and_two_pow_sub_one_eq_mod _ 8
theorem pair_says {c : Int32} (h0 : ¬ c < 0) (h1 : ¬ 65535 < c) : pairCh (lo8 c) (hi8 c) = c := by
  rw [Int32.lt_iff_toInt_lt] at h0 h1
  have e0 : (0 : Int32).toInt = 0 := rfl
  have e1 : (65535 : Int32).toInt = 65535 := rfl
  have hc : c.toInt = c.toBitVec.toNat := by
    have := c.toBitVec.isLt
    have e : c.toInt = c.toBitVec.toInt := rfl
    rw [e] at h0 h1
    rw [e]
    rw [BitVec.toInt_eq_toNat_cond] at h0 h1 ⊢
    split at h0 <;> split <;> omega
  have hn : c.toBitVec.toNat < 65536 := by omega
  have a1 := lo8_and c
  have a2 : (hi8 c &&& 255).toBitVec.toNat = c.toBitVec.toNat / 256 := by
    rw [hi8, lo8_and]
    have e : ((8 : Int32) &&& 31) = 8 := by decide
    rw [e, Int32.toBitVec_shiftRight]
    have e2 : ((8 : Int32).toBitVec.smod 32) = 8#32 := by decide
    rw [e2, BitVec.sshiftRight_eq', BitVec.toNat_sshiftRight_of_msb_false (by rw [BitVec.msb_eq_false_iff_two_mul_lt]; omega)]
    show c.toBitVec.toNat >>> 8 % 256 = _
    rw [Nat.shiftRight_eq_div_pow]
    omega
  unfold pairCh
  apply Int32.toBitVec_inj.mp
  apply BitVec.eq_of_toNat_eq
  have f0 : ((0 : Int32) &&& 31) = 0 := by decide
  have f8 : ((8 : Int32) &&& 31) = 8 := by decide
  rw [f0, f8]
  have g : (((lo8 c &&& 255) <<< (0 : Int32)) ||| ((hi8 c &&& 255) <<< (8 : Int32))).toBitVec.toNat = c.toBitVec.toNat := by
    rw [Int32.toBitVec_or, Int32.toBitVec_shiftLeft, Int32.toBitVec_shiftLeft]
    have s0 : ((0 : Int32).toBitVec.smod 32) = 0#32 := by decide
    have s8 : ((8 : Int32).toBitVec.smod 32) = 8#32 := by decide
    rw [s0, s8, BitVec.toNat_or]
    simp only [BitVec.shiftLeft_eq', BitVec.toNat_shiftLeft, a1, a2]
    show (c.toBitVec.toNat % 256) <<< 0 % 2 ^ 32 ||| (c.toBitVec.toNat / 256) <<< 8 % 2 ^ 32 = _
    rw [Nat.shiftLeft_zero, Nat.mod_eq_of_lt (show c.toBitVec.toNat % 256 < 2 ^ 32 by omega), Nat.mod_eq_of_lt (show (c.toBitVec.toNat / 256) <<< 8 < 2 ^ 32 by rw [Nat.shiftLeft_eq]; omega), Nat.or_comm, ← Nat.shiftLeft_add_eq_or_of_lt (by omega), Nat.shiftLeft_eq]
    omega
  show BitVec.toNat (((((lo8 c &&& 255) <<< (0 : Int32)) ||| ((hi8 c &&& 255) <<< (8 : Int32))).toBitVec.setWidth 16).setWidth 32) = _
  rw [BitVec.toNat_setWidth, BitVec.toNat_setWidth, g]
  omega
end StrChars
namespace StrChars
open Jvm Sem ClassFile Op Lib Jvm.Stand Jvm.Free.XT Jvm.Free.ALB Jvm.Free.JM Jvm.Free
open Jvm.Lib.Cold (StaticIs)
theorem shr1 {n : Nat} (h : 2 * n < 2 ^ 31) : Int32.ofNat (2 * n) >>> ((1 : Int32) &&& 31) = Int32.ofNat n := by
  have e : ((1 : Int32) &&& 31) = 1 := by decide
  rw [e]
  apply Int32.toBitVec_inj.mp
  rw [Int32.toBitVec_shiftRight]
  have e1 : ((1 : Int32).toBitVec.smod 32) = 1#32 := by decide
  have hm : (BitVec.ofNat 32 (2 * n)).toNat = 2 * n := by rw [BitVec.toNat_ofNat, Nat.mod_eq_of_lt (by omega)]
  rw [e1, BitVec.sshiftRight_eq']
  apply BitVec.eq_of_toNat_eq
  show ((BitVec.ofNat 32 (2 * n)).sshiftRight 1).toNat = (BitVec.ofNat 32 n).toNat
  rw [BitVec.toNat_sshiftRight_of_msb_false (by rw [BitVec.msb_eq_false_iff_two_mul_lt, hm]; omega), hm, BitVec.toNat_ofNat, Nat.shiftRight_eq_div_pow]
  omega
/-- the array's cell V codes the n chars f 0 .. f (n - 1) by the coder cd, as the JDK does: coder 1 just where some char is above 255 -/
def Cod (cd : Int32) (n : Nat) (f : Nat → Int32) (V : Cell) : Prop := (cd = 0 ∧ V.slots.size = n ∧ ∀ j, j < n → V.slots[j]? = some (.int (lo8 (f j))) ∧ ¬ 255 < f j) ∨ (cd = 1 ∧ V.slots.size = 2 * n ∧ (∀ j, j < n → V.slots[2 * j]? = some (.int (lo8 (f j))) ∧ V.slots[2 * j + 1]? = some (.int (hi8 (f j)))) ∧ ∃ j, j < n ∧ 255 < f j)
theorem Cod.cd {cd : Int32} {n : Nat} {f : Nat → Int32} {V : Cell} (h : Cod cd n f V) : cd = 0 ∨ cd = 1 := h.imp (fun q => q.1) fun q => q.1
theorem Cod.len {cd : Int32} {n : Nat} {f : Nat → Int32} {V : Cell} (h : Cod cd n f V) (hs : V.slots.size < 2 ^ 31) : Int32.ofNat V.slots.size >>> (cd &&& 31) = Int32.ofNat n := by
  rcases h with ⟨rfl, h, -⟩ | ⟨rfl, h, -⟩
  · rw [shr0, h]
  · rw [h, shr1 (by omega)]
/-- **x is a String of the n chars f 0 .. f (n - 1)**, Latin-1 or UTF-16; its array at t has the cell V -/
def Txt (x t : Addr) (V : Cell) (cd : Int32) (n : Nat) (f : Nat → Int32) (U : State) : Prop := Exact "java/lang/String" x U ∧ Has x "java/lang/String" "value" "[B" (.ref t) U ∧ Has x "java/lang/String" "coder" "B" (.int cd) U ∧ XT.Arr .byte t V U ∧ Cod cd n f V ∧ ∀ j, j < n → ¬ f j < 0 ∧ ¬ 65535 < f j
theorem Txt.mv {x t : Addr} {V : Cell} {cd : Int32} {n : Nat} {f : Nat → Int32} {U U' : State} (h : Txt x t V cd n f U) (hal : U.vm.Alike U'.vm) (hh : U'.heap = U.heap) : Txt x t V cd n f U' := ⟨h.1.mv hal hh, h.2.1.mv hal hh, h.2.2.1.mv hal hh, h.2.2.2.1.mv hal hh, h.2.2.2.2⟩
namespace Cdr
def yN : MethodName := ⟨"java/lang/String", "coder", "()B"⟩
abbrev yB : ByteArray := jdk_42_method_152_code
theorem d0 : decode yB 0 = .ok (.getstatic 38, 3) := by decide +kernel
theorem d3 : decode yB 3 = .ok (.ifCond (.eq) 10, 3) := by decide +kernel
theorem d6 : decode yB 6 = .ok (.aload_n 0, 1) := by decide +kernel
theorem d7 : decode yB 7 = .ok (.getfield 15, 3) := by decide +kernel
theorem d10 : decode yB 10 = .ok (.goto 4, 3) := by decide +kernel
theorem d14 : decode yB 14 = .ok (.ireturn, 1) := by decide +kernel
def site : List Cond := [.fieldLink "java/lang/String" 38 "java/lang/String" "COMPACT_STRINGS" "Z", .fieldLink "java/lang/String" 15 "java/lang/String" "coder" "B"]
def tab : Cond := tabOf yN yB 1 (some .byte) site
def P (x : Addr) (cd z : Int32) (args : Array Value) (s : State) : Prop := args = #[.ref x] ∧ Has x "java/lang/String" "coder" "B" (.int cd) s ∧ (cd = 0 ∨ cd = 1) ∧ StaticIs s "java/lang/String" "COMPACT_STRINGS" "Z" (.int z) ∧ ¬ z = 0
def E (cd : Int32) (r : Option Value) (s u : State) : Prop := XT.PureE (some (.int cd)) r s u
theorem law (l : Launch) (x : Addr) (cd z : Int32) : Law l yN 1 0 0 0 yB 1 (some .byte) site (P x cd z) (E cd) [] 0 0 := by
  refine Law.of_walk (plainFor_of_name (by decide +kernel)) (by decide +kernel) (by decide +kernel) (by decide) (fun _ _ h => by rw [h.1]; rfl) (fun _ U U' hal hh h => ⟨h.1, h.2.1.mv hal hh, h.2.2.1, h.2.2.2.1.there hal hh, h.2.2.2.2⟩) (fun r U U' V V' h1 hal h2 h => XT.PureE.mv r U U' V V' h1 hal h2 h) ?_
  intro p e s m args below meth c s₁ X0 hexec hbytes hml hret hlk hnm hown hh0 W hP
  obtain ⟨rfl, hx, hc, s1, hz⟩ := hP
  have c1 : Steps p.tables e below (s₁.setTop (entryFrame m #[.ref x] 1)) (s₁.setTop (mkF m 0 #[.val (.ref x)] [])) := entry rfl
  obtain ⟨T2, X2, q2, st2⟩ := X0.sget hexec hown (wk W (.fieldLink "java/lang/String" 38 "java/lang/String" "COMPACT_STRINGS" "Z")) s1 (fun _ _ h => by rw [hh0]; exact h) (g := (mkF m 0 #[.val (.ref x)] [])) rfl (hb hbytes d0)
  have hh2 := q2.trans hh0
  have c3 : Steps p.tables e below (s₁.setTop (entryFrame m #[.ref x] 1)) (T2.setTop (mkF m 7 #[.val (.ref x)] [.ref x])) := (c1.trans (st2 _ (Steps.refl _))).trans (by
    refine XS.ifNo X2.here hexec rfl (hb hbytes d3) rfl (i0_eq_f hz) ?_
    refine XS.aloadN X2.here hexec rfl (hb hbytes d6) rfl rfl ?_
    exact Steps.refl _)
  obtain ⟨T4, X4, q4, st4⟩ := X2.hget hexec hown (wk W (.fieldLink "java/lang/String" 15 "java/lang/String" "coder" "B")) (hx.mv X2.warmed.alike hh2) (g := (mkF m 7 #[.val (.ref x)] [.ref x])) rfl (rest := []) rfl (hb hbytes d7)
  have c5 : Steps p.tables e below (s₁.setTop (entryFrame m #[.ref x] 1)) (T4.setTop (mkF m 14 #[.val (.ref x)] [.int cd])) := (c3.trans (st4 _ (Steps.refl _))).trans (by
    refine XS.goto X4.here hexec rfl (pc0 := 10) rfl (hb hbytes d10) (by decide) rfl ?_
    exact Steps.refl _)
  exact ⟨T4, some (.int cd), _, _, _, X4, rfl, rfl, rfl, (fun h => by cases h), ⟨rfl, q4.trans hh2⟩, fun fs hl => c5.trans (X4.ireturnOut hexec hret (by rcases hc with rfl | rfl <;> rfl) (Or.inr (Or.inr (Or.inl rfl))) (hb hbytes d14) hl)⟩
end Cdr
namespace Len
def yN : MethodName := ⟨"java/lang/String", "length", "()I"⟩
abbrev yB : ByteArray := jdk_42_method_54_code
theorem d0 : decode yB 0 = .ok (.aload_n 0, 1) := by decide +kernel
theorem d1 : decode yB 1 = .ok (.getfield 9, 3) := by decide +kernel
theorem d4 : decode yB 4 = .ok (.arraylength, 1) := by decide +kernel
theorem d5 : decode yB 5 = .ok (.aload_n 0, 1) := by decide +kernel
theorem d6 : decode yB 6 = .ok (.invokevirtual 335, 3) := by decide +kernel
theorem d9 : decode yB 9 = .ok (.ishr, 1) := by decide +kernel
theorem d10 : decode yB 10 = .ok (.ireturn, 1) := by decide +kernel
def site : List Cond := [.fieldLink "java/lang/String" 9 "java/lang/String" "value" "[B", Cdr.tab] ++ virtW "java/lang/String" 335 "java/lang/String" Cdr.yN Cdr.yN
def tab : Cond := tabOf yN yB 1 (some .int) site
def P (x t : Addr) (V : Cell) (cd : Int32) (n : Nat) (f : Nat → Int32) (z : Int32) (args : Array Value) (s : State) : Prop := args = #[.ref x] ∧ Txt x t V cd n f s ∧ StaticIs s "java/lang/String" "COMPACT_STRINGS" "Z" (.int z) ∧ ¬ z = 0
def E (n : Nat) (r : Option Value) (s u : State) : Prop := XT.PureE (some (.int (Int32.ofNat n))) r s u
/-- length() of a String of n chars, in either coding -/
theorem law (l : Launch) (x t : Addr) (V : Cell) (cd : Int32) (n : Nat) (f : Nat → Int32) (z : Int32) : Law l yN 1 0 1 13 yB 1 (some .int) site (P x t V cd n f z) (E n) [] 0 0 := by
  refine Law.of_walk (plainFor_of_name (by decide +kernel)) (by decide +kernel) (by decide +kernel) (by decide) (fun _ _ h => by rw [h.1]; rfl) (fun _ U U' hal hh h => ⟨h.1, h.2.1.mv hal hh, h.2.2.1.there hal hh, h.2.2.2⟩) (fun r U U' V V' h1 hal h2 h => XT.PureE.mv r U U' V V' h1 hal h2 h) ?_
  intro p e s m args below meth c s₁ X0 hexec hbytes hml hret hlk hnm hown hh0 W hP
  obtain ⟨rfl, hx, s1, hz⟩ := hP
  have v31 := hx.2.2.2.1.2.2.2
  have c1 : Steps p.tables e below (s₁.setTop (entryFrame m #[.ref x] 1)) (s₁.setTop (mkF m 1 #[.val (.ref x)] [.ref x])) := Steps.trans (entry rfl) (by
    show Steps p.tables e below (s₁.setTop (mkF m 0 #[.val (.ref x)] [])) _
    refine XS.aloadN X0.here hexec rfl (hb hbytes d0) rfl rfl ?_
    exact Steps.refl _)
  obtain ⟨T2, X2, q2, st2⟩ := X0.hget hexec hown (wk W (.fieldLink "java/lang/String" 9 "java/lang/String" "value" "[B")) (hx.mv X0.warmed.alike hh0).2.1 (g := (mkF m 1 #[.val (.ref x)] [.ref x])) rfl (rest := []) rfl (hb hbytes d1)
  have hh2 := q2.trans hh0
  have hx2 := hx.mv X2.warmed.alike hh2
  have c3 : Steps p.tables e below (s₁.setTop (entryFrame m #[.ref x] 1)) (T2.setTop (mkF m 6 #[.val (.ref x)] [.ref x, .int (Int32.ofNat V.slots.size)])) := (c1.trans (st2 _ (Steps.refl _))).trans (by
    refine X2.alen hexec hx2.2.2.2.1 rfl rfl (hb hbytes d4) ?_
    refine XS.aloadN X2.here hexec rfl (hb hbytes d5) rfl rfl ?_
    exact Steps.refl _)
  obtain ⟨v4, T4, X4, E4, g4⟩ := X2.callV hexec (Cdr.law l x cd z) hown (wks W (virtW "java/lang/String" 335 "java/lang/String" Cdr.yN Cdr.yN)) rfl (by decide) (wk W Cdr.tab) (W := 1) (Nat.le_of_ble_eq_true rfl) (Nat.le_of_ble_eq_true rfl) (Nat.le_refl _) (Nat.le_refl _) (hx2.1.fc X2.warmed.alike) hx2.1.is (g := (mkF m 6 #[.val (.ref x)] [.ref x, .int (Int32.ofNat V.slots.size)])) rfl (by rw [hml]; rfl) c3 (argsL := []) (rest := [.int (Int32.ofNat V.slots.size)]) rfl rfl (by show 2 * 0 + (1 + 0) ≤ _; decide) (hb hbytes d6) (⟨rfl, hx2.2.2.1, hx.2.2.2.2.1.cd, s1.there X2.warmed.alike hh2, hz⟩)
  obtain ⟨rfl, q4⟩ := E4
  have c5 : Steps p.tables e below (s₁.setTop (entryFrame m #[.ref x] 1)) (T4.setTop (mkF m 10 #[.val (.ref x)] [.int (Int32.ofNat V.slots.size >>> (cd &&& 31))])) := Steps.trans g4 (by
    refine ishr X4.here hexec rfl (hb hbytes d9) rfl ?_
    exact Steps.refl _)
  rw [hx.2.2.2.2.1.len v31] at c5
  exact ⟨T4, some (.int (Int32.ofNat n)), _, _, _, X4, rfl, rfl, rfl, (fun h => by cases h), ⟨rfl, q4.trans hh2⟩, fun fs hl => c5.trans (X4.ireturnOut hexec hret rfl (Or.inl rfl) (hb hbytes d10) hl)⟩
theorem pays {l : Launch} {R : Room} {p : Program} {e : Env} {below : List Frame} {s : State} {sargs : Array Value} {len W : Nat} (x t : Addr) (V : Cell) (cd : Int32) (n : Nat) (f : Nat → Int32) (z : Int32) (htab : tab.before sargs s = true) (hfr : 2 ≤ R.frames) (hlo : W + 25 ≤ R.locals) :
    Back l R p e below s sargs yN len W (fun A₁ a₁ => A₁.cells + 0 ≤ R.cells ∧ A₁.slots + 0 ≤ R.slots ∧ P x t V cd n f z a₁ A₁.U) (fun A₁ _ v₁ B₁ => E n v₁ A₁.U B₁.U ∧ B₁.locs = A₁.locs ++ [] ∧ B₁.cells = A₁.cells + 0 ∧ B₁.slots = A₁.slots + 0) :=
  (law l x t V cd n f z).pays htab hfr (by omega)
end Len
end StrChars
namespace StrChars.Road
open Jvm Sem ClassFile Op Lib Jvm.Stand Jvm.Free Jvm.Free.XT
open Jvm.Lib.Cold (StaticIs)
theorem consq {a : Array Value} {s : State} {c : Jvm.Cond} {L : List Jvm.Cond} (h0 : c.before a s = true) (h : ∀ w ∈ L, w.before a s = true) : ∀ w ∈ c :: L, w.before a s = true := fun w hw => (List.mem_cons.mp hw).elim (fun e => e ▸ h0) (h w)
/-- the words of String.length(), either coding -/
abbrev wordsLen : List Jvm.Cond := [.code Len.yN Len.yB 1 (some .int), .initialized ST, .fieldLink ST 9 ST "value" "[B", .fieldLink ST 38 ST "COMPACT_STRINGS" "Z", .fieldLink ST 15 ST "coder" "B", .code Cdr.yN Cdr.yB 1 (some .byte), .methodLink ST 335 Cdr.yN, .declares Cdr.yN, .selects ST Cdr.yN Cdr.yN, .instanceMethod Cdr.yN]
theorem tabLen_of {a : Array Value} {s : State} (h : ∀ w ∈ wordsLen, w.before a s = true) : Len.tab.before a s = true := by
  have hc : Cdr.tab.before a s = true := unparts (wk h (.code Cdr.yN Cdr.yB 1 (some .byte))) (wks h (.initialized Cdr.yN.cls :: Cdr.site))
  have q := consq hc h
  exact unparts (wk q (.code Len.yN Len.yB 1 (some .int))) (wks q (.initialized Len.yN.cls :: Len.site))
theorem movedLen {Z s : State} {a0 args : Array Value} (hZ : Z.Warmed39 s.vm) (hw : ∀ d ∈ wordsLen, d.before a0 Z = true) : ∀ d ∈ wordsLen, d.before args s = true := fun d hd => by
  have q := hw d hd
  have t : ∀ d ∈ wordsLen, d = .arrayClass .byte ∨ (d.onTables && d.keepsFace) = true := by decide +kernel
  rcases t d hd with rfl | t
  · exact RoadKit.mvA hZ q
  · exact RoadKit.mv hZ q t
/-- the bytes of the chars cs, low before high -/
def wideBytes : List Int32 → List Value
  | [] => []
  | c :: cs => .int (lo8 c) :: .int (hi8 c) :: wideBytes cs
theorem wide_lo (d : Value) : ∀ (cs : List Int32) (j : Nat), j < cs.length → (wideBytes cs).getD (2 * j) d = .int (lo8 (cs.getD j 0))
  | [], j, h => absurd h (Nat.not_lt_zero j)
  | c :: cs, 0, _ => rfl
  | c :: cs, j + 1, h => by
    have q := wide_lo d cs j (by simpa using h)
    rw [show 2 * (j + 1) = 2 * j + 1 + 1 from by omega]
    simpa [wideBytes] using q
theorem wide_hi (d : Value) : ∀ (cs : List Int32) (j : Nat), j < cs.length → (wideBytes cs).getD (2 * j + 1) d = .int (hi8 (cs.getD j 0))
  | [], j, h => absurd h (Nat.not_lt_zero j)
  | c :: cs, 0, _ => rfl
  | c :: cs, j + 1, h => by
    have q := wide_hi d cs j (by simpa using h)
    rw [show 2 * (j + 1) + 1 = 2 * j + 1 + 1 + 1 from by omega]
    simpa [wideBytes] using q
theorem low_at (d : Value) (cs : List Int32) (j : Nat) (h : j < cs.length) : (cs.map fun c => Value.int (lo8 c)).getD j d = .int (lo8 (cs.getD j 0)) := by
  simp [List.getD_eq_getElem?_getD, h]
/-- an array of N2 bytes vs codes the chars cs by the coder cd -/
def CodA (cs : List Int32) (cd N2 : Int32) (vs : List Value) : Prop := (cd = 0 ∧ N2 = Int32.ofNat cs.length ∧ vs = (cs.map fun c => Value.int (lo8 c)) ∧ ∀ c ∈ cs, ¬ 255 < c) ∨ (cd = 1 ∧ N2 = Int32.ofNat (2 * cs.length) ∧ vs = wideBytes cs ∧ ∃ c ∈ cs, 255 < c)
theorem CodA.cod {cs : List Int32} {cd N2 : Int32} {vs : List Value} {V : Cell} (h : CodA cs cd N2 vs) (hn : 2 * cs.length < 2 ^ 31) (hs : V.slots.size = N2.toNatClampNeg) (hv : RoadKit.Has V vs (.int 0)) : Cod cd cs.length (fun j => cs.getD j 0) V := by
  rcases h with ⟨rfl, rfl, rfl, h⟩ | ⟨rfl, rfl, rfl, c, hc, hw⟩
  · rw [n32 (by omega)] at hs
    exact Or.inl ⟨rfl, hs, fun j hj => ⟨by rw [hv j (by omega), low_at _ _ _ hj], by
      have e : cs.getD j 0 = cs[j] := by simp [List.getD_eq_getElem?_getD, hj]
      show ¬ 255 < cs.getD j 0
      rw [e]; exact h _ (List.getElem_mem _)⟩⟩
  · rw [n32 (by omega)] at hs
    obtain ⟨j, hj, rfl⟩ := List.getElem_of_mem hc
    exact Or.inr ⟨rfl, hs, fun j hj => ⟨by rw [hv _ (by omega), wide_lo _ _ _ hj], by rw [hv _ (by omega), wide_hi _ _ _ hj]⟩, j, hj, by
      have e : cs.getD j 0 = cs[j] := by simp [List.getD_eq_getElem?_getD, hj]
      show 255 < cs.getD j 0
      rw [e]; exact hw⟩
/-- an object of exactly java/lang/String, its two fields found: as the laws ask it -/
theorem strObj {Z U : State} {a0 : Array Value} {kI : Nat} (wi : (Jvm.Cond.instantiable ST kI).before a0 Z = true) (al : Z.vm.Alike U.vm) {x : Addr} {v0 c0 : Value} (E : RoadKit.Exa Z U.heap x ST) (V : RoadKit.Fld Z U.heap x ST "value" "[B" v0) (C : RoadKit.Fld Z U.heap x ST "coder" "B" c0) :
    ∃ (D : Cell) (fV fC : Field), Blank ST x D U ∧ Found ST "value" "[B" fV U ∧ Found ST "coder" "B" fC U ∧ D.slots[fV.slot]? = some v0 ∧ D.slots[fC.slot]? = some c0 ∧ RoadKit.slotOf Z ST "value" "[B" = fV.slot ∧ RoadKit.slotOf Z ST "coder" "B" = fC.slot := by
  obtain ⟨D, cfV, kV, iV, fV, hD, gV, stV, knV, obV, asV, slV⟩ := V
  obtain ⟨D', cfC, kC, iC, fC, hD', gC, stC, -, -, asC, slC⟩ := C
  cases hD.symm.trans hD'
  obtain ⟨D2, kD, e1, e2, e3, e4, e5⟩ := E
  cases hD.symm.trans e1
  obtain ⟨c2, k2, i1, i2, i3, -⟩ := Cond.instantiable_spec wi
  cases e2.symm.trans i1
  cases e3.symm.trans i2
  obtain ⟨kU, u1, u2⟩ := al.2.2 _ _ e3
  exact ⟨D, fV, fC, ⟨hD, ⟨knV, fun q hq => by rw [hq] at obV; cases obV⟩, by rw [al.findClass]; exact e2, kU, u1, by rw [u2]; exact i3, by rw [u2]; exact e5 i3⟩, ⟨SBG.found_only al ⟨cfV, kV, iV, gV⟩, stV⟩, ⟨SBG.found_only al ⟨cfC, kC, iC, gC⟩, stC⟩, slV, slC, by simp [RoadKit.slotOf, gV], by simp [RoadKit.slotOf, gC]⟩
theorem sta_is {Z U : State} (al : Z.vm.Alike U.vm) {C n d : String} {v : Value} (S : RoadKit.Sta Z U.heap C n d v) : StaticIs U C n d v := by
  obtain ⟨cfS, iS, kS, fS, st, cS, t1, t2, t3, t4, t5, t6, t7⟩ := S
  exact StaticIs.there (s := { Z with heap := U.heap }) ⟨cfS, iS, kS, fS, st, cS, t1, t2, t3, t4, t5, (fun q => by rw [q] at t6; cases t6), t7⟩ al rfl
/-- **length() OF SUCH A STRING** -/
theorem lenW {p : Program} {l : Launch} {e : Env} {R : Room} {s : State} {args : Array Value} {below : List Frame} {len W : Nat} {Z : State} {a0 : Array Value} {h : Heap} (hZ : Z.Warmed39 s.vm) (hw : ∀ d ∈ wordsLen, d.before a0 Z = true) {kI : Nat} (wi : (Jvm.Cond.instantiable ST kI).before a0 Z = true)
    {x t : Addr} {kb : ClassId} {cs : List Int32} {cd N2 z : Int32} {vs : List Value} (E : RoadKit.Exa Z h x ST) (V : RoadKit.Fld Z h x ST "value" "[B" (.ref t)) (C : RoadKit.Fld Z h x ST "coder" "B" (.int cd)) (K : RoadKit.Arv Z h t kb .byte N2 vs (.int 0)) (hc : CodA cs cd N2 vs) (hb : ∀ c ∈ cs, ¬ c < 0 ∧ ¬ (65535 : Int32) < c)
    (S : RoadKit.Sta Z h ST "COMPACT_STRINGS" "Z" (.int z)) (hz : ¬ z = 0) (l2 : cs.length ≤ 4000) (hfr : 2 ≤ R.frames) (hlo : W + 25 ≤ R.locals) :
    Back l R p e below s args (⟨"java/lang/String", "length", "()I"⟩ : MethodName) len W (fun P a => a = #[.ref x] ∧ P.U.heap = h ∧ P.cells + 0 ≤ R.cells ∧ P.slots + 0 ≤ R.slots)
      (fun P _ v B => ∃ L, (v = some (.int (Int32.ofNat cs.length)) ∧ L = [] ∧ B.U.heap = h) ∧ B.locs = P.locs ++ L ∧ B.cells = P.cells + 0 ∧ B.slots = P.slots + 0) := by
  obtain ⟨A, K1, K2, K3, K4, K5, K6⟩ := K
  have hcod := hc.cod (by omega) K3 K5
  intro m meth c P g ig mk a X hg hsize hdg hW hn hp'
  obtain ⟨rfl, rfl, r1, r2⟩ := hp'
  have al : Z.vm.Alike P.U.vm := hZ.alike.trans X.warmed.alike
  obtain ⟨D, fV, fC, hB, F1, F2, g1, g2, -, -⟩ := strObj wi al E V C
  have hx : Txt x t A cd cs.length (fun j => cs.getD j 0) P.U := ⟨⟨_, hB.2.2.1, D, hB.1, rfl, by cases q : D.vm <;> first | rfl | exact absurd q (hB.2.1.2 _)⟩, Has.of hB F1 g1, Has.of hB F2 g2, ⟨K1.1, State.isArrayOf_alike al K1.2.1, K1.2.2, by rcases hcod with ⟨-, q, -⟩ | ⟨-, q, -⟩ <;> omega⟩, hcod, fun j hj => by
    have e : cs.getD j 0 = cs[j] := by simp [List.getD_eq_getElem?_getD, hj]
    show ¬ cs.getD j 0 < 0 ∧ ¬ 65535 < cs.getD j 0
    rw [e]; exact hb _ (List.getElem_mem _)⟩
  obtain ⟨v, B, X', ⟨⟨hv, hh⟩, hl, hk, hs⟩, st⟩ := Len.pays x t A cd cs.length (fun j => cs.getD j 0) z (tabLen_of (movedLen hZ hw)) hfr hlo m meth c P g ig mk _ X hg hsize hdg hW hn ⟨r1, r2, rfl, hx, sta_is al S, hz⟩
  exact ⟨v, B, X', ⟨[], ⟨hv, rfl, hh⟩, hl, hk, hs⟩, st⟩
end StrChars.Road
namespace StrChars
open Jvm Sem ClassFile Op Lib Jvm.Stand Jvm.Free.XT Jvm.Free.ALB Jvm.Free.JM Jvm.Free
open Jvm.Lib.Cold (StaticIs)
/-- what place i of a byte[]'s cell holds -/
def yv (A : Cell) (i : Nat) : Int32 := match A.slots[i]? with | some (.int x) => x | _ => 0
theorem yv_get {a : Addr} {A : Cell} {U : State} (h : XT.Arr .byte a A U) (ht : Typed .byte A) {i : Nat} (hi : i < A.slots.size) : A.slots[i]? = some (.int (yv A i)) := by
  have e := Array.getElem?_eq_getElem hi
  have f := ht i _ e
  unfold yv; rw [e]
  generalize A.slots[i] = v at f
  cases v <;> simp [fits] at f ⊢
/-- the two arrays are equal, place for place -/
def EqC (A B : Cell) : Prop := A.slots.size = B.slots.size ∧ ∀ i, i < A.slots.size → yv A i = yv B i
/-- a boolean that says whether p -/
def Says01 (q : Prop) (r : Option Value) (s u : State) : Prop := ∃ v : Int32, r = some (.int v) ∧ u.heap = s.heap ∧ ((v = 1 ∧ q) ∨ (v = 0 ∧ ¬ q))
theorem Says01.mv {q : Prop} : ∀ r (U U' V V' : State), U'.heap = U.heap → V.vm.Alike V'.vm → V'.heap = V.heap → Says01 q r U V → Says01 q r U' V' :=
  fun r U U' V V' h1 _ h2 ⟨v, a, b, c⟩ => ⟨v, a, by rw [h1, h2]; exact b, c⟩
namespace LEq
def yN : MethodName := ⟨"java/lang/StringLatin1", "equals", "([B[B)Z"⟩
abbrev yB : ByteArray := jdk_43_method_13_code
theorem d0 : decode yB 0 = .ok (.aload_n 0, 1) := by decide +kernel
theorem d1 : decode yB 1 = .ok (.arraylength, 1) := by decide +kernel
theorem d2 : decode yB 2 = .ok (.aload_n 1, 1) := by decide +kernel
theorem d3 : decode yB 3 = .ok (.arraylength, 1) := by decide +kernel
theorem d4 : decode yB 4 = .ok (.if_icmp (.ne) 30, 3) := by decide +kernel
theorem d7 : decode yB 7 = .ok (.iconst 0, 1) := by decide +kernel
theorem d8 : decode yB 8 = .ok (.istore_n 2, 1) := by decide +kernel
theorem d9 : decode yB 9 = .ok (.iload_n 2, 1) := by decide +kernel
theorem d10 : decode yB 10 = .ok (.aload_n 0, 1) := by decide +kernel
theorem d11 : decode yB 11 = .ok (.arraylength, 1) := by decide +kernel
theorem d12 : decode yB 12 = .ok (.if_icmp (.ge) 20, 3) := by decide +kernel
theorem d15 : decode yB 15 = .ok (.aload_n 0, 1) := by decide +kernel
theorem d16 : decode yB 16 = .ok (.iload_n 2, 1) := by decide +kernel
theorem d17 : decode yB 17 = .ok (.baload, 1) := by decide +kernel
theorem d18 : decode yB 18 = .ok (.aload_n 1, 1) := by decide +kernel
theorem d19 : decode yB 19 = .ok (.iload_n 2, 1) := by decide +kernel
theorem d20 : decode yB 20 = .ok (.baload, 1) := by decide +kernel
theorem d21 : decode yB 21 = .ok (.if_icmp (.eq) 5, 3) := by decide +kernel
theorem d24 : decode yB 24 = .ok (.iconst 0, 1) := by decide +kernel
theorem d25 : decode yB 25 = .ok (.ireturn, 1) := by decide +kernel
theorem d26 : decode yB 26 = .ok (.iinc 2 1, 3) := by decide +kernel
theorem d29 : decode yB 29 = .ok (.goto (-20), 3) := by decide +kernel
theorem d32 : decode yB 32 = .ok (.iconst 1, 1) := by decide +kernel
theorem d33 : decode yB 33 = .ok (.ireturn, 1) := by decide +kernel
theorem d34 : decode yB 34 = .ok (.iconst 0, 1) := by decide +kernel
theorem d35 : decode yB 35 = .ok (.ireturn, 1) := by decide +kernel
def site : List Cond := []
def tab : Cond := tabOf yN yB 3 (some .boolean) site
def P (a : Addr) (A : Cell) (b : Addr) (B : Cell) (args : Array Value) (s : State) : Prop := args = #[.ref a, .ref b] ∧ XT.Arr .byte a A s ∧ Typed .byte A ∧ XT.Arr .byte b B s ∧ Typed .byte B
/-- whether two byte[] are equal, place for place -/
theorem law (l : Launch) (a : Addr) (A : Cell) (b : Addr) (B : Cell) : Law l yN 2 2 0 0 yB 3 (some .boolean) site (P a A b B) (Says01 (EqC A B)) [] 0 0 := by
  refine Law.of_walk (plainFor_of_name (by decide +kernel)) (by decide +kernel) (by decide +kernel) (by decide) (fun _ _ h => by rw [h.1]; rfl) (fun _ U U' hal hh h => ⟨h.1, h.2.1.mv hal hh, h.2.2.1, h.2.2.2.1.mv hal hh, h.2.2.2.2⟩) (fun r U U' V V' h1 hal h2 h => Says01.mv r U U' V V' h1 hal h2 h) ?_
  intro p e s m args below meth c s₁ X0 hexec hbytes hml hret hlk hnm hown hh0 W hP
  obtain ⟨rfl, hA, tA, hB, tB⟩ := hP
  have a31 := hA.2.2.2
  have b31 := hB.2.2.2
  have hA0 := hA.mv X0.warmed.alike hh0
  have hB0 := hB.mv X0.warmed.alike hh0
  have c1 : Steps p.tables e below (s₁.setTop (entryFrame m #[.ref a, .ref b] 3)) (s₁.setTop (mkF m 0 #[.val (.ref a), .val (.ref b), .unset] [])) := entry rfl
  have c2 : Steps p.tables e below (s₁.setTop (entryFrame m #[.ref a, .ref b] 3)) (s₁.setTop (mkF m 4 #[.val (.ref a), .val (.ref b), .unset] [.int (Int32.ofNat B.slots.size), .int (Int32.ofNat A.slots.size)])) := c1.trans (by
    refine XS.aloadN X0.here hexec rfl (hb hbytes d0) rfl rfl ?_
    refine X0.alen hexec hA0 rfl rfl (hb hbytes d1) ?_
    refine XS.aloadN X0.here hexec rfl (hb hbytes d2) rfl rfl ?_
    refine X0.alen hexec hB0 rfl rfl (hb hbytes d3) ?_
    exact Steps.refl _)
  by_cases hs : A.slots.size = B.slots.size
  · have c3 : Steps p.tables e below (s₁.setTop (entryFrame m #[.ref a, .ref b] 3)) (s₁.setTop (mkF m 9 #[.val (.ref a), .val (.ref b), .val (.int 0)] [])) := c2.trans (by
      refine XS.icmpNo X0.here hexec rfl (hb hbytes d4) rfl (ii_ne_f (by rw [hs])) ?_
      refine iconstV X0.here hexec rfl 0 (hb hbytes d7) (by decide) ?_
      refine XS.istoreN X0.here hexec rfl (hb hbytes d8) rfl rfl ?_
      exact Steps.refl _)
    have loop : ∀ (r i : Nat), i + r = A.slots.size → (∀ j, j < i → yv A j = yv B j) → Steps p.tables e below (s₁.setTop (entryFrame m #[.ref a, .ref b] 3)) (s₁.setTop (mkF m 9 #[.val (.ref a), .val (.ref b), .val (.int (Int32.ofNat i))] [])) → ∃ (pc : Nat) (Ls : Array Slot) (v : Int32), (pc = 25 ∨ pc = 33) ∧ ((v = 1 ∧ EqC A B) ∨ (v = 0 ∧ ¬ EqC A B)) ∧ Steps p.tables e below (s₁.setTop (entryFrame m #[.ref a, .ref b] 3)) (s₁.setTop (mkF m pc Ls [.int v])) := by
      intro r
      induction r with
      | zero =>
        intro i hi he cl
        exact ⟨33, _, 1, Or.inr rfl, Or.inl ⟨rfl, hs, fun j hj => he j (by omega)⟩, cl.trans (by
          refine XS.iloadN X0.here hexec rfl (hb hbytes d9) rfl ?_
          refine XS.aloadN X0.here hexec rfl (hb hbytes d10) rfl rfl ?_
          refine X0.alen hexec hA0 rfl rfl (hb hbytes d11) ?_
          refine XS.icmpYes X0.here hexec rfl (pc0 := 12) rfl (hb hbytes d12) rfl (ii_ge_t (nlt32 (by omega) (by omega))) (by decide) rfl ?_
          refine iconstV X0.here hexec rfl 1 (hb hbytes d32) (by decide) ?_
          exact Steps.refl _)⟩
      | succ r ih =>
        intro i hi he cl
        have c4 : Steps p.tables e below (s₁.setTop (entryFrame m #[.ref a, .ref b] 3)) (s₁.setTop (mkF m 21 #[.val (.ref a), .val (.ref b), .val (.int (Int32.ofNat i))] [.int (yv B i), .int (yv A i)])) := cl.trans (by
          refine XS.iloadN X0.here hexec rfl (hb hbytes d9) rfl ?_
          refine XS.aloadN X0.here hexec rfl (hb hbytes d10) rfl rfl ?_
          refine X0.alen hexec hA0 rfl rfl (hb hbytes d11) ?_
          refine XS.icmpNo X0.here hexec rfl (hb hbytes d12) rfl (ii_ge_f (lt32 (by omega) (by omega))) ?_
          refine XS.aloadN X0.here hexec rfl (hb hbytes d15) rfl rfl ?_
          refine XS.iloadN X0.here hexec rfl (hb hbytes d16) rfl ?_
          refine X0.aget hexec hA0 rfl (yv_get hA tA (i := i) (by omega)) rfl rfl (hb hbytes d17) ?_
          refine XS.aloadN X0.here hexec rfl (hb hbytes d18) rfl rfl ?_
          refine XS.iloadN X0.here hexec rfl (hb hbytes d19) rfl ?_
          refine X0.aget hexec hB0 rfl (yv_get hB tB (i := i) (by omega)) rfl rfl (hb hbytes d20) ?_
          exact Steps.refl _)
        by_cases hv : yv A i = yv B i
        · have c5 : Steps p.tables e below (s₁.setTop (entryFrame m #[.ref a, .ref b] 3)) (s₁.setTop (mkF m 9 #[.val (.ref a), .val (.ref b), .val (.int (Int32.ofNat i + 1))] [])) := c4.trans (by
            refine XS.icmpYes X0.here hexec rfl (pc0 := 21) rfl (hb hbytes d21) rfl (ii_eq_t hv) (by decide) rfl ?_
            refine iincV X0.here hexec rfl 1 (hb hbytes d26) (by decide) rfl rfl ?_
            refine XS.goto X0.here hexec rfl (pc0 := 29) rfl (hb hbytes d29) (by decide) rfl ?_
            exact Steps.refl _)
          rw [succ32] at c5
          exact ih (i + 1) (by omega) (fun j hj => by
            by_cases e : j = i
            · rw [e]; exact hv
            · exact he j (by omega)) c5
        · exact ⟨25, _, 0, Or.inl rfl, Or.inr ⟨rfl, fun q => hv (q.2 i (by omega))⟩, c4.trans (by
            refine XS.icmpNo X0.here hexec rfl (hb hbytes d21) rfl (ii_eq_f hv) ?_
            refine iconstV X0.here hexec rfl 0 (hb hbytes d24) (by decide) ?_
            exact Steps.refl _)⟩
    obtain ⟨pc, Ls, v, hpc, hv, cz⟩ := loop A.slots.size 0 (by omega) (fun j hj => absurd hj (Nat.not_lt_zero j)) c3
    have nv : narrow .boolean (.int v) = .int v := by rcases hv with ⟨rfl, -⟩ | ⟨rfl, -⟩ <;> rfl
    rcases hpc with rfl | rfl
    · exact ⟨s₁, some (.int v), _, _, _, X0, rfl, rfl, rfl, (fun h => by cases h), ⟨v, rfl, hh0, hv⟩, fun fs hl => cz.trans (X0.ireturnOut hexec hret nv (Or.inr (Or.inl rfl)) (hb hbytes d25) hl)⟩
    · exact ⟨s₁, some (.int v), _, _, _, X0, rfl, rfl, rfl, (fun h => by cases h), ⟨v, rfl, hh0, hv⟩, fun fs hl => cz.trans (X0.ireturnOut hexec hret nv (Or.inr (Or.inl rfl)) (hb hbytes d33) hl)⟩
  · have c3 : Steps p.tables e below (s₁.setTop (entryFrame m #[.ref a, .ref b] 3)) (s₁.setTop (mkF m 35 #[.val (.ref a), .val (.ref b), .unset] [.int 0])) := c2.trans (by
      refine XS.icmpYes X0.here hexec rfl (pc0 := 4) rfl (hb hbytes d4) rfl (ii_ne_t (ne32 a31 b31 hs)) (by decide) rfl ?_
      refine iconstV X0.here hexec rfl 0 (hb hbytes d34) (by decide) ?_
      exact Steps.refl _)
    exact ⟨s₁, some (.int 0), _, _, _, X0, rfl, rfl, rfl, (fun h => by cases h), ⟨0, rfl, hh0, Or.inr ⟨rfl, fun q => hs q.1⟩⟩, fun fs hl => c3.trans (X0.ireturnOut hexec hret rfl (Or.inr (Or.inl rfl)) (hb hbytes d35) hl)⟩
end LEq
theorem Cod.ty {cd : Int32} {n : Nat} {f : Nat → Int32} {V : Cell} (h : Cod cd n f V) : Typed .byte V := fun i v hv => by
  have hi : i < V.slots.size := (Array.getElem?_eq_some_iff.mp hv).1
  rcases h with ⟨-, k1, k2⟩ | ⟨-, k1, k2, -⟩
  · rw [(k2 i (by omega)).1] at hv; cases hv; exact fits_lo8 _
  · rcases Nat.mod_two_eq_zero_or_one i with e | e
    · obtain ⟨j, rfl⟩ : ∃ j, i = 2 * j := ⟨i / 2, by omega⟩
      rw [(k2 j (by omega)).1] at hv; cases hv; exact fits_lo8 _
    · obtain ⟨j, rfl⟩ : ∃ j, i = 2 * j + 1 := ⟨i / 2, by omega⟩
      rw [(k2 j (by omega)).2] at hv; cases hv; exact fits_lo8 _
/-- the same text -/
def SameT (n : Nat) (f : Nat → Int32) (k : Nat) (g : Nat → Int32) : Prop := n = k ∧ ∀ j, j < n → f j = g j
theorem lo8_inj {x y : Int32} (h0 : ¬ x < 0) (h1 : ¬ 255 < x) (k0 : ¬ y < 0) (k1 : ¬ 255 < y) (h : lo8 x = lo8 y) : x = y := by
  rw [← lo8_mask h0 h1, ← lo8_mask k0 k1, h]
/-- arrays coded by one coder are equal just where the texts are -/
theorem Cod.eqv {cd : Int32} {n k : Nat} {f g : Nat → Int32} {V V' : Cell} (h : Cod cd n f V) (h' : Cod cd k g V') (hf : ∀ j, j < n → ¬ f j < 0 ∧ ¬ 65535 < f j) (hg : ∀ j, j < k → ¬ g j < 0 ∧ ¬ 65535 < g j) : EqC V V' ↔ SameT n f k g := by
  have yvv : ∀ {W : Cell} {i : Nat} {x : Int32}, W.slots[i]? = some (.int x) → yv W i = x := fun q => by unfold yv; rw [q]
  rcases h with ⟨rfl, k1, k2⟩ | ⟨rfl, k1, k2, -⟩
  · rcases h' with ⟨-, m1, m2⟩ | ⟨e, -⟩
    · constructor
      · rintro ⟨e1, e2⟩
        refine ⟨by omega, fun j hj => ?_⟩
        have q := e2 j (by omega)
        rw [yvv (k2 j hj).1, yvv (m2 j (by omega)).1] at q
        exact lo8_inj (hf j hj).1 (k2 j hj).2 (hg j (by omega)).1 (m2 j (by omega)).2 q
      · rintro ⟨rfl, e2⟩
        refine ⟨by omega, fun j hj => ?_⟩
        rw [yvv (k2 j (by omega)).1, yvv (m2 j (by omega)).1, e2 j (by omega)]
    · exact absurd e (by decide)
  · rcases h' with ⟨e, -⟩ | ⟨-, m1, m2, -⟩
    · exact absurd e (by decide)
    · constructor
      · rintro ⟨e1, e2⟩
        refine ⟨by omega, fun j hj => ?_⟩
        have q1 := e2 (2 * j) (by omega)
        have q2 := e2 (2 * j + 1) (by omega)
        rw [yvv (k2 j hj).1, yvv (m2 j (by omega)).1] at q1
        rw [yvv (k2 j hj).2, yvv (m2 j (by omega)).2] at q2
        rw [← pair_says (hf j hj).1 (hf j hj).2, ← pair_says (hg j (by omega)).1 (hg j (by omega)).2, q1, q2]
      · rintro ⟨rfl, e2⟩
        refine ⟨by omega, fun i hi => ?_⟩
        rcases Nat.mod_two_eq_zero_or_one i with e | e
        · obtain ⟨j, rfl⟩ : ∃ j, i = 2 * j := ⟨i / 2, by omega⟩
          rw [yvv (k2 j (by omega)).1, yvv (m2 j (by omega)).1, e2 j (by omega)]
        · obtain ⟨j, rfl⟩ : ∃ j, i = 2 * j + 1 := ⟨i / 2, by omega⟩
          rw [yvv (k2 j (by omega)).2, yvv (m2 j (by omega)).2, e2 j (by omega)]
/-- two codings differ: so do the texts -/
theorem Cod.dif {cd cd' : Int32} {n k : Nat} {f g : Nat → Int32} {V V' : Cell} (h : Cod cd n f V) (h' : Cod cd' k g V') (hne : ¬ cd = cd') : ¬ SameT n f k g := by
  rintro ⟨rfl, e⟩
  rcases h with ⟨rfl, -, k2⟩ | ⟨rfl, -, -, j, hj, hw⟩
  · rcases h' with ⟨rfl, -⟩ | ⟨-, -, -, j, hj, hw⟩
    · exact hne rfl
    · exact (k2 j hj).2 (by rw [e j hj]; exact hw)
  · rcases h' with ⟨-, -, m2⟩ | ⟨rfl, -⟩
    · exact (m2 j hj).2 (by rw [← e j hj]; exact hw)
    · exact hne rfl
/-- an object of exactly C is an instance of C -/
theorem cinst {p : Program} {l : Launch} {e : Env} {R : Room} {s : State} {m : MethodId} {args : Array Value} {below : List Frame} {meth : Method} {c : Code} {T : State} {locs : List Loc} {cells slots : Nat} (X : Stand p l e R s m args below meth c T locs cells slots) (hexec : p.tables.exec = Jvm.exec) {own C : String} {index : Nat} (hown : s.vm.findClass own = some m.cls) (hlink : (Cond.classLink own index C).before args s = true) {a : Addr} (hE : Exact C a T)
    {g : JFrame} (hg : g.method = m) {rest : List Value} (hstack : g.stack = .ref a :: rest) (hdg : decode c.code g.pc = .ok (.instanceof index, 3)) :
    ∃ T', Stand p l e R s m args below meth c T' locs cells slots ∧ T'.heap = T.heap ∧ ∀ target, Steps p.tables e below (T'.setTop { g with pc := g.pc + 3, stack := .int 1 :: rest }) target → Steps p.tables e below (T.setTop g) target := by
  obtain ⟨cB, h1, D, h2, h3, h4⟩ := hE
  have h1' : s.vm.findClass C = some cB := by rw [← X.warmed.alike.findClass]; exact h1
  obtain ⟨vm', X', st⟩ := X.instanceofYes hexec hown hlink h2 h4 h1' (by rw [h3]; exact Jvm.Free.SB.assignable_self _ _) hg hstack hdg
  exact ⟨_, X', rfl, st⟩
theorem cself {p : Program} {l : Launch} {e : Env} {R : Room} {s : State} {m : MethodId} {args : Array Value} {below : List Frame} {meth : Method} {c : Code} {T : State} {locs : List Loc} {cells slots : Nat} (X : Stand p l e R s m args below meth c T locs cells slots) (hexec : p.tables.exec = Jvm.exec) {own C : String} {index : Nat} (hown : s.vm.findClass own = some m.cls) (hlink : (Cond.classLink own index C).before args s = true) {a : Addr} (hE : Exact C a T)
    {g : JFrame} (hg : g.method = m) {rest : List Value} (hstack : g.stack = .ref a :: rest) (hdg : decode c.code g.pc = .ok (.checkcast index, 3)) :
    ∃ T', Stand p l e R s m args below meth c T' locs cells slots ∧ T'.heap = T.heap ∧ ∀ target, Steps p.tables e below (T'.setTop { g with pc := g.pc + 3, stack := .ref a :: rest }) target → Steps p.tables e below (T.setTop g) target := by
  obtain ⟨cB, h1, D, h2, h3, h4⟩ := hE
  have h1' : s.vm.findClass C = some cB := by rw [← X.warmed.alike.findClass]; exact h1
  obtain ⟨vm', X', st⟩ := X.checkcastYes hexec hown hlink h2 h4 h1' (by rw [h3]; exact Jvm.Free.SB.assignable_self _ _) hg hstack hdg
  exact ⟨_, X', rfl, fun t h => st t (by rw [← hstack] at h; exact h)⟩
namespace SEq
def yN : MethodName := ⟨"java/lang/String", "equals", "(Ljava/lang/Object;)Z"⟩
abbrev yB : ByteArray := jdk_42_method_66_code
theorem d0 : decode yB 0 = .ok (.aload_n 0, 1) := by decide +kernel
theorem d1 : decode yB 1 = .ok (.aload_n 1, 1) := by decide +kernel
theorem d2 : decode yB 2 = .ok (.if_acmp (.ne) 5, 3) := by decide +kernel
theorem d5 : decode yB 5 = .ok (.iconst 1, 1) := by decide +kernel
theorem d6 : decode yB 6 = .ok (.ireturn, 1) := by decide +kernel
theorem d7 : decode yB 7 = .ok (.aload_n 1, 1) := by decide +kernel
theorem d8 : decode yB 8 = .ok (.instanceof 10, 3) := by decide +kernel
theorem d11 : decode yB 11 = .ok (.ifCond (.eq) 43, 3) := by decide +kernel
theorem d14 : decode yB 14 = .ok (.aload_n 1, 1) := by decide +kernel
theorem d15 : decode yB 15 = .ok (.checkcast 10, 3) := by decide +kernel
theorem d18 : decode yB 18 = .ok (.astore_n 2, 1) := by decide +kernel
theorem d19 : decode yB 19 = .ok (.getstatic 38, 3) := by decide +kernel
theorem d22 : decode yB 22 = .ok (.ifCond (.eq) 14, 3) := by decide +kernel
theorem d25 : decode yB 25 = .ok (.aload_n 0, 1) := by decide +kernel
theorem d26 : decode yB 26 = .ok (.getfield 15, 3) := by decide +kernel
theorem d29 : decode yB 29 = .ok (.aload_n 2, 1) := by decide +kernel
theorem d30 : decode yB 30 = .ok (.getfield 15, 3) := by decide +kernel
theorem d33 : decode yB 33 = .ok (.if_icmp (.ne) 21, 3) := by decide +kernel
theorem d36 : decode yB 36 = .ok (.aload_n 0, 1) := by decide +kernel
theorem d37 : decode yB 37 = .ok (.getfield 9, 3) := by decide +kernel
theorem d40 : decode yB 40 = .ok (.aload_n 2, 1) := by decide +kernel
theorem d41 : decode yB 41 = .ok (.getfield 9, 3) := by decide +kernel
theorem d44 : decode yB 44 = .ok (.invokestatic 541, 3) := by decide +kernel
theorem d47 : decode yB 47 = .ok (.ifCond (.eq) 7, 3) := by decide +kernel
theorem d50 : decode yB 50 = .ok (.iconst 1, 1) := by decide +kernel
theorem d51 : decode yB 51 = .ok (.goto 4, 3) := by decide +kernel
theorem d54 : decode yB 54 = .ok (.iconst 0, 1) := by decide +kernel
theorem d55 : decode yB 55 = .ok (.ireturn, 1) := by decide +kernel
def site : List Cond := [.classLink "java/lang/String" 10 "java/lang/String", .fieldLink "java/lang/String" 38 "java/lang/String" "COMPACT_STRINGS" "Z", .fieldLink "java/lang/String" 15 "java/lang/String" "coder" "B", .fieldLink "java/lang/String" 9 "java/lang/String" "value" "[B", LEq.tab] ++ staticW "java/lang/String" 541 LEq.yN
def tab : Cond := tabOf yN yB 3 (some .boolean) site
def P (x t : Addr) (V : Cell) (cd : Int32) (n : Nat) (f : Nat → Int32) (y t' : Addr) (V' : Cell) (cd' : Int32) (k : Nat) (g : Nat → Int32) (z : Int32) (args : Array Value) (s : State) : Prop := args = #[.ref x, .ref y] ∧ Txt x t V cd n f s ∧ Txt y t' V' cd' k g s ∧ StaticIs s "java/lang/String" "COMPACT_STRINGS" "Z" (.int z) ∧ ¬ z = 0
/-- equals(Object) of two Strings: whether the texts are the same -/
theorem law (l : Launch) (x t : Addr) (V : Cell) (cd : Int32) (n : Nat) (f : Nat → Int32) (y t' : Addr) (V' : Cell) (cd' : Int32) (k : Nat) (g : Nat → Int32) (z : Int32) : Law l yN 2 1 1 14 yB 3 (some .boolean) site (P x t V cd n f y t' V' cd' k g z) (Says01 (SameT n f k g)) [] 0 0 := by
  refine Law.of_walk (plainFor_of_name (by decide +kernel)) (by decide +kernel) (by decide +kernel) (by decide) (fun _ _ h => by rw [h.1]; rfl) (fun _ U U' hal hh h => ⟨h.1, h.2.1.mv hal hh, h.2.2.1.mv hal hh, h.2.2.2.1.there hal hh, h.2.2.2.2⟩) (fun r U U' V V' h1 hal h2 h => Says01.mv r U U' V V' h1 hal h2 h) ?_
  intro p e s m args below meth c s₁ X0 hexec hbytes hml hret hlk hnm hown hh0 W hP
  obtain ⟨rfl, hx, hy, s1, hz⟩ := hP
  have c1 : Steps p.tables e below (s₁.setTop (entryFrame m #[.ref x, .ref y] 3)) (s₁.setTop (mkF m 2 #[.val (.ref x), .val (.ref y), .unset] [.ref y, .ref x])) := Steps.trans (entry rfl) (by
    show Steps p.tables e below (s₁.setTop (mkF m 0 #[.val (.ref x), .val (.ref y), .unset] [])) _
    refine XS.aloadN X0.here hexec rfl (hb hbytes d0) rfl rfl ?_
    refine XS.aloadN X0.here hexec rfl (hb hbytes d1) rfl rfl ?_
    exact Steps.refl _)
  by_cases hxy : x = y
  · have c2 : Steps p.tables e below (s₁.setTop (entryFrame m #[.ref x, .ref y] 3)) (s₁.setTop (mkF m 6 #[.val (.ref x), .val (.ref y), .unset] [.int 1])) := c1.trans (by
      refine acmpNo X0.here hexec rfl (hb hbytes d2) rfl rfl rfl (by simp [acmp, hxy]) ?_
      refine iconstV X0.here hexec rfl 1 (hb hbytes d5) (by decide) ?_
      exact Steps.refl _)
    subst hxy
    have ec : cd = cd' := by
      obtain ⟨D, fd, a1, a2, a3⟩ := hx.2.2.1
      obtain ⟨D', fd', b1, b2, b3⟩ := hy.2.2.1
      cases a1.symm.trans b1
      obtain ⟨q1, q2, q3, q4⟩ := a2.1
      obtain ⟨r1, r2, r3, r4⟩ := b2.1
      cases q4.symm.trans r4
      cases a3.symm.trans b3; rfl
    have et : t = t' := by
      obtain ⟨D, fd, a1, a2, a3⟩ := hx.2.1
      obtain ⟨D', fd', b1, b2, b3⟩ := hy.2.1
      cases a1.symm.trans b1
      obtain ⟨q1, q2, q3, q4⟩ := a2.1
      obtain ⟨r1, r2, r3, r4⟩ := b2.1
      cases q4.symm.trans r4
      cases a3.symm.trans b3; rfl
    subst ec et
    have ev : V = V' := by cases hx.2.2.2.1.1.symm.trans hy.2.2.2.1.1; rfl
    subst ev
    have hs : SameT n f k g := (Cod.eqv hx.2.2.2.2.1 hy.2.2.2.2.1 hx.2.2.2.2.2 hy.2.2.2.2.2).mp ⟨rfl, fun _ _ => rfl⟩
    exact ⟨s₁, some (.int 1), _, _, _, X0, rfl, rfl, rfl, (fun h => by cases h), ⟨1, rfl, hh0, Or.inl ⟨rfl, hs⟩⟩, fun fs hl => c2.trans (X0.ireturnOut hexec hret rfl (Or.inr (Or.inl rfl)) (hb hbytes d6) hl)⟩
  · have c2 : Steps p.tables e below (s₁.setTop (entryFrame m #[.ref x, .ref y] 3)) (s₁.setTop (mkF m 8 #[.val (.ref x), .val (.ref y), .unset] [.ref y])) := c1.trans (by
      refine acmpYes X0.here hexec rfl (pc0 := 2) rfl (hb hbytes d2) rfl rfl rfl (by simp [acmp, hxy]) (by decide) rfl ?_
      refine XS.aloadN X0.here hexec rfl (hb hbytes d7) rfl rfl ?_
      exact Steps.refl _)
    obtain ⟨T3, X3, q3, st3⟩ := cinst X0 hexec hown (wk W (.classLink "java/lang/String" 10 "java/lang/String")) (hy.mv X0.warmed.alike hh0).1 (g := (mkF m 8 #[.val (.ref x), .val (.ref y), .unset] [.ref y])) rfl (rest := []) rfl (hb hbytes d8)
    have hh3 := q3.trans hh0
    have c4 : Steps p.tables e below (s₁.setTop (entryFrame m #[.ref x, .ref y] 3)) (T3.setTop (mkF m 15 #[.val (.ref x), .val (.ref y), .unset] [.ref y])) := (c2.trans (st3 _ (Steps.refl _))).trans (by
      refine XS.ifNo X3.here hexec rfl (hb hbytes d11) rfl (i0_eq_f (by decide)) ?_
      refine XS.aloadN X3.here hexec rfl (hb hbytes d14) rfl rfl ?_
      exact Steps.refl _)
    obtain ⟨T5, X5, q5, st5⟩ := cself X3 hexec hown (wk W (.classLink "java/lang/String" 10 "java/lang/String")) (hy.mv X3.warmed.alike hh3).1 (g := (mkF m 15 #[.val (.ref x), .val (.ref y), .unset] [.ref y])) rfl (rest := []) rfl (hb hbytes d15)
    have hh5 := q5.trans hh3
    have c6 : Steps p.tables e below (s₁.setTop (entryFrame m #[.ref x, .ref y] 3)) (T5.setTop (mkF m 19 #[.val (.ref x), .val (.ref y), .val (.ref y)] [])) := (c4.trans (st5 _ (Steps.refl _))).trans (by
      refine XS.astoreN X5.here hexec rfl (hb hbytes d18) rfl rfl rfl ?_
      exact Steps.refl _)
    obtain ⟨T7, X7, q7, st7⟩ := X5.sget hexec hown (wk W (.fieldLink "java/lang/String" 38 "java/lang/String" "COMPACT_STRINGS" "Z")) s1 (fun _ _ h => by rw [hh5]; exact h) (g := (mkF m 19 #[.val (.ref x), .val (.ref y), .val (.ref y)] [])) rfl (hb hbytes d19)
    have hh7 := q7.trans hh5
    have c8 : Steps p.tables e below (s₁.setTop (entryFrame m #[.ref x, .ref y] 3)) (T7.setTop (mkF m 26 #[.val (.ref x), .val (.ref y), .val (.ref y)] [.ref x])) := (c6.trans (st7 _ (Steps.refl _))).trans (by
      refine XS.ifNo X7.here hexec rfl (hb hbytes d22) rfl (i0_eq_f hz) ?_
      refine XS.aloadN X7.here hexec rfl (hb hbytes d25) rfl rfl ?_
      exact Steps.refl _)
    obtain ⟨T9, X9, q9, st9⟩ := X7.hget hexec hown (wk W (.fieldLink "java/lang/String" 15 "java/lang/String" "coder" "B")) (hx.mv X7.warmed.alike hh7).2.2.1 (g := (mkF m 26 #[.val (.ref x), .val (.ref y), .val (.ref y)] [.ref x])) rfl (rest := []) rfl (hb hbytes d26)
    have hh9 := q9.trans hh7
    have c10 : Steps p.tables e below (s₁.setTop (entryFrame m #[.ref x, .ref y] 3)) (T9.setTop (mkF m 30 #[.val (.ref x), .val (.ref y), .val (.ref y)] [.ref y, .int cd])) := (c8.trans (st9 _ (Steps.refl _))).trans (by
      refine XS.aloadN X9.here hexec rfl (hb hbytes d29) rfl rfl ?_
      exact Steps.refl _)
    obtain ⟨T11, X11, q11, st11⟩ := X9.hget hexec hown (wk W (.fieldLink "java/lang/String" 15 "java/lang/String" "coder" "B")) (hy.mv X9.warmed.alike hh9).2.2.1 (g := (mkF m 30 #[.val (.ref x), .val (.ref y), .val (.ref y)] [.ref y, .int cd])) rfl (rest := [.int cd]) rfl (hb hbytes d30)
    have hh11 := q11.trans hh9
    have c12 : Steps p.tables e below (s₁.setTop (entryFrame m #[.ref x, .ref y] 3)) (T11.setTop (mkF m 33 #[.val (.ref x), .val (.ref y), .val (.ref y)] [.int cd', .int cd])) := c10.trans (st11 _ (Steps.refl _))
    by_cases hcd : cd = cd'
    · subst hcd
      have c13 : Steps p.tables e below (s₁.setTop (entryFrame m #[.ref x, .ref y] 3)) (T11.setTop (mkF m 37 #[.val (.ref x), .val (.ref y), .val (.ref y)] [.ref x])) := c12.trans (by
        refine XS.icmpNo X11.here hexec rfl (hb hbytes d33) rfl (ii_ne_f rfl) ?_
        refine XS.aloadN X11.here hexec rfl (hb hbytes d36) rfl rfl ?_
        exact Steps.refl _)
      obtain ⟨T14, X14, q14, st14⟩ := X11.hget hexec hown (wk W (.fieldLink "java/lang/String" 9 "java/lang/String" "value" "[B")) (hx.mv X11.warmed.alike hh11).2.1 (g := (mkF m 37 #[.val (.ref x), .val (.ref y), .val (.ref y)] [.ref x])) rfl (rest := []) rfl (hb hbytes d37)
      have hh14 := q14.trans hh11
      have c15 : Steps p.tables e below (s₁.setTop (entryFrame m #[.ref x, .ref y] 3)) (T14.setTop (mkF m 41 #[.val (.ref x), .val (.ref y), .val (.ref y)] [.ref y, .ref t])) := (c13.trans (st14 _ (Steps.refl _))).trans (by
        refine XS.aloadN X14.here hexec rfl (hb hbytes d40) rfl rfl ?_
        exact Steps.refl _)
      obtain ⟨T16, X16, q16, st16⟩ := X14.hget hexec hown (wk W (.fieldLink "java/lang/String" 9 "java/lang/String" "value" "[B")) (hy.mv X14.warmed.alike hh14).2.1 (g := (mkF m 41 #[.val (.ref x), .val (.ref y), .val (.ref y)] [.ref y, .ref t])) rfl (rest := [.ref t]) rfl (hb hbytes d41)
      have hh16 := q16.trans hh14
      have c17 : Steps p.tables e below (s₁.setTop (entryFrame m #[.ref x, .ref y] 3)) (T16.setTop (mkF m 44 #[.val (.ref x), .val (.ref y), .val (.ref y)] [.ref t', .ref t])) := c15.trans (st16 _ (Steps.refl _))
      obtain ⟨v18, T18, X18, E18, g18⟩ := X16.callS hexec (LEq.law l t V t' V') hown (wks W (staticW "java/lang/String" 541 LEq.yN)) (wk W LEq.tab) (W := 0) (Nat.le_of_ble_eq_true rfl) (Nat.le_of_ble_eq_true rfl) (Nat.le_refl _) (Nat.le_refl _) (g := (mkF m 44 #[.val (.ref x), .val (.ref y), .val (.ref y)] [.ref t', .ref t])) rfl (by rw [hml]; rfl) c17 (argsL := [.ref t, .ref t']) (rest := []) rfl rfl (by show 2 * 0 + 0 ≤ _; decide) (hb hbytes d44) (⟨rfl, hx.2.2.2.1.mv X16.warmed.alike hh16, hx.2.2.2.2.1.ty, hy.2.2.2.1.mv X16.warmed.alike hh16, hy.2.2.2.2.1.ty⟩)
      obtain ⟨v, rfl, q18, hv⟩ := E18
      have iff := Cod.eqv hx.2.2.2.2.1 hy.2.2.2.2.1 hx.2.2.2.2.2 hy.2.2.2.2.2
      rcases hv with ⟨rfl, he⟩ | ⟨rfl, he⟩
      · have c19 : Steps p.tables e below (s₁.setTop (entryFrame m #[.ref x, .ref y] 3)) (T18.setTop (mkF m 55 #[.val (.ref x), .val (.ref y), .val (.ref y)] [.int 1])) := Steps.trans g18 (by
          refine XS.ifNo X18.here hexec rfl (hb hbytes d47) rfl (i0_eq_f (by decide)) ?_
          refine iconstV X18.here hexec rfl 1 (hb hbytes d50) (by decide) ?_
          refine XS.goto X18.here hexec rfl (pc0 := 51) rfl (hb hbytes d51) (by decide) rfl ?_
          exact Steps.refl _)
        exact ⟨T18, some (.int 1), _, _, _, X18, rfl, rfl, rfl, (fun h => by cases h), ⟨1, rfl, q18.trans hh16, Or.inl ⟨rfl, iff.mp he⟩⟩, fun fs hl => c19.trans (X18.ireturnOut hexec hret rfl (Or.inr (Or.inl rfl)) (hb hbytes d55) hl)⟩
      · have c19 : Steps p.tables e below (s₁.setTop (entryFrame m #[.ref x, .ref y] 3)) (T18.setTop (mkF m 55 #[.val (.ref x), .val (.ref y), .val (.ref y)] [.int 0])) := Steps.trans g18 (by
          refine XS.ifYes X18.here hexec rfl (pc0 := 47) rfl (hb hbytes d47) rfl (i0_eq_t rfl) (by decide) rfl ?_
          refine iconstV X18.here hexec rfl 0 (hb hbytes d54) (by decide) ?_
          exact Steps.refl _)
        exact ⟨T18, some (.int 0), _, _, _, X18, rfl, rfl, rfl, (fun h => by cases h), ⟨0, rfl, q18.trans hh16, Or.inr ⟨rfl, fun q => he (iff.mpr q)⟩⟩, fun fs hl => c19.trans (X18.ireturnOut hexec hret rfl (Or.inr (Or.inl rfl)) (hb hbytes d55) hl)⟩
    · have c13 : Steps p.tables e below (s₁.setTop (entryFrame m #[.ref x, .ref y] 3)) (T11.setTop (mkF m 55 #[.val (.ref x), .val (.ref y), .val (.ref y)] [.int 0])) := c12.trans (by
        refine XS.icmpYes X11.here hexec rfl (pc0 := 33) rfl (hb hbytes d33) rfl (ii_ne_t hcd) (by decide) rfl ?_
        refine iconstV X11.here hexec rfl 0 (hb hbytes d54) (by decide) ?_
        exact Steps.refl _)
      exact ⟨T11, some (.int 0), _, _, _, X11, rfl, rfl, rfl, (fun h => by cases h), ⟨0, rfl, hh11, Or.inr ⟨rfl, Cod.dif hx.2.2.2.2.1 hy.2.2.2.2.1 hcd⟩⟩, fun fs hl => c13.trans (X11.ireturnOut hexec hret rfl (Or.inr (Or.inl rfl)) (hb hbytes d55) hl)⟩
theorem pays {l : Launch} {R : Room} {p : Program} {e : Env} {below : List Frame} {s : State} {sargs : Array Value} {len W : Nat} (x t : Addr) (V : Cell) (cd : Int32) (n : Nat) (f : Nat → Int32) (y t' : Addr) (V' : Cell) (cd' : Int32) (k : Nat) (g : Nat → Int32) (z : Int32) (htab : tab.before sargs s = true) (hfr : 2 ≤ R.frames) (hlo : W + 28 ≤ R.locals) :
    Back l R p e below s sargs yN len W (fun A₁ a₁ => A₁.cells + 0 ≤ R.cells ∧ A₁.slots + 0 ≤ R.slots ∧ P x t V cd n f y t' V' cd' k g z a₁ A₁.U) (fun A₁ _ v₁ B₁ => Says01 (SameT n f k g) v₁ A₁.U B₁.U ∧ B₁.locs = A₁.locs ++ [] ∧ B₁.cells = A₁.cells + 0 ∧ B₁.slots = A₁.slots + 0) :=
  (law l x t V cd n f y t' V' cd' k g z).pays htab hfr (by omega)
end SEq
end StrChars
namespace StrChars.Road
open Jvm Sem ClassFile Op Lib Jvm.Stand Jvm.Free Jvm.Free.XT
open Jvm.Lib.Cold (StaticIs)
/-- the words of String.equals(Object) -/
abbrev wordsEq : List Jvm.Cond := [.code SEq.yN SEq.yB 3 (some .boolean), .initialized ST, .classLink ST 10 ST, .fieldLink ST 38 ST "COMPACT_STRINGS" "Z", .fieldLink ST 15 ST "coder" "B", .fieldLink ST 9 ST "value" "[B", .methodLink ST 541 LEq.yN, .static LEq.yN, .code LEq.yN LEq.yB 3 (some .boolean), .initialized "java/lang/StringLatin1"]
theorem tabEq_of {a : Array Value} {s : State} (h : ∀ w ∈ wordsEq, w.before a s = true) : SEq.tab.before a s = true := by
  have hl : LEq.tab.before a s = true := unparts (wk h (.code LEq.yN LEq.yB 3 (some .boolean))) (wks h (.initialized LEq.yN.cls :: LEq.site))
  have q := consq hl h
  exact unparts (wk q (.code SEq.yN SEq.yB 3 (some .boolean))) (wks q (.initialized SEq.yN.cls :: SEq.site))
theorem movedEq {Z s : State} {a0 args : Array Value} (hZ : Z.Warmed39 s.vm) (hw : ∀ d ∈ wordsEq, d.before a0 Z = true) : ∀ d ∈ wordsEq, d.before args s = true := fun d hd => by
  have t : ∀ d ∈ wordsEq, (d.onTables && d.keepsFace) = true := by decide +kernel
  exact RoadKit.mv hZ (hw d hd) (t d hd)
/-- the road's facts of a String, as the laws ask it -/
theorem txt_of {Z U : State} {a0 : Array Value} {kI : Nat} (wi : (Jvm.Cond.instantiable ST kI).before a0 Z = true) (al : Z.vm.Alike U.vm) {x t : Addr} {kb : ClassId} {cs : List Int32} {cd N2 : Int32} {vs : List Value} (E : RoadKit.Exa Z U.heap x ST) (V : RoadKit.Fld Z U.heap x ST "value" "[B" (.ref t)) (C : RoadKit.Fld Z U.heap x ST "coder" "B" (.int cd)) (K : RoadKit.Arv Z U.heap t kb .byte N2 vs (.int 0)) (hc : CodA cs cd N2 vs) (hb : ∀ c ∈ cs, ¬ c < 0 ∧ ¬ (65535 : Int32) < c) (l2 : cs.length ≤ 4000) :
    ∃ A, Txt x t A cd cs.length (fun j => cs.getD j 0) U := by
  obtain ⟨A, K1, K2, K3, K4, K5, K6⟩ := K
  have hcod := hc.cod (by omega) K3 K5
  obtain ⟨D, fV, fC, hB, F1, F2, g1, g2, -, -⟩ := strObj wi al E V C
  exact ⟨A, ⟨_, hB.2.2.1, D, hB.1, rfl, by cases q : D.vm <;> first | rfl | exact absurd q (hB.2.1.2 _)⟩, Has.of hB F1 g1, Has.of hB F2 g2, ⟨K1.1, State.isArrayOf_alike al K1.2.1, K1.2.2, by rcases hcod with ⟨-, q, -⟩ | ⟨-, q, -⟩ <;> omega⟩, hcod, fun j hj => by
    have e : cs.getD j 0 = cs[j] := by simp [List.getD_eq_getElem?_getD, hj]
    show ¬ cs.getD j 0 < 0 ∧ ¬ 65535 < cs.getD j 0
    rw [e]; exact hb _ (List.getElem_mem _)⟩
theorem same_list (cs ds : List Int32) : SameT cs.length (fun j => cs.getD j 0) ds.length (fun j => ds.getD j 0) ↔ cs = ds := by
  constructor
  · rintro ⟨e, q⟩
    refine List.ext_getElem e fun j h1 h2 => ?_
    have := q j h1
    simpa [List.getD_eq_getElem?_getD, h1, h2] using this
  · rintro rfl
    exact ⟨rfl, fun _ _ => rfl⟩
/-- **equals(Object) OF TWO SUCH STRINGS**: 1 just where the chars are the same -/
theorem eqW {p : Program} {l : Launch} {e : Env} {R : Room} {s : State} {args : Array Value} {below : List Frame} {len W : Nat} {Z : State} {a0 : Array Value} {h : Heap} (hZ : Z.Warmed39 s.vm) (hw : ∀ d ∈ wordsEq, d.before a0 Z = true) {kI : Nat} (wi : (Jvm.Cond.instantiable ST kI).before a0 Z = true)
    {x t : Addr} {kb : ClassId} {cs : List Int32} {cd N2 : Int32} {vs : List Value} (E : RoadKit.Exa Z h x ST) (V : RoadKit.Fld Z h x ST "value" "[B" (.ref t)) (C : RoadKit.Fld Z h x ST "coder" "B" (.int cd)) (K : RoadKit.Arv Z h t kb .byte N2 vs (.int 0)) (hc : CodA cs cd N2 vs) (hb : ∀ c ∈ cs, ¬ c < 0 ∧ ¬ (65535 : Int32) < c) (l2 : cs.length ≤ 4000)
    {y t' : Addr} {kb' : ClassId} {ds : List Int32} {cd' N2' : Int32} {vs' : List Value} (E' : RoadKit.Exa Z h y ST) (V' : RoadKit.Fld Z h y ST "value" "[B" (.ref t')) (C' : RoadKit.Fld Z h y ST "coder" "B" (.int cd')) (K' : RoadKit.Arv Z h t' kb' .byte N2' vs' (.int 0)) (hc' : CodA ds cd' N2' vs') (hb' : ∀ c ∈ ds, ¬ c < 0 ∧ ¬ (65535 : Int32) < c) (l2' : ds.length ≤ 4000)
    {z : Int32} (S : RoadKit.Sta Z h ST "COMPACT_STRINGS" "Z" (.int z)) (hz : ¬ z = 0) (hfr : 2 ≤ R.frames) (hlo : W + 28 ≤ R.locals) :
    Back l R p e below s args (⟨"java/lang/String", "equals", "(Ljava/lang/Object;)Z"⟩ : MethodName) len W (fun P a => a = #[.ref x, .ref y] ∧ P.U.heap = h ∧ P.cells + 0 ≤ R.cells ∧ P.slots + 0 ≤ R.slots)
      (fun P _ v B => ∃ L, (((v = some (.int 1) ∧ cs = ds) ∨ (v = some (.int 0) ∧ ¬ cs = ds)) ∧ L = [] ∧ B.U.heap = h) ∧ B.locs = P.locs ++ L ∧ B.cells = P.cells + 0 ∧ B.slots = P.slots + 0) := by
  intro m meth c P g ig mk a X hg hsize hdg hW hn hp'
  obtain ⟨rfl, rfl, r1, r2⟩ := hp'
  have al : Z.vm.Alike P.U.vm := hZ.alike.trans X.warmed.alike
  obtain ⟨A, hx⟩ := txt_of wi al E V C K hc hb l2
  obtain ⟨A', hy⟩ := txt_of wi al E' V' C' K' hc' hb' l2'
  obtain ⟨v, B, X', ⟨⟨w, hv, hh, hq⟩, hl, hk, hs⟩, st⟩ := SEq.pays x t A cd cs.length (fun j => cs.getD j 0) y t' A' cd' ds.length (fun j => ds.getD j 0) z (tabEq_of (movedEq hZ hw)) hfr hlo m meth c P g ig mk _ X hg hsize hdg hW hn ⟨r1, r2, rfl, hx, hy, sta_is al S, hz⟩
  refine ⟨v, B, X', ⟨[], ⟨?_, rfl, hh⟩, hl, hk, hs⟩, st⟩
  rcases hq with ⟨rfl, q⟩ | ⟨rfl, q⟩
  · exact Or.inl ⟨hv, (same_list cs ds).mp q⟩
  · exact Or.inr ⟨hv, fun e => q ((same_list cs ds).mpr e)⟩
end StrChars.Road
namespace StrChars.Road
open Jvm Sem ClassFile Op Lib Jvm.Stand Jvm.Free Jvm.Free.XT
open Jvm.Lib.Cold (StaticIs)
/-- what backV says of its String, as the contracts of this text ask it: cs's low bytes, coder 0 -/
theorem codOf {cs : List Int32} {n : Nat} (hn : cs.length = n) (hb : ∀ c ∈ cs, ¬ 255 < c) : CodA cs 0 (Int32.ofNat n) ((cs.map lo8).map Value.int) := Or.inl ⟨rfl, by rw [hn], by simp [List.map_map, Function.comp_def], hb⟩
end StrChars.Road
end Jvm.Pilot.@@N@@


namespace Jvm.Pilot.@@N@@
open Jvm Jvm.ClassFile Sem Op Lib Jvm.Free Jvm.Stand Jvm.LawKit Jvm.RoadKit Bundle Jvm.Pilot.@@N@@.Jvm.D
abbrev cJ0 : ByteArray := jdk_29_method_65_code
abbrev cJ1 : ByteArray := jdk_29_method_69_code
abbrev cJ2 : ByteArray := jdk_42_method_147_code
abbrev cJ3 : ByteArray := jdk_42_method_149_code
abbrev cJ4 : ByteArray := jdk_42_method_150_code
abbrev cJ5 : ByteArray := jdk_42_method_152_code
abbrev cJ6 : ByteArray := jdk_42_method_3_code
abbrev cJ7 : ByteArray := jdk_48_method_27_code
abbrev cJ8 : ByteArray := jdk_65_method_121_code
abbrev cJ9 : ByteArray := jdk_65_method_132_code
abbrev cJ10 : ByteArray := jdk_65_method_133_code
abbrev cJ11 : ByteArray := jdk_67_method_7_code
abbrev cJ12 : ByteArray := jdk_68_method_10_code
abbrev cJ13 : ByteArray := jdk_68_method_22_code
abbrev cJ14 : ByteArray := jdk_68_method_2_code
abbrev cJ15 : ByteArray := jdk_68_method_68_code
abbrev cJ16 : ByteArray := jdk_68_method_71_code
abbrev cJ17 : ByteArray := jdk_68_method_73_code
abbrev cJ18 : ByteArray := jdk_68_method_9_code
abbrev cJ19 : ByteArray := method_4_code
abbrev cJ20 : ByteArray := method_5_code
abbrev cJ21 : ByteArray := method_6_code
abbrev cJ22 : ByteArray := prog_6_method_4_code
abbrev cJ23 : ByteArray := prog_6_method_5_code
abbrev mN0 : MethodName := (⟨"com/example/vigilant_gate/vigilantgate/IdentityArns", "assumedRole", "(Ljava/lang/String;Ljava/lang/String;Ljava/lang/String;)Ljava/lang/String;"⟩ : MethodName)
abbrev mN1 : MethodName := (⟨"com/example/vigilant_gate/vigilantgate/IdentityArns", "role", "(Ljava/lang/String;Ljava/lang/String;)Ljava/lang/String;"⟩ : MethodName)
abbrev mN2 : MethodName := (⟨"com/example/vigilant_gate/vigilantgate/IdentityArnsAssumedRolePinLaw", "c0", "(I)C"⟩ : MethodName)
abbrev mN3 : MethodName := (⟨"com/example/vigilant_gate/vigilantgate/IdentityArnsAssumedRolePinLaw", "c1", "(I)C"⟩ : MethodName)
abbrev mN4 : MethodName := (⟨"com/example/vigilant_gate/vigilantgate/IdentityArnsAssumedRolePinLaw", "drawn", "(II)Ljava/lang/String;"⟩ : MethodName)
abbrev mN5 : MethodName := (⟨"com/example/vigilant_gate/vigilantgate/IdentityArnsAssumedRolePinLaw", "put", "([CIII)I"⟩ : MethodName)
abbrev mN6 : MethodName := (⟨"java/lang/AbstractStringBuilder", "<init>", "(I)V"⟩ : MethodName)
abbrev mN7 : MethodName := (⟨"java/lang/AbstractStringBuilder", "append", "(Ljava/lang/String;)Ljava/lang/AbstractStringBuilder;"⟩ : MethodName)
abbrev mN8 : MethodName := (⟨"java/lang/AbstractStringBuilder", "ensureCapacityInternal", "(I)V"⟩ : MethodName)
abbrev mN9 : MethodName := (⟨"java/lang/AbstractStringBuilder", "getValue", "()[B"⟩ : MethodName)
abbrev mN10 : MethodName := (⟨"java/lang/AbstractStringBuilder", "inflateIfNeededFor", "(Ljava/lang/String;)V"⟩ : MethodName)
abbrev mN11 : MethodName := (⟨"java/lang/AbstractStringBuilder", "isLatin1", "()Z"⟩ : MethodName)
abbrev mN12 : MethodName := (⟨"java/lang/AbstractStringBuilder", "length", "()I"⟩ : MethodName)
abbrev mN13 : MethodName := (⟨"java/lang/AbstractStringBuilder", "newCapacity", "(I)I"⟩ : MethodName)
abbrev mN14 : MethodName := (⟨"java/lang/AbstractStringBuilder", "putStringAt", "(ILjava/lang/String;)V"⟩ : MethodName)
abbrev mN15 : MethodName := (⟨"java/lang/Math", "max", "(II)I"⟩ : MethodName)
abbrev mN16 : MethodName := (⟨"java/lang/Math", "min", "(II)I"⟩ : MethodName)
abbrev mN17 : MethodName := (⟨"java/lang/String", "<init>", "(Ljava/lang/AbstractStringBuilder;Ljava/lang/Void;)V"⟩ : MethodName)
abbrev mN18 : MethodName := (⟨"java/lang/String", "<init>", "(Ljava/lang/StringBuilder;)V"⟩ : MethodName)
abbrev mN19 : MethodName := (⟨"java/lang/String", "<init>", "([C)V"⟩ : MethodName)
abbrev mN20 : MethodName := (⟨"java/lang/String", "<init>", "([CIILjava/lang/Void;)V"⟩ : MethodName)
abbrev mN21 : MethodName := (⟨"java/lang/String", "coder", "()B"⟩ : MethodName)
abbrev mN22 : MethodName := (⟨"java/lang/String", "equals", "(Ljava/lang/Object;)Z"⟩ : MethodName)
abbrev mN23 : MethodName := (⟨"java/lang/String", "getBytes", "([BIB)V"⟩ : MethodName)
abbrev mN24 : MethodName := (⟨"java/lang/String", "length", "()I"⟩ : MethodName)
abbrev mN25 : MethodName := (⟨"java/lang/StringBuilder", "<init>", "()V"⟩ : MethodName)
abbrev mN26 : MethodName := (⟨"java/lang/StringBuilder", "append", "(Ljava/lang/String;)Ljava/lang/StringBuilder;"⟩ : MethodName)
abbrev mN27 : MethodName := (⟨"java/lang/StringBuilder", "length", "()I"⟩ : MethodName)
abbrev mN28 : MethodName := (⟨"java/lang/StringBuilder", "toString", "()Ljava/lang/String;"⟩ : MethodName)
abbrev mN29 : MethodName := (⟨"java/util/Arrays", "checkLength", "(II)V"⟩ : MethodName)
abbrev mN30 : MethodName := (⟨"java/util/Arrays", "copyOf", "([BI)[B"⟩ : MethodName)
abbrev mN31 : MethodName := (⟨"java/util/Arrays", "copyOfRange", "([BII)[B"⟩ : MethodName)
abbrev mN32 : MethodName := (⟨"java/util/Arrays", "copyOfRangeByte", "([BII)[B"⟩ : MethodName)
abbrev mN33 : MethodName := (⟨"jdk/internal/util/ArraysSupport", "newLength", "(III)I"⟩ : MethodName)
abbrev rM0 : Room := ({ frames := 0, cells := 0, slots := 0, locals := 0 } : Room)
abbrev rM1 : Room := ({ frames := 1, cells := 0, slots := 0, locals := 12 } : Room)
abbrev rM2 : Room := ({ frames := 1, cells := 0, slots := 0, locals := 13 } : Room)
abbrev rM3 : Room := ({ frames := 1, cells := 0, slots := 0, locals := 14 } : Room)
abbrev rM4 : Room := ({ frames := 1, cells := 0, slots := 0, locals := 20 } : Room)
abbrev rM5 : Room := ({ frames := 1, cells := 0, slots := 0, locals := 40 } : Room)
abbrev rM6 : Room := ({ frames := 1, cells := 1, slots := 16, locals := 12 } : Room)
abbrev rM7 : Room := ({ frames := 1, cells := 1, slots := 34, locals := 40 } : Room)
abbrev rM8 : Room := ({ frames := 1, cells := 4, slots := 8, locals := 12 } : Room)
abbrev rM9 : Room := ({ frames := 2, cells := 0, slots := 0, locals := 34 } : Room)
abbrev rM10 : Room := ({ frames := 2, cells := 0, slots := 0, locals := 57 } : Room)
abbrev rM11 : Room := ({ frames := 2, cells := 1, slots := 16, locals := 27 } : Room)
abbrev rM12 : Room := ({ frames := 2, cells := 1, slots := 34, locals := 56 } : Room)
abbrev rM13 : Room := ({ frames := 2, cells := 4, slots := 8, locals := 29 } : Room)
abbrev rM14 : Room := ({ frames := 3, cells := 1, slots := 34, locals := 62 } : Room)
abbrev rM15 : Room := ({ frames := 3, cells := 1, slots := 34, locals := 72 } : Room)
abbrev rM16 : Room := ({ frames := 4, cells := 1, slots := 34, locals := 78 } : Room)
abbrev rM17 : Room := ({ frames := 4, cells := 1, slots := 34, locals := 90 } : Room)
abbrev rM18 : Room := ({ frames := 5, cells := 1, slots := 34, locals := 95 } : Room)
abbrev rM19 : Room := ({ frames := 5, cells := 2, slots := 38, locals := 105 } : Room)
abbrev rM20 : Room := ({ frames := 5, cells := 8, slots := 30, locals := 80 } : Room)
abbrev rM21 : Room := ({ frames := 7, cells := 14, slots := 300, locals := 130 } : Room)
abbrev rM22 : Room := ({ frames := 8, cells := 30, slots := 640, locals := 150 } : Room)
theorem own_w {a0 : Array Value} {Z : State} (hw : ∀ d ∈ tables_1, d.before a0 Z = true) (i : Nat) {d : Jvm.Cond} (h : tables_1[i]? = some d) : d.before a0 Z = true := hw _ (List.mem_of_getElem? h)
theorem own_v {Z s : State} {a0 args : Array Value} {d : Jvm.Cond} (hZ : Z.Warmed39 s.vm) (hw : ∀ d ∈ tables_1, d.before a0 Z = true) (i : Nat) (h : tables_1[i]? = some d) (hd : (d.onTables && d.keepsFace) = true := by first | rfl | simp [Cond.onTables, Cond.keepsFace, Cond.keeps, Cond.steady]) : d.before args s = true := mvT hZ (own_w hw i h) hd
def oG (tb : Tables) (e : Env) (below : List Frame) (P : Outcome → State → Prop) (U : State) : Prop := ∃ s₂ o, Steps tb e below U s₂ ∧ s₂.status = .running ∧ Ended s₂ below o ∧ P o s₂
theorem own_FrE {n : Nat} {L L' : List Loc} (h : L = L') (f : Fr n L') : Fr n L := h ▸ f
theorem oG.st {tb : Tables} {e : Env} {below : List Frame} {P : Outcome → State → Prop} {U U' : State} (h : ∀ t, Steps tb e below U' t → Steps tb e below U t) (k : oG tb e below P U') : oG tb e below P U := by
  obtain ⟨t, o, a, r⟩ := k
  exact ⟨t, o, h t a, r⟩
theorem own_hd {tb : Tables} {e : Env} {below : List Frame} {P : Outcome → State → Prop} {U : State} (k : ∀ PP, PP = P → oG tb e below PP U) : oG tb e below P U := k P rfl
theorem oG.tr {tb : Tables} {e : Env} {below : List Frame} {P : Outcome → State → Prop} {U U' : State} (h : Steps tb e below U U') (k : oG tb e below P U') : oG tb e below P U := oG.st (fun _ a => h.trans a) k
section OwnRet
variable {p : Program} {l : Launch} {e : Env} {R : Room} {s : State} {m : MethodId} {args : Array Value} {below : List Frame} {meth : Method} {c : Code} {T : State} {locs : List Loc} {cells slots : Nat}
theorem own_retI (X : Stand p l e R s m args below meth c T locs cells slots) (hx : p.tables.exec = Jvm.exec) {pc : Nat} {Ls : Array Slot} {z : Int32} {rest : List Value} (hret : meth.sig.returnType = some .int) (hd : decode c.code pc = .ok (.ireturn, 1)) {fs : List Frame}
    (hl : ∀ (f : JFrame) (acts : List Action), f.method = m → f.locked = none → f.entered = [] → (doReturn e (T.setTop f) acts (some (.int z))).1 = T.setFrames fs) : Steps p.tables e below (T.setTop (mkF m pc Ls (.int z :: rest))) (T.setFrames fs) :=
  retOut X hx hret rfl (Or.inl ⟨rfl, Or.inl rfl, z, rfl⟩) hd hl
theorem own_retL (X : Stand p l e R s m args below meth c T locs cells slots) (hx : p.tables.exec = Jvm.exec) {pc : Nat} {Ls : Array Slot} {z : Int64} {rest : List Value} (hret : meth.sig.returnType = some .long) (hd : decode c.code pc = .ok (.lreturn, 1)) {fs : List Frame}
    (hl : ∀ (f : JFrame) (acts : List Action), f.method = m → f.locked = none → f.entered = [] → (doReturn e (T.setTop f) acts (some (.long z))).1 = T.setFrames fs) : Steps p.tables e below (T.setTop (mkF m pc Ls (.long z :: rest))) (T.setFrames fs) :=
  retOut X hx hret rfl (Or.inr (Or.inl ⟨rfl, rfl, z, rfl⟩)) hd hl
theorem own_narRef {t : FieldType} {w : Value} (ht : t.isReference = true) (hw : w.isRef = true) : narrow t w = w := by
  cases t <;> first | rfl | (simp [FieldType.isReference] at ht; done) | (cases w <;> first | rfl | simp [Value.isRef] at hw)
theorem own_retA (X : Stand p l e R s m args below meth c T locs cells slots) (hx : p.tables.exec = Jvm.exec) {pc : Nat} {Ls : Array Slot} {w : Value} {t : FieldType} {rest : List Value} (hret : meth.sig.returnType = some t) (ht : t.isReference = true) (hw : w.isRef = true) (hd : decode c.code pc = .ok (.areturn, 1)) {fs : List Frame}
    (hl : ∀ (f : JFrame) (acts : List Action), f.method = m → f.locked = none → f.entered = [] → (doReturn e (T.setTop f) acts (some w)).1 = T.setFrames fs) : Steps p.tables e below (T.setTop (mkF m pc Ls (w :: rest))) (T.setFrames fs) :=
  retOut X hx hret (own_narRef ht hw) (Or.inr (Or.inr (Or.inr (Or.inr ⟨rfl, ht, hw⟩)))) hd hl
end OwnRet
theorem own_selP {s : State} {args : Array Value} {C : String} {y : MethodName} (h : (Jvm.Cond.selects C y y).before args s = true) (hp : s.PrivateAt y) (hi : (Jvm.Cond.instanceMethod y).before args s = true) (hy : y.cls ≠ "java/lang/invoke/MethodHandle" ∧ y.cls ≠ "java/lang/invoke/VarHandle") : (Jvm.Cond.selects y.cls y y).before args s = true := by
  obtain ⟨c, r, m, -, -, q3, -, mk, k1, k2⟩ := Cond.selects_spec h
  exact Jvm.Stand.selects_self_of_private (findClass_of_methodNamed q3) k1 k2 hp hi hy
theorem own_nf {s : State} {args : Array Value} {C : String} {y y2 : MethodName} (h : (Jvm.Cond.selects C y2 y2).before args s = true) (he : y2.cls = y.cls) : NotFace s y := fun r0 h0 => by
  obtain ⟨c, r, m, -, -, q3, -, mk, k1, k2⟩ := Cond.selects_spec h
  have e1 := findClass_of_methodNamed q3
  have e2 := findClass_of_methodNamed h0
  rw [he] at e1
  have e3 : m.cls = r0.cls := Option.some.inj (e1.symm.trans e2)
  exact ⟨mk, e3 ▸ k1, k2⟩
theorem own_sameP {s : State} {args : Array Value} {C : String} {y y2 : MethodName} (hd : (Jvm.Cond.declares y).before args s = true) (h : (Jvm.Cond.selects C y2 y2).before args s = true) (he : y2.cls = y.cls) (hy : y.cls ≠ "java/lang/invoke/MethodHandle" ∧ y.cls ≠ "java/lang/invoke/VarHandle") : (Jvm.Cond.sameMethod y.cls y.cls y.name y.desc).before args s = true := by
  obtain ⟨c, r, m, -, -, q3, -, mk, k1, k2⟩ := Cond.selects_spec h
  have e1 := findClass_of_methodNamed q3
  rw [he] at e1
  cases hm : s.methodNamed? y with
  | none => simp [Cond.before, Cond.holds, Cond.value, hm] at hd
  | some mm =>
    have hf : s.methodFound? y.cls y.name y.desc = some mm := State.methodFound?_of_named hm hy
    have hm' : s.methodNamed? ⟨y.cls, y.name, y.desc⟩ = some mm := hm
    simp [Cond.before, Cond.holds, Cond.value, e1, hf, hm', k1, k2]
theorem own_rwE {T h : Heap} {a : Addr} {c : Option Cell} (e : T = h) (q : h[a]? = c) : T[a]? = c := by rw [e]; exact q
theorem own_nar {x : Int32} (h : ¬ x < 0 ∧ ¬ (65535 : Int32) < x) : nar .char x = x := by
  have q := c_i2c x
  have h1 := h.1; have h2 := h.2
  rw [Int32.lt_iff_toInt_lt] at h1 h2
  have e1 : (0 : Int32).toInt = 0 := by decide
  have e2 : (65535 : Int32).toInt = 65535 := by decide
  rw [e1] at h1; rw [e2] at h2
  show x.toUInt32.toUInt16.toUInt32.toInt32 = x
  apply Int32.toInt_inj.mp
  omega
theorem own_up {x : Int32} (h : ¬ x < 0 ∧ ¬ (255 : Int32) < x) : ¬ x < 0 ∧ ¬ (65535 : Int32) < x := by
  refine ⟨h.1, fun q => h.2 ?_⟩
  rw [Int32.lt_iff_toInt_lt] at q ⊢
  have e1 : (255 : Int32).toInt = 255 := by decide
  have e2 : (65535 : Int32).toInt = 65535 := by decide
  omega
theorem own_arvTy {Z : State} {h : Heap} {a b : Addr} {k k' : ClassId} {ty ty' : FieldType} {n n' : Int32} {vs vs' : List Value} {d d' : Value} (A : Arv Z h a k ty n vs d) (B : Arv Z h b k' ty' n' vs' d') (ht : ty ≠ ty') : a ≠ b := fun q => by
  subst q
  obtain ⟨c, C, -⟩ := A
  obtain ⟨c', C', -⟩ := B
  cases C.1.symm.trans C'.1
  obtain ⟨-, k1, j1, cp1, j2⟩ := C.2.1
  obtain ⟨-, k2, i1, cp2, i2⟩ := C'.2.1
  cases j1.symm.trans i1
  rw [j2] at i2
  cases i2
  exact ht rfl


def own_Str (Z : State) (h : Heap) (x t : Addr) (cs : List Int32) : Prop := ∃ (kb : ClassId) (cd N2 : Int32) (vs : List Value), Exa Z h x "java/lang/String" ∧ Fld Z h x "java/lang/String" "value" "[B" (.ref t) ∧ Fld Z h x "java/lang/String" "coder" "B" (.int cd) ∧ Arv Z h t kb .byte N2 vs (.int 0) ∧ StrChars.Road.CodA cs cd N2 vs ∧ (∀ c ∈ cs, ¬ c < 0 ∧ ¬ (65535 : Int32) < c) ∧ cs.length ≤ 4000
section OwnStr
variable {Z : State} {h h' : Heap} {x t a : Addr} {cs : List Int32} {sl : Nat} {v : Value} {ws : List Addr}
theorem own_Str.ext (F : own_Str Z h x t cs) (E : Ext h h') : own_Str Z h' x t cs := by
  obtain ⟨kb, cd, N2, vs, h1, h2, h3, h4, r⟩ := F
  exact ⟨kb, cd, N2, vs, h1.ext E, h2.ext E, h3.ext E, h4.ext E, r⟩
theorem own_Str.other (F : own_Str Z h x t cs) (W : Wr h h' a sl v) (n1 : x ≠ a) (n2 : t ≠ a) : own_Str Z h' x t cs := by
  obtain ⟨kb, cd, N2, vs, h1, h2, h3, h4, r⟩ := F
  exact ⟨kb, cd, N2, vs, h1.wr W, h2.other W (Or.inl n1), h3.other W (Or.inl n1), h4.other W n2, r⟩
theorem own_Str.keep (F : own_Str Z h x t cs) (K : Keep h h' ws) (n1 : x ∉ ws) (n2 : t ∉ ws) : own_Str Z h' x t cs := by
  obtain ⟨kb, cd, N2, vs, h1, h2, h3, h4, r⟩ := F
  exact ⟨kb, cd, N2, vs, h1.keep K, h2.keep K n1, h3.keep K n1, h4.keep K n2, r⟩
theorem own_Str.exa (F : own_Str Z h x t cs) : Exa Z h x "java/lang/String" := by obtain ⟨kb, cd, N2, vs, h1, -⟩ := F; exact h1
theorem own_Str.lt (F : own_Str Z h x t cs) : x < h.size := F.exa.lt
theorem own_Str.ltv (F : own_Str Z h x t cs) : t < h.size := by obtain ⟨kb, cd, N2, vs, -, -, -, h4, -⟩ := F; exact h4.lt
theorem own_Str.le (F : own_Str Z h x t cs) : cs.length ≤ 4000 := by obtain ⟨kb, cd, N2, vs, -, -, -, -, -, -, h⟩ := F; exact h
theorem own_Str.rng (F : own_Str Z h x t cs) : ∀ c ∈ cs, ¬ c < 0 ∧ ¬ (65535 : Int32) < c := by obtain ⟨kb, cd, N2, vs, -, -, -, -, -, h, -⟩ := F; exact h
theorem own_Str.neArv {b : Addr} {k : ClassId} {ty : FieldType} {n : Int32} {us : List Value} {d : Value} {a0 : Array Value} {kI : Nat} (F : own_Str Z h x t cs) (B : Arv Z h b k ty n us d) (wi : (Jvm.Cond.instantiable "java/lang/String" kI).before a0 Z = true) : x ≠ b := F.exa.neArv B wi
theorem own_Str.neV {b : Addr} {C : String} {a0 : Array Value} {kI : Nat} (F : own_Str Z h x t cs) (E : Exa Z h b C) (wi : (Jvm.Cond.instantiable C kI).before a0 Z = true) : b ≠ t := by
  obtain ⟨kb, cd, N2, vs, -, -, -, h4, -⟩ := F
  exact E.neArv h4 wi
theorem own_Str.neTy {b : Addr} {k : ClassId} {ty : FieldType} {n : Int32} {us : List Value} {d : Value} (F : own_Str Z h x t cs) (B : Arv Z h b k ty n us d) (ht : .byte ≠ ty) : t ≠ b := by
  obtain ⟨kb, cd, N2, vs, -, -, -, h4, -⟩ := F
  exact own_arvTy h4 B ht
end OwnStr


theorem own_a0 {P : Int32 → Prop} : ∀ c ∈ ([] : List Int32), P c := fun _ q => nomatch q
theorem own_aS {P : Int32 → Prop} {x : Int32} {L : List Int32} (h : P x) (r : ∀ c ∈ L, P c) : ∀ c ∈ x :: L, P c := fun c q => (List.mem_cons.mp q).elim (fun u => u ▸ h) (r c)
theorem own_upL {cs : List Int32} (h : ∀ c ∈ cs, ¬ c < 0 ∧ ¬ (255 : Int32) < c) : ∀ c ∈ cs, ¬ c < 0 ∧ ¬ (65535 : Int32) < c := fun c q => own_up (h c q)


theorem own_Str.lat {Z : State} {h : Heap} {x t : Addr} {cs : List Int32} (F : own_Str Z h x t cs) (hl : ∀ c ∈ cs, ¬ (255 : Int32) < c) : ∃ (kb : ClassId) (N2 : Int32) (vs : List Value), Exa Z h x "java/lang/String" ∧ Fld Z h x "java/lang/String" "value" "[B" (.ref t) ∧ Fld Z h x "java/lang/String" "coder" "B" (.int 0) ∧ Arv Z h t kb .byte N2 vs (.int 0) ∧ StrChars.Road.CodA cs 0 N2 vs := by
  obtain ⟨kb, cd, N2, vs, h1, h2, h3, h4, h5, -⟩ := F
  rcases h5 with ⟨rfl, a, b, c⟩ | ⟨-, -, -, c, hc, q⟩
  · exact ⟨kb, N2, vs, h1, h2, h3, h4, Or.inl ⟨rfl, a, b, c⟩⟩
  · exact absurd q (hl c hc)


theorem own_eqv {v : Option Value} {A : Prop} (h : (v = some (.int 1) ∧ A) ∨ (v = some (.int 0) ∧ ¬ A)) : ∃ r : Int32, v = some (.int r) ∧ ((r = 1 ∧ A) ∨ (r = 0 ∧ ¬ A)) := by
  rcases h with ⟨a, b⟩ | ⟨a, b⟩
  · exact ⟨1, a, Or.inl ⟨rfl, b⟩⟩
  · exact ⟨0, a, Or.inr ⟨rfl, b⟩⟩

theorem own_hws {a0 : Array Value} {Z : State} (hw : ∀ d ∈ tables_1, d.before a0 Z = true) : ∀ d ∈ StrChars.Road.words, d.before a0 Z = true := fun d hd => hw d ((by decide +kernel : ∀ d ∈ StrChars.Road.words, d ∈ tables_1) d hd)
theorem own_hln {a0 : Array Value} {Z : State} (hw : ∀ d ∈ tables_1, d.before a0 Z = true) : ∀ d ∈ StrChars.Road.wordsLen, d.before a0 Z = true := fun d hd => hw d ((by decide +kernel : ∀ d ∈ StrChars.Road.wordsLen, d ∈ tables_1) d hd)
theorem own_heq {a0 : Array Value} {Z : State} (hw : ∀ d ∈ tables_1, d.before a0 Z = true) : ∀ d ∈ StrChars.Road.wordsEq, d.before a0 Z = true := fun d hd => hw d ((by decide +kernel : ∀ d ∈ StrChars.Road.wordsEq, d ∈ tables_1) d hd)

theorem own_wS {a0 : Array Value} {Z : State} (hw : ∀ d ∈ tables_1, d.before a0 Z = true) : ∀ d ∈ Bundle.stringAtoms, d.before a0 Z = true := fun d hd => hw d ((by decide +kernel : ∀ d ∈ Bundle.stringAtoms, d ∈ tables_1) d hd)
theorem own_safeNull {Z : State} {EL : List (String × Nat)} {vm : Vm} {h : Heap} {x : Addr} (hal : Z.vm.Alike vm) (E : Exa Z h x "java/lang/String") (F : Fld Z h x "java/lang/String" "value" "[B" .null) : Safe Z EL vm h x := fun B => by
  obtain ⟨p, -, u, a, -, q, -, G, hx | hx⟩ := B
  · obtain ⟨cS, ⟨S1, -, -⟩, -⟩ := G
    obtain ⟨g1, -, -, ⟨c', k', i', g2, -⟩, -, -, -, g3, -⟩ := S1
    obtain ⟨cell, cf, k, i, f, e1, e2, -, -, -, -, e3⟩ := F
    obtain ⟨k2, g4⟩ := ff_back (U := Wst Z vm h) hal g2
    rw [hx] at e1
    have e4 : cell = q.sC := Option.some.inj (e1.symm.trans g1)
    have e5 : f = q.fSV := by
      have e6 := Option.some.inj (e2.symm.trans g4)
      simp only [Prod.mk.injEq] at e6
      exact e6.2.2.2
    rw [e4, e5, g3] at e3
    cases e3
  · have hd := G.hd
    obtain ⟨cS, -, -, f, -⟩ := G
    obtain ⟨cell, k, e1, e2, -⟩ := E
    rw [hx] at e1
    have e4 : cell = q.SA := Option.some.inj (e1.symm.trans hd)
    have f' : Z.vm.findClass "[B" = some q.SA.cls := by rw [← hal.findClass]; exact f
    rw [e4] at e2
    obtain ⟨k1, q1, q2⟩ := Vm.findClass_spec f'
    obtain ⟨k2, q3, q4⟩ := Vm.findClass_spec e2
    cases q1.symm.trans q3
    exact absurd (q2.symm.trans q4) (by decide)


theorem own_of {i : Nat} (h : i < 2147483648) : (Int32.ofNat i).toInt = i := Int32.toInt_ofNat_small h
theorem own_ofn {i : Nat} (h : i < 2147483648) : (Int32.ofNat i).toNatClampNeg = i := by
  have := own_of h
  simp only [Int32.toNatClampNeg, this]
  omega
theorem own_of0 {i : Nat} (h : i < 2147483648) : ¬ (Int32.ofNat i) < 0 := by
  have := own_of h
  have e0 : (0 : Int32).toInt = 0 := by decide
  rw [Int32.lt_iff_toInt_lt, this, e0]
  omega
theorem own_oflt {i j : Nat} (hi : i < 2147483648) (hj : j < 2147483648) : (Int32.ofNat i) < (Int32.ofNat j) ↔ i < j := by
  rw [Int32.lt_iff_toInt_lt, own_of hi, own_of hj]
  omega
theorem own_ofS {i : Nat} (h : i < 1073741823) : Int32.ofNat i + (1 : Int32) = Int32.ofNat (i + 1) := by
  apply Int32.toInt_inj.mp
  have a := c_iadd (Int32.ofNat i) 1
  have b := own_of (i := i) (by omega)
  have c := own_of (i := i + 1) (by omega)
  have r := rng32 (Int32.ofNat i + 1)
  have e1 : (1 : Int32).toInt = 1 := by decide
  omega
theorem own_getD {cs : List Int32} {i : Nat} (hi : i < cs.length) (hl : cs.length ≤ 4000) (d : Value) : (cs.map Value.int).getD (Int32.ofNat i).toNatClampNeg d = .int (cs.getD i 0) := by
  rw [own_ofn (by omega)]
  simp [List.getD_eq_getElem?_getD, hi]
theorem own_arvAny {Z : State} {h h' : Heap} {a : Addr} {k : ClassId} {ty : FieldType} {n j : Int32} {vs : List Value} {d v : Value} (F : Arv Z h a k ty n vs d) (hv : fits ty v = true) (hj : ¬ j < 0 ∧ j < n) (W : Wr h h' a j.toNatClampNeg v) : ∃ vs', Arv Z h' a k ty n vs' d := by
  have F' := F.pad (pad_rep vs d (j.toNatClampNeg + 1))
  obtain ⟨c, A, q1, S, q3, H, G⟩ := F'
  exact ⟨_, Arv.set A q1 S q3 H G hv W j.toNatClampNeg rfl (by simp only [List.length_append, List.length_replicate]; omega)⟩


theorem own_Str.latF {Z : State} {h : Heap} {x t : Addr} {cs : List Int32} (F : own_Str Z h x t cs) (hl : ∀ c ∈ cs, ¬ (255 : Int32) < c) : ∃ (kb : ClassId), Exa Z h x "java/lang/String" ∧ Fld Z h x "java/lang/String" "value" "[B" (.ref t) ∧ Fld Z h x "java/lang/String" "coder" "B" (.int (0 : Int32)) ∧ Arv Z h t kb .byte (Int32.ofNat cs.length) (cs.map fun c => Value.int (StrChars.lo8 c)) (.int (0 : Int32)) := by
  obtain ⟨kb, N2, vs, h1, h2, h3, h4, h5⟩ := F.lat hl
  rcases h5 with ⟨-, hN, hv, -⟩ | ⟨q, -⟩
  · subst hN hv; exact ⟨kb, h1, h2, h3, h4⟩
  · exact absurd q (by decide)
theorem own_Str.mkL {Z : State} {h : Heap} {x t : Addr} {cs : List Int32} {kb : ClassId} (h1 : Exa Z h x "java/lang/String") (h2 : Fld Z h x "java/lang/String" "value" "[B" (.ref t)) (h3 : Fld Z h x "java/lang/String" "coder" "B" (.int (0 : Int32))) (h4 : Arv Z h t kb .byte (Int32.ofNat cs.length) (cs.map fun c => Value.int (StrChars.lo8 c)) (.int (0 : Int32))) (hl : ∀ c ∈ cs, ¬ c < 0 ∧ ¬ (255 : Int32) < c) (hn : cs.length ≤ 4000) : own_Str Z h x t cs :=
  ⟨kb, 0, _, _, h1, h2, h3, h4, Or.inl ⟨rfl, rfl, rfl, fun c q => (hl c q).2⟩, own_upL hl, hn⟩
theorem own_shl0 (x : Int32) : x <<< ((0 : Int32) &&& 31) = x := by
  apply Int32.toInt_inj.mp
  have a := c_ishl x 0 0 (by decide)
  have r := rng32 x
  have r2 := rng32 (x <<< ((0 : Int32) &&& 31))
  omega
theorem own_shr0 (x : Int32) : x >>> ((0 : Int32) &&& 31) = x := by
  apply Int32.toInt_inj.mp
  have a := c_ishr x 0 0 (by decide)
  omega
theorem own_ofA {i j : Nat} (h : i + j < 1073741823) : Int32.ofNat i + Int32.ofNat j = Int32.ofNat (i + j) := by
  apply Int32.toInt_inj.mp
  have a := c_iadd (Int32.ofNat i) (Int32.ofNat j)
  have b := own_of (i := i) (by omega)
  have c := own_of (i := j) (by omega)
  have d := own_of (i := i + j) (by omega)
  have r := rng32 (Int32.ofNat i + Int32.ofNat j)
  omega
theorem own_ofB {i j : Nat} (h : i < 1073741823) (hj : j ≤ i) : Int32.ofNat i - Int32.ofNat j = Int32.ofNat (i - j) := by
  apply Int32.toInt_inj.mp
  have a := c_isub (Int32.ofNat i) (Int32.ofNat j)
  have b := own_of (i := i) (by omega)
  have c := own_of (i := j) (by omega)
  have d := own_of (i := i - j) (by omega)
  have r := rng32 (Int32.ofNat i - Int32.ofNat j)
  omega
theorem own_ofBle {i j : Nat} (h : i < 1073741823) (hj : j < 1073741823) : (0 : Int32) < Int32.ofNat i - Int32.ofNat j ↔ j < i := by
  have a := c_isub (Int32.ofNat i) (Int32.ofNat j)
  have b := own_of (i := i) (by omega)
  have c := own_of (i := j) (by omega)
  have r := rng32 (Int32.ofNat i - Int32.ofNat j)
  have e0 : (0 : Int32).toInt = 0 := by decide
  rw [Int32.lt_iff_toInt_lt, e0]
  omega
theorem own_ofE {i j : Nat} (hi : i < 2147483648) (hj : j < 2147483648) : Int32.ofNat i = Int32.ofNat j ↔ i = j := ⟨fun q => by
    have q2 := congrArg Int32.toInt q
    rw [own_of hi, own_of hj] at q2
    omega, fun q => by rw [q]⟩
abbrev own_low (cs : List Int32) : List Value := cs.map fun c => Value.int (StrChars.lo8 c)
theorem own_lowG (cs : List Int32) (i : Nat) (d : Value) : (own_low cs).getD i d = if i < cs.length then .int (StrChars.lo8 (cs.getD i 0)) else d := by
  by_cases h : i < cs.length
  · simp [own_low, List.getD_eq_getElem?_getD, h]
  · simp [own_low, List.getD_eq_getElem?_getD, h, List.getElem?_eq_none (Nat.le_of_not_lt h)]
theorem own_appG (cs ds : List Int32) (i : Nat) : (cs ++ ds).getD i 0 = if i < cs.length then cs.getD i 0 else ds.getD (i - cs.length) 0 := by
  by_cases h : i < cs.length
  · rw [if_pos h]; simp [List.getD_eq_getElem?_getD, List.getElem?_append_left h]
  · rw [if_neg h]; simp [List.getD_eq_getElem?_getD, List.getElem?_append_right (Nat.le_of_not_lt h)]
theorem own_us (ds : List Int32) (hn : ds.length < 2147483648) : own_low ds = (List.range (Int32.ofNat ds.length).toNatClampNeg).map fun i => (own_low ds).getD ((0 : Int32).toNatClampNeg + i) (.int (0 : Int32)) := by
  rw [own_ofn hn]
  have e0 : (0 : Int32).toNatClampNeg = 0 := by decide
  rw [e0]
  apply List.ext_getElem
  · simp [own_low]
  · intro i h1 h2
    simp [own_low, List.getD_eq_getElem?_getD] at h1 ⊢
    simp [h1]
theorem own_appV {Z : State} {h : Heap} {a : Addr} {k : ClassId} {n : Int32} {cs ds : List Int32} {m : Nat} (F : Arv Z h a k .byte n (((own_low cs ++ List.replicate m (Value.int (0 : Int32))).take (Int32.ofNat cs.length).toNatClampNeg) ++ own_low ds ++ ((own_low cs ++ List.replicate m (Value.int (0 : Int32))).drop ((Int32.ofNat cs.length).toNatClampNeg + (Int32.ofNat ds.length).toNatClampNeg))) (.int (0 : Int32))) (h1 : cs.length < 100000) (h2 : ds.length < 100000) : Arv Z h a k .byte n (own_low (cs ++ ds)) (.int (0 : Int32)) := by
  refine F.pad (fun i => ?_)
  rw [own_ofn (by omega), own_ofn (by omega)]
  have e1 : (own_low cs ++ List.replicate m (Value.int (0 : Int32))).take cs.length = own_low cs := by
    rw [List.take_append_of_le_length (by simp [own_low]), List.take_of_length_le (by simp [own_low])]
  have e2 : (own_low cs ++ List.replicate m (Value.int (0 : Int32))).drop (cs.length + ds.length) = List.replicate (m - ds.length) (Value.int (0 : Int32)) := by
    rw [List.drop_append, List.drop_of_length_le (by simp [own_low]), List.drop_replicate, List.nil_append]
    congr 1
    simp [own_low]
  rw [e1, e2, show own_low (cs ++ ds) = own_low cs ++ own_low ds by simp [own_low]]
  exact (pad_rep (own_low cs ++ own_low ds) _ _ i).symm
theorem own_latT {cs : List Int32} {i m : Nat} (h : ∀ c ∈ cs, ¬ c < 0 ∧ ¬ (255 : Int32) < c) : ∀ c ∈ (cs.drop i).take m, ¬ c < 0 ∧ ¬ (255 : Int32) < c := fun c hc => h c (List.mem_of_mem_drop (List.mem_of_mem_take hc))
theorem own_latA {a b : List Int32} (h1 : ∀ c ∈ a, ¬ c < 0 ∧ ¬ (255 : Int32) < c) (h2 : ∀ c ∈ b, ¬ c < 0 ∧ ¬ (255 : Int32) < c) : ∀ c ∈ a ++ b, ¬ c < 0 ∧ ¬ (255 : Int32) < c := fun c hc => (List.mem_append.mp hc).elim (h1 c) (h2 c)
theorem own_subl {cs : List Int32} {i m : Nat} (h : i + m ≤ cs.length) : ((cs.drop i).take m).length = m := by simp; omega


theorem own_standW {p : Program} {l : Launch} {e : Env} {R : Room} {s : State} {m : MethodId} {args : Array Value} {below : List Frame} {meth : Method} {c : Code} {T : State} {locs : List Loc} {cells slots c2 s2 : Nat} (X : Stand p l e R s m args below meth c T locs cells slots) (h1 : cells ≤ c2) (h2 : slots ≤ s2) : Stand p l e R s m args below meth c T locs c2 s2 := { X with same := X.same.mono h1 h2 }


def own_Cap (c : Nat) : Prop := c = 16 ∨ c = 34
theorem own_Cap.le {c : Nat} (h : own_Cap c) : c ≤ 34 := by unfold own_Cap at h; omega
theorem own_Cap.ge {c : Nat} (h : own_Cap c) : 16 ≤ c := by unfold own_Cap at h; omega
theorem own_Cap.gr {c n : Nat} (h : own_Cap c) (h1 : c < n) (h2 : n ≤ 34) : c = 16 := by unfold own_Cap at h; omega
def own_New (a b n : Nat) : Prop := a = b ∨ n ≤ a
theorem own_New.le {a b n k : Nat} (h : own_New a b n) (h1 : k ≤ b) (h2 : k ≤ n) : k ≤ a := by unfold own_New at h; omega
theorem own_New.ne {a b n t : Nat} (h : own_New a b n) (h1 : @Ne Nat t b) (h2 : t < n) : @Ne Nat t a := by unfold own_New at h; omega

theorem own_newB {p : Program} {l : Launch} {e : Env} {R : Room} {s : State} {m : MethodId} {args : Array Value} {below : List Frame} {meth : Method} {c : Code} {T : State} {locs : List Loc} {cells slots : Nat} {Z : State} {a0 : Array Value} {h : Heap}
    (X : Stand p l e R s m args below meth c T locs cells slots) (hx : p.tables.exec = Jvm.exec) (hZ : Z.Warmed39 s.vm) (w : (Cond.arrayClass .byte).before a0 Z = true) (eT : T.heap = h) {g : JFrame} (hg : g.method = m) (hd : decode c.code g.pc = .ok (.newarray .byte, 2)) {n : Int32} {rest : List Value} (hs : g.stack = .int n :: rest)
    (hn : ¬ n < 0) {cap : Nat} (hcap : n.toNatClampNeg ≤ cap) (hb : cap * 8 ≤ 536870912) (hc : cells + 1 ≤ R.cells) (hl : slots + cap ≤ R.slots) :
    ∃ T' h' cA, Stand p l e R s m args below meth c T' locs (cells + 1) (slots + cap) ∧ T'.heap = h' ∧ Ext h h' ∧ Arr Z h' h.size (newA cA .byte n) .byte ∧ Z.vm.findClass "[B" = some cA ∧
      ∀ target, Steps p.tables e below (T'.setTop { g with pc := g.pc + 2, stack := .ref h.size :: rest }) target → Steps p.tables e below (T.setTop g) target := by
  have w' : (Cond.arrayClass (newarray.typeOf .byte)).before args s = true := mvA hZ w
  have hcb : n.toNatClampNeg * componentBytes (newarray.typeOf .byte) ≤ 536870912 := by
    have q : componentBytes (newarray.typeOf .byte) ≤ 8 := by decide
    exact Nat.le_trans (Nat.mul_le_mul hcap q) hb
  obtain ⟨cA, kA, comp, f1, f2, f3, Y, go⟩ := X.newarrayPrim hx w' hg hd hs hn hcb hc (by omega)
  subst eT
  have g1 : Z.vm.findClass "[B" = some cA := by rw [hZ.alike.findClass] at f1; exact f1
  obtain ⟨k1, a1, -⟩ := Vm.findClass_spec g1
  obtain ⟨k2, a2, a3⟩ := hZ.alike.2.2 _ _ a1
  have a4 : k2 = kA := Option.some.inj (a2.symm.trans f2)
  have hk : k1.kind = .array comp .byte := by
    have q := f3
    rw [← a4, a3] at q
    exact q
  refine ⟨_, _, cA, Y.more (Nat.le_refl _) (by omega), rfl, ext_of (fun a q => (Array.getElem?_push_lt q).trans (Array.getElem?_eq_getElem q).symm), ⟨?_, ⟨by simp [newA], k1, a1, comp, hk⟩, by simp [newA]⟩, g1, go⟩
  show (T.heap.push _)[T.heap.size]? = _
  simp [newA]
  exact Or.inr rfl
theorem own_exaB {Z : State} {h : Heap} {a : Addr} {c : Cell} {k : ClassId} (A : Arr Z h a c .byte) (q : c.cls = k) (f : Z.vm.findClass "[B" = some k) : Exa Z h a "[B" := by
  obtain ⟨a1, ⟨a2, K, a3, comp, a4⟩, a5⟩ := A
  refine ⟨c, K, a1, by rw [f, q], a3, ?_, fun u => by rw [a4] at u; cases u⟩
  cases hv : c.vm <;> first | rfl | exact absurd hv (a2 _)
theorem own_fitC {Z : State} {h : Heap} {a : Addr} {c : Cell} {vs : List Value} {d : Value} (A : Arr Z h a c .byte) (H : Has c vs d) (G : ∀ i, i < c.slots.size → fits .byte (vs.getD i d) = true) : FitC Z c := fun i v hv => by
  obtain ⟨hi, e⟩ := Array.getElem?_eq_some_iff.mp hv
  obtain ⟨-, ⟨-, K, a3, comp, a4⟩, -⟩ := A
  have q := G i hi
  have q2 := H i hi
  have e2 : vs.getD i d = v := by
    have := q2.symm.trans hv
    first | exact Option.some.inj this | simpa using this
  rw [e2] at q
  simp [State.fitsSlot, State.slotType?, a3, a4, q]

theorem pn_0 : plainName "java/lang/String" = true := by first | (simp [plainName, overriddenIn]; done) | decide +kernel
theorem ef_1 (m : MethodId) (x0 : Nat) (x1 : Nat) (x2 : Int32) (x3 : Int32) : entryFrame m #[(.ref x0), (.ref x1), (.int x2), (.int x3), .null] 6 = mkF m 0 #[.val (.ref x0), .val (.ref x1), .val (.int x2), .val (.int x3), .val .null, .unset] [] := by first | (simp [entryFrame, mkF, argsToLocals, Value.category]; done) | rfl
theorem dj42_149_0 : decode cJ3 0 = .ok (.aload_n 0, 1) := by decide +kernel
theorem dj42_149_1 : decode cJ3 1 = .ok (.invokespecial 1, 3) := by decide +kernel
theorem dj42_149_4 : decode cJ3 4 = .ok (.iload_n 3, 1) := by decide +kernel
theorem dj42_149_5 : decode cJ3 5 = .ok (.ifCond .ne 22, 3) := by decide +kernel
theorem dj42_149_8 : decode cJ3 8 = .ok (.aload_n 0, 1) := by decide +kernel
theorem dj42_149_9 : decode cJ3 9 = .ok (.ldc 7, 2) := by decide +kernel
theorem dj42_149_11 : decode cJ3 11 = .ok (.getfield 9, 3) := by decide +kernel
theorem dj42_149_14 : decode cJ3 14 = .ok (.putfield 9, 3) := by decide +kernel
theorem dj42_149_17 : decode cJ3 17 = .ok (.aload_n 0, 1) := by decide +kernel
theorem dj42_149_18 : decode cJ3 18 = .ok (.ldc 7, 2) := by decide +kernel
theorem dj42_149_20 : decode cJ3 20 = .ok (.getfield 15, 3) := by decide +kernel
theorem dj42_149_23 : decode cJ3 23 = .ok (.putfield 15, 3) := by decide +kernel
theorem dj42_149_26 : decode cJ3 26 = .ok (.return_, 1) := by decide +kernel
def Q_init4e (Z : State) (a1 : Nat) (a2 : Nat) (h0 : Heap) (v : Option Value) (h : Heap) (L : List Loc) : Prop := ∃ (t : Nat), v = none ∧ Fr Z.heap.size L ∧ Keep h0 h [a1] ∧ own_Str Z h a1 t []
set_option maxRecDepth 65536 in
set_option maxHeartbeats 40000000 in
theorem rm_init4e (l : Launch) (Z : State) (a0 : Array Value) (hw : ∀ d ∈ tables_1, d.before a0 Z = true) (ws : List Jvm.Cond) (a1 : Nat) (a2 : Nat) (h0 : Heap) (hEL : EW Z a0 consts_1) (OL : Old Z Z.heap.size h0) (p0_ : Exa Z h0 a1 "java/lang/String") (p1_ : Fld Z h0 a1 "java/lang/String" "value" "[B" .null) (p2_ : Fld Z h0 a1 "java/lang/String" "coder" "B" (.int (0 : Int32))) (hn0 : Z.heap.size ≤ a1) :
    MetFree l mN20 (head1 (Jvm.Cond.code mN20 jdk_42_method_149_code 6 none :: ws) rM8) (fun a U => a = #[(.ref a1), (.ref a2), (.int (0 : Int32)), (.int (0 : Int32)), .null] ∧ Z.Warmed39 U.vm ∧ U.heap = h0 ∧ CHv Z consts_1 U.vm h0) (fun _ _ _ _ _ => True) (fun _ U o U' => ∃ v L, o = .returned v ∧ Q_init4e Z a1 a2 h0 v U'.heap L ∧ CHr Z consts_1 U.vm U.heap U'.vm U'.heap ∧ ReturnedEndW U o U' L rM8.cells rM8.slots) := by
  refine MetFree.of_bodySF (plainFor_of_name pn_0) hisR ?_
  intro p e s m args below meth c s₁ Bd hml0 hP hK
  obtain ⟨rfl, hZ, hh, hC0⟩ := hP
  have hx := Bd.exec
  have hby := Bd.bytes
  have hml : c.maxLocals = 6 := hml0
  have hown : s.vm.findClass "java/lang/String" = some m.cls := findClass_of_methodNamed Bd.named
  have hnm := (name_of_methodNamed Bd.named Bd.method).1
  have X0 : Stand p l e rM8 (s.setVm s.vm) m #[(.ref a1), (.ref a2), (.int (0 : Int32)), (.int (0 : Int32)), .null] below meth c s₁ [] 0 0 := Stand.of_body Bd
  have e0 : s₁.heap = h0 := by rw [← hh, Bd.state]; rfl
  have N0 := Fr.nil Z.heap.size
  have Z0 : Z.heap.size ≤ h0.size := OL.2.1
  have hS0 : s.Since s.vm h0.size := (State.WarmedH.refl s).since _
  have wS := own_wS hw
  have R0 : CHr Z consts_1 s.vm h0 s.vm h0 := CHr.refl hC0
  have lt_0 : @LT.lt Nat _ a1 h0.size := p0_.lt
  have lt_1 : @LT.lt Nat _ a1 h0.size := p1_.lt
  have lt_2 : @LT.lt Nat _ a1 h0.size := p2_.lt
  show oG p.tables e below (fun o tE => ∃ v L, o = .returned v ∧ Q_init4e Z a1 a2 h0 v tE.heap L ∧ CHr Z consts_1 s.vm s.heap tE.vm tE.heap ∧ ReturnedEndW s o tE L rM8.cells rM8.slots) (s₁.setTop (entryFrame m #[(.ref a1), (.ref a2), (.int (0 : Int32)), (.int (0 : Int32)), .null] 6))
  refine own_hd (fun PP hPP => ?_)
  refine oG.st (fun t k => castTop (ef_1 m a1 a2 (0 : Int32) (0 : Int32)) k) ?_
  refine oG.st (fun _ k => XS.aloadN X0.here hx rfl (hb hby dj42_149_0) rfl rfl k) ?_
  show oG _ _ _ _ (s₁.setTop (mkF m 1 #[.val (.ref a1), .val (.ref a2), .val (.int (0 : Int32)), .val (.int (0 : Int32)), .val .null, .unset] [(.ref a1)]))
  obtain ⟨T101, X101, e101, st101⟩ := initO X0 hx hZ hown (own_w hw 18 rfl) (own_w hw 19 rfl) (own_w hw 20 rfl) e0 (g := (mkF m 1 #[.val (.ref a1), .val (.ref a2), .val (.int (0 : Int32)), .val (.int (0 : Int32)), .val .null, .unset] [(.ref a1)])) rfl (by rw [hml]; rfl) rfl (hb hby dj42_149_1) (by decide) (W := 0) (by show 2 * 0 + _ ≤ _; exact Nat.le_of_eq rfl) (by decide)
  refine oG.st st101 ?_
  refine oG.st (fun _ k => XS.iloadN X101.here hx rfl (hb hby dj42_149_4) rfl k) ?_
  show oG _ _ _ _ (T101.setTop (mkF m 5 #[.val (.ref a1), .val (.ref a2), .val (.int (0 : Int32)), .val (.int (0 : Int32)), .val .null, .unset] [(.int (0 : Int32))]))
  refine oG.st (fun _ k => XS.ifNo X101.here hx rfl (hb hby dj42_149_5) rfl ((if0 _ _).trans (teq (rfl : (0 : Int32) = (0 : Int32))).2) k) ?_
  refine oG.st (fun _ k => XS.aloadN X101.here hx rfl (hb hby dj42_149_8) rfl rfl k) ?_
  show oG _ _ _ _ (T101.setTop (mkF m 9 #[.val (.ref a1), .val (.ref a2), .val (.int (0 : Int32)), .val (.int (0 : Int32)), .val .null, .unset] [(.ref a1)]))
  obtain ⟨a102, T102, h102, kk102, t102, kb102, X102, e102, E102, hS102, hk102, hZ102, hown102, A102, C102, V102, B102, la102, lb102, ch102, Li102, sf102, st102⟩ := ldcCH X101 hx hZ hown (own_w hw 37 rfl) wS e101 hS0 (by omega) hEL (by decide) R0.1 (vs := []) (z := (0 : Int32)) (by decide) (by decide) (by decide) (g := (mkF m 9 #[.val (.ref a1), .val (.ref a2), .val (.int (0 : Int32)), .val (.int (0 : Int32)), .val .null, .unset] [(.ref a1)])) rfl (hb hby dj42_149_9) (n := 0) (by decide) (by decide) (by decide) (by decide)
  refine oG.st st102 ?_
  have z102 : h0.size ≤ h102.size := E102.1
  have la102' : @LT.lt Nat _ a102 h102.size := la102
  have lb102' : @LT.lt Nat _ t102 h102.size := lb102
  have R102 : CHr Z consts_1 s.vm h0 T102.vm h102 := R0.trans ch102
  have fT102 : own_Str Z h102 a102 t102 ([] : List Int32) := ⟨kb102, 0, (0 : Int32), [], A102, V102, C102, B102, Or.inl ⟨rfl, rfl, rfl, (by decide)⟩, (by decide), (by decide)⟩
  show oG _ _ _ _ (T102.setTop (mkF m 11 #[.val (.ref a1), .val (.ref a2), .val (.int (0 : Int32)), .val (.int (0 : Int32)), .val .null, .unset] [(.ref a102), (.ref a1)]))
  obtain ⟨T103, X103, e103, st103⟩ := getF X102 hx hZ102 hown102 (host := "") (Or.inl (own_w hw 35 rfl)) Via.refl e102 V102 (g := (mkF m 11 #[.val (.ref a1), .val (.ref a2), .val (.int (0 : Int32)), .val (.int (0 : Int32)), .val .null, .unset] [(.ref a102), (.ref a1)])) rfl rfl (hb hby dj42_149_11)
  refine oG.st st103 ?_
  show oG _ _ _ _ (T103.setTop (mkF m 14 #[.val (.ref a1), .val (.ref a2), .val (.int (0 : Int32)), .val (.int (0 : Int32)), .val .null, .unset] [(.ref t102), (.ref a1)]))
  have f104 : Fld Z h102 a1 "java/lang/String" "value" "[B" .null := p1_.ext E102
  have f105 : Exa Z h102 a1 "java/lang/String" := p0_.ext E102
  obtain ⟨T106, h106, X106, e106, W106, st106⟩ := putF X103 hx hZ102 hown102 (host := "") (Or.inl (own_w hw 35 rfl)) Via.refl e103 f104 f105 (Or.inr ⟨(own_w hw 36 rfl), rfl, hnm⟩) (own_w hw 9 rfl) (ty := (.array .byte)) (by decide) rfl rfl (g := (mkF m 14 #[.val (.ref a1), .val (.ref a2), .val (.int (0 : Int32)), .val (.int (0 : Int32)), .val .null, .unset] [(.ref t102), (.ref a1)])) rfl rfl (hb hby dj42_149_14)
  refine oG.st st106 ?_
  have gz107 : Z.heap.size ≤ a1 := by omega
  have N106 := Fr.snoc X106 N0 gz107
  have Sf109 : Safe Z consts_1 T102.vm h102 a1 := own_safeNull hZ102.alike f105 f104
  have z106 : h102.size ≤ h106.size := Nat.le_of_eq W106.size.symm
  have f108 : Fld Z h106 a1 "java/lang/String" "value" "[B" (.ref t102) := f104.same W106
  have R106 : CHr Z consts_1 s.vm h0 T102.vm h106 := R102.trans (CHr.wr W106 Sf109 R102.1)
  have Sf110 : Safe Z consts_1 T102.vm h106 a1 := Safe.wr W106 Sf109 R102.1 Sf109
  refine oG.st (fun _ k => XS.aloadN X106.here hx rfl (hb hby dj42_149_17) rfl rfl k) ?_
  show oG _ _ _ _ (T106.setTop (mkF m 18 #[.val (.ref a1), .val (.ref a2), .val (.int (0 : Int32)), .val (.int (0 : Int32)), .val .null, .unset] [(.ref a1)]))
  obtain ⟨a111, T111, h111, kk111, t111, kb111, X111, e111, E111, hS111, hk111, hZ111, hown111, A111, C111, V111, B111, la111, lb111, ch111, Li111, sf111, st111⟩ := ldcCH X106 hx hZ102 hown102 (own_w hw 37 rfl) wS e106 hS102 (by omega) hEL (by decide) R106.1 (vs := []) (z := (0 : Int32)) (by decide) (by decide) (by decide) (g := (mkF m 18 #[.val (.ref a1), .val (.ref a2), .val (.int (0 : Int32)), .val (.int (0 : Int32)), .val .null, .unset] [(.ref a1)])) rfl (hb hby dj42_149_18) (n := 0) (by decide) (by decide) (by decide) (by decide)
  refine oG.st st111 ?_
  have z111 : h106.size ≤ h111.size := E111.1
  have la111' : @LT.lt Nat _ a111 h111.size := la111
  have lb111' : @LT.lt Nat _ t111 h111.size := lb111
  have R111 : CHr Z consts_1 s.vm h0 T111.vm h111 := R106.trans ch111
  have Sf112 : Safe Z consts_1 T111.vm h111 a1 := ch111.safe (by show @LT.lt Nat _ a1 _; omega) Sf110
  have fT111 : own_Str Z h111 a111 t111 ([] : List Int32) := ⟨kb111, 0, (0 : Int32), [], A111, V111, C111, B111, Or.inl ⟨rfl, rfl, rfl, (by decide)⟩, (by decide), (by decide)⟩
  have nl113 := sf111 a1 Sf112
  have nl113a : @Ne Nat a1 a111 := nl113.1
  have nl113b : @Ne Nat a1 t111 := nl113.2
  show oG _ _ _ _ (T111.setTop (mkF m 20 #[.val (.ref a1), .val (.ref a2), .val (.int (0 : Int32)), .val (.int (0 : Int32)), .val .null, .unset] [(.ref a111), (.ref a1)]))
  obtain ⟨T114, X114, e114, st114⟩ := getF X111 hx hZ111 hown111 (host := "") (Or.inl (own_w hw 33 rfl)) Via.refl e111 C111 (g := (mkF m 20 #[.val (.ref a1), .val (.ref a2), .val (.int (0 : Int32)), .val (.int (0 : Int32)), .val .null, .unset] [(.ref a111), (.ref a1)])) rfl rfl (hb hby dj42_149_20)
  refine oG.st st114 ?_
  show oG _ _ _ _ (T114.setTop (mkF m 23 #[.val (.ref a1), .val (.ref a2), .val (.int (0 : Int32)), .val (.int (0 : Int32)), .val .null, .unset] [(.int 0), (.ref a1)]))
  have f115 : Fld Z h102 a1 "java/lang/String" "coder" "B" (.int (0 : Int32)) := p2_.ext E102
  have f116 : Fld Z h106 a1 "java/lang/String" "coder" "B" (.int (0 : Int32)) := f115.other W106 (Or.inr (slot_ne (Or.inr (own_w hw 34 rfl)) (Or.inr (own_w hw 36 rfl)) (by decide) (t := .byte) (t' := (.array .byte)) (by decide) (by decide)))
  have f117 : Fld Z h111 a1 "java/lang/String" "coder" "B" (.int (0 : Int32)) := f116.ext E111
  have f118 : Exa Z h106 a1 "java/lang/String" := f105.wr W106
  have f119 : Exa Z h111 a1 "java/lang/String" := f118.ext E111
  obtain ⟨T120, h120, X120, e120, W120, st120⟩ := putF X114 hx hZ111 hown111 (host := "") (Or.inl (own_w hw 33 rfl)) Via.refl e114 f117 f119 (Or.inr ⟨(own_w hw 34 rfl), rfl, hnm⟩) (own_w hw 9 rfl) (ty := .byte) (by decide) rfl (by decide) (g := (mkF m 23 #[.val (.ref a1), .val (.ref a2), .val (.int (0 : Int32)), .val (.int (0 : Int32)), .val .null, .unset] [(.int 0), (.ref a1)])) rfl rfl (hb hby dj42_149_23)
  refine oG.st st120 ?_
  have N120 := Fr.snoc X120 N106 gz107
  have z120 : h111.size ≤ h120.size := Nat.le_of_eq W120.size.symm
  have f121 : Fld Z h120 a1 "java/lang/String" "coder" "B" (.int 0) := f117.same W120
  have R120 : CHr Z consts_1 s.vm h0 T111.vm h120 := R111.trans (CHr.wr W120 Sf112 R111.1)
  have Sf122 : Safe Z consts_1 T111.vm h120 a1 := Safe.wr W120 Sf112 R111.1 Sf112
  show oG _ _ _ _ (T120.setTop (mkF m 26 #[.val (.ref a1), .val (.ref a2), .val (.int (0 : Int32)), .val (.int (0 : Int32)), .val .null, .unset] []))
  obtain ⟨fs123, hr123, hrun123, hend123, hret123⟩ := X120.leaveW hS111 (by rw [e120]; exact (by omega)) (v := none) (fun _ => rfl)
  have f124 : Fld Z h111 a1 "java/lang/String" "value" "[B" (.ref t102) := f108.ext E111
  have f125 : Fld Z h120 a1 "java/lang/String" "value" "[B" (.ref t102) := f124.other W120 (Or.inr (slot_ne (Or.inr (own_w hw 36 rfl)) (Or.inr (own_w hw 34 rfl)) (by decide) (t := (.array .byte)) (t' := .byte) (by decide) (by decide)))
  have f126 : Exa Z h120 a1 "java/lang/String" := f119.wr W120
  have ne127 : @Ne Nat a1 t102 := Exa.neArv f105 B102 (own_w hw 9 rfl)
  have f128 : Arv Z h106 t102 kb102 .byte (0 : Int32) [] (.int 0) := B102.other W106 (Ne.symm ne127)
  have f129 : Arv Z h111 t102 kb102 .byte (0 : Int32) [] (.int 0) := f128.ext E111
  have f130 : Arv Z h120 t102 kb102 .byte (0 : Int32) [] (.int 0) := f129.other W120 (Ne.symm ne127)
  have K131 : Keep h0 h102 [a1] := (Keep.refl h0 [a1]).ext E102
  have K132 : Keep h0 h106 [a1] := K131.wr W106 (Or.inl (List.mem_of_getElem? (i := 0) rfl))
  have K133 : Keep h0 h111 [a1] := K132.ext E111
  have K134 : Keep h0 h120 [a1] := K133.wr W120 (Or.inl (List.mem_of_getElem? (i := 0) rfl))
  subst hPP
  refine ⟨_, _, X120.returnOut hx Bd.returns (hb hby dj42_149_26) hr123, hrun123, hend123, _, _, rfl, ?_, ?_, hret123.1, hret123.2.1, hret123.2.2.1, hret123.2.2.2.mono (by decide) (by decide)⟩
  · show Q_init4e Z _ _ h0 _ T120.heap _
    rw [e120]
    exact ⟨t102, rfl, N120, K134, ⟨kb102, 0, 0, [], f126, f125, f121, f130, Or.inl ⟨rfl, rfl, rfl, own_a0⟩, own_a0, by decide⟩⟩
  · have hfin := R120.trans (CHv.at X120 hZ111 hEL R120.1)
    rw [← hh] at hfin
    show CHr Z consts_1 s.vm s.heap T120.vm T120.heap
    rw [e120]
    exact hfin
theorem ef_15 (m : MethodId) (x0 : Nat) (x1 : Nat) : entryFrame m #[(.ref x0), (.ref x1)] 2 = mkF m 0 #[.val (.ref x0), .val (.ref x1)] [] := by first | (simp [entryFrame, mkF, argsToLocals, Value.category]; done) | rfl
theorem dj42_3_0 : decode cJ6 0 = .ok (.aload_n 0, 1) := by decide +kernel
theorem dj42_3_1 : decode cJ6 1 = .ok (.aload_n 1, 1) := by decide +kernel
theorem dj42_3_2 : decode cJ6 2 = .ok (.iconst 0, 1) := by decide +kernel
theorem dj42_3_3 : decode cJ6 3 = .ok (.aload_n 1, 1) := by decide +kernel
theorem dj42_3_4 : decode cJ6 4 = .ok (.arraylength, 1) := by decide +kernel
theorem dj42_3_5 : decode cJ6 5 = .ok (.aconst_null, 1) := by decide +kernel
theorem pd_22 : parseMethodDescriptor "([CIILjava/lang/Void;)V" = some ⟨[(.array .char), .int, .int, (.object "java/lang/Void")], none⟩ := by decide +kernel
theorem dj42_3_6 : decode cJ6 6 = .ok (.invokespecial 27, 3) := by decide +kernel
theorem dj42_3_9 : decode cJ6 9 = .ok (.return_, 1) := by decide +kernel
def Q_init1e (Z : State) (a1 : Nat) (a2 : Nat) (k : ClassId) (vs : List Value) (d : Value) (h0 : Heap) (v : Option Value) (h : Heap) (L : List Loc) : Prop := ∃ (t : Nat), v = none ∧ Fr Z.heap.size L ∧ Keep h0 h [a1] ∧ own_Str Z h a1 t []
set_option maxRecDepth 65536 in
set_option maxHeartbeats 40000000 in
theorem rm_init1e (l : Launch) (Z : State) (a0 : Array Value) (hw : ∀ d ∈ tables_1, d.before a0 Z = true) (ws : List Jvm.Cond) (a1 : Nat) (a2 : Nat) (k : ClassId) (vs : List Value) (d : Value) (h0 : Heap) (hEL : EW Z a0 consts_1) (OL : Old Z Z.heap.size h0) (p0_ : Exa Z h0 a1 "java/lang/String") (p1_ : Fld Z h0 a1 "java/lang/String" "value" "[B" .null) (p2_ : Fld Z h0 a1 "java/lang/String" "coder" "B" (.int (0 : Int32))) (p3_ : Arv Z h0 a2 k .char (0 : Int32) vs d) (hn0 : Z.heap.size ≤ a1) :
    MetFree l mN19 (head1 (Jvm.Cond.code mN19 jdk_42_method_3_code 2 none :: ws) rM13) (fun a U => a = #[(.ref a1), (.ref a2)] ∧ Z.Warmed39 U.vm ∧ U.heap = h0 ∧ CHv Z consts_1 U.vm h0) (fun _ _ _ _ _ => True) (fun _ U o U' => ∃ v L, o = .returned v ∧ Q_init1e Z a1 a2 k vs d h0 v U'.heap L ∧ CHr Z consts_1 U.vm U.heap U'.vm U'.heap ∧ ReturnedEndW U o U' L rM13.cells rM13.slots) := by
  refine MetFree.of_bodySF (plainFor_of_name pn_0) hisR ?_
  intro p e s m args below meth c s₁ Bd hml0 hP hK
  obtain ⟨rfl, hZ, hh, hC0⟩ := hP
  have hx := Bd.exec
  have hby := Bd.bytes
  have hml : c.maxLocals = 2 := hml0
  have hown : s.vm.findClass "java/lang/String" = some m.cls := findClass_of_methodNamed Bd.named
  have hnm := (name_of_methodNamed Bd.named Bd.method).1
  have X0 : Stand p l e rM13 (s.setVm s.vm) m #[(.ref a1), (.ref a2)] below meth c s₁ [] 0 0 := Stand.of_body Bd
  have e0 : s₁.heap = h0 := by rw [← hh, Bd.state]; rfl
  have N0 := Fr.nil Z.heap.size
  have Z0 : Z.heap.size ≤ h0.size := OL.2.1
  have hS0 : s.Since s.vm h0.size := (State.WarmedH.refl s).since _
  have wS := own_wS hw
  have R0 : CHr Z consts_1 s.vm h0 s.vm h0 := CHr.refl hC0
  have lt_0 : @LT.lt Nat _ a1 h0.size := p0_.lt
  have lt_1 : @LT.lt Nat _ a1 h0.size := p1_.lt
  have lt_2 : @LT.lt Nat _ a1 h0.size := p2_.lt
  have lt_3 : @LT.lt Nat _ a2 h0.size := p3_.lt
  show oG p.tables e below (fun o tE => ∃ v L, o = .returned v ∧ Q_init1e Z a1 a2 k vs d h0 v tE.heap L ∧ CHr Z consts_1 s.vm s.heap tE.vm tE.heap ∧ ReturnedEndW s o tE L rM13.cells rM13.slots) (s₁.setTop (entryFrame m #[(.ref a1), (.ref a2)] 2))
  refine own_hd (fun PP hPP => ?_)
  refine oG.st (fun t k => castTop (ef_15 m a1 a2) k) ?_
  refine oG.st (fun _ k => XS.aloadN X0.here hx rfl (hb hby dj42_3_0) rfl rfl (XS.aloadN X0.here hx rfl (hb hby dj42_3_1) rfl rfl (XS.iconst X0.here hx rfl (hb hby dj42_3_2) (XS.aloadN X0.here hx rfl (hb hby dj42_3_3) rfl rfl k)))) ?_
  show oG _ _ _ _ (s₁.setTop (mkF m 4 #[.val (.ref a1), .val (.ref a2)] [(.ref a2), (.int (0 : Int32)), (.ref a2), (.ref a1)]))
  obtain ⟨c135, Ar135, q135, S135, Nn135, H135, G135⟩ := id p3_
  refine oG.st (X0.arraylength hx (own_rwE e0 Ar135.1) (State.isArrayOf_alike hZ.alike Ar135.2.1) (g := (mkF m 4 #[.val (.ref a1), .val (.ref a2)] [(.ref a2), (.int (0 : Int32)), (.ref a2), (.ref a1)])) rfl rfl (hb hby dj42_3_4)) ?_
  rw [len_of S135 Nn135]
  refine oG.st (fun _ k => XS.aconstNull X0.here hx rfl (hb hby dj42_3_5) k) ?_
  show oG _ _ _ _ (s₁.setTop (mkF m 6 #[.val (.ref a1), .val (.ref a2)] [.null, (.int (0 : Int32)), (.int (0 : Int32)), (.ref a2), (.ref a1)]))
  obtain ⟨_, _, ⟨T136, L136, k136, n136⟩, -, X136, hs136, hg136, ⟨Lc136, hQ136, l136, y136, z136, ch136⟩, st136⟩ := X0.specialBackS hx (y := mN20) rfl hown (own_v hZ hw 14 rfl) (own_v hZ hw 15 rfl) (own_v hZ hw 17 rfl) (by decide) (backOfSH (s := s) (vm0 := s.vm) (W := 0) (rm_init4e l Z a0 hw [] a1 a2 h0 hEL OL p0_ p1_ p2_ hn0) hZ (own_w hw 17 rfl) (own_w hw 10 rfl) (by decide) (by decide) hEL R0.1) (g := (mkF m 6 #[.val (.ref a1), .val (.ref a2)] [.null, (.int (0 : Int32)), (.int (0 : Int32)), (.ref a2), (.ref a1)])) rfl (by rw [hml]; rfl) (Steps.refl _) (a := a1) (argsL := [(.ref a2), (.int (0 : Int32)), (.int (0 : Int32)), .null]) (rest := []) (lenOf pd_22 rfl) rfl (by show 2 * 0 + _ ≤ _; exact Nat.le_of_eq rfl) (hb hby dj42_3_6) (fun _ _ => ⟨rfl, e0, (by decide : 0 + 4 ≤ _), (by decide : 0 + 8 ≤ _)⟩)
  dsimp only [Pt.U, Pt.locs, Pt.cells, Pt.slots] at X136 l136 y136 z136 st136 hQ136 hs136 hg136 ch136
  subst y136 z136
  obtain ⟨t_136, rfl, N136q, K136, f136_0⟩ := hQ136
  have N136 := own_FrE l136 (Fr.app N0 N136q)
  obtain ⟨Y136, hS136, hZ136, hown136⟩ := rebS hS0 (n1 := h0.size) (by omega) X136 hs136 (by have := hg136; first | exact this | (rw [← e0]; exact this)) hZ hown
  have z136 : h0.size ≤ T136.heap.size := K136.1
  have R136 : CHr Z consts_1 s.vm h0 T136.vm T136.heap := R0.trans ch136
  have lt136_0 : @LT.lt Nat _ a1 T136.heap.size := f136_0.lt
  have ltv136_0 : @LT.lt Nat _ t_136 T136.heap.size := f136_0.ltv
  refine oG.tr st136 ?_
  show oG _ _ _ _ (T136.setTop (mkF m 9 #[.val (.ref a1), .val (.ref a2)] []))
  obtain ⟨fs137, hr137, hrun137, hend137, hret137⟩ := Y136.leaveW hS136 (by omega) (v := none) (fun _ => rfl)
  have K138 : Keep h0 T136.heap [a1] := (Keep.refl h0 [a1]).trans K136 (allS (Or.inl (List.mem_of_getElem? (i := 0) rfl)) all0)
  subst hPP
  refine ⟨_, _, Y136.returnOut hx Bd.returns (hb hby dj42_3_9) hr137, hrun137, hend137, _, _, rfl, ?_, ?_, hret137.1, hret137.2.1, hret137.2.2.1, hret137.2.2.2.mono (by decide) (by decide)⟩
  · show Q_init1e Z _ _ _ _ _ h0 _ T136.heap _
    exact ⟨t_136, rfl, N136, K138, f136_0⟩
  · have hfin := R136.trans (CHv.at Y136 hZ136 hEL R136.1)
    rw [← hh] at hfin
    show CHr Z consts_1 s.vm s.heap T136.vm T136.heap
    exact hfin
theorem ef_25 (m : MethodId) (x0 : Int32) (x1 : Int32) : entryFrame m #[(.int x0), (.int x1)] 2 = mkF m 0 #[.val (.int x0), .val (.int x1)] [] := by first | (simp [entryFrame, mkF, argsToLocals, Value.category]; done) | rfl
theorem dj29_69_0 : decode cJ1 0 = .ok (.iload_n 0, 1) := by decide +kernel
theorem dj29_69_1 : decode cJ1 1 = .ok (.iload_n 1, 1) := by decide +kernel
theorem dj29_69_2 : decode cJ1 2 = .ok (.if_icmp .gt 7, 3) := by decide +kernel
theorem dj29_69_9 : decode cJ1 9 = .ok (.iload_n 1, 1) := by decide +kernel
theorem dj29_69_10 : decode cJ1 10 = .ok (.ireturn, 1) := by decide +kernel
theorem dj29_69_5 : decode cJ1 5 = .ok (.iload_n 0, 1) := by decide +kernel
theorem dj29_69_6 : decode cJ1 6 = .ok (.goto 4, 3) := by decide +kernel
def Q_mmin (Z : State) (p1 : Int32) (p2 : Int32) (h0 : Heap) (v : Option Value) (h : Heap) (L : List Loc) : Prop := v = some (.int (if p2 < p1 then p2 else p1)) ∧ Fr Z.heap.size L ∧ h = h0
set_option maxRecDepth 65536 in
set_option maxHeartbeats 40000000 in
theorem rm_mmin (l : Launch) (Z : State) (a0 : Array Value) (hw : ∀ d ∈ tables_1, d.before a0 Z = true) (ws : List Jvm.Cond) (p1 : Int32) (p2 : Int32) (h0 : Heap) (OL : Old Z Z.heap.size h0) :
    MetFree l mN16 (head1 (Jvm.Cond.code mN16 jdk_29_method_69_code 2 (some .int) :: ws) rM0) (fun a U => a = #[(.int p1), (.int p2)] ∧ Z.Warmed39 U.vm ∧ U.heap = h0) (fun _ _ _ _ _ => True) (fun _ U o U' => ∃ v L, o = .returned v ∧ Q_mmin Z p1 p2 h0 v U'.heap L ∧ FrameEnd U o U' L rM0.cells rM0.slots) := by
  refine MetFree.of_bodySF (by decide +kernel) hisR ?_
  intro p e s m args below meth c s₁ Bd hml0 hP hK
  obtain ⟨rfl, hZ, hh⟩ := hP
  have hx := Bd.exec
  have hby := Bd.bytes
  have hml : c.maxLocals = 2 := hml0
  have hown : s.vm.findClass "java/lang/Math" = some m.cls := findClass_of_methodNamed Bd.named
  have hnm := (name_of_methodNamed Bd.named Bd.method).1
  have X0 : Stand p l e rM0 s m #[(.int p1), (.int p2)] below meth c s₁ [] 0 0 := Stand.of_body Bd
  have e0 : s₁.heap = h0 := by rw [← hh, Bd.state]; rfl
  have N0 := Fr.nil Z.heap.size
  have Z0 : Z.heap.size ≤ h0.size := OL.2.1
  show oG p.tables e below (fun o tE => ∃ v L, o = .returned v ∧ Q_mmin Z p1 p2 h0 v tE.heap L ∧ FrameEnd s o tE L rM0.cells rM0.slots) (s₁.setTop (entryFrame m #[(.int p1), (.int p2)] 2))
  refine own_hd (fun PP hPP => ?_)
  refine oG.st (fun t k => castTop (ef_25 m p1 p2) k) ?_
  refine oG.st (fun _ k => XS.iloadN X0.here hx rfl (hb hby dj29_69_0) rfl (XS.iloadN X0.here hx rfl (hb hby dj29_69_1) rfl k)) ?_
  show oG _ _ _ _ (s₁.setTop (mkF m 2 #[.val (.int p1), .val (.int p2)] [(.int p2), (.int p1)]))
  by_cases hc139 : p2 < p1
  ·
    refine oG.st (fun _ k => XS.icmpYes X0.here hx rfl (pc0 := 2) (pc' := 9) rfl (hb hby dj29_69_2) rfl (tlt hc139).2.2.1 (by decide) (by decide) k) ?_
    refine oG.st (fun _ k => XS.iloadN X0.here hx rfl (hb hby dj29_69_9) rfl k) ?_
    show oG _ _ _ _ (s₁.setTop (mkF m 10 #[.val (.int p1), .val (.int p2)] [(.int p2)]))
    obtain ⟨fs140, hr140, hrun140, hend140, hW140, hsm140⟩ := X0.leave (v := some (.int p2)) (fun h => by rw [Bd.returns] at h; cases h)
    subst hPP
    refine ⟨_, _, own_retI X0 hx Bd.returns (hb hby dj29_69_10) hr140, hrun140, hend140, _, _, rfl, ?_, ⟨_, rfl⟩, hW140, hsm140.mono (by decide) (by decide)⟩
    · show Q_mmin Z _ _ h0 _ s₁.heap _
      rw [e0]
      exact ⟨(by rw [if_pos hc139]), N0, rfl⟩
  ·
    refine oG.st (fun _ k => XS.icmpNo X0.here hx rfl (hb hby dj29_69_2) rfl (flt hc139).2.2.1 k) ?_
    refine oG.st (fun _ k => XS.iloadN X0.here hx rfl (hb hby dj29_69_5) rfl (XS.goto X0.here hx rfl (pc0 := 6) (pc' := 10) rfl (hb hby dj29_69_6) (by decide) (by decide) k)) ?_
    show oG _ _ _ _ (s₁.setTop (mkF m 10 #[.val (.int p1), .val (.int p2)] [(.int p1)]))
    obtain ⟨fs141, hr141, hrun141, hend141, hW141, hsm141⟩ := X0.leave (v := some (.int p1)) (fun h => by rw [Bd.returns] at h; cases h)
    subst hPP
    refine ⟨_, _, own_retI X0 hx Bd.returns (hb hby dj29_69_10) hr141, hrun141, hend141, _, _, rfl, ?_, ⟨_, rfl⟩, hW141, hsm141.mono (by decide) (by decide)⟩
    · show Q_mmin Z _ _ h0 _ s₁.heap _
      rw [e0]
      exact ⟨(by rw [if_neg hc139]), N0, rfl⟩
theorem pn_33 : plainName "java/util/Arrays" = true := by first | (simp [plainName, overriddenIn]; done) | decide +kernel
theorem dj65_131_0 : decode jdk_65_method_131_code 0 = .ok (.iload_n 1, 1) := by decide +kernel
theorem dj65_131_1 : decode jdk_65_method_131_code 1 = .ok (.iload_n 0, 1) := by decide +kernel
theorem dj65_131_2 : decode jdk_65_method_131_code 2 = .ok (.if_icmp .ge 35, 3) := by decide +kernel
theorem dj65_131_37 : decode jdk_65_method_131_code 37 = .ok (.return_, 1) := by decide +kernel
def Q_cklen (Z : State) (p1 : Int32) (p2 : Int32) (h0 : Heap) (v : Option Value) (h : Heap) (L : List Loc) : Prop := v = none ∧ Fr Z.heap.size L ∧ h = h0
set_option maxRecDepth 65536 in
set_option maxHeartbeats 40000000 in
theorem rm_cklen (l : Launch) (Z : State) (a0 : Array Value) (hw : ∀ d ∈ tables_1, d.before a0 Z = true) (ws : List Jvm.Cond) (p1 : Int32) (p2 : Int32) (h0 : Heap) (OL : Old Z Z.heap.size h0) (h : ¬ p2 < p1) :
    MetFree l mN29 (head1 (Jvm.Cond.code mN29 jdk_65_method_131_code 2 none :: ws) rM0) (fun a U => a = #[(.int p1), (.int p2)] ∧ Z.Warmed39 U.vm ∧ U.heap = h0) (fun _ _ _ _ _ => True) (fun _ U o U' => ∃ v L, o = .returned v ∧ Q_cklen Z p1 p2 h0 v U'.heap L ∧ FrameEnd U o U' L rM0.cells rM0.slots) := by
  refine MetFree.of_bodySF (plainFor_of_name pn_33) hisR ?_
  intro p e s m args below meth c s₁ Bd hml0 hP hK
  obtain ⟨rfl, hZ, hh⟩ := hP
  have hx := Bd.exec
  have hby := Bd.bytes
  have hml : c.maxLocals = 2 := hml0
  have hown : s.vm.findClass "java/util/Arrays" = some m.cls := findClass_of_methodNamed Bd.named
  have hnm := (name_of_methodNamed Bd.named Bd.method).1
  have X0 : Stand p l e rM0 s m #[(.int p1), (.int p2)] below meth c s₁ [] 0 0 := Stand.of_body Bd
  have e0 : s₁.heap = h0 := by rw [← hh, Bd.state]; rfl
  have N0 := Fr.nil Z.heap.size
  have Z0 : Z.heap.size ≤ h0.size := OL.2.1
  show oG p.tables e below (fun o tE => ∃ v L, o = .returned v ∧ Q_cklen Z p1 p2 h0 v tE.heap L ∧ FrameEnd s o tE L rM0.cells rM0.slots) (s₁.setTop (entryFrame m #[(.int p1), (.int p2)] 2))
  refine own_hd (fun PP hPP => ?_)
  refine oG.st (fun t k => castTop (ef_25 m p1 p2) k) ?_
  refine oG.st (fun _ k => XS.iloadN X0.here hx rfl (hb hby dj65_131_0) rfl (XS.iloadN X0.here hx rfl (hb hby dj65_131_1) rfl k)) ?_
  show oG _ _ _ _ (s₁.setTop (mkF m 2 #[.val (.int p1), .val (.int p2)] [(.int p1), (.int p2)]))
  have hc142 : ¬ (p2 < p1) := h
  refine oG.st (fun _ k => XS.icmpYes X0.here hx rfl (pc0 := 2) (pc' := 37) rfl (hb hby dj65_131_2) rfl (flt hc142).2.1 (by decide) (by decide) k) ?_
  show oG _ _ _ _ (s₁.setTop (mkF m 37 #[.val (.int p1), .val (.int p2)] []))
  obtain ⟨fs143, hr143, hrun143, hend143, hW143, hsm143⟩ := X0.leave (v := none) (fun _ => rfl)
  subst hPP
  refine ⟨_, _, X0.returnOut hx Bd.returns (hb hby dj65_131_37) hr143, hrun143, hend143, _, _, rfl, ?_, ⟨_, rfl⟩, hW143, hsm143.mono (by decide) (by decide)⟩
  · show Q_cklen Z _ _ h0 _ s₁.heap _
    rw [e0]
    exact ⟨rfl, N0, rfl⟩

theorem own_usR (cs : List Int32) {i j : Nat} (hij : i ≤ j) (hj : j ≤ cs.length) (hn : cs.length < 100000) : own_low ((cs.drop i).take (j - i)) = (List.range (Int32.ofNat (j - i)).toNatClampNeg).map fun x => (own_low cs).getD ((Int32.ofNat i).toNatClampNeg + x) (.int (0 : Int32)) := by
  rw [own_ofn (by omega), own_ofn (by omega)]
  apply List.ext_getElem
  · simp [own_low]; omega
  · intro x h1 h2
    have hx : i + x < cs.length := by simp [own_low] at h1; omega
    simp [own_low, List.getD_eq_getElem?_getD, hx]
theorem own_takeV {Z : State} {h : Heap} {a : Addr} {k : ClassId} {n : Int32} {us : List Value} {m : Nat} (F : Arv Z h a k .byte n ((List.replicate m (Value.int (0 : Int32))).take (0 : Int32).toNatClampNeg ++ us ++ (List.replicate m (Value.int (0 : Int32))).drop ((0 : Int32).toNatClampNeg + (Int32.ofNat m).toNatClampNeg)) (.int (0 : Int32))) (hm : m < 100000) : Arv Z h a k .byte n us (.int (0 : Int32)) := by
  have e0 : (0 : Int32).toNatClampNeg = 0 := by decide
  rw [e0, own_ofn (by omega)] at F
  simpa using F
theorem own_min {i j : Nat} (hi : i < 100000) (hj : j ≤ i) : (if Int32.ofNat j < Int32.ofNat i then Int32.ofNat j else Int32.ofNat i) = Int32.ofNat j := by
  by_cases q : Int32.ofNat j < Int32.ofNat i
  · rw [if_pos q]
  · rw [if_neg q]
    rw [own_oflt (by omega) (by omega)] at q
    rw [show i = j by omega]

theorem ef_38 (m : MethodId) (x0 : Nat) (x1 : Int32) (x2 : Int32) : entryFrame m #[(.ref x0), (.int x1), (.int x2)] 5 = mkF m 0 #[.val (.ref x0), .val (.int x1), .val (.int x2), .unset, .unset] [] := by first | (simp [entryFrame, mkF, argsToLocals, Value.category]; done) | rfl
theorem dj65_133_0 : decode cJ10 0 = .ok (.iload_n 1, 1) := by decide +kernel
theorem dj65_133_1 : decode cJ10 1 = .ok (.iload_n 2, 1) := by decide +kernel
theorem pd_41 : parseMethodDescriptor "(II)V" = some ⟨[.int, .int], none⟩ := by decide +kernel
theorem dj65_133_2 : decode cJ10 2 = .ok (.invokestatic 343, 3) := by decide +kernel
theorem dj65_133_5 : decode cJ10 5 = .ok (.iload_n 2, 1) := by decide +kernel
theorem dj65_133_6 : decode cJ10 6 = .ok (.iload_n 1, 1) := by decide +kernel
theorem dj65_133_7 : decode cJ10 7 = .ok (.isub, 1) := by decide +kernel
theorem dj65_133_8 : decode cJ10 8 = .ok (.istore_n 3, 1) := by decide +kernel
theorem dj65_133_9 : decode cJ10 9 = .ok (.iload_n 3, 1) := by decide +kernel
theorem dj65_133_10 : decode cJ10 10 = .ok (.newarray .byte, 2) := by decide +kernel
theorem dj65_133_12 : decode cJ10 12 = .ok (.astore 4, 2) := by decide +kernel
theorem dj65_133_14 : decode cJ10 14 = .ok (.aload_n 0, 1) := by decide +kernel
theorem dj65_133_15 : decode cJ10 15 = .ok (.iload_n 1, 1) := by decide +kernel
theorem dj65_133_16 : decode cJ10 16 = .ok (.aload 4, 2) := by decide +kernel
theorem dj65_133_18 : decode cJ10 18 = .ok (.iconst 0, 1) := by decide +kernel
theorem dj65_133_19 : decode cJ10 19 = .ok (.aload_n 0, 1) := by decide +kernel
theorem dj65_133_20 : decode cJ10 20 = .ok (.arraylength, 1) := by decide +kernel
theorem dj65_133_21 : decode cJ10 21 = .ok (.iload_n 1, 1) := by decide +kernel
theorem dj65_133_22 : decode cJ10 22 = .ok (.isub, 1) := by decide +kernel
theorem dj65_133_23 : decode cJ10 23 = .ok (.iload_n 3, 1) := by decide +kernel
theorem pd_59 : parseMethodDescriptor "(II)I" = some ⟨[.int, .int], some .int⟩ := by decide +kernel
theorem dj65_133_24 : decode cJ10 24 = .ok (.invokestatic 304, 3) := by decide +kernel
theorem dj65_133_27 : decode cJ10 27 = .ok (.invokestatic 150, 3) := by decide +kernel
theorem dj65_133_30 : decode cJ10 30 = .ok (.aload 4, 2) := by decide +kernel
theorem dj65_133_32 : decode cJ10 32 = .ok (.areturn, 1) := by decide +kernel
def Q_corb (Z : State) (a1 : Nat) (p2 : Int32) (p3 : Int32) (i : Nat) (j : Nat) (cs : List Int32) (cap : Nat) (k : ClassId) (h0 : Heap) (v : Option Value) (h : Heap) (L : List Loc) : Prop := ∃ (x : Nat), ∃ (kx : ClassId), v = some (.ref x) ∧ Fr Z.heap.size L ∧ Keep h0 h [] ∧ Arv Z h x kx .byte (Int32.ofNat (j - i)) (own_low ((cs.drop i).take (j - i))) (.int (0 : Int32)) ∧ (h0.size ≤ x)
set_option maxRecDepth 65536 in
set_option maxHeartbeats 40000000 in
theorem rm_corb (l : Launch) (Z : State) (a0 : Array Value) (hw : ∀ d ∈ tables_1, d.before a0 Z = true) (ws : List Jvm.Cond) (a1 : Nat) (p2 : Int32) (p3 : Int32) (i : Nat) (j : Nat) (cs : List Int32) (cap : Nat) (k : ClassId) (h0 : Heap) (OL : Old Z Z.heap.size h0) (p0_ : Arv Z h0 a1 k .byte (Int32.ofNat cap) (own_low cs) (.int (0 : Int32))) (hp2 : p2 = Int32.ofNat i) (hp3 : p3 = Int32.ofNat j) (hij : i ≤ j) (hj : j ≤ cs.length) (hcs : cs.length ≤ cap) (hcap : cap ≤ 100) (hmx : j - i ≤ 34) :
    MetFree l mN32 (head1 (Jvm.Cond.code mN32 jdk_65_method_133_code 5 (some (.array .byte)) :: ws) rM7) (fun a U => a = #[(.ref a1), (.int p2), (.int p3)] ∧ Z.Warmed39 U.vm ∧ U.heap = h0) (fun _ _ _ _ _ => True) (fun _ U o U' => ∃ v L, o = .returned v ∧ Q_corb Z a1 p2 p3 i j cs cap k h0 v U'.heap L ∧ FrameEnd U o U' L rM7.cells rM7.slots) := by
  refine MetFree.of_bodySF (plainFor_of_name pn_33) hisR ?_
  intro p e s m args below meth c s₁ Bd hml0 hP hK
  obtain ⟨rfl, hZ, hh⟩ := hP
  have hx := Bd.exec
  have hby := Bd.bytes
  have hml : c.maxLocals = 5 := hml0
  have hown : s.vm.findClass "java/util/Arrays" = some m.cls := findClass_of_methodNamed Bd.named
  have hnm := (name_of_methodNamed Bd.named Bd.method).1
  have X0 : Stand p l e rM7 s m #[(.ref a1), (.int p2), (.int p3)] below meth c s₁ [] 0 0 := Stand.of_body Bd
  have e0 : s₁.heap = h0 := by rw [← hh, Bd.state]; rfl
  have N0 := Fr.nil Z.heap.size
  have Z0 : Z.heap.size ≤ h0.size := OL.2.1
  have lt_0 : @LT.lt Nat _ a1 h0.size := p0_.lt
  show oG p.tables e below (fun o tE => ∃ v L, o = .returned v ∧ Q_corb Z a1 p2 p3 i j cs cap k h0 v tE.heap L ∧ FrameEnd s o tE L rM7.cells rM7.slots) (s₁.setTop (entryFrame m #[(.ref a1), (.int p2), (.int p3)] 5))
  refine own_hd (fun PP hPP => ?_)
  refine oG.st (fun t k => castTop (ef_38 m a1 p2 p3) k) ?_
  subst hp2 hp3
  refine oG.st (fun _ k => XS.iloadN X0.here hx rfl (hb hby dj65_133_0) rfl (XS.iloadN X0.here hx rfl (hb hby dj65_133_1) rfl k)) ?_
  show oG _ _ _ _ (s₁.setTop (mkF m 2 #[.val (.ref a1), .val (.int (Int32.ofNat i)), .val (.int (Int32.ofNat j)), .unset, .unset] [(.int (Int32.ofNat j)), (.int (Int32.ofNat i))]))
  obtain ⟨_, _, ⟨T144, L144, k144, n144⟩, -, X144, ⟨Lc144, hQ144, l144, y144, z144⟩, st144⟩ := Jvm.LawKit.callS X0 hx (y := mN29) hown (own_v hZ hw 183 rfl) (own_v hZ hw 184 rfl) (own_v hZ hw 146 rfl) (own_v hZ hw 185 rfl) (by decide) (backOf (W := 0) (rm_cklen l Z a0 hw [] (Int32.ofNat i) (Int32.ofNat j) h0 OL (by rw [own_oflt (by omega) (by omega)]; omega)) hZ (own_w hw 185 rfl) (own_w hw 146 rfl) (by decide) (by decide)) (g := (mkF m 2 #[.val (.ref a1), .val (.int (Int32.ofNat i)), .val (.int (Int32.ofNat j)), .unset, .unset] [(.int (Int32.ofNat j)), (.int (Int32.ofNat i))])) rfl (by rw [hml]; rfl) (argsL := [(.int (Int32.ofNat i)), (.int (Int32.ofNat j))]) (rest := []) (lenOf pd_41 rfl) rfl (by show 2 * 0 + _ ≤ _; exact Nat.le_of_eq rfl) (hb hby dj65_133_2) (fun _ _ => ⟨rfl, e0, (by decide : 0 + 0 ≤ _), (by decide : 0 + 0 ≤ _)⟩)
  dsimp only [Pt.U, Pt.locs, Pt.cells, Pt.slots] at X144 l144 y144 z144 st144 hQ144
  subst y144 z144
  obtain ⟨rfl, N144q, K144⟩ := hQ144
  have N144 := own_FrE l144 (Fr.app N0 N144q)
  refine oG.st st144 ?_
  refine oG.st (fun _ k => XS.iloadN X144.here hx rfl (hb hby dj65_133_5) rfl (XS.iloadN X144.here hx rfl (hb hby dj65_133_6) rfl (XS.isub X144.here hx rfl (hb hby dj65_133_7) rfl k))) ?_
  show oG _ _ _ _ (T144.setTop (mkF m 8 #[.val (.ref a1), .val (.int (Int32.ofNat i)), .val (.int (Int32.ofNat j)), .unset, .unset] [(.int ((Int32.ofNat j) - (Int32.ofNat i)))]))
  rw [own_ofB (by omega) hij]
  refine oG.st (fun _ k => XS.istoreN X144.here hx rfl (hb hby dj65_133_8) rfl (l' := #[.val (.ref a1), .val (.int (Int32.ofNat i)), .val (.int (Int32.ofNat j)), .val (.int (Int32.ofNat (j - i))), .unset]) rfl (XS.iloadN X144.here hx rfl (hb hby dj65_133_9) rfl k)) ?_
  show oG _ _ _ _ (T144.setTop (mkF m 10 #[.val (.ref a1), .val (.int (Int32.ofNat i)), .val (.int (Int32.ofNat j)), .val (.int (Int32.ofNat (j - i))), .unset] [(.int (Int32.ofNat (j - i)))]))
  obtain ⟨T145, h145, k145, X145, e145, E145, A145, st145⟩ := newP X144 hx hZ (own_w hw 26 rfl) K144 (g := (mkF m 10 #[.val (.ref a1), .val (.int (Int32.ofNat i)), .val (.int (Int32.ofNat j)), .val (.int (Int32.ofNat (j - i))), .unset] [(.int (Int32.ofNat (j - i)))])) rfl (hb hby dj65_133_10) rfl (own_of0 (by omega)) (cap := 34) (by rw [own_ofn (by omega)]; exact hmx) (by decide) (by decide) (by decide)
  obtain ⟨b145, g145⟩ : ∃ z, z = h0.size := ⟨_, rfl⟩
  rw [← g145] at A145 st145
  refine oG.st st145 ?_
  have z145 : h0.size ≤ h145.size := E145.1
  have f146 : Arv Z h145 b145 k145 .byte (Int32.ofNat (j - i)) [] (.int (0 : Int32)) := Arv.new A145 (own_of0 (by omega))
  have lt_b145 : @LT.lt Nat _ b145 h145.size := f146.lt
  refine oG.st (fun _ k => XS.astore X145.here hx rfl (hb hby dj65_133_12) rfl rfl (l' := #[.val (.ref a1), .val (.int (Int32.ofNat i)), .val (.int (Int32.ofNat j)), .val (.int (Int32.ofNat (j - i))), .val (.ref b145)]) rfl (XS.aloadN X145.here hx rfl (hb hby dj65_133_14) rfl rfl (XS.iloadN X145.here hx rfl (hb hby dj65_133_15) rfl (XS.aload X145.here hx rfl (hb hby dj65_133_16) rfl rfl (XS.iconst X145.here hx rfl (hb hby dj65_133_18) k))))) ?_
  show oG _ _ _ _ (T145.setTop (mkF m 19 #[.val (.ref a1), .val (.int (Int32.ofNat i)), .val (.int (Int32.ofNat j)), .val (.int (Int32.ofNat (j - i))), .val (.ref b145)] [(.int (0 : Int32)), (.ref b145), (.int (Int32.ofNat i)), (.ref a1)]))
  refine oG.st (fun _ k => XS.aloadN X145.here hx rfl (hb hby dj65_133_19) rfl rfl k) ?_
  show oG _ _ _ _ (T145.setTop (mkF m 20 #[.val (.ref a1), .val (.int (Int32.ofNat i)), .val (.int (Int32.ofNat j)), .val (.int (Int32.ofNat (j - i))), .val (.ref b145)] [(.ref a1), (.int (0 : Int32)), (.ref b145), (.int (Int32.ofNat i)), (.ref a1)]))
  have f147 : Arv Z h145 a1 k .byte (Int32.ofNat cap) (own_low cs) (.int (0 : Int32)) := p0_.ext E145
  obtain ⟨c148, Ar148, q148, S148, Nn148, H148, G148⟩ := id f147
  refine oG.st (X145.arraylength hx (own_rwE e145 Ar148.1) (State.isArrayOf_alike hZ.alike Ar148.2.1) (g := (mkF m 20 #[.val (.ref a1), .val (.int (Int32.ofNat i)), .val (.int (Int32.ofNat j)), .val (.int (Int32.ofNat (j - i))), .val (.ref b145)] [(.ref a1), (.int (0 : Int32)), (.ref b145), (.int (Int32.ofNat i)), (.ref a1)])) rfl rfl (hb hby dj65_133_20)) ?_
  rw [len_of S148 Nn148]
  refine oG.st (fun _ k => XS.iloadN X145.here hx rfl (hb hby dj65_133_21) rfl (XS.isub X145.here hx rfl (hb hby dj65_133_22) rfl k)) ?_
  show oG _ _ _ _ (T145.setTop (mkF m 23 #[.val (.ref a1), .val (.int (Int32.ofNat i)), .val (.int (Int32.ofNat j)), .val (.int (Int32.ofNat (j - i))), .val (.ref b145)] [(.int ((Int32.ofNat cap) - (Int32.ofNat i))), (.int (0 : Int32)), (.ref b145), (.int (Int32.ofNat i)), (.ref a1)]))
  rw [own_ofB (by omega) (by omega)]
  refine oG.st (fun _ k => XS.iloadN X145.here hx rfl (hb hby dj65_133_23) rfl k) ?_
  show oG _ _ _ _ (T145.setTop (mkF m 24 #[.val (.ref a1), .val (.int (Int32.ofNat i)), .val (.int (Int32.ofNat j)), .val (.int (Int32.ofNat (j - i))), .val (.ref b145)] [(.int (Int32.ofNat (j - i))), (.int (Int32.ofNat (cap - i))), (.int (0 : Int32)), (.ref b145), (.int (Int32.ofNat i)), (.ref a1)]))
  have f150 : Old Z Z.heap.size h145 := OL.ext E145
  obtain ⟨_, _, ⟨T149, L149, k149, n149⟩, -, X149, ⟨Lc149, hQ149, l149, y149, z149⟩, st149⟩ := Jvm.LawKit.callS X145 hx (y := mN16) hown (own_v hZ hw 176 rfl) (own_v hZ hw 177 rfl) (own_v hZ hw 169 rfl) (own_v hZ hw 178 rfl) (by decide) (backOf (W := 4) (rm_mmin l Z a0 hw [] (Int32.ofNat (cap - i)) (Int32.ofNat (j - i)) h145 f150 ) hZ (own_w hw 178 rfl) (own_w hw 169 rfl) (by decide) (by decide)) (g := (mkF m 24 #[.val (.ref a1), .val (.int (Int32.ofNat i)), .val (.int (Int32.ofNat j)), .val (.int (Int32.ofNat (j - i))), .val (.ref b145)] [(.int (Int32.ofNat (j - i))), (.int (Int32.ofNat (cap - i))), (.int (0 : Int32)), (.ref b145), (.int (Int32.ofNat i)), (.ref a1)])) rfl (by rw [hml]; rfl) (argsL := [(.int (Int32.ofNat (cap - i))), (.int (Int32.ofNat (j - i)))]) (rest := [(.int (0 : Int32)), (.ref b145), (.int (Int32.ofNat i)), (.ref a1)]) (lenOf pd_59 rfl) rfl (by show 2 * 0 + _ ≤ _; exact Nat.le_of_eq rfl) (hb hby dj65_133_24) (fun _ _ => ⟨rfl, e145, (by decide : 1 + 0 ≤ _), (by decide : 34 + 0 ≤ _)⟩)
  dsimp only [Pt.U, Pt.locs, Pt.cells, Pt.slots] at X149 l149 y149 z149 st149 hQ149
  subst y149 z149
  obtain ⟨rfl, N149q, K149⟩ := hQ149
  have N149 := own_FrE l149 (Fr.app N144 N149q)
  refine oG.st st149 ?_
  show oG _ _ _ _ (T149.setTop (mkF m 27 #[.val (.ref a1), .val (.int (Int32.ofNat i)), .val (.int (Int32.ofNat j)), .val (.int (Int32.ofNat (j - i))), .val (.ref b145)] [(.int (if (Int32.ofNat (j - i)) < (Int32.ofNat (cap - i)) then (Int32.ofNat (j - i)) else (Int32.ofNat (cap - i)))), (.int (0 : Int32)), (.ref b145), (.int (Int32.ofNat i)), (.ref a1)]))
  rw [own_min (by omega) (by omega)]
  show oG _ _ _ _ (T149.setTop (mkF m 27 #[.val (.ref a1), .val (.int (Int32.ofNat i)), .val (.int (Int32.ofNat j)), .val (.int (Int32.ofNat (j - i))), .val (.ref b145)] [(.int (Int32.ofNat (j - i))), (.int (0 : Int32)), (.ref b145), (.int (Int32.ofNat i)), (.ref a1)]))
  have f151 : Arv Z h145 b145 k145 .byte (Int32.ofNat (j - i)) (List.replicate (j - i) (Value.int (0 : Int32))) (.int (0 : Int32)) := f146.pad (pad_rep [] _ _)
  obtain ⟨T152, h152, L152, X152, e152, N152, K152, V152, st152⟩ := cpA (us := (own_low ((cs.drop i).take (j - i)))) X149 hx hZ hown (own_w hw 179 rfl) (own_w hw 112 rfl) (own_w hw 110 rfl) (own_w hw 111 rfl) K149 f147 f151 (Or.inl ⟨rfl, rfl⟩) (own_of0 (by omega)) (by decide) (own_of0 (by omega)) (by rw [own_ofn (by omega), own_ofn (by omega), own_ofn (by omega)]; omega) (by rw [own_ofn (by omega)]; have : (0 : Int32).toNatClampNeg = 0 := (by decide); omega) (own_usR cs hij hj (by omega)) (by rw [own_ofn (by omega)]; have : (0 : Int32).toNatClampNeg = 0 := (by decide); rw [List.length_replicate]; omega) N149 (by omega) (g := (mkF m 27 #[.val (.ref a1), .val (.int (Int32.ofNat i)), .val (.int (Int32.ofNat j)), .val (.int (Int32.ofNat (j - i))), .val (.ref b145)] [(.int (Int32.ofNat (j - i))), (.int (0 : Int32)), (.ref b145), (.int (Int32.ofNat i)), (.ref a1)])) rfl (by rw [hml]; rfl) rfl (hb hby dj65_133_27) (by decide) (W := 0) (by show 2 * 0 + _ ≤ _; exact Nat.le_of_eq rfl) (by decide)
  refine oG.st st152 ?_
  have z152 : h145.size ≤ h152.size := K152.1
  have f153 : Arv Z h152 b145 k145 .byte (Int32.ofNat (j - i)) (own_low ((cs.drop i).take (j - i))) (.int (0 : Int32)) := own_takeV V152 (by omega)
  refine oG.st (fun _ k => XS.aload X152.here hx rfl (hb hby dj65_133_30) rfl rfl k) ?_
  show oG _ _ _ _ (T152.setTop (mkF m 32 #[.val (.ref a1), .val (.int (Int32.ofNat i)), .val (.int (Int32.ofNat j)), .val (.int (Int32.ofNat (j - i))), .val (.ref b145)] [(.ref b145)]))
  obtain ⟨fs154, hr154, hrun154, hend154, hW154, hsm154⟩ := X152.leave (v := some (.ref b145)) (fun h => by rw [Bd.returns] at h; cases h)
  have K155 : Keep h0 h145 [] := (Keep.refl h0 []).ext E145
  have gz156 : h0.size ≤ b145 := by omega
  have K157 : Keep h0 h152 [] := K155.trans K152 (allS (Or.inr gz156) all0)
  subst hPP
  refine ⟨_, _, own_retA X152 hx Bd.returns rfl rfl (hb hby dj65_133_32) hr154, hrun154, hend154, _, _, rfl, ?_, ⟨_, rfl⟩, hW154, hsm154.mono (by decide) (by decide)⟩
  · show Q_corb Z _ _ _ _ _ _ _ _ h0 _ T152.heap _
    rw [e152]
    exact ⟨b145, k145, rfl, N152, K157, f153, (by omega)⟩
theorem ef_64 (m : MethodId) (x0 : Nat) (x1 : Int32) (x2 : Int32) : entryFrame m #[(.ref x0), (.int x1), (.int x2)] 3 = mkF m 0 #[.val (.ref x0), .val (.int x1), .val (.int x2)] [] := by first | (simp [entryFrame, mkF, argsToLocals, Value.category]; done) | rfl
theorem dj65_132_0 : decode cJ9 0 = .ok (.iload_n 1, 1) := by decide +kernel
theorem dj65_132_1 : decode cJ9 1 = .ok (.ifCond .ne 9, 3) := by decide +kernel
theorem dj65_132_4 : decode cJ9 4 = .ok (.iload_n 2, 1) := by decide +kernel
theorem dj65_132_5 : decode cJ9 5 = .ok (.aload_n 0, 1) := by decide +kernel
theorem dj65_132_6 : decode cJ9 6 = .ok (.arraylength, 1) := by decide +kernel
theorem dj65_132_7 : decode cJ9 7 = .ok (.if_icmp .eq 10, 3) := by decide +kernel
theorem dj65_132_17 : decode cJ9 17 = .ok (.aload_n 0, 1) := by decide +kernel
theorem dj65_132_18 : decode cJ9 18 = .ok (.invokevirtual 310, 3) := by decide +kernel
theorem dj65_132_21 : decode cJ9 21 = .ok (.checkcast 311, 3) := by decide +kernel
theorem dj65_132_24 : decode cJ9 24 = .ok (.areturn, 1) := by decide +kernel
theorem dj65_132_10 : decode cJ9 10 = .ok (.aload_n 0, 1) := by decide +kernel
theorem dj65_132_11 : decode cJ9 11 = .ok (.iload_n 1, 1) := by decide +kernel
theorem dj65_132_12 : decode cJ9 12 = .ok (.iload_n 2, 1) := by decide +kernel
theorem pd_78 : parseMethodDescriptor "([BII)[B" = some ⟨[(.array .byte), .int, .int], some (.array .byte)⟩ := by decide +kernel
theorem dj65_132_13 : decode cJ9 13 = .ok (.invokestatic 339, 3) := by decide +kernel
theorem dj65_132_16 : decode cJ9 16 = .ok (.areturn, 1) := by decide +kernel
def Q_cor (Z : State) (a1 : Nat) (p2 : Int32) (p3 : Int32) (i : Nat) (j : Nat) (cs : List Int32) (cap : Nat) (k : ClassId) (h0 : Heap) (v : Option Value) (h : Heap) (L : List Loc) : Prop := ∃ (x : Nat), ∃ (kx : ClassId), v = some (.ref x) ∧ Fr Z.heap.size L ∧ Keep h0 h [] ∧ Arv Z h x kx .byte (Int32.ofNat (j - i)) (own_low ((cs.drop i).take (j - i))) (.int (0 : Int32)) ∧ (h0.size ≤ x)
set_option maxRecDepth 65536 in
set_option maxHeartbeats 40000000 in
theorem rm_cor (l : Launch) (Z : State) (a0 : Array Value) (hw : ∀ d ∈ tables_1, d.before a0 Z = true) (ws : List Jvm.Cond) (a1 : Nat) (p2 : Int32) (p3 : Int32) (i : Nat) (j : Nat) (cs : List Int32) (cap : Nat) (k : ClassId) (h0 : Heap) (OL : Old Z Z.heap.size h0) (p0_ : Arv Z h0 a1 k .byte (Int32.ofNat cap) (own_low cs) (.int (0 : Int32))) (hp2 : p2 = Int32.ofNat i) (hp3 : p3 = Int32.ofNat j) (hij : i ≤ j) (hj : j ≤ cs.length) (hcs : cs.length ≤ cap) (hcap : cap ≤ 100) (hmx : j - i ≤ 34) (hkb : Z.vm.findClass "[B" = some k) :
    MetFree l mN31 (head1 (Jvm.Cond.code mN31 jdk_65_method_132_code 3 (some (.array .byte)) :: ws) rM12) (fun a U => a = #[(.ref a1), (.int p2), (.int p3)] ∧ Z.Warmed39 U.vm ∧ U.heap = h0) (fun _ _ _ _ _ => True) (fun _ U o U' => ∃ v L, o = .returned v ∧ Q_cor Z a1 p2 p3 i j cs cap k h0 v U'.heap L ∧ FrameEnd U o U' L rM12.cells rM12.slots) := by
  refine MetFree.of_bodySF (plainFor_of_name pn_33) hisR ?_
  intro p e s m args below meth c s₁ Bd hml0 hP hK
  obtain ⟨rfl, hZ, hh⟩ := hP
  have hx := Bd.exec
  have hby := Bd.bytes
  have hml : c.maxLocals = 3 := hml0
  have hown : s.vm.findClass "java/util/Arrays" = some m.cls := findClass_of_methodNamed Bd.named
  have hnm := (name_of_methodNamed Bd.named Bd.method).1
  have X0 : Stand p l e rM12 s m #[(.ref a1), (.int p2), (.int p3)] below meth c s₁ [] 0 0 := Stand.of_body Bd
  have e0 : s₁.heap = h0 := by rw [← hh, Bd.state]; rfl
  have N0 := Fr.nil Z.heap.size
  have Z0 : Z.heap.size ≤ h0.size := OL.2.1
  have lt_0 : @LT.lt Nat _ a1 h0.size := p0_.lt
  show oG p.tables e below (fun o tE => ∃ v L, o = .returned v ∧ Q_cor Z a1 p2 p3 i j cs cap k h0 v tE.heap L ∧ FrameEnd s o tE L rM12.cells rM12.slots) (s₁.setTop (entryFrame m #[(.ref a1), (.int p2), (.int p3)] 3))
  refine own_hd (fun PP hPP => ?_)
  refine oG.st (fun t k => castTop (ef_64 m a1 p2 p3) k) ?_
  subst hp2 hp3
  refine oG.st (fun _ k => XS.iloadN X0.here hx rfl (hb hby dj65_132_0) rfl k) ?_
  show oG _ _ _ _ (s₁.setTop (mkF m 1 #[.val (.ref a1), .val (.int (Int32.ofNat i)), .val (.int (Int32.ofNat j))] [(.int (Int32.ofNat i))]))
  by_cases h1 : (Int32.ofNat i) = (0 : Int32)
  ·
    refine oG.st (fun _ k => XS.ifNo X0.here hx rfl (hb hby dj65_132_1) rfl ((if0 _ _).trans (teq h1).2) k) ?_
    refine oG.st (fun _ k => XS.iloadN X0.here hx rfl (hb hby dj65_132_4) rfl (XS.aloadN X0.here hx rfl (hb hby dj65_132_5) rfl rfl k)) ?_
    show oG _ _ _ _ (s₁.setTop (mkF m 6 #[.val (.ref a1), .val (.int (Int32.ofNat i)), .val (.int (Int32.ofNat j))] [(.ref a1), (.int (Int32.ofNat j))]))
    obtain ⟨c158, Ar158, q158, S158, Nn158, H158, G158⟩ := id p0_
    refine oG.st (X0.arraylength hx (own_rwE e0 Ar158.1) (State.isArrayOf_alike hZ.alike Ar158.2.1) (g := (mkF m 6 #[.val (.ref a1), .val (.int (Int32.ofNat i)), .val (.int (Int32.ofNat j))] [(.ref a1), (.int (Int32.ofNat j))])) rfl rfl (hb hby dj65_132_6)) ?_
    rw [len_of S158 Nn158]
    show oG _ _ _ _ (s₁.setTop (mkF m 7 #[.val (.ref a1), .val (.int (Int32.ofNat i)), .val (.int (Int32.ofNat j))] [(.int (Int32.ofNat cap)), (.int (Int32.ofNat j))]))
    by_cases h7 : (Int32.ofNat j) = (Int32.ofNat cap)
    ·
      refine oG.st (fun _ k => XS.icmpYes X0.here hx rfl (pc0 := 7) (pc' := 17) rfl (hb hby dj65_132_7) rfl (teq h7).1 (by decide) (by decide) k) ?_
      refine oG.st (fun _ k => XS.aloadN X0.here hx rfl (hb hby dj65_132_17) rfl rfl k) ?_
      show oG _ _ _ _ (s₁.setTop (mkF m 18 #[.val (.ref a1), .val (.int (Int32.ofNat i)), .val (.int (Int32.ofNat j))] [(.ref a1)]))
      obtain ⟨c159, Ar159, q159, S159, Nn159, H159, G159⟩ := id p0_
      obtain ⟨T159, h159, X159, e159, E159, A159, Ex159, st159⟩ := cloneA X0 hx hZ hown (own_w hw 148 rfl) (own_w hw 149 rfl) (own_w hw 153 rfl) (own_w hw 151 rfl) (own_w hw 152 rfl) (own_w hw 154 rfl) e0 Ar159 (own_exaB Ar159 q159 hkb) (own_fitC Ar159 H159 G159) (g := (mkF m 18 #[.val (.ref a1), .val (.int (Int32.ofNat i)), .val (.int (Int32.ofNat j))] [(.ref a1)])) rfl (by rw [hml]; rfl) rfl (hb hby dj65_132_18) (by decide) (W := 0) (by show 2 * 0 + _ ≤ _; exact Nat.le_of_eq rfl) (by decide) (cap := 34) (by rw [S159]; exact (by rw [own_ofn (by omega)]; have := (own_ofE (by omega) (by omega)).mp h7; have := (own_ofE (j := 0) (by omega) (by omega)).mp h1; omega)) (by decide) (by decide)
      obtain ⟨b159, g159⟩ : ∃ z, z = h0.size := ⟨_, rfl⟩
      rw [← g159] at A159 Ex159 st159
      refine oG.st st159 ?_
      have z159 : h0.size ≤ h159.size := E159.1
      have f160 : Arv Z h159 b159 k .byte (Int32.ofNat cap) (own_low cs) (.int (0 : Int32)) := ⟨_, A159, q159, S159, Nn159, H159, G159⟩
      have lt_b159 : @LT.lt Nat _ b159 h159.size := f160.lt
      show oG _ _ _ _ (T159.setTop (mkF m 21 #[.val (.ref a1), .val (.int (Int32.ofNat i)), .val (.int (Int32.ofNat j))] [(.ref b159)]))
      obtain ⟨T161, X161, e161, st161⟩ := castY X159 hx hZ hown (own_w hw 155 rfl) e159 (Ins.self Ex159) (g := (mkF m 21 #[.val (.ref a1), .val (.int (Int32.ofNat i)), .val (.int (Int32.ofNat j))] [(.ref b159)])) rfl rfl (hb hby dj65_132_21)
      refine oG.st st161 ?_
      show oG _ _ _ _ (T161.setTop (mkF m 24 #[.val (.ref a1), .val (.int (Int32.ofNat i)), .val (.int (Int32.ofNat j))] [(.ref b159)]))
      obtain ⟨fs162, hr162, hrun162, hend162, hW162, hsm162⟩ := X161.leave (v := some (.ref b159)) (fun h => by rw [Bd.returns] at h; cases h)
      have f163 : Arv Z h159 b159 k .byte (Int32.ofNat (j - i)) (own_low ((cs.drop i).take (j - i))) (.int (0 : Int32)) := by
        have q := f160
        have e1 := (own_ofE (by omega) (by omega)).mp h7
        have e2 : i = 0 := (own_ofE (j := 0) (by omega) (by omega)).mp h1
        rw [e2, Nat.sub_zero, List.drop_zero, List.take_of_length_le (by omega), e1]
        exact q
      have K164 : Keep h0 h159 [] := (Keep.refl h0 []).ext E159
      subst hPP
      refine ⟨_, _, own_retA X161 hx Bd.returns rfl rfl (hb hby dj65_132_24) hr162, hrun162, hend162, _, _, rfl, ?_, ⟨_, rfl⟩, hW162, hsm162.mono (by decide) (by decide)⟩
      · show Q_cor Z _ _ _ _ _ _ _ _ h0 _ T161.heap _
        rw [e161]
        exact ⟨b159, k, rfl, N0, K164, f163, (by omega)⟩
    ·
      refine oG.st (fun _ k => XS.icmpNo X0.here hx rfl (hb hby dj65_132_7) rfl (feq h7).1 k) ?_
      refine oG.st (fun _ k => XS.aloadN X0.here hx rfl (hb hby dj65_132_10) rfl rfl (XS.iloadN X0.here hx rfl (hb hby dj65_132_11) rfl (XS.iloadN X0.here hx rfl (hb hby dj65_132_12) rfl k))) ?_
      show oG _ _ _ _ (s₁.setTop (mkF m 13 #[.val (.ref a1), .val (.int (Int32.ofNat i)), .val (.int (Int32.ofNat j))] [(.int (Int32.ofNat j)), (.int (Int32.ofNat i)), (.ref a1)]))
      obtain ⟨_, _, ⟨T165, L165, k165, n165⟩, -, X165, ⟨Lc165, hQ165, l165, y165, z165⟩, st165⟩ := Jvm.LawKit.callS X0 hx (y := mN32) hown (own_v hZ hw 180 rfl) (own_v hZ hw 181 rfl) (own_v hZ hw 146 rfl) (own_v hZ hw 182 rfl) (by decide) (backOf (W := 0) (rm_corb l Z a0 hw [] a1 (Int32.ofNat i) (Int32.ofNat j) i j cs cap k h0 OL p0_ rfl rfl hij hj hcs hcap hmx) hZ (own_w hw 182 rfl) (own_w hw 146 rfl) (by decide) (by decide)) (g := (mkF m 13 #[.val (.ref a1), .val (.int (Int32.ofNat i)), .val (.int (Int32.ofNat j))] [(.int (Int32.ofNat j)), (.int (Int32.ofNat i)), (.ref a1)])) rfl (by rw [hml]; rfl) (argsL := [(.ref a1), (.int (Int32.ofNat i)), (.int (Int32.ofNat j))]) (rest := []) (lenOf pd_78 rfl) rfl (by show 2 * 0 + _ ≤ _; exact Nat.le_of_eq rfl) (hb hby dj65_132_13) (fun _ _ => ⟨rfl, e0, (by decide : 0 + 1 ≤ _), (by decide : 0 + 34 ≤ _)⟩)
      dsimp only [Pt.U, Pt.locs, Pt.cells, Pt.slots] at X165 l165 y165 z165 st165 hQ165
      subst y165 z165
      obtain ⟨x_165, kx_165, rfl, N165q, K165, f165_0, pr165_0⟩ := hQ165
      have N165 := own_FrE l165 (Fr.app N0 N165q)
      have z165 : h0.size ≤ T165.heap.size := K165.1
      have lt165_0 : @LT.lt Nat _ x_165 T165.heap.size := f165_0.lt
      refine oG.st st165 ?_
      show oG _ _ _ _ (T165.setTop (mkF m 16 #[.val (.ref a1), .val (.int (Int32.ofNat i)), .val (.int (Int32.ofNat j))] [(.ref x_165)]))
      obtain ⟨fs166, hr166, hrun166, hend166, hW166, hsm166⟩ := X165.leave (v := some (.ref x_165)) (fun h => by rw [Bd.returns] at h; cases h)
      have K167 : Keep h0 T165.heap [] := (Keep.refl h0 []).trans K165 all0
      subst hPP
      refine ⟨_, _, own_retA X165 hx Bd.returns rfl rfl (hb hby dj65_132_16) hr166, hrun166, hend166, _, _, rfl, ?_, ⟨_, rfl⟩, hW166, hsm166.mono (by decide) (by decide)⟩
      · show Q_cor Z _ _ _ _ _ _ _ _ h0 _ T165.heap _
        exact ⟨x_165, kx_165, rfl, N165, K167, f165_0, (by omega)⟩
  ·
    refine oG.st (fun _ k => XS.ifYes X0.here hx rfl (pc0 := 1) (pc' := 10) rfl (hb hby dj65_132_1) rfl ((if0 _ _).trans (feq h1).2) (by decide) (by decide) k) ?_
    refine oG.st (fun _ k => XS.aloadN X0.here hx rfl (hb hby dj65_132_10) rfl rfl (XS.iloadN X0.here hx rfl (hb hby dj65_132_11) rfl (XS.iloadN X0.here hx rfl (hb hby dj65_132_12) rfl k))) ?_
    show oG _ _ _ _ (s₁.setTop (mkF m 13 #[.val (.ref a1), .val (.int (Int32.ofNat i)), .val (.int (Int32.ofNat j))] [(.int (Int32.ofNat j)), (.int (Int32.ofNat i)), (.ref a1)]))
    obtain ⟨_, _, ⟨T168, L168, k168, n168⟩, -, X168, ⟨Lc168, hQ168, l168, y168, z168⟩, st168⟩ := Jvm.LawKit.callS X0 hx (y := mN32) hown (own_v hZ hw 180 rfl) (own_v hZ hw 181 rfl) (own_v hZ hw 146 rfl) (own_v hZ hw 182 rfl) (by decide) (backOf (W := 0) (rm_corb l Z a0 hw [] a1 (Int32.ofNat i) (Int32.ofNat j) i j cs cap k h0 OL p0_ rfl rfl hij hj hcs hcap hmx) hZ (own_w hw 182 rfl) (own_w hw 146 rfl) (by decide) (by decide)) (g := (mkF m 13 #[.val (.ref a1), .val (.int (Int32.ofNat i)), .val (.int (Int32.ofNat j))] [(.int (Int32.ofNat j)), (.int (Int32.ofNat i)), (.ref a1)])) rfl (by rw [hml]; rfl) (argsL := [(.ref a1), (.int (Int32.ofNat i)), (.int (Int32.ofNat j))]) (rest := []) (lenOf pd_78 rfl) rfl (by show 2 * 0 + _ ≤ _; exact Nat.le_of_eq rfl) (hb hby dj65_132_13) (fun _ _ => ⟨rfl, e0, (by decide : 0 + 1 ≤ _), (by decide : 0 + 34 ≤ _)⟩)
    dsimp only [Pt.U, Pt.locs, Pt.cells, Pt.slots] at X168 l168 y168 z168 st168 hQ168
    subst y168 z168
    obtain ⟨x_168, kx_168, rfl, N168q, K168, f168_0, pr168_0⟩ := hQ168
    have N168 := own_FrE l168 (Fr.app N0 N168q)
    have z168 : h0.size ≤ T168.heap.size := K168.1
    have lt168_0 : @LT.lt Nat _ x_168 T168.heap.size := f168_0.lt
    refine oG.st st168 ?_
    show oG _ _ _ _ (T168.setTop (mkF m 16 #[.val (.ref a1), .val (.int (Int32.ofNat i)), .val (.int (Int32.ofNat j))] [(.ref x_168)]))
    obtain ⟨fs169, hr169, hrun169, hend169, hW169, hsm169⟩ := X168.leave (v := some (.ref x_168)) (fun h => by rw [Bd.returns] at h; cases h)
    have K170 : Keep h0 T168.heap [] := (Keep.refl h0 []).trans K168 all0
    subst hPP
    refine ⟨_, _, own_retA X168 hx Bd.returns rfl rfl (hb hby dj65_132_16) hr169, hrun169, hend169, _, _, rfl, ?_, ⟨_, rfl⟩, hW169, hsm169.mono (by decide) (by decide)⟩
    · show Q_cor Z _ _ _ _ _ _ _ _ h0 _ T168.heap _
      exact ⟨x_168, kx_168, rfl, N168, K170, f168_0, (by omega)⟩
theorem pn_81 : plainName "java/lang/AbstractStringBuilder" = true := by first | (simp [plainName, overriddenIn]; done) | decide +kernel
theorem ef_82 (m : MethodId) (x0 : Nat) (x1 : Int32) : entryFrame m #[(.ref x0), (.int x1)] 2 = mkF m 0 #[.val (.ref x0), .val (.int x1)] [] := by first | (simp [entryFrame, mkF, argsToLocals, Value.category]; done) | rfl
theorem dj68_2_0 : decode cJ14 0 = .ok (.aload_n 0, 1) := by decide +kernel
theorem dj68_2_1 : decode cJ14 1 = .ok (.invokespecial 3, 3) := by decide +kernel
theorem dj68_2_4 : decode cJ14 4 = .ok (.getstatic 18, 3) := by decide +kernel
theorem dj68_2_7 : decode cJ14 7 = .ok (.ifCond .eq 18, 3) := by decide +kernel
theorem dj68_2_10 : decode cJ14 10 = .ok (.aload_n 0, 1) := by decide +kernel
theorem dj68_2_11 : decode cJ14 11 = .ok (.iload_n 1, 1) := by decide +kernel
theorem dj68_2_12 : decode cJ14 12 = .ok (.newarray .byte, 2) := by decide +kernel
theorem dj68_2_14 : decode cJ14 14 = .ok (.putfield 15, 3) := by decide +kernel
theorem dj68_2_17 : decode cJ14 17 = .ok (.aload_n 0, 1) := by decide +kernel
theorem dj68_2_18 : decode cJ14 18 = .ok (.iconst 0, 1) := by decide +kernel
theorem dj68_2_19 : decode cJ14 19 = .ok (.putfield 22, 3) := by decide +kernel
theorem dj68_2_22 : decode cJ14 22 = .ok (.goto 16, 3) := by decide +kernel
theorem dj68_2_38 : decode cJ14 38 = .ok (.return_, 1) := by decide +kernel
def Q_asbinit (Z : State) (a1 : Nat) (zc : Int32) (h0 : Heap) (v : Option Value) (h : Heap) (L : List Loc) : Prop := ∃ (a3 : Nat), ∃ (k : ClassId), v = none ∧ Fr Z.heap.size L ∧ Keep h0 h [a1] ∧ Exa Z h a1 "java/lang/StringBuilder" ∧ Fld Z h a1 "java/lang/AbstractStringBuilder" "value" "[B" (.ref a3) ∧ Fld Z h a1 "java/lang/AbstractStringBuilder" "coder" "B" (.int (0 : Int32)) ∧ Fld Z h a1 "java/lang/AbstractStringBuilder" "count" "I" (.int (0 : Int32)) ∧ Arv Z h a3 k .byte (Int32.ofNat 16) (own_low ([] : List Int32)) (.int (0 : Int32)) ∧ (h0.size ≤ a3) ∧ (Z.vm.findClass "[B" = some k)
set_option maxRecDepth 65536 in
set_option maxHeartbeats 40000000 in
theorem rm_asbinit (l : Launch) (Z : State) (a0 : Array Value) (hw : ∀ d ∈ tables_1, d.before a0 Z = true) (ws : List Jvm.Cond) (a1 : Nat) (zc : Int32) (h0 : Heap) (OL : Old Z Z.heap.size h0) (p0_ : Exa Z h0 a1 "java/lang/StringBuilder") (p1_ : Fld Z h0 a1 "java/lang/AbstractStringBuilder" "value" "[B" .null) (p2_ : Fld Z h0 a1 "java/lang/AbstractStringBuilder" "coder" "B" (.int (0 : Int32))) (p3_ : Fld Z h0 a1 "java/lang/AbstractStringBuilder" "count" "I" (.int (0 : Int32))) (st_C : Sta Z Z.heap "java/lang/String" "COMPACT_STRINGS" "Z" (.int zc)) (hzc : ¬ zc = 0) (hn0 : Z.heap.size ≤ a1) :
    MetFree l mN6 (head1 (Jvm.Cond.code mN6 jdk_68_method_2_code 2 none :: ws) rM6) (fun a U => a = #[(.ref a1), (.int (16 : Int32))] ∧ Z.Warmed39 U.vm ∧ U.heap = h0) (fun _ _ _ _ _ => True) (fun _ U o U' => ∃ v L, o = .returned v ∧ Q_asbinit Z a1 zc h0 v U'.heap L ∧ FrameEnd U o U' L rM6.cells rM6.slots) := by
  refine MetFree.of_bodySF (plainFor_of_name pn_81) hisR ?_
  intro p e s m args below meth c s₁ Bd hml0 hP hK
  obtain ⟨rfl, hZ, hh⟩ := hP
  have hx := Bd.exec
  have hby := Bd.bytes
  have hml : c.maxLocals = 2 := hml0
  have hown : s.vm.findClass "java/lang/AbstractStringBuilder" = some m.cls := findClass_of_methodNamed Bd.named
  have hnm := (name_of_methodNamed Bd.named Bd.method).1
  have X0 : Stand p l e rM6 s m #[(.ref a1), (.int (16 : Int32))] below meth c s₁ [] 0 0 := Stand.of_body Bd
  have e0 : s₁.heap = h0 := by rw [← hh, Bd.state]; rfl
  have N0 := Fr.nil Z.heap.size
  have Z0 : Z.heap.size ≤ h0.size := OL.2.1
  have lt_0 : @LT.lt Nat _ a1 h0.size := p0_.lt
  have lt_1 : @LT.lt Nat _ a1 h0.size := p1_.lt
  have lt_2 : @LT.lt Nat _ a1 h0.size := p2_.lt
  have lt_3 : @LT.lt Nat _ a1 h0.size := p3_.lt
  show oG p.tables e below (fun o tE => ∃ v L, o = .returned v ∧ Q_asbinit Z a1 zc h0 v tE.heap L ∧ FrameEnd s o tE L rM6.cells rM6.slots) (s₁.setTop (entryFrame m #[(.ref a1), (.int (16 : Int32))] 2))
  refine own_hd (fun PP hPP => ?_)
  refine oG.st (fun t k => castTop (ef_82 m a1 (16 : Int32)) k) ?_
  refine oG.st (fun _ k => XS.aloadN X0.here hx rfl (hb hby dj68_2_0) rfl rfl k) ?_
  show oG _ _ _ _ (s₁.setTop (mkF m 1 #[.val (.ref a1), .val (.int (16 : Int32))] [(.ref a1)]))
  obtain ⟨T171, X171, e171, st171⟩ := initO X0 hx hZ hown (own_w hw 56 rfl) (own_w hw 19 rfl) (own_w hw 20 rfl) e0 (g := (mkF m 1 #[.val (.ref a1), .val (.int (16 : Int32))] [(.ref a1)])) rfl (by rw [hml]; rfl) rfl (hb hby dj68_2_1) (by decide) (W := 0) (by show 2 * 0 + _ ≤ _; exact Nat.le_of_eq rfl) (by decide)
  refine oG.st st171 ?_
  show oG _ _ _ _ (T171.setTop (mkF m 4 #[.val (.ref a1), .val (.int (16 : Int32))] []))
  obtain ⟨T172, X172, e172, st172⟩ := getS2 X171 hx hZ hown (host := "") (Or.inl (own_w hw 57 rfl)) Via.refl e171 (st_C.ext OL.2) (g := (mkF m 4 #[.val (.ref a1), .val (.int (16 : Int32))] [])) rfl (hb hby dj68_2_4)
  refine oG.st st172 ?_
  show oG _ _ _ _ (T172.setTop (mkF m 7 #[.val (.ref a1), .val (.int (16 : Int32))] [(.int zc)]))
  have hc173 : ¬ (zc = (0 : Int32)) := hzc
  refine oG.st (fun _ k => XS.ifNo X172.here hx rfl (hb hby dj68_2_7) rfl ((if0 _ _).trans (feq hc173).1) k) ?_
  refine oG.st (fun _ k => XS.aloadN X172.here hx rfl (hb hby dj68_2_10) rfl rfl (XS.iloadN X172.here hx rfl (hb hby dj68_2_11) rfl k)) ?_
  show oG _ _ _ _ (T172.setTop (mkF m 12 #[.val (.ref a1), .val (.int (16 : Int32))] [(.int (16 : Int32)), (.ref a1)]))
  obtain ⟨T174, h174, k174, X174, e174, E174, A174, kn174, st174⟩ := own_newB X172 hx hZ (own_w hw 26 rfl) e172 (g := (mkF m 12 #[.val (.ref a1), .val (.int (16 : Int32))] [(.int (16 : Int32)), (.ref a1)])) rfl (hb hby dj68_2_12) rfl (by decide) (cap := 16) (by decide) (by decide) (by decide) (by decide)
  obtain ⟨b174, g174⟩ : ∃ z, z = h0.size := ⟨_, rfl⟩
  rw [← g174] at A174 st174
  refine oG.st st174 ?_
  have z174 : h0.size ≤ h174.size := E174.1
  have f175 : Arv Z h174 b174 k174 .byte (16 : Int32) [] (.int (0 : Int32)) := Arv.new A174 (by decide)
  have lt_b174 : @LT.lt Nat _ b174 h174.size := f175.lt
  show oG _ _ _ _ (T174.setTop (mkF m 14 #[.val (.ref a1), .val (.int (16 : Int32))] [(.ref b174), (.ref a1)]))
  have f176 : Fld Z h174 a1 "java/lang/AbstractStringBuilder" "value" "[B" .null := p1_.ext E174
  have f177 : Exa Z h174 a1 "java/lang/StringBuilder" := p0_.ext E174
  obtain ⟨T178, h178, X178, e178, W178, st178⟩ := putF X174 hx hZ hown (host := "") (Or.inl (own_w hw 58 rfl)) Via.refl e174 f176 f177 (Or.inl (own_w hw 59 rfl)) (own_w hw 45 rfl) (ty := (.array .byte)) (by decide) rfl rfl (g := (mkF m 14 #[.val (.ref a1), .val (.int (16 : Int32))] [(.ref b174), (.ref a1)])) rfl rfl (hb hby dj68_2_14)
  refine oG.st st178 ?_
  have gz179 : Z.heap.size ≤ a1 := by omega
  have N178 := Fr.snoc X178 N0 gz179
  have z178 : h174.size ≤ h178.size := Nat.le_of_eq W178.size.symm
  have f180 : Fld Z h178 a1 "java/lang/AbstractStringBuilder" "value" "[B" (.ref b174) := f176.same W178
  refine oG.st (fun _ k => XS.aloadN X178.here hx rfl (hb hby dj68_2_17) rfl rfl (XS.iconst X178.here hx rfl (hb hby dj68_2_18) k)) ?_
  show oG _ _ _ _ (T178.setTop (mkF m 19 #[.val (.ref a1), .val (.int (16 : Int32))] [(.int (0 : Int32)), (.ref a1)]))
  have f181 : Fld Z h174 a1 "java/lang/AbstractStringBuilder" "coder" "B" (.int (0 : Int32)) := p2_.ext E174
  have f182 : Fld Z h178 a1 "java/lang/AbstractStringBuilder" "coder" "B" (.int (0 : Int32)) := f181.other W178 (Or.inr (slot_ne (Or.inl (own_w hw 61 rfl)) (Or.inl (own_w hw 59 rfl)) (by decide) (t := .byte) (t' := (.array .byte)) (by decide) (by decide)))
  have f183 : Exa Z h178 a1 "java/lang/StringBuilder" := f177.wr W178
  obtain ⟨T184, h184, X184, e184, W184, st184⟩ := putF X178 hx hZ hown (host := "") (Or.inl (own_w hw 60 rfl)) Via.refl e178 f182 f183 (Or.inl (own_w hw 61 rfl)) (own_w hw 45 rfl) (ty := .byte) (by decide) rfl (by decide) (g := (mkF m 19 #[.val (.ref a1), .val (.int (16 : Int32))] [(.int (0 : Int32)), (.ref a1)])) rfl rfl (hb hby dj68_2_19)
  refine oG.st st184 ?_
  have N184 := Fr.snoc X184 N178 gz179
  have z184 : h178.size ≤ h184.size := Nat.le_of_eq W184.size.symm
  have f185 : Fld Z h184 a1 "java/lang/AbstractStringBuilder" "coder" "B" (.int (0 : Int32)) := f182.same W184
  refine oG.st (fun _ k => XS.goto X184.here hx rfl (pc0 := 22) (pc' := 38) rfl (hb hby dj68_2_22) (by decide) (by decide) k) ?_
  show oG _ _ _ _ (T184.setTop (mkF m 38 #[.val (.ref a1), .val (.int (16 : Int32))] []))
  obtain ⟨fs186, hr186, hrun186, hend186, hW186, hsm186⟩ := X184.leave (v := none) (fun _ => rfl)
  have f187 : Fld Z h184 a1 "java/lang/AbstractStringBuilder" "value" "[B" (.ref b174) := f180.other W184 (Or.inr (slot_ne (Or.inl (own_w hw 59 rfl)) (Or.inl (own_w hw 61 rfl)) (by decide) (t := (.array .byte)) (t' := .byte) (by decide) (by decide)))
  have f188 : Fld Z h174 a1 "java/lang/AbstractStringBuilder" "count" "I" (.int (0 : Int32)) := p3_.ext E174
  have f189 : Fld Z h178 a1 "java/lang/AbstractStringBuilder" "count" "I" (.int (0 : Int32)) := f188.other W178 (Or.inr (slot_ne (Or.inl (own_w hw 87 rfl)) (Or.inl (own_w hw 59 rfl)) (by decide) (t := .int) (t' := (.array .byte)) (by decide) (by decide)))
  have f190 : Fld Z h184 a1 "java/lang/AbstractStringBuilder" "count" "I" (.int (0 : Int32)) := f189.other W184 (Or.inr (slot_ne (Or.inl (own_w hw 87 rfl)) (Or.inl (own_w hw 61 rfl)) (by decide) (t := .int) (t' := .byte) (by decide) (by decide)))
  have ne191 : @Ne Nat a1 b174 := Exa.neArv f177 f175 (own_w hw 45 rfl)
  have f192 : Arv Z h178 b174 k174 .byte (16 : Int32) [] (.int (0 : Int32)) := f175.other W178 (Ne.symm ne191)
  have f193 : Arv Z h184 b174 k174 .byte (16 : Int32) [] (.int (0 : Int32)) := f192.other W184 (Ne.symm ne191)
  have K194 : Keep h0 h174 [a1] := (Keep.refl h0 [a1]).ext E174
  have K195 : Keep h0 h178 [a1] := K194.wr W178 (Or.inl (List.mem_of_getElem? (i := 0) rfl))
  have K196 : Keep h0 h184 [a1] := K195.wr W184 (Or.inl (List.mem_of_getElem? (i := 0) rfl))
  have f197 : Exa Z h184 a1 "java/lang/StringBuilder" := f183.wr W184
  subst hPP
  refine ⟨_, _, X184.returnOut hx Bd.returns (hb hby dj68_2_38) hr186, hrun186, hend186, _, _, rfl, ?_, ⟨_, rfl⟩, hW186, hsm186.mono (by decide) (by decide)⟩
  · show Q_asbinit Z _ _ h0 _ T184.heap _
    rw [e184]
    exact ⟨b174, k174, rfl, N184, K196, f197, f187, f185, f190, f193, (by omega), kn174⟩
theorem pn_96 : plainName "java/lang/StringBuilder" = true := by first | (simp [plainName, overriddenIn]; done) | decide +kernel
theorem ef_97 (m : MethodId) (x0 : Nat) : entryFrame m #[(.ref x0)] 1 = mkF m 0 #[.val (.ref x0)] [] := by first | (simp [entryFrame, mkF, argsToLocals, Value.category]; done) | rfl
theorem dj67_1_0 : decode jdk_67_method_1_code 0 = .ok (.aload_n 0, 1) := by decide +kernel
theorem dj67_1_1 : decode jdk_67_method_1_code 1 = .ok (.bipush 16, 2) := by decide +kernel
theorem pd_100 : parseMethodDescriptor "(I)V" = some ⟨[.int], none⟩ := by decide +kernel
theorem dj67_1_3 : decode jdk_67_method_1_code 3 = .ok (.invokespecial 1, 3) := by decide +kernel
theorem dj67_1_6 : decode jdk_67_method_1_code 6 = .ok (.return_, 1) := by decide +kernel
def Q_sbinit (Z : State) (a1 : Nat) (zc : Int32) (h0 : Heap) (v : Option Value) (h : Heap) (L : List Loc) : Prop := ∃ (a3 : Nat), ∃ (k : ClassId), v = none ∧ Fr Z.heap.size L ∧ Keep h0 h [a1] ∧ Exa Z h a1 "java/lang/StringBuilder" ∧ Fld Z h a1 "java/lang/AbstractStringBuilder" "value" "[B" (.ref a3) ∧ Fld Z h a1 "java/lang/AbstractStringBuilder" "coder" "B" (.int (0 : Int32)) ∧ Fld Z h a1 "java/lang/AbstractStringBuilder" "count" "I" (.int (0 : Int32)) ∧ Arv Z h a3 k .byte (Int32.ofNat 16) (own_low ([] : List Int32)) (.int (0 : Int32)) ∧ (h0.size ≤ a3) ∧ (Z.vm.findClass "[B" = some k)
set_option maxRecDepth 65536 in
set_option maxHeartbeats 40000000 in
theorem rm_sbinit (l : Launch) (Z : State) (a0 : Array Value) (hw : ∀ d ∈ tables_1, d.before a0 Z = true) (ws : List Jvm.Cond) (a1 : Nat) (zc : Int32) (h0 : Heap) (OL : Old Z Z.heap.size h0) (p0_ : Exa Z h0 a1 "java/lang/StringBuilder") (p1_ : Fld Z h0 a1 "java/lang/AbstractStringBuilder" "value" "[B" .null) (p2_ : Fld Z h0 a1 "java/lang/AbstractStringBuilder" "coder" "B" (.int (0 : Int32))) (p3_ : Fld Z h0 a1 "java/lang/AbstractStringBuilder" "count" "I" (.int (0 : Int32))) (st_C : Sta Z Z.heap "java/lang/String" "COMPACT_STRINGS" "Z" (.int zc)) (hzc : ¬ zc = 0) (hn0 : Z.heap.size ≤ a1) :
    MetFree l mN25 (head1 (Jvm.Cond.code mN25 jdk_67_method_1_code 1 none :: ws) rM11) (fun a U => a = #[(.ref a1)] ∧ Z.Warmed39 U.vm ∧ U.heap = h0) (fun _ _ _ _ _ => True) (fun _ U o U' => ∃ v L, o = .returned v ∧ Q_sbinit Z a1 zc h0 v U'.heap L ∧ FrameEnd U o U' L rM11.cells rM11.slots) := by
  refine MetFree.of_bodySF (plainFor_of_name pn_96) hisR ?_
  intro p e s m args below meth c s₁ Bd hml0 hP hK
  obtain ⟨rfl, hZ, hh⟩ := hP
  have hx := Bd.exec
  have hby := Bd.bytes
  have hml : c.maxLocals = 1 := hml0
  have hown : s.vm.findClass "java/lang/StringBuilder" = some m.cls := findClass_of_methodNamed Bd.named
  have hnm := (name_of_methodNamed Bd.named Bd.method).1
  have X0 : Stand p l e rM11 s m #[(.ref a1)] below meth c s₁ [] 0 0 := Stand.of_body Bd
  have e0 : s₁.heap = h0 := by rw [← hh, Bd.state]; rfl
  have N0 := Fr.nil Z.heap.size
  have Z0 : Z.heap.size ≤ h0.size := OL.2.1
  have lt_0 : @LT.lt Nat _ a1 h0.size := p0_.lt
  have lt_1 : @LT.lt Nat _ a1 h0.size := p1_.lt
  have lt_2 : @LT.lt Nat _ a1 h0.size := p2_.lt
  have lt_3 : @LT.lt Nat _ a1 h0.size := p3_.lt
  show oG p.tables e below (fun o tE => ∃ v L, o = .returned v ∧ Q_sbinit Z a1 zc h0 v tE.heap L ∧ FrameEnd s o tE L rM11.cells rM11.slots) (s₁.setTop (entryFrame m #[(.ref a1)] 1))
  refine own_hd (fun PP hPP => ?_)
  refine oG.st (fun t k => castTop (ef_97 m a1) k) ?_
  refine oG.st (fun _ k => XS.aloadN X0.here hx rfl (hb hby dj67_1_0) rfl rfl (XS.bipush X0.here hx rfl (hb hby dj67_1_1) k)) ?_
  show oG _ _ _ _ (s₁.setTop (mkF m 3 #[.val (.ref a1)] [(.int (16 : Int32)), (.ref a1)]))
  obtain ⟨_, _, ⟨T198, L198, k198, n198⟩, -, X198, ⟨Lc198, hQ198, l198, y198, z198⟩, st198⟩ := X0.specialBack hx (y := mN6) rfl hown (own_v hZ hw 50 rfl) (own_v hZ hw 51 rfl) (own_v hZ hw 55 rfl) (by decide) (backOf (W := 0) (rm_asbinit l Z a0 hw [] a1 zc h0 OL p0_ p1_ p2_ p3_ st_C hzc hn0) hZ (own_w hw 55 rfl) (own_w hw 54 rfl) (by decide) (by decide)) (g := (mkF m 3 #[.val (.ref a1)] [(.int (16 : Int32)), (.ref a1)])) rfl (by rw [hml]; rfl) (Steps.refl _) (a := a1) (argsL := [(.int (16 : Int32))]) (rest := []) (lenOf pd_100 rfl) rfl (by show 2 * 0 + _ ≤ _; exact Nat.le_of_eq rfl) (hb hby dj67_1_3) (fun _ _ => ⟨rfl, e0, (by decide : 0 + 1 ≤ _), (by decide : 0 + 16 ≤ _)⟩)
  dsimp only [Pt.U, Pt.locs, Pt.cells, Pt.slots] at X198 l198 y198 z198 st198 hQ198
  subst y198 z198
  obtain ⟨a3_198, k_198, rfl, N198q, K198, f198_0, f198_1, f198_2, f198_3, f198_4, pr198_0, pr198_1⟩ := hQ198
  have N198 := own_FrE l198 (Fr.app N0 N198q)
  have z198 : h0.size ≤ T198.heap.size := K198.1
  have lt198_0 : @LT.lt Nat _ a1 T198.heap.size := f198_0.lt
  have lt198_1 : @LT.lt Nat _ a1 T198.heap.size := f198_1.lt
  have lt198_2 : @LT.lt Nat _ a1 T198.heap.size := f198_2.lt
  have lt198_3 : @LT.lt Nat _ a1 T198.heap.size := f198_3.lt
  have lt198_4 : @LT.lt Nat _ a3_198 T198.heap.size := f198_4.lt
  refine oG.tr st198 ?_
  show oG _ _ _ _ (T198.setTop (mkF m 6 #[.val (.ref a1)] []))
  obtain ⟨fs199, hr199, hrun199, hend199, hW199, hsm199⟩ := X198.leave (v := none) (fun _ => rfl)
  have K200 : Keep h0 T198.heap [a1] := (Keep.refl h0 [a1]).trans K198 (allS (Or.inl (List.mem_of_getElem? (i := 0) rfl)) all0)
  subst hPP
  refine ⟨_, _, X198.returnOut hx Bd.returns (hb hby dj67_1_6) hr199, hrun199, hend199, _, _, rfl, ?_, ⟨_, rfl⟩, hW199, hsm199.mono (by decide) (by decide)⟩
  · show Q_sbinit Z _ _ h0 _ T198.heap _
    exact ⟨a3_198, k_198, rfl, N198, K200, f198_0, f198_1, f198_2, f198_3, f198_4, (by omega), pr198_1⟩
theorem dj42_152_0 : decode cJ5 0 = .ok (.getstatic 38, 3) := by decide +kernel
theorem dj42_152_3 : decode cJ5 3 = .ok (.ifCond .eq 10, 3) := by decide +kernel
theorem dj42_152_6 : decode cJ5 6 = .ok (.aload_n 0, 1) := by decide +kernel
theorem dj42_152_7 : decode cJ5 7 = .ok (.getfield 15, 3) := by decide +kernel
theorem dj42_152_10 : decode cJ5 10 = .ok (.goto 4, 3) := by decide +kernel
theorem dj42_152_14 : decode cJ5 14 = .ok (.ireturn, 1) := by decide +kernel
def Q_scoder (Z : State) (a1 : Nat) (zc : Int32) (h0 : Heap) (v : Option Value) (h : Heap) (L : List Loc) : Prop := v = some (.int (0 : Int32)) ∧ Fr Z.heap.size L ∧ h = h0
set_option maxRecDepth 65536 in
set_option maxHeartbeats 40000000 in
theorem rm_scoder (l : Launch) (Z : State) (a0 : Array Value) (hw : ∀ d ∈ tables_1, d.before a0 Z = true) (ws : List Jvm.Cond) (a1 : Nat) (zc : Int32) (h0 : Heap) (OL : Old Z Z.heap.size h0) (p0_ : Fld Z h0 a1 "java/lang/String" "coder" "B" (.int (0 : Int32))) (st_C : Sta Z Z.heap "java/lang/String" "COMPACT_STRINGS" "Z" (.int zc)) (hzc : ¬ zc = 0) :
    MetFree l mN21 (head1 (Jvm.Cond.code mN21 jdk_42_method_152_code 1 (some .byte) :: ws) rM0) (fun a U => a = #[(.ref a1)] ∧ Z.Warmed39 U.vm ∧ U.heap = h0) (fun _ _ _ _ _ => True) (fun _ U o U' => ∃ v L, o = .returned v ∧ Q_scoder Z a1 zc h0 v U'.heap L ∧ FrameEnd U o U' L rM0.cells rM0.slots) := by
  refine MetFree.of_bodySF (plainFor_of_name pn_0) hisR ?_
  intro p e s m args below meth c s₁ Bd hml0 hP hK
  obtain ⟨rfl, hZ, hh⟩ := hP
  have hx := Bd.exec
  have hby := Bd.bytes
  have hml : c.maxLocals = 1 := hml0
  have hown : s.vm.findClass "java/lang/String" = some m.cls := findClass_of_methodNamed Bd.named
  have hnm := (name_of_methodNamed Bd.named Bd.method).1
  have X0 : Stand p l e rM0 s m #[(.ref a1)] below meth c s₁ [] 0 0 := Stand.of_body Bd
  have e0 : s₁.heap = h0 := by rw [← hh, Bd.state]; rfl
  have N0 := Fr.nil Z.heap.size
  have Z0 : Z.heap.size ≤ h0.size := OL.2.1
  have lt_0 : @LT.lt Nat _ a1 h0.size := p0_.lt
  show oG p.tables e below (fun o tE => ∃ v L, o = .returned v ∧ Q_scoder Z a1 zc h0 v tE.heap L ∧ FrameEnd s o tE L rM0.cells rM0.slots) (s₁.setTop (entryFrame m #[(.ref a1)] 1))
  refine own_hd (fun PP hPP => ?_)
  refine oG.st (fun t k => castTop (ef_97 m a1) k) ?_
  show oG _ _ _ _ (s₁.setTop (mkF m 0 #[.val (.ref a1)] []))
  obtain ⟨T201, X201, e201, st201⟩ := getS2 X0 hx hZ hown (host := "") (Or.inl (own_w hw 21 rfl)) Via.refl e0 (st_C.ext OL.2) (g := (mkF m 0 #[.val (.ref a1)] [])) rfl (hb hby dj42_152_0)
  refine oG.st st201 ?_
  show oG _ _ _ _ (T201.setTop (mkF m 3 #[.val (.ref a1)] [(.int zc)]))
  have hc202 : ¬ (zc = (0 : Int32)) := hzc
  refine oG.st (fun _ k => XS.ifNo X201.here hx rfl (hb hby dj42_152_3) rfl ((if0 _ _).trans (feq hc202).1) k) ?_
  refine oG.st (fun _ k => XS.aloadN X201.here hx rfl (hb hby dj42_152_6) rfl rfl k) ?_
  show oG _ _ _ _ (T201.setTop (mkF m 7 #[.val (.ref a1)] [(.ref a1)]))
  obtain ⟨T203, X203, e203, st203⟩ := getF X201 hx hZ hown (host := "") (Or.inl (own_w hw 33 rfl)) Via.refl e201 p0_ (g := (mkF m 7 #[.val (.ref a1)] [(.ref a1)])) rfl rfl (hb hby dj42_152_7)
  refine oG.st st203 ?_
  refine oG.st (fun _ k => XS.goto X203.here hx rfl (pc0 := 10) (pc' := 14) rfl (hb hby dj42_152_10) (by decide) (by decide) k) ?_
  show oG _ _ _ _ (T203.setTop (mkF m 14 #[.val (.ref a1)] [(.int (0 : Int32))]))
  obtain ⟨fs204, hr204, hrun204, hend204, hW204, hsm204⟩ := X203.leave (v := some (.int (nar .byte (0 : Int32)))) (fun h => by rw [Bd.returns] at h; cases h)
  subst hPP
  refine ⟨_, _, retN X203 hx (t := .byte) Bd.returns (by simp) (hb hby dj42_152_14) hr204, hrun204, hend204, _, _, rfl, ?_, ⟨_, rfl⟩, hW204, hsm204.mono (by decide) (by decide)⟩
  · show Q_scoder Z _ _ h0 _ T203.heap _
    rw [e203]
    exact ⟨rfl, N0, rfl⟩
theorem dj68_71_0 : decode cJ16 0 = .ok (.getstatic 18, 3) := by decide +kernel
theorem dj68_71_3 : decode cJ16 3 = .ok (.ifCond .eq 18, 3) := by decide +kernel
theorem dj68_71_6 : decode cJ16 6 = .ok (.aload_n 0, 1) := by decide +kernel
theorem dj68_71_7 : decode cJ16 7 = .ok (.getfield 22, 3) := by decide +kernel
theorem dj68_71_10 : decode cJ16 10 = .ok (.aload_n 1, 1) := by decide +kernel
theorem pd_114 : parseMethodDescriptor "()B" = some ⟨[], some .byte⟩ := by decide +kernel
theorem dj68_71_11 : decode cJ16 11 = .ok (.invokevirtual 40, 3) := by decide +kernel
theorem dj68_71_14 : decode cJ16 14 = .ok (.if_icmp .eq 7, 3) := by decide +kernel
theorem dj68_71_21 : decode cJ16 21 = .ok (.return_, 1) := by decide +kernel
def Q_inflate (Z : State) (a1 : Nat) (a2 : Nat) (zc : Int32) (h0 : Heap) (v : Option Value) (h : Heap) (L : List Loc) : Prop := v = none ∧ Fr Z.heap.size L ∧ h = h0
set_option maxRecDepth 65536 in
set_option maxHeartbeats 40000000 in
theorem rm_inflate (l : Launch) (Z : State) (a0 : Array Value) (hw : ∀ d ∈ tables_1, d.before a0 Z = true) (ws : List Jvm.Cond) (a1 : Nat) (a2 : Nat) (zc : Int32) (h0 : Heap) (OL : Old Z Z.heap.size h0) (p0_ : Fld Z h0 a1 "java/lang/AbstractStringBuilder" "coder" "B" (.int (0 : Int32))) (p1_ : Exa Z h0 a2 "java/lang/String") (p2_ : Fld Z h0 a2 "java/lang/String" "coder" "B" (.int (0 : Int32))) (st_C : Sta Z Z.heap "java/lang/String" "COMPACT_STRINGS" "Z" (.int zc)) (hzc : ¬ zc = 0) :
    MetFree l mN10 (head1 (Jvm.Cond.code mN10 jdk_68_method_71_code 2 none :: ws) rM2) (fun a U => a = #[(.ref a1), (.ref a2)] ∧ Z.Warmed39 U.vm ∧ U.heap = h0) (fun _ _ _ _ _ => True) (fun _ U o U' => ∃ v L, o = .returned v ∧ Q_inflate Z a1 a2 zc h0 v U'.heap L ∧ FrameEnd U o U' L rM2.cells rM2.slots) := by
  refine MetFree.of_bodySF (plainFor_of_name pn_81) hisR ?_
  intro p e s m args below meth c s₁ Bd hml0 hP hK
  obtain ⟨rfl, hZ, hh⟩ := hP
  have hx := Bd.exec
  have hby := Bd.bytes
  have hml : c.maxLocals = 2 := hml0
  have hown : s.vm.findClass "java/lang/AbstractStringBuilder" = some m.cls := findClass_of_methodNamed Bd.named
  have hnm := (name_of_methodNamed Bd.named Bd.method).1
  have X0 : Stand p l e rM2 s m #[(.ref a1), (.ref a2)] below meth c s₁ [] 0 0 := Stand.of_body Bd
  have e0 : s₁.heap = h0 := by rw [← hh, Bd.state]; rfl
  have N0 := Fr.nil Z.heap.size
  have Z0 : Z.heap.size ≤ h0.size := OL.2.1
  have lt_0 : @LT.lt Nat _ a1 h0.size := p0_.lt
  have lt_1 : @LT.lt Nat _ a2 h0.size := p1_.lt
  have lt_2 : @LT.lt Nat _ a2 h0.size := p2_.lt
  show oG p.tables e below (fun o tE => ∃ v L, o = .returned v ∧ Q_inflate Z a1 a2 zc h0 v tE.heap L ∧ FrameEnd s o tE L rM2.cells rM2.slots) (s₁.setTop (entryFrame m #[(.ref a1), (.ref a2)] 2))
  refine own_hd (fun PP hPP => ?_)
  refine oG.st (fun t k => castTop (ef_15 m a1 a2) k) ?_
  show oG _ _ _ _ (s₁.setTop (mkF m 0 #[.val (.ref a1), .val (.ref a2)] []))
  obtain ⟨T205, X205, e205, st205⟩ := getS2 X0 hx hZ hown (host := "") (Or.inl (own_w hw 57 rfl)) Via.refl e0 (st_C.ext OL.2) (g := (mkF m 0 #[.val (.ref a1), .val (.ref a2)] [])) rfl (hb hby dj68_71_0)
  refine oG.st st205 ?_
  show oG _ _ _ _ (T205.setTop (mkF m 3 #[.val (.ref a1), .val (.ref a2)] [(.int zc)]))
  have hc206 : ¬ (zc = (0 : Int32)) := hzc
  refine oG.st (fun _ k => XS.ifNo X205.here hx rfl (hb hby dj68_71_3) rfl ((if0 _ _).trans (feq hc206).1) k) ?_
  refine oG.st (fun _ k => XS.aloadN X205.here hx rfl (hb hby dj68_71_6) rfl rfl k) ?_
  show oG _ _ _ _ (T205.setTop (mkF m 7 #[.val (.ref a1), .val (.ref a2)] [(.ref a1)]))
  obtain ⟨T207, X207, e207, st207⟩ := getF X205 hx hZ hown (host := "") (Or.inl (own_w hw 60 rfl)) Via.refl e205 p0_ (g := (mkF m 7 #[.val (.ref a1), .val (.ref a2)] [(.ref a1)])) rfl rfl (hb hby dj68_71_7)
  refine oG.st st207 ?_
  refine oG.st (fun _ k => XS.aloadN X207.here hx rfl (hb hby dj68_71_10) rfl rfl k) ?_
  show oG _ _ _ _ (T207.setTop (mkF m 11 #[.val (.ref a1), .val (.ref a2)] [(.ref a2), (.int (0 : Int32))]))
  obtain ⟨cq208, kq208, q208a, q208b, q208c⟩ := isOf hZ e207 p1_
  obtain ⟨_, _, ⟨T208, L208, k208, n208⟩, -, X208, ⟨Lc208, hQ208, l208, y208, z208⟩, st208⟩ := X207.virtualBack hx (y := mN21) (z := mN21) hown (own_v hZ hw 103 rfl) (own_v hZ hw 82 rfl) (notFace_of_selects (args := #[]) (own_v hZ hw 84 rfl)) (own_v hZ hw 84 rfl) (own_v hZ hw 83 rfl) (by decide) (backOf (W := 1) (rm_scoder l Z a0 hw [] a2 zc h0 OL p2_ st_C hzc) hZ (own_w hw 85 rfl) (own_w hw 10 rfl) (by decide) (by decide)) q208a q208c (g := (mkF m 11 #[.val (.ref a1), .val (.ref a2)] [(.ref a2), (.int (0 : Int32))])) rfl (by rw [hml]; rfl) (Steps.refl _) (argsL := []) (rest := [(.int (0 : Int32))]) (lenOf pd_114 rfl) rfl (by show 2 * 0 + _ ≤ _; exact Nat.le_of_eq rfl) (hb hby dj68_71_11) (fun _ _ => ⟨rfl, e207, (by decide : 0 + 0 ≤ _), (by decide : 0 + 0 ≤ _)⟩)
  dsimp only [Pt.U, Pt.locs, Pt.cells, Pt.slots] at X208 l208 y208 z208 st208 hQ208
  subst y208 z208
  obtain ⟨rfl, N208q, K208⟩ := hQ208
  have N208 := own_FrE l208 (Fr.app N0 N208q)
  refine oG.tr st208 ?_
  show oG _ _ _ _ (T208.setTop (mkF m 14 #[.val (.ref a1), .val (.ref a2)] [(.int (0 : Int32)), (.int (0 : Int32))]))
  refine oG.st (fun _ k => XS.icmpYes X208.here hx rfl (pc0 := 14) (pc' := 21) rfl (hb hby dj68_71_14) rfl (teq (rfl : (0 : Int32) = (0 : Int32))).1 (by decide) (by decide) k) ?_
  show oG _ _ _ _ (T208.setTop (mkF m 21 #[.val (.ref a1), .val (.ref a2)] []))
  obtain ⟨fs209, hr209, hrun209, hend209, hW209, hsm209⟩ := X208.leave (v := none) (fun _ => rfl)
  subst hPP
  refine ⟨_, _, X208.returnOut hx Bd.returns (hb hby dj68_71_21) hr209, hrun209, hend209, _, _, rfl, ?_, ⟨_, rfl⟩, hW209, hsm209.mono (by decide) (by decide)⟩
  · show Q_inflate Z _ _ _ h0 _ T208.heap _
    rw [K208]
    exact ⟨rfl, N208, rfl⟩
theorem ef_118 (m : MethodId) (x0 : Nat) (x1 : Nat) (x2 : Int32) (x3 : Int32) : entryFrame m #[(.ref x0), (.ref x1), (.int x2), (.int x3)] 4 = mkF m 0 #[.val (.ref x0), .val (.ref x1), .val (.int x2), .val (.int x3)] [] := by first | (simp [entryFrame, mkF, argsToLocals, Value.category]; done) | rfl
theorem dj42_147_0 : decode cJ2 0 = .ok (.aload_n 0, 1) := by decide +kernel
theorem dj42_147_1 : decode cJ2 1 = .ok (.invokevirtual 335, 3) := by decide +kernel
theorem dj42_147_4 : decode cJ2 4 = .ok (.iload_n 3, 1) := by decide +kernel
theorem dj42_147_5 : decode cJ2 5 = .ok (.if_icmp .ne 23, 3) := by decide +kernel
theorem dj42_147_8 : decode cJ2 8 = .ok (.aload_n 0, 1) := by decide +kernel
theorem dj42_147_9 : decode cJ2 9 = .ok (.getfield 9, 3) := by decide +kernel
theorem dj42_147_12 : decode cJ2 12 = .ok (.iconst 0, 1) := by decide +kernel
theorem dj42_147_13 : decode cJ2 13 = .ok (.aload_n 1, 1) := by decide +kernel
theorem dj42_147_14 : decode cJ2 14 = .ok (.iload_n 2, 1) := by decide +kernel
theorem dj42_147_15 : decode cJ2 15 = .ok (.iload_n 3, 1) := by decide +kernel
theorem dj42_147_16 : decode cJ2 16 = .ok (.ishl, 1) := by decide +kernel
theorem dj42_147_17 : decode cJ2 17 = .ok (.aload_n 0, 1) := by decide +kernel
theorem dj42_147_18 : decode cJ2 18 = .ok (.getfield 9, 3) := by decide +kernel
theorem dj42_147_21 : decode cJ2 21 = .ok (.arraylength, 1) := by decide +kernel
theorem dj42_147_22 : decode cJ2 22 = .ok (.invokestatic 212, 3) := by decide +kernel
theorem dj42_147_25 : decode cJ2 25 = .ok (.goto 18, 3) := by decide +kernel
theorem dj42_147_43 : decode cJ2 43 = .ok (.return_, 1) := by decide +kernel
def Q_getBytes (Z : State) (a1 : Nat) (a2 : Nat) (p3 : Int32) (t : Nat) (cs : List Int32) (ds : List Int32) (cap : Nat) (k : ClassId) (kt : ClassId) (zc : Int32) (h0 : Heap) (v : Option Value) (h : Heap) (L : List Loc) : Prop := v = none ∧ Fr Z.heap.size L ∧ Keep h0 h [a2] ∧ Arv Z h a2 k .byte (Int32.ofNat cap) (own_low (cs ++ ds)) (.int (0 : Int32))
set_option maxRecDepth 65536 in
set_option maxHeartbeats 40000000 in
theorem rm_getBytes (l : Launch) (Z : State) (a0 : Array Value) (hw : ∀ d ∈ tables_1, d.before a0 Z = true) (ws : List Jvm.Cond) (a1 : Nat) (a2 : Nat) (p3 : Int32) (t : Nat) (cs : List Int32) (ds : List Int32) (cap : Nat) (k : ClassId) (kt : ClassId) (zc : Int32) (h0 : Heap) (OL : Old Z Z.heap.size h0) (p0_ : Exa Z h0 a1 "java/lang/String") (p1_ : Fld Z h0 a1 "java/lang/String" "value" "[B" (.ref t)) (p2_ : Fld Z h0 a1 "java/lang/String" "coder" "B" (.int (0 : Int32))) (p3_ : Arv Z h0 t kt .byte (Int32.ofNat ds.length) (own_low ds) (.int (0 : Int32))) (p4_ : Arv Z h0 a2 k .byte (Int32.ofNat cap) (own_low cs) (.int (0 : Int32))) (st_C : Sta Z Z.heap "java/lang/String" "COMPACT_STRINGS" "Z" (.int zc)) (hzc : ¬ zc = 0) (hp3 : p3 = Int32.ofNat cs.length) (hfit : cs.length + ds.length ≤ cap) (hcap : cap ≤ 100) (hne : @Ne Nat t a2) (hn0 : Z.heap.size ≤ a2) :
    MetFree l mN23 (head1 (Jvm.Cond.code mN23 jdk_42_method_147_code 4 none :: ws) rM5) (fun a U => a = #[(.ref a1), (.ref a2), (.int p3), (.int (0 : Int32))] ∧ Z.Warmed39 U.vm ∧ U.heap = h0) (fun _ _ _ _ _ => True) (fun _ U o U' => ∃ v L, o = .returned v ∧ Q_getBytes Z a1 a2 p3 t cs ds cap k kt zc h0 v U'.heap L ∧ FrameEnd U o U' L rM5.cells rM5.slots) := by
  refine MetFree.of_bodySF (plainFor_of_name pn_0) hisR ?_
  intro p e s m args below meth c s₁ Bd hml0 hP hK
  obtain ⟨rfl, hZ, hh⟩ := hP
  have hx := Bd.exec
  have hby := Bd.bytes
  have hml : c.maxLocals = 4 := hml0
  have hown : s.vm.findClass "java/lang/String" = some m.cls := findClass_of_methodNamed Bd.named
  have hnm := (name_of_methodNamed Bd.named Bd.method).1
  have X0 : Stand p l e rM5 s m #[(.ref a1), (.ref a2), (.int p3), (.int (0 : Int32))] below meth c s₁ [] 0 0 := Stand.of_body Bd
  have e0 : s₁.heap = h0 := by rw [← hh, Bd.state]; rfl
  have N0 := Fr.nil Z.heap.size
  have Z0 : Z.heap.size ≤ h0.size := OL.2.1
  have lt_0 : @LT.lt Nat _ a1 h0.size := p0_.lt
  have lt_1 : @LT.lt Nat _ a1 h0.size := p1_.lt
  have lt_2 : @LT.lt Nat _ a1 h0.size := p2_.lt
  have lt_3 : @LT.lt Nat _ t h0.size := p3_.lt
  have lt_4 : @LT.lt Nat _ a2 h0.size := p4_.lt
  show oG p.tables e below (fun o tE => ∃ v L, o = .returned v ∧ Q_getBytes Z a1 a2 p3 t cs ds cap k kt zc h0 v tE.heap L ∧ FrameEnd s o tE L rM5.cells rM5.slots) (s₁.setTop (entryFrame m #[(.ref a1), (.ref a2), (.int p3), (.int (0 : Int32))] 4))
  refine own_hd (fun PP hPP => ?_)
  refine oG.st (fun t k => castTop (ef_118 m a1 a2 p3 (0 : Int32)) k) ?_
  subst hp3
  refine oG.st (fun _ k => XS.aloadN X0.here hx rfl (hb hby dj42_147_0) rfl rfl k) ?_
  show oG _ _ _ _ (s₁.setTop (mkF m 1 #[.val (.ref a1), .val (.ref a2), .val (.int (Int32.ofNat cs.length)), .val (.int (0 : Int32))] [(.ref a1)]))
  obtain ⟨cq210, kq210, q210a, q210b, q210c⟩ := isOf hZ e0 p0_
  obtain ⟨_, _, ⟨T210, L210, k210, n210⟩, -, X210, ⟨Lc210, hQ210, l210, y210, z210⟩, st210⟩ := X0.virtualBack hx (y := mN21) (z := mN21) hown (own_v hZ hw 81 rfl) (own_v hZ hw 82 rfl) (notFace_of_selects (args := #[]) (own_v hZ hw 84 rfl)) (own_v hZ hw 84 rfl) (own_v hZ hw 83 rfl) (by decide) (backOf (W := 0) (rm_scoder l Z a0 hw [] a1 zc h0 OL p2_ st_C hzc) hZ (own_w hw 85 rfl) (own_w hw 10 rfl) (by decide) (by decide)) q210a q210c (g := (mkF m 1 #[.val (.ref a1), .val (.ref a2), .val (.int (Int32.ofNat cs.length)), .val (.int (0 : Int32))] [(.ref a1)])) rfl (by rw [hml]; rfl) (Steps.refl _) (argsL := []) (rest := []) (lenOf pd_114 rfl) rfl (by show 2 * 0 + _ ≤ _; exact Nat.le_of_eq rfl) (hb hby dj42_147_1) (fun _ _ => ⟨rfl, e0, (by decide : 0 + 0 ≤ _), (by decide : 0 + 0 ≤ _)⟩)
  dsimp only [Pt.U, Pt.locs, Pt.cells, Pt.slots] at X210 l210 y210 z210 st210 hQ210
  subst y210 z210
  obtain ⟨rfl, N210q, K210⟩ := hQ210
  have N210 := own_FrE l210 (Fr.app N0 N210q)
  refine oG.tr st210 ?_
  refine oG.st (fun _ k => XS.iloadN X210.here hx rfl (hb hby dj42_147_4) rfl k) ?_
  show oG _ _ _ _ (T210.setTop (mkF m 5 #[.val (.ref a1), .val (.ref a2), .val (.int (Int32.ofNat cs.length)), .val (.int (0 : Int32))] [(.int (0 : Int32)), (.int (0 : Int32))]))
  refine oG.st (fun _ k => XS.icmpNo X210.here hx rfl (hb hby dj42_147_5) rfl (teq (rfl : (0 : Int32) = (0 : Int32))).2 k) ?_
  refine oG.st (fun _ k => XS.aloadN X210.here hx rfl (hb hby dj42_147_8) rfl rfl k) ?_
  show oG _ _ _ _ (T210.setTop (mkF m 9 #[.val (.ref a1), .val (.ref a2), .val (.int (Int32.ofNat cs.length)), .val (.int (0 : Int32))] [(.ref a1)]))
  obtain ⟨T211, X211, e211, st211⟩ := getF X210 hx hZ hown (host := "") (Or.inl (own_w hw 35 rfl)) Via.refl K210 p1_ (g := (mkF m 9 #[.val (.ref a1), .val (.ref a2), .val (.int (Int32.ofNat cs.length)), .val (.int (0 : Int32))] [(.ref a1)])) rfl rfl (hb hby dj42_147_9)
  refine oG.st st211 ?_
  refine oG.st (fun _ k => XS.iconst X211.here hx rfl (hb hby dj42_147_12) (XS.aloadN X211.here hx rfl (hb hby dj42_147_13) rfl rfl (XS.iloadN X211.here hx rfl (hb hby dj42_147_14) rfl (XS.iloadN X211.here hx rfl (hb hby dj42_147_15) rfl (XS.ishl X211.here hx rfl (hb hby dj42_147_16) rfl k))))) ?_
  show oG _ _ _ _ (T211.setTop (mkF m 17 #[.val (.ref a1), .val (.ref a2), .val (.int (Int32.ofNat cs.length)), .val (.int (0 : Int32))] [(.int ((Int32.ofNat cs.length) <<< ((0 : Int32) &&& 31))), (.ref a2), (.int (0 : Int32)), (.ref t)]))
  rw [own_shl0]
  refine oG.st (fun _ k => XS.aloadN X211.here hx rfl (hb hby dj42_147_17) rfl rfl k) ?_
  show oG _ _ _ _ (T211.setTop (mkF m 18 #[.val (.ref a1), .val (.ref a2), .val (.int (Int32.ofNat cs.length)), .val (.int (0 : Int32))] [(.ref a1), (.int (Int32.ofNat cs.length)), (.ref a2), (.int (0 : Int32)), (.ref t)]))
  obtain ⟨T212, X212, e212, st212⟩ := getF X211 hx hZ hown (host := "") (Or.inl (own_w hw 35 rfl)) Via.refl e211 p1_ (g := (mkF m 18 #[.val (.ref a1), .val (.ref a2), .val (.int (Int32.ofNat cs.length)), .val (.int (0 : Int32))] [(.ref a1), (.int (Int32.ofNat cs.length)), (.ref a2), (.int (0 : Int32)), (.ref t)])) rfl rfl (hb hby dj42_147_18)
  refine oG.st st212 ?_
  show oG _ _ _ _ (T212.setTop (mkF m 21 #[.val (.ref a1), .val (.ref a2), .val (.int (Int32.ofNat cs.length)), .val (.int (0 : Int32))] [(.ref t), (.int (Int32.ofNat cs.length)), (.ref a2), (.int (0 : Int32)), (.ref t)]))
  obtain ⟨c213, Ar213, q213, S213, Nn213, H213, G213⟩ := id p3_
  refine oG.st (X212.arraylength hx (own_rwE e212 Ar213.1) (State.isArrayOf_alike hZ.alike Ar213.2.1) (g := (mkF m 21 #[.val (.ref a1), .val (.ref a2), .val (.int (Int32.ofNat cs.length)), .val (.int (0 : Int32))] [(.ref t), (.int (Int32.ofNat cs.length)), (.ref a2), (.int (0 : Int32)), (.ref t)])) rfl rfl (hb hby dj42_147_21)) ?_
  rw [len_of S213 Nn213]
  show oG _ _ _ _ (T212.setTop (mkF m 22 #[.val (.ref a1), .val (.ref a2), .val (.int (Int32.ofNat cs.length)), .val (.int (0 : Int32))] [(.int (Int32.ofNat ds.length)), (.int (Int32.ofNat cs.length)), (.ref a2), (.int (0 : Int32)), (.ref t)]))
  have f214 : Arv Z h0 a2 k .byte (Int32.ofNat cap) (own_low cs ++ List.replicate (cap - cs.length) (Value.int (0 : Int32))) (.int (0 : Int32)) := p4_.pad (pad_rep (own_low cs) _ _)
  obtain ⟨T215, h215, L215, X215, e215, N215, K215, V215, st215⟩ := cpA (us := (own_low ds)) X212 hx hZ hown (own_w hw 109 rfl) (own_w hw 112 rfl) (own_w hw 110 rfl) (own_w hw 111 rfl) e212 p3_ f214 (Or.inl ⟨rfl, rfl⟩) (by decide) (own_of0 (by omega)) (own_of0 (by omega)) (by rw [own_ofn (by omega)]; have : (0 : Int32).toNatClampNeg = 0 := (by decide); omega) (by rw [own_ofn (by omega), own_ofn (by omega), own_ofn (by omega)]; exact hfit) (own_us ds (by omega)) (by rw [own_ofn (by omega), own_ofn (by omega)]; simp only [List.length_append, List.length_replicate, own_low, List.length_map]; omega) N210 (by omega) (g := (mkF m 22 #[.val (.ref a1), .val (.ref a2), .val (.int (Int32.ofNat cs.length)), .val (.int (0 : Int32))] [(.int (Int32.ofNat ds.length)), (.int (Int32.ofNat cs.length)), (.ref a2), (.int (0 : Int32)), (.ref t)])) rfl (by rw [hml]; rfl) rfl (hb hby dj42_147_22) (by decide) (W := 0) (by show 2 * 0 + _ ≤ _; exact Nat.le_of_eq rfl) (by decide)
  refine oG.st st215 ?_
  have z215 : h0.size ≤ h215.size := K215.1
  have f216 : Arv Z h215 a2 k .byte (Int32.ofNat cap) (own_low (cs ++ ds)) (.int (0 : Int32)) := own_appV V215 (by omega) (by omega)
  refine oG.st (fun _ k => XS.goto X215.here hx rfl (pc0 := 25) (pc' := 43) rfl (hb hby dj42_147_25) (by decide) (by decide) k) ?_
  show oG _ _ _ _ (T215.setTop (mkF m 43 #[.val (.ref a1), .val (.ref a2), .val (.int (Int32.ofNat cs.length)), .val (.int (0 : Int32))] []))
  obtain ⟨fs217, hr217, hrun217, hend217, hW217, hsm217⟩ := X215.leave (v := none) (fun _ => rfl)
  have K218 : Keep h0 h215 [a2] := (Keep.refl h0 [a2]).trans K215 (allS (Or.inl (List.mem_of_getElem? (i := 0) rfl)) all0)
  subst hPP
  refine ⟨_, _, X215.returnOut hx Bd.returns (hb hby dj42_147_43) hr217, hrun217, hend217, _, _, rfl, ?_, ⟨_, rfl⟩, hW217, hsm217.mono (by decide) (by decide)⟩
  · show Q_getBytes Z _ _ _ _ _ _ _ _ _ _ h0 _ T215.heap _
    rw [e215]
    exact ⟨rfl, N215, K218, f216⟩
theorem ef_136 (m : MethodId) (x0 : Nat) (x1 : Int32) (x2 : Nat) : entryFrame m #[(.ref x0), (.int x1), (.ref x2)] 3 = mkF m 0 #[.val (.ref x0), .val (.int x1), .val (.ref x2)] [] := by first | (simp [entryFrame, mkF, argsToLocals, Value.category]; done) | rfl
theorem dj68_73_0 : decode cJ17 0 = .ok (.aload_n 0, 1) := by decide +kernel
theorem dj68_73_1 : decode cJ17 1 = .ok (.aload_n 2, 1) := by decide +kernel
theorem pd_139 : parseMethodDescriptor "(Ljava/lang/String;)V" = some ⟨[(.object "java/lang/String")], none⟩ := by decide +kernel
theorem dj68_73_2 : decode cJ17 2 = .ok (.invokevirtual 397, 3) := by decide +kernel
theorem dj68_73_5 : decode cJ17 5 = .ok (.aload_n 2, 1) := by decide +kernel
theorem dj68_73_6 : decode cJ17 6 = .ok (.aload_n 0, 1) := by decide +kernel
theorem dj68_73_7 : decode cJ17 7 = .ok (.getfield 15, 3) := by decide +kernel
theorem dj68_73_10 : decode cJ17 10 = .ok (.iload_n 1, 1) := by decide +kernel
theorem dj68_73_11 : decode cJ17 11 = .ok (.aload_n 0, 1) := by decide +kernel
theorem dj68_73_12 : decode cJ17 12 = .ok (.getfield 22, 3) := by decide +kernel
theorem pd_147 : parseMethodDescriptor "([BIB)V" = some ⟨[(.array .byte), .int, .byte], none⟩ := by decide +kernel
theorem dj68_73_15 : decode cJ17 15 = .ok (.invokevirtual 399, 3) := by decide +kernel
theorem dj68_73_18 : decode cJ17 18 = .ok (.return_, 1) := by decide +kernel
def Q_putStringAt (Z : State) (a1 : Nat) (p2 : Int32) (a3 : Nat) (t : Nat) (cs : List Int32) (ds : List Int32) (cap : Nat) (k : ClassId) (zc : Int32) (a4 : Nat) (h0 : Heap) (v : Option Value) (h : Heap) (L : List Loc) : Prop := v = none ∧ Fr Z.heap.size L ∧ Keep h0 h [a4] ∧ Arv Z h a4 k .byte (Int32.ofNat cap) (own_low (cs ++ ds)) (.int (0 : Int32))
set_option maxRecDepth 65536 in
set_option maxHeartbeats 40000000 in
theorem rm_putStringAt (l : Launch) (Z : State) (a0 : Array Value) (hw : ∀ d ∈ tables_1, d.before a0 Z = true) (ws : List Jvm.Cond) (a1 : Nat) (p2 : Int32) (a3 : Nat) (t : Nat) (cs : List Int32) (ds : List Int32) (cap : Nat) (k : ClassId) (zc : Int32) (a4 : Nat) (h0 : Heap) (OL : Old Z Z.heap.size h0) (p0_ : Exa Z h0 a1 "java/lang/StringBuilder") (p1_ : Fld Z h0 a1 "java/lang/AbstractStringBuilder" "value" "[B" (.ref a4)) (p2_ : Fld Z h0 a1 "java/lang/AbstractStringBuilder" "coder" "B" (.int (0 : Int32))) (p3_ : own_Str Z h0 a3 t ds) (p4_ : Arv Z h0 a4 k .byte (Int32.ofNat cap) (own_low cs) (.int (0 : Int32))) (st_C : Sta Z Z.heap "java/lang/String" "COMPACT_STRINGS" "Z" (.int zc)) (hzc : ¬ zc = 0) (hp2 : p2 = Int32.ofNat cs.length) (hfit : cs.length + ds.length ≤ cap) (hcap : cap ≤ 100) (hne : @Ne Nat t a4) (hn0 : Z.heap.size ≤ a4) (hld : ∀ c ∈ ds, ¬ c < 0 ∧ ¬ (255 : Int32) < c) :
    MetFree l mN14 (head1 (Jvm.Cond.code mN14 jdk_68_method_73_code 3 none :: ws) rM10) (fun a U => a = #[(.ref a1), (.int p2), (.ref a3)] ∧ Z.Warmed39 U.vm ∧ U.heap = h0) (fun _ _ _ _ _ => True) (fun _ U o U' => ∃ v L, o = .returned v ∧ Q_putStringAt Z a1 p2 a3 t cs ds cap k zc a4 h0 v U'.heap L ∧ FrameEnd U o U' L rM10.cells rM10.slots) := by
  refine MetFree.of_bodySF (plainFor_of_name pn_81) hisR ?_
  intro p e s m args below meth c s₁ Bd hml0 hP hK
  obtain ⟨rfl, hZ, hh⟩ := hP
  have hx := Bd.exec
  have hby := Bd.bytes
  have hml : c.maxLocals = 3 := hml0
  have hown : s.vm.findClass "java/lang/AbstractStringBuilder" = some m.cls := findClass_of_methodNamed Bd.named
  have hnm := (name_of_methodNamed Bd.named Bd.method).1
  have X0 : Stand p l e rM10 s m #[(.ref a1), (.int p2), (.ref a3)] below meth c s₁ [] 0 0 := Stand.of_body Bd
  have e0 : s₁.heap = h0 := by rw [← hh, Bd.state]; rfl
  have N0 := Fr.nil Z.heap.size
  have Z0 : Z.heap.size ≤ h0.size := OL.2.1
  have lt_0 : @LT.lt Nat _ a1 h0.size := p0_.lt
  have lt_1 : @LT.lt Nat _ a1 h0.size := p1_.lt
  have lt_2 : @LT.lt Nat _ a1 h0.size := p2_.lt
  have lt_3 : @LT.lt Nat _ a3 h0.size := p3_.lt
  have ltv_3 : @LT.lt Nat _ t h0.size := p3_.ltv
  have lt_4 : @LT.lt Nat _ a4 h0.size := p4_.lt
  show oG p.tables e below (fun o tE => ∃ v L, o = .returned v ∧ Q_putStringAt Z a1 p2 a3 t cs ds cap k zc a4 h0 v tE.heap L ∧ FrameEnd s o tE L rM10.cells rM10.slots) (s₁.setTop (entryFrame m #[(.ref a1), (.int p2), (.ref a3)] 3))
  refine own_hd (fun PP hPP => ?_)
  refine oG.st (fun t k => castTop (ef_136 m a1 p2 a3) k) ?_
  obtain ⟨kb219, s1219, s2219, s3219, s4219⟩ := own_Str.latF p3_ (fun c q => (hld c q).2)
  refine oG.st (fun _ k => XS.aloadN X0.here hx rfl (hb hby dj68_73_0) rfl rfl (XS.aloadN X0.here hx rfl (hb hby dj68_73_1) rfl rfl k)) ?_
  show oG _ _ _ _ (s₁.setTop (mkF m 2 #[.val (.ref a1), .val (.int p2), .val (.ref a3)] [(.ref a3), (.ref a1)]))
  obtain ⟨cq220, q220, q220'⟩ := p0_.cell
  obtain ⟨_, _, ⟨T220, L220, k220, n220⟩, -, X220, ⟨Lc220, hQ220, l220, y220, z220⟩, st220⟩ := X0.privateBack hx (y := mN10) hown (own_v hZ hw 98 rfl) (own_v hZ hw 99 rfl) (own_selP (own_v hZ hw 101 rfl) (Cond.privateMethod_at (mvP hZ (own_w hw 100 rfl) (args := #[]))) (own_v hZ hw 99 rfl) (by decide)) (Cond.privateMethod_at (mvP hZ (own_w hw 100 rfl) (args := #[]))) (own_v hZ hw 102 rfl) (by decide) (backOf (W := 0) (rm_inflate l Z a0 hw [] a1 a3 zc h0 OL p2_ s1219 s3219 st_C hzc) hZ (own_w hw 102 rfl) (own_w hw 54 rfl) (by decide) (by decide)) (g := (mkF m 2 #[.val (.ref a1), .val (.int p2), .val (.ref a3)] [(.ref a3), (.ref a1)])) rfl (by rw [hml]; rfl) (Steps.refl _) (a := a1) (own_rwE e0 q220) q220' (argsL := [(.ref a3)]) (rest := []) (lenOf pd_139 rfl) rfl (by show 2 * 0 + _ ≤ _; exact Nat.le_of_eq rfl) (hb hby dj68_73_2) (fun _ _ => ⟨rfl, e0, (by decide : 0 + 0 ≤ _), (by decide : 0 + 0 ≤ _)⟩)
  dsimp only [Pt.U, Pt.locs, Pt.cells, Pt.slots] at X220 l220 y220 z220 st220 hQ220
  subst y220 z220
  obtain ⟨rfl, N220q, K220⟩ := hQ220
  have N220 := own_FrE l220 (Fr.app N0 N220q)
  refine oG.tr st220 ?_
  refine oG.st (fun _ k => XS.aloadN X220.here hx rfl (hb hby dj68_73_5) rfl rfl (XS.aloadN X220.here hx rfl (hb hby dj68_73_6) rfl rfl k)) ?_
  show oG _ _ _ _ (T220.setTop (mkF m 7 #[.val (.ref a1), .val (.int p2), .val (.ref a3)] [(.ref a1), (.ref a3)]))
  obtain ⟨T221, X221, e221, st221⟩ := getF X220 hx hZ hown (host := "") (Or.inl (own_w hw 58 rfl)) Via.refl K220 p1_ (g := (mkF m 7 #[.val (.ref a1), .val (.int p2), .val (.ref a3)] [(.ref a1), (.ref a3)])) rfl rfl (hb hby dj68_73_7)
  refine oG.st st221 ?_
  refine oG.st (fun _ k => XS.iloadN X221.here hx rfl (hb hby dj68_73_10) rfl (XS.aloadN X221.here hx rfl (hb hby dj68_73_11) rfl rfl k)) ?_
  show oG _ _ _ _ (T221.setTop (mkF m 12 #[.val (.ref a1), .val (.int p2), .val (.ref a3)] [(.ref a1), (.int p2), (.ref a4), (.ref a3)]))
  obtain ⟨T222, X222, e222, st222⟩ := getF X221 hx hZ hown (host := "") (Or.inl (own_w hw 60 rfl)) Via.refl e221 p2_ (g := (mkF m 12 #[.val (.ref a1), .val (.int p2), .val (.ref a3)] [(.ref a1), (.int p2), (.ref a4), (.ref a3)])) rfl rfl (hb hby dj68_73_12)
  refine oG.st st222 ?_
  show oG _ _ _ _ (T222.setTop (mkF m 15 #[.val (.ref a1), .val (.int p2), .val (.ref a3)] [(.int (0 : Int32)), (.int p2), (.ref a4), (.ref a3)]))
  obtain ⟨cq223, kq223, q223a, q223b, q223c⟩ := isOf hZ e222 s1219
  obtain ⟨_, _, ⟨T223, L223, k223, n223⟩, -, X223, ⟨Lc223, hQ223, l223, y223, z223⟩, st223⟩ := X222.virtualBack hx (y := mN23) (z := mN23) hown (own_v hZ hw 104 rfl) (own_v hZ hw 105 rfl) (notFace_of_selects (args := #[]) (own_v hZ hw 107 rfl)) (own_v hZ hw 107 rfl) (own_v hZ hw 106 rfl) (by decide) (backOf (W := 0) (rm_getBytes l Z a0 hw [] a3 a4 p2 t cs ds cap k kb219 zc h0 OL s1219 s2219 s3219 s4219 p4_ st_C hzc hp2 hfit hcap (by first | assumption | decide) (by first | assumption | decide)) hZ (own_w hw 108 rfl) (own_w hw 10 rfl) (by decide) (by decide)) q223a q223c (g := (mkF m 15 #[.val (.ref a1), .val (.int p2), .val (.ref a3)] [(.int (0 : Int32)), (.int p2), (.ref a4), (.ref a3)])) rfl (by rw [hml]; rfl) (Steps.refl _) (argsL := [(.ref a4), (.int p2), (.int (0 : Int32))]) (rest := []) (lenOf pd_147 rfl) rfl (by show 2 * 0 + _ ≤ _; exact Nat.le_of_eq rfl) (hb hby dj68_73_15) (fun _ _ => ⟨rfl, e222, (by decide : 0 + 0 ≤ _), (by decide : 0 + 0 ≤ _)⟩)
  dsimp only [Pt.U, Pt.locs, Pt.cells, Pt.slots] at X223 l223 y223 z223 st223 hQ223
  subst y223 z223
  obtain ⟨rfl, N223q, K223, f223_0⟩ := hQ223
  have N223 := own_FrE l223 (Fr.app N220 N223q)
  have z223 : h0.size ≤ T223.heap.size := K223.1
  have lt223_0 : @LT.lt Nat _ a4 T223.heap.size := f223_0.lt
  refine oG.tr st223 ?_
  show oG _ _ _ _ (T223.setTop (mkF m 18 #[.val (.ref a1), .val (.int p2), .val (.ref a3)] []))
  obtain ⟨fs224, hr224, hrun224, hend224, hW224, hsm224⟩ := X223.leave (v := none) (fun _ => rfl)
  have K225 : Keep h0 T223.heap [a4] := (Keep.refl h0 [a4]).trans K223 (allS (Or.inl (List.mem_of_getElem? (i := 0) rfl)) all0)
  subst hPP
  refine ⟨_, _, X223.returnOut hx Bd.returns (hb hby dj68_73_18) hr224, hrun224, hend224, _, _, rfl, ?_, ⟨_, rfl⟩, hW224, hsm224.mono (by decide) (by decide)⟩
  · show Q_putStringAt Z _ _ _ _ _ _ _ _ _ _ h0 _ T223.heap _
    exact ⟨rfl, N223, K225, f223_0⟩
theorem dj29_65_0 : decode cJ0 0 = .ok (.iload_n 0, 1) := by decide +kernel
theorem dj29_65_1 : decode cJ0 1 = .ok (.iload_n 1, 1) := by decide +kernel
theorem dj29_65_2 : decode cJ0 2 = .ok (.if_icmp .lt 7, 3) := by decide +kernel
theorem dj29_65_9 : decode cJ0 9 = .ok (.iload_n 1, 1) := by decide +kernel
theorem dj29_65_10 : decode cJ0 10 = .ok (.ireturn, 1) := by decide +kernel
theorem dj29_65_5 : decode cJ0 5 = .ok (.iload_n 0, 1) := by decide +kernel
theorem dj29_65_6 : decode cJ0 6 = .ok (.goto 4, 3) := by decide +kernel
def Q_mmax (Z : State) (p1 : Int32) (p2 : Int32) (h0 : Heap) (v : Option Value) (h : Heap) (L : List Loc) : Prop := v = some (.int (if p1 < p2 then p2 else p1)) ∧ Fr Z.heap.size L ∧ h = h0
set_option maxRecDepth 65536 in
set_option maxHeartbeats 40000000 in
theorem rm_mmax (l : Launch) (Z : State) (a0 : Array Value) (hw : ∀ d ∈ tables_1, d.before a0 Z = true) (ws : List Jvm.Cond) (p1 : Int32) (p2 : Int32) (h0 : Heap) (OL : Old Z Z.heap.size h0) :
    MetFree l mN15 (head1 (Jvm.Cond.code mN15 jdk_29_method_65_code 2 (some .int) :: ws) rM0) (fun a U => a = #[(.int p1), (.int p2)] ∧ Z.Warmed39 U.vm ∧ U.heap = h0) (fun _ _ _ _ _ => True) (fun _ U o U' => ∃ v L, o = .returned v ∧ Q_mmax Z p1 p2 h0 v U'.heap L ∧ FrameEnd U o U' L rM0.cells rM0.slots) := by
  refine MetFree.of_bodySF (by decide +kernel) hisR ?_
  intro p e s m args below meth c s₁ Bd hml0 hP hK
  obtain ⟨rfl, hZ, hh⟩ := hP
  have hx := Bd.exec
  have hby := Bd.bytes
  have hml : c.maxLocals = 2 := hml0
  have hown : s.vm.findClass "java/lang/Math" = some m.cls := findClass_of_methodNamed Bd.named
  have hnm := (name_of_methodNamed Bd.named Bd.method).1
  have X0 : Stand p l e rM0 s m #[(.int p1), (.int p2)] below meth c s₁ [] 0 0 := Stand.of_body Bd
  have e0 : s₁.heap = h0 := by rw [← hh, Bd.state]; rfl
  have N0 := Fr.nil Z.heap.size
  have Z0 : Z.heap.size ≤ h0.size := OL.2.1
  show oG p.tables e below (fun o tE => ∃ v L, o = .returned v ∧ Q_mmax Z p1 p2 h0 v tE.heap L ∧ FrameEnd s o tE L rM0.cells rM0.slots) (s₁.setTop (entryFrame m #[(.int p1), (.int p2)] 2))
  refine own_hd (fun PP hPP => ?_)
  refine oG.st (fun t k => castTop (ef_25 m p1 p2) k) ?_
  refine oG.st (fun _ k => XS.iloadN X0.here hx rfl (hb hby dj29_65_0) rfl (XS.iloadN X0.here hx rfl (hb hby dj29_65_1) rfl k)) ?_
  show oG _ _ _ _ (s₁.setTop (mkF m 2 #[.val (.int p1), .val (.int p2)] [(.int p2), (.int p1)]))
  by_cases hc226 : p1 < p2
  ·
    refine oG.st (fun _ k => XS.icmpYes X0.here hx rfl (pc0 := 2) (pc' := 9) rfl (hb hby dj29_65_2) rfl (tlt hc226).1 (by decide) (by decide) k) ?_
    refine oG.st (fun _ k => XS.iloadN X0.here hx rfl (hb hby dj29_65_9) rfl k) ?_
    show oG _ _ _ _ (s₁.setTop (mkF m 10 #[.val (.int p1), .val (.int p2)] [(.int p2)]))
    obtain ⟨fs227, hr227, hrun227, hend227, hW227, hsm227⟩ := X0.leave (v := some (.int p2)) (fun h => by rw [Bd.returns] at h; cases h)
    subst hPP
    refine ⟨_, _, own_retI X0 hx Bd.returns (hb hby dj29_65_10) hr227, hrun227, hend227, _, _, rfl, ?_, ⟨_, rfl⟩, hW227, hsm227.mono (by decide) (by decide)⟩
    · show Q_mmax Z _ _ h0 _ s₁.heap _
      rw [e0]
      exact ⟨(by rw [if_pos hc226]), N0, rfl⟩
  ·
    refine oG.st (fun _ k => XS.icmpNo X0.here hx rfl (hb hby dj29_65_2) rfl (flt hc226).1 k) ?_
    refine oG.st (fun _ k => XS.iloadN X0.here hx rfl (hb hby dj29_65_5) rfl (XS.goto X0.here hx rfl (pc0 := 6) (pc' := 10) rfl (hb hby dj29_65_6) (by decide) (by decide) k)) ?_
    show oG _ _ _ _ (s₁.setTop (mkF m 10 #[.val (.int p1), .val (.int p2)] [(.int p1)]))
    obtain ⟨fs228, hr228, hrun228, hend228, hW228, hsm228⟩ := X0.leave (v := some (.int p1)) (fun h => by rw [Bd.returns] at h; cases h)
    subst hPP
    refine ⟨_, _, own_retI X0 hx Bd.returns (hb hby dj29_65_10) hr228, hrun228, hend228, _, _, rfl, ?_, ⟨_, rfl⟩, hW228, hsm228.mono (by decide) (by decide)⟩
    · show Q_mmax Z _ _ h0 _ s₁.heap _
      rw [e0]
      exact ⟨(by rw [if_neg hc226]), N0, rfl⟩

theorem own_max18 {mm : Nat} (h : mm ≤ 18) : (if Int32.ofNat mm < (18 : Int32) then (18 : Int32) else Int32.ofNat mm) = (18 : Int32) := by
  by_cases q : Int32.ofNat mm < (18 : Int32)
  · rw [if_pos q]
  · rw [if_neg q]
    have q2 : ¬ mm < 18 := fun u => q ((own_oflt (j := 18) (by omega) (by omega)).mpr u)
    obtain rfl : mm = 18 := by omega
    rfl

theorem pn_157 : plainName "jdk/internal/util/ArraysSupport" = true := by first | (simp [plainName, overriddenIn]; done) | decide +kernel
theorem ef_158 (m : MethodId) (x0 : Int32) (x1 : Int32) (x2 : Int32) : entryFrame m #[(.int x0), (.int x1), (.int x2)] 4 = mkF m 0 #[.val (.int x0), .val (.int x1), .val (.int x2), .unset] [] := by first | (simp [entryFrame, mkF, argsToLocals, Value.category]; done) | rfl
theorem dj48_27_0 : decode cJ7 0 = .ok (.iload_n 0, 1) := by decide +kernel
theorem dj48_27_1 : decode cJ7 1 = .ok (.iload_n 1, 1) := by decide +kernel
theorem dj48_27_2 : decode cJ7 2 = .ok (.iload_n 2, 1) := by decide +kernel
theorem dj48_27_3 : decode cJ7 3 = .ok (.invokestatic 194, 3) := by decide +kernel
theorem dj48_27_6 : decode cJ7 6 = .ok (.iadd, 1) := by decide +kernel
theorem dj48_27_7 : decode cJ7 7 = .ok (.istore_n 3, 1) := by decide +kernel
theorem dj48_27_8 : decode cJ7 8 = .ok (.iconst 0, 1) := by decide +kernel
theorem dj48_27_9 : decode cJ7 9 = .ok (.iload_n 3, 1) := by decide +kernel
theorem dj48_27_10 : decode cJ7 10 = .ok (.if_icmp .ge 11, 3) := by decide +kernel
theorem dj48_27_13 : decode cJ7 13 = .ok (.iload_n 3, 1) := by decide +kernel
theorem dj48_27_14 : decode cJ7 14 = .ok (.ldc 200, 2) := by decide +kernel
theorem dj48_27_16 : decode cJ7 16 = .ok (.if_icmp .gt 5, 3) := by decide +kernel
theorem dj48_27_19 : decode cJ7 19 = .ok (.iload_n 3, 1) := by decide +kernel
theorem dj48_27_20 : decode cJ7 20 = .ok (.ireturn, 1) := by decide +kernel
def Q_newLen (Z : State) (p2 : Int32) (mm : Nat) (h0 : Heap) (v : Option Value) (h : Heap) (L : List Loc) : Prop := v = some (.int (34 : Int32)) ∧ Fr Z.heap.size L ∧ h = h0
set_option maxRecDepth 65536 in
set_option maxHeartbeats 40000000 in
theorem rm_newLen (l : Launch) (Z : State) (a0 : Array Value) (hw : ∀ d ∈ tables_1, d.before a0 Z = true) (ws : List Jvm.Cond) (p2 : Int32) (mm : Nat) (h0 : Heap) (OL : Old Z Z.heap.size h0) (hp2 : p2 = Int32.ofNat mm) (hmm : mm ≤ 18) :
    MetFree l mN33 (head1 (Jvm.Cond.code mN33 jdk_48_method_27_code 4 (some .int) :: ws) rM3) (fun a U => a = #[(.int (16 : Int32)), (.int p2), (.int (18 : Int32))] ∧ Z.Warmed39 U.vm ∧ U.heap = h0) (fun _ _ _ _ _ => True) (fun _ U o U' => ∃ v L, o = .returned v ∧ Q_newLen Z p2 mm h0 v U'.heap L ∧ FrameEnd U o U' L rM3.cells rM3.slots) := by
  refine MetFree.of_bodySF (plainFor_of_name pn_157) hisR ?_
  intro p e s m args below meth c s₁ Bd hml0 hP hK
  obtain ⟨rfl, hZ, hh⟩ := hP
  have hx := Bd.exec
  have hby := Bd.bytes
  have hml : c.maxLocals = 4 := hml0
  have hown : s.vm.findClass "jdk/internal/util/ArraysSupport" = some m.cls := findClass_of_methodNamed Bd.named
  have hnm := (name_of_methodNamed Bd.named Bd.method).1
  have X0 : Stand p l e rM3 s m #[(.int (16 : Int32)), (.int p2), (.int (18 : Int32))] below meth c s₁ [] 0 0 := Stand.of_body Bd
  have e0 : s₁.heap = h0 := by rw [← hh, Bd.state]; rfl
  have N0 := Fr.nil Z.heap.size
  have Z0 : Z.heap.size ≤ h0.size := OL.2.1
  show oG p.tables e below (fun o tE => ∃ v L, o = .returned v ∧ Q_newLen Z p2 mm h0 v tE.heap L ∧ FrameEnd s o tE L rM3.cells rM3.slots) (s₁.setTop (entryFrame m #[(.int (16 : Int32)), (.int p2), (.int (18 : Int32))] 4))
  refine own_hd (fun PP hPP => ?_)
  refine oG.st (fun t k => castTop (ef_158 m (16 : Int32) p2 (18 : Int32)) k) ?_
  subst hp2
  refine oG.st (fun _ k => XS.iloadN X0.here hx rfl (hb hby dj48_27_0) rfl (XS.iloadN X0.here hx rfl (hb hby dj48_27_1) rfl (XS.iloadN X0.here hx rfl (hb hby dj48_27_2) rfl k))) ?_
  show oG _ _ _ _ (s₁.setTop (mkF m 3 #[.val (.int (16 : Int32)), .val (.int (Int32.ofNat mm)), .val (.int (18 : Int32)), .unset] [(.int (18 : Int32)), (.int (Int32.ofNat mm)), (.int (16 : Int32))]))
  obtain ⟨_, _, ⟨T229, L229, k229, n229⟩, -, X229, ⟨Lc229, hQ229, l229, y229, z229⟩, st229⟩ := Jvm.LawKit.callS X0 hx (y := mN15) hown (own_v hZ hw 167 rfl) (own_v hZ hw 168 rfl) (own_v hZ hw 169 rfl) (own_v hZ hw 170 rfl) (by decide) (backOf (W := 1) (rm_mmax l Z a0 hw [] (Int32.ofNat mm) (18 : Int32) h0 OL ) hZ (own_w hw 170 rfl) (own_w hw 169 rfl) (by decide) (by decide)) (g := (mkF m 3 #[.val (.int (16 : Int32)), .val (.int (Int32.ofNat mm)), .val (.int (18 : Int32)), .unset] [(.int (18 : Int32)), (.int (Int32.ofNat mm)), (.int (16 : Int32))])) rfl (by rw [hml]; rfl) (argsL := [(.int (Int32.ofNat mm)), (.int (18 : Int32))]) (rest := [(.int (16 : Int32))]) (lenOf pd_59 rfl) rfl (by show 2 * 0 + _ ≤ _; exact Nat.le_of_eq rfl) (hb hby dj48_27_3) (fun _ _ => ⟨rfl, e0, (by decide : 0 + 0 ≤ _), (by decide : 0 + 0 ≤ _)⟩)
  dsimp only [Pt.U, Pt.locs, Pt.cells, Pt.slots] at X229 l229 y229 z229 st229 hQ229
  subst y229 z229
  obtain ⟨rfl, N229q, K229⟩ := hQ229
  have N229 := own_FrE l229 (Fr.app N0 N229q)
  refine oG.st st229 ?_
  show oG _ _ _ _ (T229.setTop (mkF m 6 #[.val (.int (16 : Int32)), .val (.int (Int32.ofNat mm)), .val (.int (18 : Int32)), .unset] [(.int (if (Int32.ofNat mm) < (18 : Int32) then (18 : Int32) else (Int32.ofNat mm))), (.int (16 : Int32))]))
  rw [own_max18 hmm]
  refine oG.st (fun _ k => XS.iadd X229.here hx rfl (hb hby dj48_27_6) rfl (XS.istoreN X229.here hx rfl (hb hby dj48_27_7) rfl (l' := #[.val (.int (16 : Int32)), .val (.int (Int32.ofNat mm)), .val (.int (18 : Int32)), .val (.int (34 : Int32))]) rfl (XS.iconst X229.here hx rfl (hb hby dj48_27_8) (XS.iloadN X229.here hx rfl (hb hby dj48_27_9) rfl k)))) ?_
  show oG _ _ _ _ (T229.setTop (mkF m 10 #[.val (.int (16 : Int32)), .val (.int (Int32.ofNat mm)), .val (.int (18 : Int32)), .val (.int (34 : Int32))] [(.int (34 : Int32)), (.int (0 : Int32))]))
  refine oG.st (fun _ k => XS.icmpNo X229.here hx rfl (hb hby dj48_27_10) rfl (tlt (by decide : (0 : Int32) < (34 : Int32))).2.1 k) ?_
  refine oG.st (fun _ k => XS.iloadN X229.here hx rfl (hb hby dj48_27_13) rfl k) ?_
  show oG _ _ _ _ (T229.setTop (mkF m 14 #[.val (.int (16 : Int32)), .val (.int (Int32.ofNat mm)), .val (.int (18 : Int32)), .val (.int (34 : Int32))] [(.int (34 : Int32))]))
  refine oG.st (X229.ldcInt hx hown (own_v hZ hw 171 rfl) (g := (mkF m 14 #[.val (.int (16 : Int32)), .val (.int (Int32.ofNat mm)), .val (.int (18 : Int32)), .val (.int (34 : Int32))] [(.int (34 : Int32))])) rfl (hb hby dj48_27_14)) ?_
  show oG _ _ _ _ (T229.setTop (mkF m 16 #[.val (.int (16 : Int32)), .val (.int (Int32.ofNat mm)), .val (.int (18 : Int32)), .val (.int (34 : Int32))] [(.int (2147483639 : Int32)), (.int (34 : Int32))]))
  refine oG.st (fun _ k => XS.icmpNo X229.here hx rfl (hb hby dj48_27_16) rfl (flt (by decide : ¬ ((2147483639 : Int32) < (34 : Int32)))).2.2.1 k) ?_
  refine oG.st (fun _ k => XS.iloadN X229.here hx rfl (hb hby dj48_27_19) rfl k) ?_
  show oG _ _ _ _ (T229.setTop (mkF m 20 #[.val (.int (16 : Int32)), .val (.int (Int32.ofNat mm)), .val (.int (18 : Int32)), .val (.int (34 : Int32))] [(.int (34 : Int32))]))
  obtain ⟨fs230, hr230, hrun230, hend230, hW230, hsm230⟩ := X229.leave (v := some (.int (34 : Int32))) (fun h => by rw [Bd.returns] at h; cases h)
  subst hPP
  refine ⟨_, _, own_retI X229 hx Bd.returns (hb hby dj48_27_20) hr230, hrun230, hend230, _, _, rfl, ?_, ⟨_, rfl⟩, hW230, hsm230.mono (by decide) (by decide)⟩
  · show Q_newLen Z _ _ h0 _ T229.heap _
    rw [K229]
    exact ⟨rfl, N229, rfl⟩
theorem ef_173 (m : MethodId) (x0 : Nat) (x1 : Int32) : entryFrame m #[(.ref x0), (.int x1)] 6 = mkF m 0 #[.val (.ref x0), .val (.int x1), .unset, .unset, .unset, .unset] [] := by first | (simp [entryFrame, mkF, argsToLocals, Value.category]; done) | rfl
theorem dj68_10_0 : decode cJ12 0 = .ok (.aload_n 0, 1) := by decide +kernel
theorem dj68_10_1 : decode cJ12 1 = .ok (.getfield 15, 3) := by decide +kernel
theorem dj68_10_4 : decode cJ12 4 = .ok (.arraylength, 1) := by decide +kernel
theorem dj68_10_5 : decode cJ12 5 = .ok (.istore_n 2, 1) := by decide +kernel
theorem dj68_10_6 : decode cJ12 6 = .ok (.iload_n 1, 1) := by decide +kernel
theorem dj68_10_7 : decode cJ12 7 = .ok (.aload_n 0, 1) := by decide +kernel
theorem dj68_10_8 : decode cJ12 8 = .ok (.getfield 22, 3) := by decide +kernel
theorem dj68_10_11 : decode cJ12 11 = .ok (.ishl, 1) := by decide +kernel
theorem dj68_10_12 : decode cJ12 12 = .ok (.istore_n 3, 1) := by decide +kernel
theorem dj68_10_13 : decode cJ12 13 = .ok (.iload_n 3, 1) := by decide +kernel
theorem dj68_10_14 : decode cJ12 14 = .ok (.iload_n 2, 1) := by decide +kernel
theorem dj68_10_15 : decode cJ12 15 = .ok (.isub, 1) := by decide +kernel
theorem dj68_10_16 : decode cJ12 16 = .ok (.istore 4, 2) := by decide +kernel
theorem dj68_10_18 : decode cJ12 18 = .ok (.iload_n 2, 1) := by decide +kernel
theorem dj68_10_19 : decode cJ12 19 = .ok (.iload 4, 2) := by decide +kernel
theorem dj68_10_21 : decode cJ12 21 = .ok (.iload_n 2, 1) := by decide +kernel
theorem dj68_10_22 : decode cJ12 22 = .ok (.iconst 2, 1) := by decide +kernel
theorem dj68_10_23 : decode cJ12 23 = .ok (.aload_n 0, 1) := by decide +kernel
theorem dj68_10_24 : decode cJ12 24 = .ok (.getfield 22, 3) := by decide +kernel
theorem dj68_10_27 : decode cJ12 27 = .ok (.ishl, 1) := by decide +kernel
theorem dj68_10_28 : decode cJ12 28 = .ok (.iadd, 1) := by decide +kernel
theorem pd_195 : parseMethodDescriptor "(III)I" = some ⟨[.int, .int, .int], some .int⟩ := by decide +kernel
theorem dj68_10_29 : decode cJ12 29 = .ok (.invokestatic 114, 3) := by decide +kernel
theorem dj68_10_32 : decode cJ12 32 = .ok (.istore 5, 2) := by decide +kernel
theorem dj68_10_34 : decode cJ12 34 = .ok (.iload 5, 2) := by decide +kernel
theorem dj68_10_36 : decode cJ12 36 = .ok (.ldc 39, 2) := by decide +kernel
theorem dj68_10_38 : decode cJ12 38 = .ok (.if_icmp .ne 13, 3) := by decide +kernel
theorem dj68_10_51 : decode cJ12 51 = .ok (.iload 5, 2) := by decide +kernel
theorem dj68_10_53 : decode cJ12 53 = .ok (.aload_n 0, 1) := by decide +kernel
theorem dj68_10_54 : decode cJ12 54 = .ok (.getfield 22, 3) := by decide +kernel
theorem dj68_10_57 : decode cJ12 57 = .ok (.ishr, 1) := by decide +kernel
theorem dj68_10_58 : decode cJ12 58 = .ok (.ireturn, 1) := by decide +kernel
def Q_newCap (Z : State) (a1 : Nat) (p2 : Int32) (nn : Nat) (a4 : Nat) (k : ClassId) (vs : List Value) (h0 : Heap) (v : Option Value) (h : Heap) (L : List Loc) : Prop := v = some (.int (34 : Int32)) ∧ Fr Z.heap.size L ∧ h = h0
set_option maxRecDepth 65536 in
set_option maxHeartbeats 40000000 in
theorem rm_newCap (l : Launch) (Z : State) (a0 : Array Value) (hw : ∀ d ∈ tables_1, d.before a0 Z = true) (ws : List Jvm.Cond) (a1 : Nat) (p2 : Int32) (nn : Nat) (a4 : Nat) (k : ClassId) (vs : List Value) (h0 : Heap) (OL : Old Z Z.heap.size h0) (p0_ : Fld Z h0 a1 "java/lang/AbstractStringBuilder" "value" "[B" (.ref a4)) (p1_ : Fld Z h0 a1 "java/lang/AbstractStringBuilder" "coder" "B" (.int (0 : Int32))) (p2_ : Arv Z h0 a4 k .byte (Int32.ofNat 16) vs (.int (0 : Int32))) (hp2 : p2 = Int32.ofNat nn) (hnn : 16 < nn ∧ nn ≤ 34) :
    MetFree l mN13 (head1 (Jvm.Cond.code mN13 jdk_68_method_10_code 6 (some .int) :: ws) rM9) (fun a U => a = #[(.ref a1), (.int p2)] ∧ Z.Warmed39 U.vm ∧ U.heap = h0) (fun _ _ _ _ _ => True) (fun _ U o U' => ∃ v L, o = .returned v ∧ Q_newCap Z a1 p2 nn a4 k vs h0 v U'.heap L ∧ FrameEnd U o U' L rM9.cells rM9.slots) := by
  refine MetFree.of_bodySF (plainFor_of_name pn_81) hisR ?_
  intro p e s m args below meth c s₁ Bd hml0 hP hK
  obtain ⟨rfl, hZ, hh⟩ := hP
  have hx := Bd.exec
  have hby := Bd.bytes
  have hml : c.maxLocals = 6 := hml0
  have hown : s.vm.findClass "java/lang/AbstractStringBuilder" = some m.cls := findClass_of_methodNamed Bd.named
  have hnm := (name_of_methodNamed Bd.named Bd.method).1
  have X0 : Stand p l e rM9 s m #[(.ref a1), (.int p2)] below meth c s₁ [] 0 0 := Stand.of_body Bd
  have e0 : s₁.heap = h0 := by rw [← hh, Bd.state]; rfl
  have N0 := Fr.nil Z.heap.size
  have Z0 : Z.heap.size ≤ h0.size := OL.2.1
  have lt_0 : @LT.lt Nat _ a1 h0.size := p0_.lt
  have lt_1 : @LT.lt Nat _ a1 h0.size := p1_.lt
  have lt_2 : @LT.lt Nat _ a4 h0.size := p2_.lt
  show oG p.tables e below (fun o tE => ∃ v L, o = .returned v ∧ Q_newCap Z a1 p2 nn a4 k vs h0 v tE.heap L ∧ FrameEnd s o tE L rM9.cells rM9.slots) (s₁.setTop (entryFrame m #[(.ref a1), (.int p2)] 6))
  refine own_hd (fun PP hPP => ?_)
  refine oG.st (fun t k => castTop (ef_173 m a1 p2) k) ?_
  subst hp2
  refine oG.st (fun _ k => XS.aloadN X0.here hx rfl (hb hby dj68_10_0) rfl rfl k) ?_
  show oG _ _ _ _ (s₁.setTop (mkF m 1 #[.val (.ref a1), .val (.int (Int32.ofNat nn)), .unset, .unset, .unset, .unset] [(.ref a1)]))
  obtain ⟨T231, X231, e231, st231⟩ := getF X0 hx hZ hown (host := "") (Or.inl (own_w hw 58 rfl)) Via.refl e0 p0_ (g := (mkF m 1 #[.val (.ref a1), .val (.int (Int32.ofNat nn)), .unset, .unset, .unset, .unset] [(.ref a1)])) rfl rfl (hb hby dj68_10_1)
  refine oG.st st231 ?_
  show oG _ _ _ _ (T231.setTop (mkF m 4 #[.val (.ref a1), .val (.int (Int32.ofNat nn)), .unset, .unset, .unset, .unset] [(.ref a4)]))
  obtain ⟨c232, Ar232, q232, S232, Nn232, H232, G232⟩ := id p2_
  refine oG.st (X231.arraylength hx (own_rwE e231 Ar232.1) (State.isArrayOf_alike hZ.alike Ar232.2.1) (g := (mkF m 4 #[.val (.ref a1), .val (.int (Int32.ofNat nn)), .unset, .unset, .unset, .unset] [(.ref a4)])) rfl rfl (hb hby dj68_10_4)) ?_
  rw [len_of S232 Nn232]
  refine oG.st (fun _ k => XS.istoreN X231.here hx rfl (hb hby dj68_10_5) rfl (l' := #[.val (.ref a1), .val (.int (Int32.ofNat nn)), .val (.int (Int32.ofNat 16)), .unset, .unset, .unset]) rfl (XS.iloadN X231.here hx rfl (hb hby dj68_10_6) rfl (XS.aloadN X231.here hx rfl (hb hby dj68_10_7) rfl rfl k))) ?_
  show oG _ _ _ _ (T231.setTop (mkF m 8 #[.val (.ref a1), .val (.int (Int32.ofNat nn)), .val (.int (Int32.ofNat 16)), .unset, .unset, .unset] [(.ref a1), (.int (Int32.ofNat nn))]))
  obtain ⟨T233, X233, e233, st233⟩ := getF X231 hx hZ hown (host := "") (Or.inl (own_w hw 60 rfl)) Via.refl e231 p1_ (g := (mkF m 8 #[.val (.ref a1), .val (.int (Int32.ofNat nn)), .val (.int (Int32.ofNat 16)), .unset, .unset, .unset] [(.ref a1), (.int (Int32.ofNat nn))])) rfl rfl (hb hby dj68_10_8)
  refine oG.st st233 ?_
  refine oG.st (fun _ k => XS.ishl X233.here hx rfl (hb hby dj68_10_11) rfl k) ?_
  show oG _ _ _ _ (T233.setTop (mkF m 12 #[.val (.ref a1), .val (.int (Int32.ofNat nn)), .val (.int (Int32.ofNat 16)), .unset, .unset, .unset] [(.int ((Int32.ofNat nn) <<< ((0 : Int32) &&& 31)))]))
  rw [own_shl0]
  refine oG.st (fun _ k => XS.istoreN X233.here hx rfl (hb hby dj68_10_12) rfl (l' := #[.val (.ref a1), .val (.int (Int32.ofNat nn)), .val (.int (Int32.ofNat 16)), .val (.int (Int32.ofNat nn)), .unset, .unset]) rfl (XS.iloadN X233.here hx rfl (hb hby dj68_10_13) rfl (XS.iloadN X233.here hx rfl (hb hby dj68_10_14) rfl (XS.isub X233.here hx rfl (hb hby dj68_10_15) rfl k)))) ?_
  show oG _ _ _ _ (T233.setTop (mkF m 16 #[.val (.ref a1), .val (.int (Int32.ofNat nn)), .val (.int (Int32.ofNat 16)), .val (.int (Int32.ofNat nn)), .unset, .unset] [(.int ((Int32.ofNat nn) - (Int32.ofNat 16)))]))
  rw [own_ofB (by omega) (by omega)]
  refine oG.st (fun _ k => XS.istore X233.here hx rfl (hb hby dj68_10_16) rfl (l' := #[.val (.ref a1), .val (.int (Int32.ofNat nn)), .val (.int (Int32.ofNat 16)), .val (.int (Int32.ofNat nn)), .val (.int (Int32.ofNat (nn - 16))), .unset]) rfl k) ?_
  show oG _ _ _ _ (T233.setTop (mkF m 18 #[.val (.ref a1), .val (.int (Int32.ofNat nn)), .val (.int (Int32.ofNat 16)), .val (.int (Int32.ofNat nn)), .val (.int (Int32.ofNat (nn - 16))), .unset] []))
  change oG _ _ _ _ (T233.setTop (mkF m 18 #[.val (.ref a1), .val (.int (Int32.ofNat nn)), .val (.int (16 : Int32)), .val (.int (Int32.ofNat nn)), .val (.int (Int32.ofNat (nn - 16))), .unset] []))
  refine oG.st (fun _ k => XS.iloadN X233.here hx rfl (hb hby dj68_10_18) rfl (XS.iload X233.here hx rfl (hb hby dj68_10_19) rfl (XS.iloadN X233.here hx rfl (hb hby dj68_10_21) rfl (XS.iconst X233.here hx rfl (hb hby dj68_10_22) (XS.aloadN X233.here hx rfl (hb hby dj68_10_23) rfl rfl k))))) ?_
  show oG _ _ _ _ (T233.setTop (mkF m 24 #[.val (.ref a1), .val (.int (Int32.ofNat nn)), .val (.int (16 : Int32)), .val (.int (Int32.ofNat nn)), .val (.int (Int32.ofNat (nn - 16))), .unset] [(.ref a1), (.int (2 : Int32)), (.int (16 : Int32)), (.int (Int32.ofNat (nn - 16))), (.int (16 : Int32))]))
  obtain ⟨T234, X234, e234, st234⟩ := getF X233 hx hZ hown (host := "") (Or.inl (own_w hw 60 rfl)) Via.refl e233 p1_ (g := (mkF m 24 #[.val (.ref a1), .val (.int (Int32.ofNat nn)), .val (.int (16 : Int32)), .val (.int (Int32.ofNat nn)), .val (.int (Int32.ofNat (nn - 16))), .unset] [(.ref a1), (.int (2 : Int32)), (.int (16 : Int32)), (.int (Int32.ofNat (nn - 16))), (.int (16 : Int32))])) rfl rfl (hb hby dj68_10_24)
  refine oG.st st234 ?_
  refine oG.st (fun _ k => XS.ishl X234.here hx rfl (hb hby dj68_10_27) rfl k) ?_
  show oG _ _ _ _ (T234.setTop (mkF m 28 #[.val (.ref a1), .val (.int (Int32.ofNat nn)), .val (.int (16 : Int32)), .val (.int (Int32.ofNat nn)), .val (.int (Int32.ofNat (nn - 16))), .unset] [(.int ((2 : Int32) <<< ((0 : Int32) &&& 31))), (.int (16 : Int32)), (.int (Int32.ofNat (nn - 16))), (.int (16 : Int32))]))
  rw [own_shl0]
  refine oG.st (fun _ k => XS.iadd X234.here hx rfl (hb hby dj68_10_28) rfl k) ?_
  show oG _ _ _ _ (T234.setTop (mkF m 29 #[.val (.ref a1), .val (.int (Int32.ofNat nn)), .val (.int (16 : Int32)), .val (.int (Int32.ofNat nn)), .val (.int (Int32.ofNat (nn - 16))), .unset] [(.int (18 : Int32)), (.int (Int32.ofNat (nn - 16))), (.int (16 : Int32))]))
  obtain ⟨_, _, ⟨T235, L235, k235, n235⟩, -, X235, ⟨Lc235, hQ235, l235, y235, z235⟩, st235⟩ := Jvm.LawKit.callS X234 hx (y := mN33) hown (own_v hZ hw 163 rfl) (own_v hZ hw 164 rfl) (own_v hZ hw 165 rfl) (own_v hZ hw 166 rfl) (by decide) (backOf (W := 0) (rm_newLen l Z a0 hw [] (Int32.ofNat (nn - 16)) (nn - 16) h0 OL rfl (by omega)) hZ (own_w hw 166 rfl) (own_w hw 165 rfl) (by decide) (by decide)) (g := (mkF m 29 #[.val (.ref a1), .val (.int (Int32.ofNat nn)), .val (.int (16 : Int32)), .val (.int (Int32.ofNat nn)), .val (.int (Int32.ofNat (nn - 16))), .unset] [(.int (18 : Int32)), (.int (Int32.ofNat (nn - 16))), (.int (16 : Int32))])) rfl (by rw [hml]; rfl) (argsL := [(.int (16 : Int32)), (.int (Int32.ofNat (nn - 16))), (.int (18 : Int32))]) (rest := []) (lenOf pd_195 rfl) rfl (by show 2 * 0 + _ ≤ _; exact Nat.le_of_eq rfl) (hb hby dj68_10_29) (fun _ _ => ⟨rfl, e234, (by decide : 0 + 0 ≤ _), (by decide : 0 + 0 ≤ _)⟩)
  dsimp only [Pt.U, Pt.locs, Pt.cells, Pt.slots] at X235 l235 y235 z235 st235 hQ235
  subst y235 z235
  obtain ⟨rfl, N235q, K235⟩ := hQ235
  have N235 := own_FrE l235 (Fr.app N0 N235q)
  refine oG.st st235 ?_
  refine oG.st (fun _ k => XS.istore X235.here hx rfl (hb hby dj68_10_32) rfl (l' := #[.val (.ref a1), .val (.int (Int32.ofNat nn)), .val (.int (16 : Int32)), .val (.int (Int32.ofNat nn)), .val (.int (Int32.ofNat (nn - 16))), .val (.int (34 : Int32))]) rfl (XS.iload X235.here hx rfl (hb hby dj68_10_34) rfl k)) ?_
  show oG _ _ _ _ (T235.setTop (mkF m 36 #[.val (.ref a1), .val (.int (Int32.ofNat nn)), .val (.int (16 : Int32)), .val (.int (Int32.ofNat nn)), .val (.int (Int32.ofNat (nn - 16))), .val (.int (34 : Int32))] [(.int (34 : Int32))]))
  refine oG.st (X235.ldcInt hx hown (own_v hZ hw 172 rfl) (g := (mkF m 36 #[.val (.ref a1), .val (.int (Int32.ofNat nn)), .val (.int (16 : Int32)), .val (.int (Int32.ofNat nn)), .val (.int (Int32.ofNat (nn - 16))), .val (.int (34 : Int32))] [(.int (34 : Int32))])) rfl (hb hby dj68_10_36)) ?_
  show oG _ _ _ _ (T235.setTop (mkF m 38 #[.val (.ref a1), .val (.int (Int32.ofNat nn)), .val (.int (16 : Int32)), .val (.int (Int32.ofNat nn)), .val (.int (Int32.ofNat (nn - 16))), .val (.int (34 : Int32))] [(.int (2147483647 : Int32)), (.int (34 : Int32))]))
  have hc236 : ¬ ((34 : Int32) = (2147483647 : Int32)) := by decide
  refine oG.st (fun _ k => XS.icmpYes X235.here hx rfl (pc0 := 38) (pc' := 51) rfl (hb hby dj68_10_38) rfl (feq hc236).2 (by decide) (by decide) k) ?_
  refine oG.st (fun _ k => XS.iload X235.here hx rfl (hb hby dj68_10_51) rfl (XS.aloadN X235.here hx rfl (hb hby dj68_10_53) rfl rfl k)) ?_
  show oG _ _ _ _ (T235.setTop (mkF m 54 #[.val (.ref a1), .val (.int (Int32.ofNat nn)), .val (.int (16 : Int32)), .val (.int (Int32.ofNat nn)), .val (.int (Int32.ofNat (nn - 16))), .val (.int (34 : Int32))] [(.ref a1), (.int (34 : Int32))]))
  obtain ⟨T237, X237, e237, st237⟩ := getF X235 hx hZ hown (host := "") (Or.inl (own_w hw 60 rfl)) Via.refl K235 p1_ (g := (mkF m 54 #[.val (.ref a1), .val (.int (Int32.ofNat nn)), .val (.int (16 : Int32)), .val (.int (Int32.ofNat nn)), .val (.int (Int32.ofNat (nn - 16))), .val (.int (34 : Int32))] [(.ref a1), (.int (34 : Int32))])) rfl rfl (hb hby dj68_10_54)
  refine oG.st st237 ?_
  refine oG.st (fun _ k => XS.ishr X237.here hx rfl (hb hby dj68_10_57) rfl k) ?_
  show oG _ _ _ _ (T237.setTop (mkF m 58 #[.val (.ref a1), .val (.int (Int32.ofNat nn)), .val (.int (16 : Int32)), .val (.int (Int32.ofNat nn)), .val (.int (Int32.ofNat (nn - 16))), .val (.int (34 : Int32))] [(.int ((34 : Int32) >>> ((0 : Int32) &&& 31)))]))
  rw [own_shr0]
  show oG _ _ _ _ (T237.setTop (mkF m 58 #[.val (.ref a1), .val (.int (Int32.ofNat nn)), .val (.int (16 : Int32)), .val (.int (Int32.ofNat nn)), .val (.int (Int32.ofNat (nn - 16))), .val (.int (34 : Int32))] [(.int (34 : Int32))]))
  obtain ⟨fs238, hr238, hrun238, hend238, hW238, hsm238⟩ := X237.leave (v := some (.int (34 : Int32))) (fun h => by rw [Bd.returns] at h; cases h)
  subst hPP
  refine ⟨_, _, own_retI X237 hx Bd.returns (hb hby dj68_10_58) hr238, hrun238, hend238, _, _, rfl, ?_, ⟨_, rfl⟩, hW238, hsm238.mono (by decide) (by decide)⟩
  · show Q_newCap Z _ _ _ _ _ _ h0 _ T237.heap _
    rw [e237]
    exact ⟨rfl, N235, rfl⟩

theorem own_us16 {cs : List Int32} (h : cs.length ≤ 16) : own_low cs ++ List.replicate (16 - cs.length) (Value.int (0 : Int32)) = (List.range (16 : Int32).toNatClampNeg).map fun x => (own_low cs).getD ((0 : Int32).toNatClampNeg + x) (.int (0 : Int32)) := by
  have e0 : (0 : Int32).toNatClampNeg = 0 := by decide
  have e1 : (16 : Int32).toNatClampNeg = 16 := by decide
  rw [e0, e1]
  apply List.ext_getElem
  · simp [own_low]; omega
  · intro x h1 h2
    have q := pad_rep (own_low cs) (.int (0 : Int32)) (16 - cs.length) x
    simp only [List.getD_eq_getElem?_getD, List.getElem?_eq_getElem h1, Option.getD_some] at q
    rw [q]
    simp [List.getD_eq_getElem?_getD]
theorem own_copyV {Z : State} {h : Heap} {a : Addr} {k : ClassId} {n : Int32} {cs : List Int32} (F : Arv Z h a k .byte n ((List.replicate 34 (Value.int (0 : Int32))).take (0 : Int32).toNatClampNeg ++ (own_low cs ++ List.replicate (16 - cs.length) (Value.int (0 : Int32))) ++ (List.replicate 34 (Value.int (0 : Int32))).drop ((0 : Int32).toNatClampNeg + (16 : Int32).toNatClampNeg)) (.int (0 : Int32))) : Arv Z h a k .byte n (own_low cs) (.int (0 : Int32)) := by
  have e0 : (0 : Int32).toNatClampNeg = 0 := by decide
  refine F.pad (fun i => ?_)
  rw [e0, List.take_zero, List.nil_append, List.append_assoc, List.drop_replicate, List.replicate_append_replicate]
  exact (pad_rep (own_low cs) _ _ i).symm
theorem own_min16 : (if (34 : Int32) < (16 : Int32) then (34 : Int32) else (16 : Int32)) = (16 : Int32) := by decide

theorem ef_206 (m : MethodId) (x0 : Nat) (x1 : Int32) : entryFrame m #[(.ref x0), (.int x1)] 3 = mkF m 0 #[.val (.ref x0), .val (.int x1), .unset] [] := by first | (simp [entryFrame, mkF, argsToLocals, Value.category]; done) | rfl
theorem dj65_121_0 : decode cJ8 0 = .ok (.iload_n 1, 1) := by decide +kernel
theorem dj65_121_1 : decode cJ8 1 = .ok (.aload_n 0, 1) := by decide +kernel
theorem dj65_121_2 : decode cJ8 2 = .ok (.arraylength, 1) := by decide +kernel
theorem dj65_121_3 : decode cJ8 3 = .ok (.if_icmp .ne 11, 3) := by decide +kernel
theorem dj65_121_14 : decode cJ8 14 = .ok (.iload_n 1, 1) := by decide +kernel
theorem dj65_121_15 : decode cJ8 15 = .ok (.newarray .byte, 2) := by decide +kernel
theorem dj65_121_17 : decode cJ8 17 = .ok (.astore_n 2, 1) := by decide +kernel
theorem dj65_121_18 : decode cJ8 18 = .ok (.aload_n 0, 1) := by decide +kernel
theorem dj65_121_19 : decode cJ8 19 = .ok (.iconst 0, 1) := by decide +kernel
theorem dj65_121_20 : decode cJ8 20 = .ok (.aload_n 2, 1) := by decide +kernel
theorem dj65_121_21 : decode cJ8 21 = .ok (.iconst 0, 1) := by decide +kernel
theorem dj65_121_22 : decode cJ8 22 = .ok (.aload_n 0, 1) := by decide +kernel
theorem dj65_121_23 : decode cJ8 23 = .ok (.arraylength, 1) := by decide +kernel
theorem dj65_121_24 : decode cJ8 24 = .ok (.iload_n 1, 1) := by decide +kernel
theorem dj65_121_25 : decode cJ8 25 = .ok (.invokestatic 304, 3) := by decide +kernel
theorem dj65_121_28 : decode cJ8 28 = .ok (.invokestatic 150, 3) := by decide +kernel
theorem dj65_121_31 : decode cJ8 31 = .ok (.aload_n 2, 1) := by decide +kernel
theorem dj65_121_32 : decode cJ8 32 = .ok (.areturn, 1) := by decide +kernel
def Q_copyOf34 (Z : State) (a1 : Nat) (cs : List Int32) (k : ClassId) (h0 : Heap) (v : Option Value) (h : Heap) (L : List Loc) : Prop := ∃ (x : Nat), ∃ (kx : ClassId), v = some (.ref x) ∧ Fr Z.heap.size L ∧ Keep h0 h [] ∧ Arv Z h x kx .byte (Int32.ofNat 34) (own_low cs) (.int (0 : Int32)) ∧ (h0.size ≤ x) ∧ (Z.vm.findClass "[B" = some kx)
set_option maxRecDepth 65536 in
set_option maxHeartbeats 40000000 in
theorem rm_copyOf34 (l : Launch) (Z : State) (a0 : Array Value) (hw : ∀ d ∈ tables_1, d.before a0 Z = true) (ws : List Jvm.Cond) (a1 : Nat) (cs : List Int32) (k : ClassId) (h0 : Heap) (OL : Old Z Z.heap.size h0) (p0_ : Arv Z h0 a1 k .byte (Int32.ofNat 16) (own_low cs) (.int (0 : Int32))) (hcs : cs.length ≤ 16) :
    MetFree l mN30 (head1 (Jvm.Cond.code mN30 jdk_65_method_121_code 3 (some (.array .byte)) :: ws) rM7) (fun a U => a = #[(.ref a1), (.int (34 : Int32))] ∧ Z.Warmed39 U.vm ∧ U.heap = h0) (fun _ _ _ _ _ => True) (fun _ U o U' => ∃ v L, o = .returned v ∧ Q_copyOf34 Z a1 cs k h0 v U'.heap L ∧ FrameEnd U o U' L rM7.cells rM7.slots) := by
  refine MetFree.of_bodySF (plainFor_of_name pn_33) hisR ?_
  intro p e s m args below meth c s₁ Bd hml0 hP hK
  obtain ⟨rfl, hZ, hh⟩ := hP
  have hx := Bd.exec
  have hby := Bd.bytes
  have hml : c.maxLocals = 3 := hml0
  have hown : s.vm.findClass "java/util/Arrays" = some m.cls := findClass_of_methodNamed Bd.named
  have hnm := (name_of_methodNamed Bd.named Bd.method).1
  have X0 : Stand p l e rM7 s m #[(.ref a1), (.int (34 : Int32))] below meth c s₁ [] 0 0 := Stand.of_body Bd
  have e0 : s₁.heap = h0 := by rw [← hh, Bd.state]; rfl
  have N0 := Fr.nil Z.heap.size
  have Z0 : Z.heap.size ≤ h0.size := OL.2.1
  have lt_0 : @LT.lt Nat _ a1 h0.size := p0_.lt
  show oG p.tables e below (fun o tE => ∃ v L, o = .returned v ∧ Q_copyOf34 Z a1 cs k h0 v tE.heap L ∧ FrameEnd s o tE L rM7.cells rM7.slots) (s₁.setTop (entryFrame m #[(.ref a1), (.int (34 : Int32))] 3))
  refine own_hd (fun PP hPP => ?_)
  refine oG.st (fun t k => castTop (ef_206 m a1 (34 : Int32)) k) ?_
  refine oG.st (fun _ k => XS.iloadN X0.here hx rfl (hb hby dj65_121_0) rfl (XS.aloadN X0.here hx rfl (hb hby dj65_121_1) rfl rfl k)) ?_
  show oG _ _ _ _ (s₁.setTop (mkF m 2 #[.val (.ref a1), .val (.int (34 : Int32)), .unset] [(.ref a1), (.int (34 : Int32))]))
  obtain ⟨c239, Ar239, q239, S239, Nn239, H239, G239⟩ := id p0_
  refine oG.st (X0.arraylength hx (own_rwE e0 Ar239.1) (State.isArrayOf_alike hZ.alike Ar239.2.1) (g := (mkF m 2 #[.val (.ref a1), .val (.int (34 : Int32)), .unset] [(.ref a1), (.int (34 : Int32))])) rfl rfl (hb hby dj65_121_2)) ?_
  rw [len_of S239 Nn239]
  show oG _ _ _ _ (s₁.setTop (mkF m 3 #[.val (.ref a1), .val (.int (34 : Int32)), .unset] [(.int (Int32.ofNat 16)), (.int (34 : Int32))]))
  have hc240 : ¬ ((34 : Int32) = (Int32.ofNat 16)) := by decide
  refine oG.st (fun _ k => XS.icmpYes X0.here hx rfl (pc0 := 3) (pc' := 14) rfl (hb hby dj65_121_3) rfl (feq hc240).2 (by decide) (by decide) k) ?_
  refine oG.st (fun _ k => XS.iloadN X0.here hx rfl (hb hby dj65_121_14) rfl k) ?_
  show oG _ _ _ _ (s₁.setTop (mkF m 15 #[.val (.ref a1), .val (.int (34 : Int32)), .unset] [(.int (34 : Int32))]))
  obtain ⟨T241, h241, k241, X241, e241, E241, A241, kn241, st241⟩ := own_newB X0 hx hZ (own_w hw 26 rfl) e0 (g := (mkF m 15 #[.val (.ref a1), .val (.int (34 : Int32)), .unset] [(.int (34 : Int32))])) rfl (hb hby dj65_121_15) rfl (by decide) (cap := 34) (by decide) (by decide) (by decide) (by decide)
  obtain ⟨b241, g241⟩ : ∃ z, z = h0.size := ⟨_, rfl⟩
  rw [← g241] at A241 st241
  refine oG.st st241 ?_
  have z241 : h0.size ≤ h241.size := E241.1
  have f242 : Arv Z h241 b241 k241 .byte (34 : Int32) [] (.int (0 : Int32)) := Arv.new A241 (by decide)
  have lt_b241 : @LT.lt Nat _ b241 h241.size := f242.lt
  refine oG.st (fun _ k => XS.astoreN X241.here hx rfl (hb hby dj65_121_17) rfl rfl (l' := #[.val (.ref a1), .val (.int (34 : Int32)), .val (.ref b241)]) rfl (XS.aloadN X241.here hx rfl (hb hby dj65_121_18) rfl rfl (XS.iconst X241.here hx rfl (hb hby dj65_121_19) (XS.aloadN X241.here hx rfl (hb hby dj65_121_20) rfl rfl (XS.iconst X241.here hx rfl (hb hby dj65_121_21) k))))) ?_
  show oG _ _ _ _ (T241.setTop (mkF m 22 #[.val (.ref a1), .val (.int (34 : Int32)), .val (.ref b241)] [(.int (0 : Int32)), (.ref b241), (.int (0 : Int32)), (.ref a1)]))
  refine oG.st (fun _ k => XS.aloadN X241.here hx rfl (hb hby dj65_121_22) rfl rfl k) ?_
  show oG _ _ _ _ (T241.setTop (mkF m 23 #[.val (.ref a1), .val (.int (34 : Int32)), .val (.ref b241)] [(.ref a1), (.int (0 : Int32)), (.ref b241), (.int (0 : Int32)), (.ref a1)]))
  have f243 : Arv Z h241 a1 k .byte (Int32.ofNat 16) (own_low cs) (.int (0 : Int32)) := p0_.ext E241
  obtain ⟨c244, Ar244, q244, S244, Nn244, H244, G244⟩ := id f243
  refine oG.st (X241.arraylength hx (own_rwE e241 Ar244.1) (State.isArrayOf_alike hZ.alike Ar244.2.1) (g := (mkF m 23 #[.val (.ref a1), .val (.int (34 : Int32)), .val (.ref b241)] [(.ref a1), (.int (0 : Int32)), (.ref b241), (.int (0 : Int32)), (.ref a1)])) rfl rfl (hb hby dj65_121_23)) ?_
  rw [len_of S244 Nn244]
  refine oG.st (fun _ k => XS.iloadN X241.here hx rfl (hb hby dj65_121_24) rfl k) ?_
  show oG _ _ _ _ (T241.setTop (mkF m 25 #[.val (.ref a1), .val (.int (34 : Int32)), .val (.ref b241)] [(.int (34 : Int32)), (.int (Int32.ofNat 16)), (.int (0 : Int32)), (.ref b241), (.int (0 : Int32)), (.ref a1)]))
  have f246 : Old Z Z.heap.size h241 := OL.ext E241
  obtain ⟨_, _, ⟨T245, L245, k245, n245⟩, -, X245, ⟨Lc245, hQ245, l245, y245, z245⟩, st245⟩ := Jvm.LawKit.callS X241 hx (y := mN16) hown (own_v hZ hw 176 rfl) (own_v hZ hw 177 rfl) (own_v hZ hw 169 rfl) (own_v hZ hw 178 rfl) (by decide) (backOf (W := 4) (rm_mmin l Z a0 hw [] (Int32.ofNat 16) (34 : Int32) h241 f246 ) hZ (own_w hw 178 rfl) (own_w hw 169 rfl) (by decide) (by decide)) (g := (mkF m 25 #[.val (.ref a1), .val (.int (34 : Int32)), .val (.ref b241)] [(.int (34 : Int32)), (.int (Int32.ofNat 16)), (.int (0 : Int32)), (.ref b241), (.int (0 : Int32)), (.ref a1)])) rfl (by rw [hml]; rfl) (argsL := [(.int (Int32.ofNat 16)), (.int (34 : Int32))]) (rest := [(.int (0 : Int32)), (.ref b241), (.int (0 : Int32)), (.ref a1)]) (lenOf pd_59 rfl) rfl (by show 2 * 0 + _ ≤ _; exact Nat.le_of_eq rfl) (hb hby dj65_121_25) (fun _ _ => ⟨rfl, e241, (by decide : 1 + 0 ≤ _), (by decide : 34 + 0 ≤ _)⟩)
  dsimp only [Pt.U, Pt.locs, Pt.cells, Pt.slots] at X245 l245 y245 z245 st245 hQ245
  subst y245 z245
  obtain ⟨rfl, N245q, K245⟩ := hQ245
  have N245 := own_FrE l245 (Fr.app N0 N245q)
  refine oG.st st245 ?_
  show oG _ _ _ _ (T245.setTop (mkF m 28 #[.val (.ref a1), .val (.int (34 : Int32)), .val (.ref b241)] [(.int (if (34 : Int32) < (Int32.ofNat 16) then (34 : Int32) else (Int32.ofNat 16))), (.int (0 : Int32)), (.ref b241), (.int (0 : Int32)), (.ref a1)]))
  rw [show (if (34 : Int32) < Int32.ofNat 16 then (34 : Int32) else Int32.ofNat 16) = (16 : Int32) from own_min16]
  show oG _ _ _ _ (T245.setTop (mkF m 28 #[.val (.ref a1), .val (.int (34 : Int32)), .val (.ref b241)] [(.int (16 : Int32)), (.int (0 : Int32)), (.ref b241), (.int (0 : Int32)), (.ref a1)]))
  have f247 : Arv Z h241 b241 k241 .byte (34 : Int32) (List.replicate 34 (Value.int (0 : Int32))) (.int (0 : Int32)) := f242.pad (pad_rep [] (.int (0 : Int32)) 34)
  obtain ⟨T248, h248, L248, X248, e248, N248, K248, V248, st248⟩ := cpA (us := (own_low cs ++ List.replicate (16 - cs.length) (Value.int (0 : Int32)))) X245 hx hZ hown (own_w hw 179 rfl) (own_w hw 112 rfl) (own_w hw 110 rfl) (own_w hw 111 rfl) K245 f243 f247 (Or.inl ⟨rfl, rfl⟩) (by decide) (by decide) (by decide) (by decide) (by decide) (own_us16 hcs) (by rw [List.length_replicate]; decide) N245 (by omega) (g := (mkF m 28 #[.val (.ref a1), .val (.int (34 : Int32)), .val (.ref b241)] [(.int (16 : Int32)), (.int (0 : Int32)), (.ref b241), (.int (0 : Int32)), (.ref a1)])) rfl (by rw [hml]; rfl) rfl (hb hby dj65_121_28) (by decide) (W := 0) (by show 2 * 0 + _ ≤ _; exact Nat.le_of_eq rfl) (by decide)
  refine oG.st st248 ?_
  have z248 : h241.size ≤ h248.size := K248.1
  have f249 : Arv Z h248 b241 k241 .byte (Int32.ofNat 34) (own_low cs) (.int (0 : Int32)) := own_copyV V248
  refine oG.st (fun _ k => XS.aloadN X248.here hx rfl (hb hby dj65_121_31) rfl rfl k) ?_
  show oG _ _ _ _ (T248.setTop (mkF m 32 #[.val (.ref a1), .val (.int (34 : Int32)), .val (.ref b241)] [(.ref b241)]))
  obtain ⟨fs250, hr250, hrun250, hend250, hW250, hsm250⟩ := X248.leave (v := some (.ref b241)) (fun h => by rw [Bd.returns] at h; cases h)
  have K251 : Keep h0 h241 [] := (Keep.refl h0 []).ext E241
  have gz252 : h0.size ≤ b241 := by omega
  have K253 : Keep h0 h248 [] := K251.trans K248 (allS (Or.inr gz252) all0)
  subst hPP
  refine ⟨_, _, own_retA X248 hx Bd.returns rfl rfl (hb hby dj65_121_32) hr250, hrun250, hend250, _, _, rfl, ?_, ⟨_, rfl⟩, hW250, hsm250.mono (by decide) (by decide)⟩
  · show Q_copyOf34 Z _ _ _ h0 _ T248.heap _
    rw [e248]
    exact ⟨b241, k241, rfl, N248, K253, f249, (by omega), kn241⟩
theorem dj68_9_0 : decode cJ18 0 = .ok (.aload_n 0, 1) := by decide +kernel
theorem dj68_9_1 : decode cJ18 1 = .ok (.getfield 15, 3) := by decide +kernel
theorem dj68_9_4 : decode cJ18 4 = .ok (.arraylength, 1) := by decide +kernel
theorem dj68_9_5 : decode cJ18 5 = .ok (.aload_n 0, 1) := by decide +kernel
theorem dj68_9_6 : decode cJ18 6 = .ok (.getfield 22, 3) := by decide +kernel
theorem dj68_9_9 : decode cJ18 9 = .ok (.ishr, 1) := by decide +kernel
theorem dj68_9_10 : decode cJ18 10 = .ok (.istore_n 2, 1) := by decide +kernel
theorem dj68_9_11 : decode cJ18 11 = .ok (.iload_n 1, 1) := by decide +kernel
theorem dj68_9_12 : decode cJ18 12 = .ok (.iload_n 2, 1) := by decide +kernel
theorem dj68_9_13 : decode cJ18 13 = .ok (.isub, 1) := by decide +kernel
theorem dj68_9_14 : decode cJ18 14 = .ok (.ifCond .le 24, 3) := by decide +kernel
theorem dj68_9_17 : decode cJ18 17 = .ok (.aload_n 0, 1) := by decide +kernel
theorem dj68_9_18 : decode cJ18 18 = .ok (.aload_n 0, 1) := by decide +kernel
theorem dj68_9_19 : decode cJ18 19 = .ok (.getfield 15, 3) := by decide +kernel
theorem dj68_9_22 : decode cJ18 22 = .ok (.aload_n 0, 1) := by decide +kernel
theorem dj68_9_23 : decode cJ18 23 = .ok (.iload_n 1, 1) := by decide +kernel
theorem pd_241 : parseMethodDescriptor "(I)I" = some ⟨[.int], some .int⟩ := by decide +kernel
theorem dj68_9_24 : decode cJ18 24 = .ok (.invokevirtual 104, 3) := by decide +kernel
theorem dj68_9_27 : decode cJ18 27 = .ok (.aload_n 0, 1) := by decide +kernel
theorem dj68_9_28 : decode cJ18 28 = .ok (.getfield 22, 3) := by decide +kernel
theorem dj68_9_31 : decode cJ18 31 = .ok (.ishl, 1) := by decide +kernel
theorem pd_246 : parseMethodDescriptor "([BI)[B" = some ⟨[(.array .byte), .int], some (.array .byte)⟩ := by decide +kernel
theorem dj68_9_32 : decode cJ18 32 = .ok (.invokestatic 108, 3) := by decide +kernel
theorem dj68_9_35 : decode cJ18 35 = .ok (.putfield 15, 3) := by decide +kernel
theorem dj68_9_38 : decode cJ18 38 = .ok (.return_, 1) := by decide +kernel
def Q_ensureG (Z : State) (a1 : Nat) (p2 : Int32) (nn : Nat) (cs : List Int32) (cap : Nat) (a4 : Nat) (k : ClassId) (n1 : Int32) (h0 : Heap) (v : Option Value) (h : Heap) (L : List Loc) : Prop := ∃ (a5 : Nat), ∃ (cap2 : Nat), ∃ (k2 : ClassId), v = none ∧ Fr Z.heap.size L ∧ Keep h0 h [a1] ∧ Exa Z h a1 "java/lang/StringBuilder" ∧ Fld Z h a1 "java/lang/AbstractStringBuilder" "value" "[B" (.ref a5) ∧ Fld Z h a1 "java/lang/AbstractStringBuilder" "coder" "B" (.int (0 : Int32)) ∧ Fld Z h a1 "java/lang/AbstractStringBuilder" "count" "I" (.int n1) ∧ Arv Z h a5 k2 .byte (Int32.ofNat cap2) (own_low cs) (.int (0 : Int32)) ∧ (nn ≤ cap2) ∧ (own_Cap cap2) ∧ (Z.vm.findClass "[B" = some k2) ∧ (own_New a5 a4 h0.size)
set_option maxRecDepth 65536 in
set_option maxHeartbeats 40000000 in
theorem rm_ensureG (l : Launch) (Z : State) (a0 : Array Value) (hw : ∀ d ∈ tables_1, d.before a0 Z = true) (ws : List Jvm.Cond) (a1 : Nat) (p2 : Int32) (nn : Nat) (cs : List Int32) (cap : Nat) (a4 : Nat) (k : ClassId) (n1 : Int32) (h0 : Heap) (OL : Old Z Z.heap.size h0) (p0_ : Exa Z h0 a1 "java/lang/StringBuilder") (p1_ : Fld Z h0 a1 "java/lang/AbstractStringBuilder" "value" "[B" (.ref a4)) (p2_ : Fld Z h0 a1 "java/lang/AbstractStringBuilder" "coder" "B" (.int (0 : Int32))) (p3_ : Fld Z h0 a1 "java/lang/AbstractStringBuilder" "count" "I" (.int n1)) (p4_ : Arv Z h0 a4 k .byte (Int32.ofNat cap) (own_low cs) (.int (0 : Int32))) (hp2 : p2 = Int32.ofNat nn) (hnn : nn ≤ 34) (hcap : own_Cap cap) (hcs : cs.length ≤ cap) (hkb : Z.vm.findClass "[B" = some k) (hn0 : Z.heap.size ≤ a1) :
    MetFree l mN8 (head1 (Jvm.Cond.code mN8 jdk_68_method_9_code 3 none :: ws) rM14) (fun a U => a = #[(.ref a1), (.int p2)] ∧ Z.Warmed39 U.vm ∧ U.heap = h0) (fun _ _ _ _ _ => True) (fun _ U o U' => ∃ v L, o = .returned v ∧ Q_ensureG Z a1 p2 nn cs cap a4 k n1 h0 v U'.heap L ∧ FrameEnd U o U' L rM14.cells rM14.slots) := by
  refine MetFree.of_bodySF (plainFor_of_name pn_81) hisR ?_
  intro p e s m args below meth c s₁ Bd hml0 hP hK
  obtain ⟨rfl, hZ, hh⟩ := hP
  have hx := Bd.exec
  have hby := Bd.bytes
  have hml : c.maxLocals = 3 := hml0
  have hown : s.vm.findClass "java/lang/AbstractStringBuilder" = some m.cls := findClass_of_methodNamed Bd.named
  have hnm := (name_of_methodNamed Bd.named Bd.method).1
  have X0 : Stand p l e rM14 s m #[(.ref a1), (.int p2)] below meth c s₁ [] 0 0 := Stand.of_body Bd
  have e0 : s₁.heap = h0 := by rw [← hh, Bd.state]; rfl
  have N0 := Fr.nil Z.heap.size
  have Z0 : Z.heap.size ≤ h0.size := OL.2.1
  have lt_0 : @LT.lt Nat _ a1 h0.size := p0_.lt
  have lt_1 : @LT.lt Nat _ a1 h0.size := p1_.lt
  have lt_2 : @LT.lt Nat _ a1 h0.size := p2_.lt
  have lt_3 : @LT.lt Nat _ a1 h0.size := p3_.lt
  have lt_4 : @LT.lt Nat _ a4 h0.size := p4_.lt
  show oG p.tables e below (fun o tE => ∃ v L, o = .returned v ∧ Q_ensureG Z a1 p2 nn cs cap a4 k n1 h0 v tE.heap L ∧ FrameEnd s o tE L rM14.cells rM14.slots) (s₁.setTop (entryFrame m #[(.ref a1), (.int p2)] 3))
  refine own_hd (fun PP hPP => ?_)
  refine oG.st (fun t k => castTop (ef_206 m a1 p2) k) ?_
  refine oG.st (fun _ k => XS.aloadN X0.here hx rfl (hb hby dj68_9_0) rfl rfl k) ?_
  show oG _ _ _ _ (s₁.setTop (mkF m 1 #[.val (.ref a1), .val (.int p2), .unset] [(.ref a1)]))
  obtain ⟨T254, X254, e254, st254⟩ := getF X0 hx hZ hown (host := "") (Or.inl (own_w hw 58 rfl)) Via.refl e0 p1_ (g := (mkF m 1 #[.val (.ref a1), .val (.int p2), .unset] [(.ref a1)])) rfl rfl (hb hby dj68_9_1)
  refine oG.st st254 ?_
  show oG _ _ _ _ (T254.setTop (mkF m 4 #[.val (.ref a1), .val (.int p2), .unset] [(.ref a4)]))
  obtain ⟨c255, Ar255, q255, S255, Nn255, H255, G255⟩ := id p4_
  refine oG.st (X254.arraylength hx (own_rwE e254 Ar255.1) (State.isArrayOf_alike hZ.alike Ar255.2.1) (g := (mkF m 4 #[.val (.ref a1), .val (.int p2), .unset] [(.ref a4)])) rfl rfl (hb hby dj68_9_4)) ?_
  rw [len_of S255 Nn255]
  refine oG.st (fun _ k => XS.aloadN X254.here hx rfl (hb hby dj68_9_5) rfl rfl k) ?_
  show oG _ _ _ _ (T254.setTop (mkF m 6 #[.val (.ref a1), .val (.int p2), .unset] [(.ref a1), (.int (Int32.ofNat cap))]))
  obtain ⟨T256, X256, e256, st256⟩ := getF X254 hx hZ hown (host := "") (Or.inl (own_w hw 60 rfl)) Via.refl e254 p2_ (g := (mkF m 6 #[.val (.ref a1), .val (.int p2), .unset] [(.ref a1), (.int (Int32.ofNat cap))])) rfl rfl (hb hby dj68_9_6)
  refine oG.st st256 ?_
  refine oG.st (fun _ k => XS.ishr X256.here hx rfl (hb hby dj68_9_9) rfl k) ?_
  show oG _ _ _ _ (T256.setTop (mkF m 10 #[.val (.ref a1), .val (.int p2), .unset] [(.int ((Int32.ofNat cap) >>> ((0 : Int32) &&& 31)))]))
  have hc34 := hcap.le
  rw [own_shr0]
  refine oG.st (fun _ k => XS.istoreN X256.here hx rfl (hb hby dj68_9_10) rfl (l' := #[.val (.ref a1), .val (.int p2), .val (.int (Int32.ofNat cap))]) rfl (XS.iloadN X256.here hx rfl (hb hby dj68_9_11) rfl (XS.iloadN X256.here hx rfl (hb hby dj68_9_12) rfl (XS.isub X256.here hx rfl (hb hby dj68_9_13) rfl k)))) ?_
  show oG _ _ _ _ (T256.setTop (mkF m 14 #[.val (.ref a1), .val (.int p2), .val (.int (Int32.ofNat cap))] [(.int (p2 - (Int32.ofNat cap)))]))
  by_cases h14 : (0 : Int32) < (p2 - (Int32.ofNat cap))
  ·
    refine oG.st (fun _ k => XS.ifNo X256.here hx rfl (hb hby dj68_9_14) rfl ((if0 _ _).trans (tlt h14).2.2.2) k) ?_
    have hgr : cap < nn := by rw [hp2] at h14; exact (own_ofBle (by omega) (by omega)).mp h14
    obtain rfl : cap = 16 := hcap.gr hgr hnn
    refine oG.st (fun _ k => XS.aloadN X256.here hx rfl (hb hby dj68_9_17) rfl rfl (XS.aloadN X256.here hx rfl (hb hby dj68_9_18) rfl rfl k)) ?_
    show oG _ _ _ _ (T256.setTop (mkF m 19 #[.val (.ref a1), .val (.int p2), .val (.int (Int32.ofNat 16))] [(.ref a1), (.ref a1)]))
    obtain ⟨T257, X257, e257, st257⟩ := getF X256 hx hZ hown (host := "") (Or.inl (own_w hw 58 rfl)) Via.refl e256 p1_ (g := (mkF m 19 #[.val (.ref a1), .val (.int p2), .val (.int (Int32.ofNat 16))] [(.ref a1), (.ref a1)])) rfl rfl (hb hby dj68_9_19)
    refine oG.st st257 ?_
    refine oG.st (fun _ k => XS.aloadN X257.here hx rfl (hb hby dj68_9_22) rfl rfl (XS.iloadN X257.here hx rfl (hb hby dj68_9_23) rfl k)) ?_
    show oG _ _ _ _ (T257.setTop (mkF m 24 #[.val (.ref a1), .val (.int p2), .val (.int (Int32.ofNat 16))] [(.int p2), (.ref a1), (.ref a4), (.ref a1)]))
    obtain ⟨cq258, q258, q258'⟩ := p0_.cell
    obtain ⟨_, _, ⟨T258, L258, k258, n258⟩, -, X258, ⟨Lc258, hQ258, l258, y258, z258⟩, st258⟩ := X257.privateBack hx (y := mN13) hown (own_v hZ hw 158 rfl) (own_v hZ hw 159 rfl) (own_selP (own_v hZ hw 161 rfl) (Cond.privateMethod_at (mvP hZ (own_w hw 160 rfl) (args := #[]))) (own_v hZ hw 159 rfl) (by decide)) (Cond.privateMethod_at (mvP hZ (own_w hw 160 rfl) (args := #[]))) (own_v hZ hw 162 rfl) (by decide) (backOf (W := 2) (rm_newCap l Z a0 hw [] a1 p2 nn a4 k (own_low cs) h0 OL p1_ p2_ p4_ hp2 ⟨hgr, hnn⟩) hZ (own_w hw 162 rfl) (own_w hw 54 rfl) (by decide) (by decide)) (g := (mkF m 24 #[.val (.ref a1), .val (.int p2), .val (.int (Int32.ofNat 16))] [(.int p2), (.ref a1), (.ref a4), (.ref a1)])) rfl (by rw [hml]; rfl) (Steps.refl _) (a := a1) (own_rwE e257 q258) q258' (argsL := [(.int p2)]) (rest := [(.ref a4), (.ref a1)]) (lenOf pd_241 rfl) rfl (by show 2 * 0 + _ ≤ _; exact Nat.le_of_eq rfl) (hb hby dj68_9_24) (fun _ _ => ⟨rfl, e257, (by decide : 0 + 0 ≤ _), (by decide : 0 + 0 ≤ _)⟩)
    dsimp only [Pt.U, Pt.locs, Pt.cells, Pt.slots] at X258 l258 y258 z258 st258 hQ258
    subst y258 z258
    obtain ⟨rfl, N258q, K258⟩ := hQ258
    have N258 := own_FrE l258 (Fr.app N0 N258q)
    refine oG.tr st258 ?_
    refine oG.st (fun _ k => XS.aloadN X258.here hx rfl (hb hby dj68_9_27) rfl rfl k) ?_
    show oG _ _ _ _ (T258.setTop (mkF m 28 #[.val (.ref a1), .val (.int p2), .val (.int (Int32.ofNat 16))] [(.ref a1), (.int (34 : Int32)), (.ref a4), (.ref a1)]))
    obtain ⟨T259, X259, e259, st259⟩ := getF X258 hx hZ hown (host := "") (Or.inl (own_w hw 60 rfl)) Via.refl K258 p2_ (g := (mkF m 28 #[.val (.ref a1), .val (.int p2), .val (.int (Int32.ofNat 16))] [(.ref a1), (.int (34 : Int32)), (.ref a4), (.ref a1)])) rfl rfl (hb hby dj68_9_28)
    refine oG.st st259 ?_
    refine oG.st (fun _ k => XS.ishl X259.here hx rfl (hb hby dj68_9_31) rfl k) ?_
    show oG _ _ _ _ (T259.setTop (mkF m 32 #[.val (.ref a1), .val (.int p2), .val (.int (Int32.ofNat 16))] [(.int ((34 : Int32) <<< ((0 : Int32) &&& 31))), (.ref a4), (.ref a1)]))
    rw [own_shl0]
    show oG _ _ _ _ (T259.setTop (mkF m 32 #[.val (.ref a1), .val (.int p2), .val (.int (Int32.ofNat 16))] [(.int (34 : Int32)), (.ref a4), (.ref a1)]))
    obtain ⟨_, _, ⟨T260, L260, k260, n260⟩, -, X260, ⟨Lc260, hQ260, l260, y260, z260⟩, st260⟩ := Jvm.LawKit.callS X259 hx (y := mN30) hown (own_v hZ hw 173 rfl) (own_v hZ hw 174 rfl) (own_v hZ hw 146 rfl) (own_v hZ hw 175 rfl) (by decide) (backOf (W := 1) (rm_copyOf34 l Z a0 hw [] a4 cs k h0 OL p4_ hcs) hZ (own_w hw 175 rfl) (own_w hw 146 rfl) (by decide) (by decide)) (g := (mkF m 32 #[.val (.ref a1), .val (.int p2), .val (.int (Int32.ofNat 16))] [(.int (34 : Int32)), (.ref a4), (.ref a1)])) rfl (by rw [hml]; rfl) (argsL := [(.ref a4), (.int (34 : Int32))]) (rest := [(.ref a1)]) (lenOf pd_246 rfl) rfl (by show 2 * 0 + _ ≤ _; exact Nat.le_of_eq rfl) (hb hby dj68_9_32) (fun _ _ => ⟨rfl, e259, (by decide : 0 + 1 ≤ _), (by decide : 0 + 34 ≤ _)⟩)
    dsimp only [Pt.U, Pt.locs, Pt.cells, Pt.slots] at X260 l260 y260 z260 st260 hQ260
    subst y260 z260
    obtain ⟨x_260, kx_260, rfl, N260q, K260, f260_0, pr260_0, pr260_1⟩ := hQ260
    have N260 := own_FrE l260 (Fr.app N258 N260q)
    have z260 : h0.size ≤ T260.heap.size := K260.1
    have lt260_0 : @LT.lt Nat _ x_260 T260.heap.size := f260_0.lt
    refine oG.st st260 ?_
    show oG _ _ _ _ (T260.setTop (mkF m 35 #[.val (.ref a1), .val (.int p2), .val (.int (Int32.ofNat 16))] [(.ref x_260), (.ref a1)]))
    have f261 : Fld Z T260.heap a1 "java/lang/AbstractStringBuilder" "value" "[B" (.ref a4) := p1_.keep K260 nin0
    have f262 : Exa Z T260.heap a1 "java/lang/StringBuilder" := p0_.keep K260
    obtain ⟨T263, h263, X263, e263, W263, st263⟩ := putF X260 hx hZ hown (host := "") (Or.inl (own_w hw 58 rfl)) Via.refl rfl f261 f262 (Or.inl (own_w hw 59 rfl)) (own_w hw 45 rfl) (ty := (.array .byte)) (by decide) rfl rfl (g := (mkF m 35 #[.val (.ref a1), .val (.int p2), .val (.int (Int32.ofNat 16))] [(.ref x_260), (.ref a1)])) rfl rfl (hb hby dj68_9_35)
    refine oG.st st263 ?_
    have gz264 : Z.heap.size ≤ a1 := by omega
    have N263 := Fr.snoc X263 N260 gz264
    have z263 : T260.heap.size ≤ h263.size := Nat.le_of_eq W263.size.symm
    have f265 : Fld Z h263 a1 "java/lang/AbstractStringBuilder" "value" "[B" (.ref x_260) := f261.same W263
    show oG _ _ _ _ (T263.setTop (mkF m 38 #[.val (.ref a1), .val (.int p2), .val (.int (Int32.ofNat 16))] []))
    obtain ⟨fs266, hr266, hrun266, hend266, hW266, hsm266⟩ := X263.leave (v := none) (fun _ => rfl)
    have f267 : Exa Z h263 a1 "java/lang/StringBuilder" := f262.wr W263
    have f268 : Fld Z T260.heap a1 "java/lang/AbstractStringBuilder" "coder" "B" (.int (0 : Int32)) := p2_.keep K260 nin0
    have f269 : Fld Z h263 a1 "java/lang/AbstractStringBuilder" "coder" "B" (.int (0 : Int32)) := f268.other W263 (Or.inr (slot_ne (Or.inl (own_w hw 61 rfl)) (Or.inl (own_w hw 59 rfl)) (by decide) (t := .byte) (t' := (.array .byte)) (by decide) (by decide)))
    have f270 : Fld Z T260.heap a1 "java/lang/AbstractStringBuilder" "count" "I" (.int n1) := p3_.keep K260 nin0
    have f271 : Fld Z h263 a1 "java/lang/AbstractStringBuilder" "count" "I" (.int n1) := f270.other W263 (Or.inr (slot_ne (Or.inl (own_w hw 87 rfl)) (Or.inl (own_w hw 59 rfl)) (by decide) (t := .int) (t' := (.array .byte)) (by decide) (by decide)))
    have ne272 : @Ne Nat a1 x_260 := Exa.neArv f262 f260_0 (own_w hw 45 rfl)
    have f273 : Arv Z h263 x_260 kx_260 .byte (Int32.ofNat 34) (own_low cs) (.int (0 : Int32)) := f260_0.other W263 (Ne.symm ne272)
    have K274 : Keep h0 T260.heap [a1] := (Keep.refl h0 [a1]).trans K260 all0
    have K275 : Keep h0 h263 [a1] := K274.wr W263 (Or.inl (List.mem_of_getElem? (i := 0) rfl))
    subst hPP
    refine ⟨_, _, X263.returnOut hx Bd.returns (hb hby dj68_9_38) hr266, hrun266, hend266, _, _, rfl, ?_, ⟨_, rfl⟩, hW266, hsm266.mono (by decide) (by decide)⟩
    · show Q_ensureG Z _ _ _ _ _ _ _ _ h0 _ T263.heap _
      rw [e263]
      exact ⟨x_260, 34, kx_260, rfl, N263, K275, f267, f265, f269, f271, f273, hnn, (Or.inr rfl), pr260_1, (Or.inr (by omega))⟩
  ·
    refine oG.st (fun _ k => XS.ifYes X256.here hx rfl (pc0 := 14) (pc' := 38) rfl (hb hby dj68_9_14) rfl ((if0 _ _).trans (flt h14).2.2.2) (by decide) (by decide) k) ?_
    have hgr : ¬ cap < nn := fun q => h14 (by rw [hp2]; exact (own_ofBle (by omega) (by omega)).mpr q)
    show oG _ _ _ _ (T256.setTop (mkF m 38 #[.val (.ref a1), .val (.int p2), .val (.int (Int32.ofNat cap))] []))
    obtain ⟨fs276, hr276, hrun276, hend276, hW276, hsm276⟩ := X256.leave (v := none) (fun _ => rfl)
    subst hPP
    refine ⟨_, _, X256.returnOut hx Bd.returns (hb hby dj68_9_38) hr276, hrun276, hend276, _, _, rfl, ?_, ⟨_, rfl⟩, hW276, hsm276.mono (by decide) (by decide)⟩
    · show Q_ensureG Z _ _ _ _ _ _ _ _ h0 _ T256.heap _
      rw [e256]
      exact ⟨a4, cap, k, rfl, N0, (Keep.refl h0 [a1]), p0_, p1_, p2_, p3_, p4_, (by omega), hcap, hkb, (Or.inl rfl)⟩
theorem ef_250 (m : MethodId) (x0 : Nat) (x1 : Nat) : entryFrame m #[(.ref x0), (.ref x1)] 3 = mkF m 0 #[.val (.ref x0), .val (.ref x1), .unset] [] := by first | (simp [entryFrame, mkF, argsToLocals, Value.category]; done) | rfl
theorem dj68_22_0 : decode cJ13 0 = .ok (.aload_n 1, 1) := by decide +kernel
theorem dj68_22_1 : decode cJ13 1 = .ok (.ifnonnull 8, 3) := by decide +kernel
theorem dj68_22_9 : decode cJ13 9 = .ok (.aload_n 1, 1) := by decide +kernel
theorem pd_254 : parseMethodDescriptor "()I" = some ⟨[], some .int⟩ := by decide +kernel
theorem dj68_22_10 : decode cJ13 10 = .ok (.invokevirtual 32, 3) := by decide +kernel
theorem dj68_22_13 : decode cJ13 13 = .ok (.istore_n 2, 1) := by decide +kernel
theorem dj68_22_14 : decode cJ13 14 = .ok (.aload_n 0, 1) := by decide +kernel
theorem dj68_22_15 : decode cJ13 15 = .ok (.aload_n 0, 1) := by decide +kernel
theorem dj68_22_16 : decode cJ13 16 = .ok (.getfield 79, 3) := by decide +kernel
theorem dj68_22_19 : decode cJ13 19 = .ok (.iload_n 2, 1) := by decide +kernel
theorem dj68_22_20 : decode cJ13 20 = .ok (.iadd, 1) := by decide +kernel
theorem dj68_22_21 : decode cJ13 21 = .ok (.invokevirtual 100, 3) := by decide +kernel
theorem dj68_22_24 : decode cJ13 24 = .ok (.aload_n 0, 1) := by decide +kernel
theorem dj68_22_25 : decode cJ13 25 = .ok (.aload_n 0, 1) := by decide +kernel
theorem dj68_22_26 : decode cJ13 26 = .ok (.getfield 79, 3) := by decide +kernel
theorem dj68_22_29 : decode cJ13 29 = .ok (.aload_n 1, 1) := by decide +kernel
theorem pd_267 : parseMethodDescriptor "(ILjava/lang/String;)V" = some ⟨[.int, (.object "java/lang/String")], none⟩ := by decide +kernel
theorem dj68_22_30 : decode cJ13 30 = .ok (.invokevirtual 208, 3) := by decide +kernel
theorem dj68_22_33 : decode cJ13 33 = .ok (.aload_n 0, 1) := by decide +kernel
theorem dj68_22_34 : decode cJ13 34 = .ok (.dup, 1) := by decide +kernel
theorem dj68_22_35 : decode cJ13 35 = .ok (.getfield 79, 3) := by decide +kernel
theorem dj68_22_38 : decode cJ13 38 = .ok (.iload_n 2, 1) := by decide +kernel
theorem dj68_22_39 : decode cJ13 39 = .ok (.iadd, 1) := by decide +kernel
theorem dj68_22_40 : decode cJ13 40 = .ok (.putfield 79, 3) := by decide +kernel
theorem dj68_22_43 : decode cJ13 43 = .ok (.aload_n 0, 1) := by decide +kernel
theorem dj68_22_44 : decode cJ13 44 = .ok (.areturn, 1) := by decide +kernel
def Q_asbappend (Z : State) (a1 : Nat) (a2 : Nat) (t : Nat) (cs : List Int32) (ds : List Int32) (cap : Nat) (k : ClassId) (zc : Int32) (a4 : Nat) (h0 : Heap) (v : Option Value) (h : Heap) (L : List Loc) : Prop := ∃ (a5 : Nat), ∃ (cap2 : Nat), ∃ (k2 : ClassId), v = some (.ref a1) ∧ Fr Z.heap.size L ∧ Keep h0 h [a1, a4] ∧ Exa Z h a1 "java/lang/StringBuilder" ∧ Fld Z h a1 "java/lang/AbstractStringBuilder" "value" "[B" (.ref a5) ∧ Fld Z h a1 "java/lang/AbstractStringBuilder" "coder" "B" (.int (0 : Int32)) ∧ Fld Z h a1 "java/lang/AbstractStringBuilder" "count" "I" (.int (Int32.ofNat (cs ++ ds).length)) ∧ Arv Z h a5 k2 .byte (Int32.ofNat cap2) (own_low (cs ++ ds)) (.int (0 : Int32)) ∧ ((cs ++ ds).length ≤ cap2) ∧ (own_Cap cap2) ∧ (Z.vm.findClass "[B" = some k2) ∧ (own_New a5 a4 h0.size)
set_option maxRecDepth 65536 in
set_option maxHeartbeats 40000000 in
theorem rm_asbappend (l : Launch) (Z : State) (a0 : Array Value) (hw : ∀ d ∈ tables_1, d.before a0 Z = true) (ws : List Jvm.Cond) (a1 : Nat) (a2 : Nat) (t : Nat) (cs : List Int32) (ds : List Int32) (cap : Nat) (k : ClassId) (zc : Int32) (a4 : Nat) (h0 : Heap) (OL : Old Z Z.heap.size h0) (p0_ : Exa Z h0 a1 "java/lang/StringBuilder") (p1_ : Fld Z h0 a1 "java/lang/AbstractStringBuilder" "value" "[B" (.ref a4)) (p2_ : Fld Z h0 a1 "java/lang/AbstractStringBuilder" "coder" "B" (.int (0 : Int32))) (p3_ : Fld Z h0 a1 "java/lang/AbstractStringBuilder" "count" "I" (.int (Int32.ofNat cs.length))) (p4_ : own_Str Z h0 a2 t ds) (p5_ : Arv Z h0 a4 k .byte (Int32.ofNat cap) (own_low cs) (.int (0 : Int32))) (st_C : Sta Z Z.heap "java/lang/String" "COMPACT_STRINGS" "Z" (.int zc)) (hzc : ¬ zc = 0) (hfit : cs.length + ds.length ≤ 34) (hcs : cs.length ≤ cap) (hcap : own_Cap cap) (hkb : Z.vm.findClass "[B" = some k) (hne : @Ne Nat t a4) (hn0 : Z.heap.size ≤ a1) (hn4 : Z.heap.size ≤ a4) (hld : ∀ c ∈ ds, ¬ c < 0 ∧ ¬ (255 : Int32) < c) :
    MetFree l mN7 (head1 (Jvm.Cond.code mN7 jdk_68_method_22_code 3 (some (.object "java/lang/AbstractStringBuilder")) :: ws) rM16) (fun a U => a = #[(.ref a1), (.ref a2)] ∧ Z.Warmed39 U.vm ∧ U.heap = h0) (fun _ _ _ _ _ => True) (fun _ U o U' => ∃ v L, o = .returned v ∧ Q_asbappend Z a1 a2 t cs ds cap k zc a4 h0 v U'.heap L ∧ FrameEnd U o U' L rM16.cells rM16.slots) := by
  refine MetFree.of_bodySF (plainFor_of_name pn_81) hisR ?_
  intro p e s m args below meth c s₁ Bd hml0 hP hK
  obtain ⟨rfl, hZ, hh⟩ := hP
  have hx := Bd.exec
  have hby := Bd.bytes
  have hml : c.maxLocals = 3 := hml0
  have hown : s.vm.findClass "java/lang/AbstractStringBuilder" = some m.cls := findClass_of_methodNamed Bd.named
  have hnm := (name_of_methodNamed Bd.named Bd.method).1
  have X0 : Stand p l e rM16 s m #[(.ref a1), (.ref a2)] below meth c s₁ [] 0 0 := Stand.of_body Bd
  have e0 : s₁.heap = h0 := by rw [← hh, Bd.state]; rfl
  have N0 := Fr.nil Z.heap.size
  have Z0 : Z.heap.size ≤ h0.size := OL.2.1
  have lt_0 : @LT.lt Nat _ a1 h0.size := p0_.lt
  have lt_1 : @LT.lt Nat _ a1 h0.size := p1_.lt
  have lt_2 : @LT.lt Nat _ a1 h0.size := p2_.lt
  have lt_3 : @LT.lt Nat _ a1 h0.size := p3_.lt
  have lt_4 : @LT.lt Nat _ a2 h0.size := p4_.lt
  have ltv_4 : @LT.lt Nat _ t h0.size := p4_.ltv
  have lt_5 : @LT.lt Nat _ a4 h0.size := p5_.lt
  show oG p.tables e below (fun o tE => ∃ v L, o = .returned v ∧ Q_asbappend Z a1 a2 t cs ds cap k zc a4 h0 v tE.heap L ∧ FrameEnd s o tE L rM16.cells rM16.slots) (s₁.setTop (entryFrame m #[(.ref a1), (.ref a2)] 3))
  refine own_hd (fun PP hPP => ?_)
  refine oG.st (fun t k => castTop (ef_250 m a1 a2) k) ?_
  refine oG.st (fun _ k => XS.aloadN X0.here hx rfl (hb hby dj68_22_0) rfl rfl k) ?_
  show oG _ _ _ _ (s₁.setTop (mkF m 1 #[.val (.ref a1), .val (.ref a2), .unset] [(.ref a2)]))
  refine oG.st (fun _ k => XS.ifnonnullYes X0.here hx rfl (pc0 := 1) (pc' := 9) rfl (hb hby dj68_22_1) rfl (by decide) (by decide) k) ?_
  refine oG.st (fun _ k => XS.aloadN X0.here hx rfl (hb hby dj68_22_9) rfl rfl k) ?_
  show oG _ _ _ _ (s₁.setTop (mkF m 10 #[.val (.ref a1), .val (.ref a2), .unset] [(.ref a2)]))
  obtain ⟨kb278, cd278, N278_, vs278, s1278, s2278, s3278, s4278, s5278, s6278, s7278⟩ := id p4_
  obtain ⟨cq277, kq277, q277a, q277b, q277c⟩ := isOf hZ e0 p4_.exa
  obtain ⟨_, _, ⟨T277, L277, k277, n277⟩, -, X277, ⟨Lc277, hQ277, l277, y277, z277⟩, st277⟩ := X0.virtualBack hx (y := mN24) (z := mN24) hown (own_v hZ hw 76 rfl) (own_v hZ hw 77 rfl) (notFace_of_selects (args := #[]) (own_v hZ hw 79 rfl)) (own_v hZ hw 79 rfl) (own_v hZ hw 78 rfl) (by decide) (StrChars.Road.lenW (W := 0) hZ (own_hln hw) (kI := 4) (own_w hw 9 rfl) s1278 s2278 s3278 s4278 s5278 s6278 (st_C.ext OL.2) hzc s7278 (by decide) (by decide)) q277a q277c (g := (mkF m 10 #[.val (.ref a1), .val (.ref a2), .unset] [(.ref a2)])) rfl (by rw [hml]; rfl) (Steps.refl _) (argsL := []) (rest := []) (lenOf pd_254 rfl) rfl (by show 2 * 0 + _ ≤ _; exact Nat.le_of_eq rfl) (hb hby dj68_22_10) (fun _ _ => ⟨rfl, e0, (by decide : 0 + 0 ≤ _), (by decide : 0 + 0 ≤ _)⟩)
  dsimp only [Pt.U, Pt.locs, Pt.cells, Pt.slots] at X277 l277 y277 z277 st277 hQ277
  subst y277 z277
  obtain ⟨rfl, rfl, K277⟩ := hQ277
  have N277 := own_FrE l277 (Fr.app N0 (Fr.nil Z.heap.size))
  refine oG.tr st277 ?_
  refine oG.st (fun _ k => XS.istoreN X277.here hx rfl (hb hby dj68_22_13) rfl (l' := #[.val (.ref a1), .val (.ref a2), .val (.int (Int32.ofNat ds.length))]) rfl (XS.aloadN X277.here hx rfl (hb hby dj68_22_14) rfl rfl (XS.aloadN X277.here hx rfl (hb hby dj68_22_15) rfl rfl k))) ?_
  show oG _ _ _ _ (T277.setTop (mkF m 16 #[.val (.ref a1), .val (.ref a2), .val (.int (Int32.ofNat ds.length))] [(.ref a1), (.ref a1)]))
  obtain ⟨T279, X279, e279, st279⟩ := getF X277 hx hZ hown (host := "") (Or.inl (own_w hw 86 rfl)) Via.refl K277 p3_ (g := (mkF m 16 #[.val (.ref a1), .val (.ref a2), .val (.int (Int32.ofNat ds.length))] [(.ref a1), (.ref a1)])) rfl rfl (hb hby dj68_22_16)
  refine oG.st st279 ?_
  refine oG.st (fun _ k => XS.iloadN X279.here hx rfl (hb hby dj68_22_19) rfl (XS.iadd X279.here hx rfl (hb hby dj68_22_20) rfl k)) ?_
  show oG _ _ _ _ (T279.setTop (mkF m 21 #[.val (.ref a1), .val (.ref a2), .val (.int (Int32.ofNat ds.length))] [(.int ((Int32.ofNat cs.length) + (Int32.ofNat ds.length))), (.ref a1)]))
  rw [own_ofA (by omega)]
  show oG _ _ _ _ (T279.setTop (mkF m 21 #[.val (.ref a1), .val (.ref a2), .val (.int (Int32.ofNat ds.length))] [(.int (Int32.ofNat (cs.length + ds.length))), (.ref a1)]))
  obtain ⟨cq280, q280, q280'⟩ := p0_.cell
  obtain ⟨_, _, ⟨T280, L280, k280, n280⟩, -, X280, ⟨Lc280, hQ280, l280, y280, z280⟩, st280⟩ := X279.privateBack hx (y := mN8) hown (own_v hZ hw 88 rfl) (own_v hZ hw 89 rfl) (own_selP (own_v hZ hw 91 rfl) (Cond.privateMethod_at (mvP hZ (own_w hw 90 rfl) (args := #[]))) (own_v hZ hw 89 rfl) (by decide)) (Cond.privateMethod_at (mvP hZ (own_w hw 90 rfl) (args := #[]))) (own_v hZ hw 92 rfl) (by decide) (backOf (W := 0) (rm_ensureG l Z a0 hw [] a1 (Int32.ofNat (cs.length + ds.length)) (cs.length + ds.length) cs cap a4 k (Int32.ofNat cs.length) h0 OL p0_ p1_ p2_ p3_ p5_ rfl hfit hcap hcs hkb hn0) hZ (own_w hw 92 rfl) (own_w hw 54 rfl) (by decide) (by decide)) (g := (mkF m 21 #[.val (.ref a1), .val (.ref a2), .val (.int (Int32.ofNat ds.length))] [(.int (Int32.ofNat (cs.length + ds.length))), (.ref a1)])) rfl (by rw [hml]; rfl) (Steps.refl _) (a := a1) (own_rwE e279 q280) q280' (argsL := [(.int (Int32.ofNat (cs.length + ds.length)))]) (rest := []) (lenOf pd_100 rfl) rfl (by show 2 * 0 + _ ≤ _; exact Nat.le_of_eq rfl) (hb hby dj68_22_21) (fun _ _ => ⟨rfl, e279, (by decide : 0 + 1 ≤ _), (by decide : 0 + 34 ≤ _)⟩)
  dsimp only [Pt.U, Pt.locs, Pt.cells, Pt.slots] at X280 l280 y280 z280 st280 hQ280
  subst y280 z280
  obtain ⟨a5_280, cap2_280, k2_280, rfl, N280q, K280, f280_0, f280_1, f280_2, f280_3, f280_4, pr280_0, pr280_1, pr280_2, pr280_3⟩ := hQ280
  have N280 := own_FrE l280 (Fr.app N277 N280q)
  have z280 : h0.size ≤ T280.heap.size := K280.1
  have lt280_0 : @LT.lt Nat _ a1 T280.heap.size := f280_0.lt
  have lt280_1 : @LT.lt Nat _ a1 T280.heap.size := f280_1.lt
  have lt280_2 : @LT.lt Nat _ a1 T280.heap.size := f280_2.lt
  have lt280_3 : @LT.lt Nat _ a1 T280.heap.size := f280_3.lt
  have lt280_4 : @LT.lt Nat _ a5_280 T280.heap.size := f280_4.lt
  have hne5 : @Ne Nat t a5_280 := own_New.ne pr280_3 hne (by omega)
  have hz5 : Z.heap.size ≤ a5_280 := own_New.le pr280_3 (by omega) (by omega)
  have hc5 := pr280_1.le
  refine oG.tr st280 ?_
  refine oG.st (fun _ k => XS.aloadN X280.here hx rfl (hb hby dj68_22_24) rfl rfl (XS.aloadN X280.here hx rfl (hb hby dj68_22_25) rfl rfl k)) ?_
  show oG _ _ _ _ (T280.setTop (mkF m 26 #[.val (.ref a1), .val (.ref a2), .val (.int (Int32.ofNat ds.length))] [(.ref a1), (.ref a1)]))
  obtain ⟨T281, X281, e281, st281⟩ := getF X280 hx hZ hown (host := "") (Or.inl (own_w hw 86 rfl)) Via.refl rfl f280_3 (g := (mkF m 26 #[.val (.ref a1), .val (.ref a2), .val (.int (Int32.ofNat ds.length))] [(.ref a1), (.ref a1)])) rfl rfl (hb hby dj68_22_26)
  refine oG.st st281 ?_
  refine oG.st (fun _ k => XS.aloadN X281.here hx rfl (hb hby dj68_22_29) rfl rfl k) ?_
  show oG _ _ _ _ (T281.setTop (mkF m 30 #[.val (.ref a1), .val (.ref a2), .val (.int (Int32.ofNat ds.length))] [(.ref a2), (.int (Int32.ofNat cs.length)), (.ref a1)]))
  have ne283 : @Ne Nat a2 a1 := Exa.ne p4_.exa p0_ (by decide)
  have ne284 : @Ne Nat a1 t := own_Str.neV p4_ p0_ (own_w hw 45 rfl)
  have f285 : own_Str Z T280.heap a2 t ds := p4_.keep K280 (ninS ne283 nin0) (ninS (Ne.symm ne284) nin0)
  have gz286 : Z.heap.size ≤ a1 := by omega
  have f287 : Old Z Z.heap.size T280.heap := OL.keep K280 (allS gz286 all0)
  obtain ⟨cq282, q282, q282'⟩ := f280_0.cell
  obtain ⟨_, _, ⟨T282, L282, k282, n282⟩, -, X282, ⟨Lc282, hQ282, l282, y282, z282⟩, st282⟩ := X281.privateBack hx (y := mN14) hown (own_v hZ hw 93 rfl) (own_v hZ hw 94 rfl) (own_selP (own_v hZ hw 96 rfl) (Cond.privateMethod_at (mvP hZ (own_w hw 95 rfl) (args := #[]))) (own_v hZ hw 94 rfl) (by decide)) (Cond.privateMethod_at (mvP hZ (own_w hw 95 rfl) (args := #[]))) (own_v hZ hw 97 rfl) (by decide) (backOf (W := 0) (rm_putStringAt l Z a0 hw [] a1 (Int32.ofNat cs.length) a2 t cs ds cap2_280 k2_280 zc a5_280 T280.heap f287 f280_0 f280_1 f280_2 f285 f280_4 st_C hzc rfl pr280_0 (by omega) hne5 hz5 hld) hZ (own_w hw 97 rfl) (own_w hw 54 rfl) (by decide) (by decide)) (g := (mkF m 30 #[.val (.ref a1), .val (.ref a2), .val (.int (Int32.ofNat ds.length))] [(.ref a2), (.int (Int32.ofNat cs.length)), (.ref a1)])) rfl (by rw [hml]; rfl) (Steps.refl _) (a := a1) (own_rwE e281 q282) q282' (argsL := [(.int (Int32.ofNat cs.length)), (.ref a2)]) (rest := []) (lenOf pd_267 rfl) rfl (by show 2 * 0 + _ ≤ _; exact Nat.le_of_eq rfl) (hb hby dj68_22_30) (fun _ _ => ⟨rfl, e281, (by decide : 1 + 0 ≤ _), (by decide : 34 + 0 ≤ _)⟩)
  dsimp only [Pt.U, Pt.locs, Pt.cells, Pt.slots] at X282 l282 y282 z282 st282 hQ282
  subst y282 z282
  obtain ⟨rfl, N282q, K282, f282_0⟩ := hQ282
  have N282 := own_FrE l282 (Fr.app N280 N282q)
  have z282 : T280.heap.size ≤ T282.heap.size := K282.1
  have lt282_0 : @LT.lt Nat _ a5_280 T282.heap.size := f282_0.lt
  refine oG.tr st282 ?_
  refine oG.st (fun _ k => XS.aloadN X282.here hx rfl (hb hby dj68_22_33) rfl rfl (XS.dup X282.here hx rfl (hb hby dj68_22_34) rfl rfl k)) ?_
  show oG _ _ _ _ (T282.setTop (mkF m 35 #[.val (.ref a1), .val (.ref a2), .val (.int (Int32.ofNat ds.length))] [(.ref a1), (.ref a1)]))
  have ne288 : @Ne Nat a1 a5_280 := Exa.neArv f280_0 f280_4 (own_w hw 45 rfl)
  have f289 : Fld Z T282.heap a1 "java/lang/AbstractStringBuilder" "count" "I" (.int (Int32.ofNat cs.length)) := f280_3.keep K282 (ninS ne288 nin0)
  obtain ⟨T290, X290, e290, st290⟩ := getF X282 hx hZ hown (host := "") (Or.inl (own_w hw 86 rfl)) Via.refl rfl f289 (g := (mkF m 35 #[.val (.ref a1), .val (.ref a2), .val (.int (Int32.ofNat ds.length))] [(.ref a1), (.ref a1)])) rfl rfl (hb hby dj68_22_35)
  refine oG.st st290 ?_
  refine oG.st (fun _ k => XS.iloadN X290.here hx rfl (hb hby dj68_22_38) rfl (XS.iadd X290.here hx rfl (hb hby dj68_22_39) rfl k)) ?_
  show oG _ _ _ _ (T290.setTop (mkF m 40 #[.val (.ref a1), .val (.ref a2), .val (.int (Int32.ofNat ds.length))] [(.int ((Int32.ofNat cs.length) + (Int32.ofNat ds.length))), (.ref a1)]))
  rw [own_ofA (by omega), ← List.length_append]
  show oG _ _ _ _ (T290.setTop (mkF m 40 #[.val (.ref a1), .val (.ref a2), .val (.int (Int32.ofNat ds.length))] [(.int (Int32.ofNat (cs ++ ds).length)), (.ref a1)]))
  have f291 : Exa Z T282.heap a1 "java/lang/StringBuilder" := f280_0.keep K282
  obtain ⟨T292, h292, X292, e292, W292, st292⟩ := putF X290 hx hZ hown (host := "") (Or.inl (own_w hw 86 rfl)) Via.refl e290 f289 f291 (Or.inl (own_w hw 87 rfl)) (own_w hw 45 rfl) (ty := .int) (by decide) rfl rfl (g := (mkF m 40 #[.val (.ref a1), .val (.ref a2), .val (.int (Int32.ofNat ds.length))] [(.int (Int32.ofNat (cs ++ ds).length)), (.ref a1)])) rfl rfl (hb hby dj68_22_40)
  refine oG.st st292 ?_
  have N292 := Fr.snoc X292 N282 gz286
  have z292 : T282.heap.size ≤ h292.size := Nat.le_of_eq W292.size.symm
  have f293 : Fld Z h292 a1 "java/lang/AbstractStringBuilder" "count" "I" (.int (Int32.ofNat (cs ++ ds).length)) := f289.same W292
  refine oG.st (fun _ k => XS.aloadN X292.here hx rfl (hb hby dj68_22_43) rfl rfl k) ?_
  show oG _ _ _ _ (T292.setTop (mkF m 44 #[.val (.ref a1), .val (.ref a2), .val (.int (Int32.ofNat ds.length))] [(.ref a1)]))
  obtain ⟨fs294, hr294, hrun294, hend294, hW294, hsm294⟩ := X292.leave (v := some (.ref a1)) (fun h => by rw [Bd.returns] at h; cases h)
  have f295 : Exa Z h292 a1 "java/lang/StringBuilder" := f291.wr W292
  have f296 : Fld Z T282.heap a1 "java/lang/AbstractStringBuilder" "value" "[B" (.ref a5_280) := f280_1.keep K282 (ninS ne288 nin0)
  have f297 : Fld Z h292 a1 "java/lang/AbstractStringBuilder" "value" "[B" (.ref a5_280) := f296.other W292 (Or.inr (slot_ne (Or.inl (own_w hw 59 rfl)) (Or.inl (own_w hw 87 rfl)) (by decide) (t := (.array .byte)) (t' := .int) (by decide) (by decide)))
  have f298 : Fld Z T282.heap a1 "java/lang/AbstractStringBuilder" "coder" "B" (.int (0 : Int32)) := f280_2.keep K282 (ninS ne288 nin0)
  have f299 : Fld Z h292 a1 "java/lang/AbstractStringBuilder" "coder" "B" (.int (0 : Int32)) := f298.other W292 (Or.inr (slot_ne (Or.inl (own_w hw 61 rfl)) (Or.inl (own_w hw 87 rfl)) (by decide) (t := .byte) (t' := .int) (by decide) (by decide)))
  have f300 : Arv Z h292 a5_280 k2_280 .byte (Int32.ofNat cap2_280) (own_low (cs ++ ds)) (.int (0 : Int32)) := f282_0.other W292 (Ne.symm ne288)
  have K301 : Keep h0 T280.heap [a1, a4] := (Keep.refl h0 [a1, a4]).trans K280 (allS (Or.inl (List.mem_of_getElem? (i := 0) rfl)) all0)
  have K302 : Keep h0 T282.heap [a1, a4] := K301.trans K282 (allS (Or.elim pr280_3 (fun q => Or.inl (by rw [q]; exact List.mem_of_getElem? (i := 1) rfl)) Or.inr) all0)
  have K303 : Keep h0 h292 [a1, a4] := K302.wr W292 (Or.inl (List.mem_of_getElem? (i := 0) rfl))
  subst hPP
  refine ⟨_, _, own_retA X292 hx Bd.returns rfl rfl (hb hby dj68_22_44) hr294, hrun294, hend294, _, _, rfl, ?_, ⟨_, rfl⟩, hW294, hsm294.mono (by decide) (by decide)⟩
  · show Q_asbappend Z _ _ _ _ _ _ _ _ _ h0 _ T292.heap _
    rw [e292]
    exact ⟨a5_280, cap2_280, k2_280, rfl, N292, K303, f295, f297, f299, f293, f300, (by rw [List.length_append]; exact pr280_0), pr280_1, pr280_2, pr280_3⟩
theorem dj67_7_0 : decode cJ11 0 = .ok (.aload_n 0, 1) := by decide +kernel
theorem dj67_7_1 : decode cJ11 1 = .ok (.aload_n 1, 1) := by decide +kernel
theorem pd_279 : parseMethodDescriptor "(Ljava/lang/String;)Ljava/lang/AbstractStringBuilder;" = some ⟨[(.object "java/lang/String")], some (.object "java/lang/AbstractStringBuilder")⟩ := by decide +kernel
theorem dj67_7_2 : decode cJ11 2 = .ok (.invokespecial 29, 3) := by decide +kernel
theorem dj67_7_5 : decode cJ11 5 = .ok (.pop, 1) := by decide +kernel
theorem dj67_7_6 : decode cJ11 6 = .ok (.aload_n 0, 1) := by decide +kernel
theorem dj67_7_7 : decode cJ11 7 = .ok (.areturn, 1) := by decide +kernel
def Q_sbappend (Z : State) (a1 : Nat) (a2 : Nat) (t : Nat) (cs : List Int32) (ds : List Int32) (cap : Nat) (k : ClassId) (zc : Int32) (a4 : Nat) (h0 : Heap) (v : Option Value) (h : Heap) (L : List Loc) : Prop := ∃ (a5 : Nat), ∃ (cap2 : Nat), ∃ (k2 : ClassId), v = some (.ref a1) ∧ Fr Z.heap.size L ∧ Keep h0 h [a1, a4] ∧ Exa Z h a1 "java/lang/StringBuilder" ∧ Fld Z h a1 "java/lang/AbstractStringBuilder" "value" "[B" (.ref a5) ∧ Fld Z h a1 "java/lang/AbstractStringBuilder" "coder" "B" (.int (0 : Int32)) ∧ Fld Z h a1 "java/lang/AbstractStringBuilder" "count" "I" (.int (Int32.ofNat (cs ++ ds).length)) ∧ Arv Z h a5 k2 .byte (Int32.ofNat cap2) (own_low (cs ++ ds)) (.int (0 : Int32)) ∧ ((cs ++ ds).length ≤ cap2) ∧ (own_Cap cap2) ∧ (Z.vm.findClass "[B" = some k2) ∧ (own_New a5 a4 h0.size)
set_option maxRecDepth 65536 in
set_option maxHeartbeats 40000000 in
theorem rm_sbappend (l : Launch) (Z : State) (a0 : Array Value) (hw : ∀ d ∈ tables_1, d.before a0 Z = true) (ws : List Jvm.Cond) (a1 : Nat) (a2 : Nat) (t : Nat) (cs : List Int32) (ds : List Int32) (cap : Nat) (k : ClassId) (zc : Int32) (a4 : Nat) (h0 : Heap) (OL : Old Z Z.heap.size h0) (p0_ : Exa Z h0 a1 "java/lang/StringBuilder") (p1_ : Fld Z h0 a1 "java/lang/AbstractStringBuilder" "value" "[B" (.ref a4)) (p2_ : Fld Z h0 a1 "java/lang/AbstractStringBuilder" "coder" "B" (.int (0 : Int32))) (p3_ : Fld Z h0 a1 "java/lang/AbstractStringBuilder" "count" "I" (.int (Int32.ofNat cs.length))) (p4_ : own_Str Z h0 a2 t ds) (p5_ : Arv Z h0 a4 k .byte (Int32.ofNat cap) (own_low cs) (.int (0 : Int32))) (st_C : Sta Z Z.heap "java/lang/String" "COMPACT_STRINGS" "Z" (.int zc)) (hzc : ¬ zc = 0) (hfit : cs.length + ds.length ≤ 34) (hcs : cs.length ≤ cap) (hcap : own_Cap cap) (hkb : Z.vm.findClass "[B" = some k) (hne : @Ne Nat t a4) (hn0 : Z.heap.size ≤ a1) (hn4 : Z.heap.size ≤ a4) (hld : ∀ c ∈ ds, ¬ c < 0 ∧ ¬ (255 : Int32) < c) :
    MetFree l mN26 (head1 (Jvm.Cond.code mN26 jdk_67_method_7_code 2 (some (.object "java/lang/StringBuilder")) :: ws) rM18) (fun a U => a = #[(.ref a1), (.ref a2)] ∧ Z.Warmed39 U.vm ∧ U.heap = h0) (fun _ _ _ _ _ => True) (fun _ U o U' => ∃ v L, o = .returned v ∧ Q_sbappend Z a1 a2 t cs ds cap k zc a4 h0 v U'.heap L ∧ FrameEnd U o U' L rM18.cells rM18.slots) := by
  refine MetFree.of_bodySF (plainFor_of_name pn_96) hisR ?_
  intro p e s m args below meth c s₁ Bd hml0 hP hK
  obtain ⟨rfl, hZ, hh⟩ := hP
  have hx := Bd.exec
  have hby := Bd.bytes
  have hml : c.maxLocals = 2 := hml0
  have hown : s.vm.findClass "java/lang/StringBuilder" = some m.cls := findClass_of_methodNamed Bd.named
  have hnm := (name_of_methodNamed Bd.named Bd.method).1
  have X0 : Stand p l e rM18 s m #[(.ref a1), (.ref a2)] below meth c s₁ [] 0 0 := Stand.of_body Bd
  have e0 : s₁.heap = h0 := by rw [← hh, Bd.state]; rfl
  have N0 := Fr.nil Z.heap.size
  have Z0 : Z.heap.size ≤ h0.size := OL.2.1
  have lt_0 : @LT.lt Nat _ a1 h0.size := p0_.lt
  have lt_1 : @LT.lt Nat _ a1 h0.size := p1_.lt
  have lt_2 : @LT.lt Nat _ a1 h0.size := p2_.lt
  have lt_3 : @LT.lt Nat _ a1 h0.size := p3_.lt
  have lt_4 : @LT.lt Nat _ a2 h0.size := p4_.lt
  have ltv_4 : @LT.lt Nat _ t h0.size := p4_.ltv
  have lt_5 : @LT.lt Nat _ a4 h0.size := p5_.lt
  show oG p.tables e below (fun o tE => ∃ v L, o = .returned v ∧ Q_sbappend Z a1 a2 t cs ds cap k zc a4 h0 v tE.heap L ∧ FrameEnd s o tE L rM18.cells rM18.slots) (s₁.setTop (entryFrame m #[(.ref a1), (.ref a2)] 2))
  refine own_hd (fun PP hPP => ?_)
  refine oG.st (fun t k => castTop (ef_15 m a1 a2) k) ?_
  refine oG.st (fun _ k => XS.aloadN X0.here hx rfl (hb hby dj67_7_0) rfl rfl (XS.aloadN X0.here hx rfl (hb hby dj67_7_1) rfl rfl k)) ?_
  show oG _ _ _ _ (s₁.setTop (mkF m 2 #[.val (.ref a1), .val (.ref a2)] [(.ref a2), (.ref a1)]))
  obtain ⟨_, _, ⟨T304, L304, k304, n304⟩, -, X304, ⟨Lc304, hQ304, l304, y304, z304⟩, st304⟩ := superBack X0 hx hZ (y := mN7) hown (own_w hw 71 rfl) (own_sameP (own_w hw 74 rfl) (own_w hw 91 rfl) rfl (by decide)) (own_w hw 72 rfl) (own_w hw 73 rfl) (by decide) (backOf (W := 0) (rm_asbappend l Z a0 hw [] a1 a2 t cs ds cap k zc a4 h0 OL p0_ p1_ p2_ p3_ p4_ p5_ st_C hzc hfit hcs hcap hkb hne hn0 hn4 hld) hZ (own_w hw 75 rfl) (own_w hw 54 rfl) (by decide) (by decide)) e0 (Ins.self p0_) (g := (mkF m 2 #[.val (.ref a1), .val (.ref a2)] [(.ref a2), (.ref a1)])) rfl (by rw [hml]; rfl) (own_w hw 75 rfl) (argsL := [(.ref a2)]) (rest := []) (lenOf pd_279 rfl) rfl (by show 2 * 0 + _ ≤ _; exact Nat.le_of_eq rfl) (hb hby dj67_7_2) (fun _ _ => ⟨rfl, e0, (by decide : 0 + 1 ≤ _), (by decide : 0 + 34 ≤ _)⟩)
  dsimp only [Pt.U, Pt.locs, Pt.cells, Pt.slots] at X304 l304 y304 z304 st304 hQ304
  subst y304 z304
  obtain ⟨a5_304, cap2_304, k2_304, rfl, N304q, K304, f304_0, f304_1, f304_2, f304_3, f304_4, pr304_0, pr304_1, pr304_2, pr304_3⟩ := hQ304
  have N304 := own_FrE l304 (Fr.app N0 N304q)
  have z304 : h0.size ≤ T304.heap.size := K304.1
  have lt304_0 : @LT.lt Nat _ a1 T304.heap.size := f304_0.lt
  have lt304_1 : @LT.lt Nat _ a1 T304.heap.size := f304_1.lt
  have lt304_2 : @LT.lt Nat _ a1 T304.heap.size := f304_2.lt
  have lt304_3 : @LT.lt Nat _ a1 T304.heap.size := f304_3.lt
  have lt304_4 : @LT.lt Nat _ a5_304 T304.heap.size := f304_4.lt
  refine oG.tr st304 ?_
  refine oG.st (fun _ k => XS.pop X304.here hx rfl (hb hby dj67_7_5) rfl rfl (XS.aloadN X304.here hx rfl (hb hby dj67_7_6) rfl rfl k)) ?_
  show oG _ _ _ _ (T304.setTop (mkF m 7 #[.val (.ref a1), .val (.ref a2)] [(.ref a1)]))
  obtain ⟨fs305, hr305, hrun305, hend305, hW305, hsm305⟩ := X304.leave (v := some (.ref a1)) (fun h => by rw [Bd.returns] at h; cases h)
  have K306 : Keep h0 T304.heap [a1, a4] := (Keep.refl h0 [a1, a4]).trans K304 (allS (Or.inl (List.mem_of_getElem? (i := 0) rfl)) (allS (Or.inl (List.mem_of_getElem? (i := 1) rfl)) all0))
  subst hPP
  refine ⟨_, _, own_retA X304 hx Bd.returns rfl rfl (hb hby dj67_7_7) hr305, hrun305, hend305, _, _, rfl, ?_, ⟨_, rfl⟩, hW305, hsm305.mono (by decide) (by decide)⟩
  · show Q_sbappend Z _ _ _ _ _ _ _ _ _ h0 _ T304.heap _
    exact ⟨a5_304, cap2_304, k2_304, rfl, N304, K306, f304_0, f304_1, f304_2, f304_3, f304_4, pr304_0, pr304_1, pr304_2, pr304_3⟩
theorem dj68_64_0 : decode jdk_68_method_64_code 0 = .ok (.aload_n 0, 1) := by decide +kernel
theorem dj68_64_1 : decode jdk_68_method_64_code 1 = .ok (.getfield 15, 3) := by decide +kernel
theorem dj68_64_4 : decode jdk_68_method_64_code 4 = .ok (.areturn, 1) := by decide +kernel
def Q_getValue (Z : State) (a1 : Nat) (a4 : Nat) (h0 : Heap) (v : Option Value) (h : Heap) (L : List Loc) : Prop := v = some (.ref a4) ∧ Fr Z.heap.size L ∧ h = h0
set_option maxRecDepth 65536 in
set_option maxHeartbeats 40000000 in
theorem rm_getValue (l : Launch) (Z : State) (a0 : Array Value) (hw : ∀ d ∈ tables_1, d.before a0 Z = true) (ws : List Jvm.Cond) (a1 : Nat) (a4 : Nat) (h0 : Heap) (OL : Old Z Z.heap.size h0) (p0_ : Fld Z h0 a1 "java/lang/AbstractStringBuilder" "value" "[B" (.ref a4)) :
    MetFree l mN9 (head1 (Jvm.Cond.code mN9 jdk_68_method_64_code 1 (some (.array .byte)) :: ws) rM0) (fun a U => a = #[(.ref a1)] ∧ Z.Warmed39 U.vm ∧ U.heap = h0) (fun _ _ _ _ _ => True) (fun _ U o U' => ∃ v L, o = .returned v ∧ Q_getValue Z a1 a4 h0 v U'.heap L ∧ FrameEnd U o U' L rM0.cells rM0.slots) := by
  refine MetFree.of_bodySF (plainFor_of_name pn_81) hisR ?_
  intro p e s m args below meth c s₁ Bd hml0 hP hK
  obtain ⟨rfl, hZ, hh⟩ := hP
  have hx := Bd.exec
  have hby := Bd.bytes
  have hml : c.maxLocals = 1 := hml0
  have hown : s.vm.findClass "java/lang/AbstractStringBuilder" = some m.cls := findClass_of_methodNamed Bd.named
  have hnm := (name_of_methodNamed Bd.named Bd.method).1
  have X0 : Stand p l e rM0 s m #[(.ref a1)] below meth c s₁ [] 0 0 := Stand.of_body Bd
  have e0 : s₁.heap = h0 := by rw [← hh, Bd.state]; rfl
  have N0 := Fr.nil Z.heap.size
  have Z0 : Z.heap.size ≤ h0.size := OL.2.1
  have lt_0 : @LT.lt Nat _ a1 h0.size := p0_.lt
  show oG p.tables e below (fun o tE => ∃ v L, o = .returned v ∧ Q_getValue Z a1 a4 h0 v tE.heap L ∧ FrameEnd s o tE L rM0.cells rM0.slots) (s₁.setTop (entryFrame m #[(.ref a1)] 1))
  refine own_hd (fun PP hPP => ?_)
  refine oG.st (fun t k => castTop (ef_97 m a1) k) ?_
  refine oG.st (fun _ k => XS.aloadN X0.here hx rfl (hb hby dj68_64_0) rfl rfl k) ?_
  show oG _ _ _ _ (s₁.setTop (mkF m 1 #[.val (.ref a1)] [(.ref a1)]))
  obtain ⟨T307, X307, e307, st307⟩ := getF X0 hx hZ hown (host := "") (Or.inl (own_w hw 58 rfl)) Via.refl e0 p0_ (g := (mkF m 1 #[.val (.ref a1)] [(.ref a1)])) rfl rfl (hb hby dj68_64_1)
  refine oG.st st307 ?_
  show oG _ _ _ _ (T307.setTop (mkF m 4 #[.val (.ref a1)] [(.ref a4)]))
  obtain ⟨fs308, hr308, hrun308, hend308, hW308, hsm308⟩ := X307.leave (v := some (.ref a4)) (fun h => by rw [Bd.returns] at h; cases h)
  subst hPP
  refine ⟨_, _, own_retA X307 hx Bd.returns rfl rfl (hb hby dj68_64_4) hr308, hrun308, hend308, _, _, rfl, ?_, ⟨_, rfl⟩, hW308, hsm308.mono (by decide) (by decide)⟩
  · show Q_getValue Z _ _ h0 _ T307.heap _
    rw [e307]
    exact ⟨rfl, N0, rfl⟩
theorem dj68_6_0 : decode jdk_68_method_6_code 0 = .ok (.aload_n 0, 1) := by decide +kernel
theorem dj68_6_1 : decode jdk_68_method_6_code 1 = .ok (.getfield 79, 3) := by decide +kernel
theorem dj68_6_4 : decode jdk_68_method_6_code 4 = .ok (.ireturn, 1) := by decide +kernel
def Q_asblen (Z : State) (a1 : Nat) (n1 : Int32) (h0 : Heap) (v : Option Value) (h : Heap) (L : List Loc) : Prop := v = some (.int n1) ∧ Fr Z.heap.size L ∧ h = h0
set_option maxRecDepth 65536 in
set_option maxHeartbeats 40000000 in
theorem rm_asblen (l : Launch) (Z : State) (a0 : Array Value) (hw : ∀ d ∈ tables_1, d.before a0 Z = true) (ws : List Jvm.Cond) (a1 : Nat) (n1 : Int32) (h0 : Heap) (OL : Old Z Z.heap.size h0) (p0_ : Fld Z h0 a1 "java/lang/AbstractStringBuilder" "count" "I" (.int n1)) :
    MetFree l mN12 (head1 (Jvm.Cond.code mN12 jdk_68_method_6_code 1 (some .int) :: ws) rM0) (fun a U => a = #[(.ref a1)] ∧ Z.Warmed39 U.vm ∧ U.heap = h0) (fun _ _ _ _ _ => True) (fun _ U o U' => ∃ v L, o = .returned v ∧ Q_asblen Z a1 n1 h0 v U'.heap L ∧ FrameEnd U o U' L rM0.cells rM0.slots) := by
  refine MetFree.of_bodySF (plainFor_of_name pn_81) hisR ?_
  intro p e s m args below meth c s₁ Bd hml0 hP hK
  obtain ⟨rfl, hZ, hh⟩ := hP
  have hx := Bd.exec
  have hby := Bd.bytes
  have hml : c.maxLocals = 1 := hml0
  have hown : s.vm.findClass "java/lang/AbstractStringBuilder" = some m.cls := findClass_of_methodNamed Bd.named
  have hnm := (name_of_methodNamed Bd.named Bd.method).1
  have X0 : Stand p l e rM0 s m #[(.ref a1)] below meth c s₁ [] 0 0 := Stand.of_body Bd
  have e0 : s₁.heap = h0 := by rw [← hh, Bd.state]; rfl
  have N0 := Fr.nil Z.heap.size
  have Z0 : Z.heap.size ≤ h0.size := OL.2.1
  have lt_0 : @LT.lt Nat _ a1 h0.size := p0_.lt
  show oG p.tables e below (fun o tE => ∃ v L, o = .returned v ∧ Q_asblen Z a1 n1 h0 v tE.heap L ∧ FrameEnd s o tE L rM0.cells rM0.slots) (s₁.setTop (entryFrame m #[(.ref a1)] 1))
  refine own_hd (fun PP hPP => ?_)
  refine oG.st (fun t k => castTop (ef_97 m a1) k) ?_
  refine oG.st (fun _ k => XS.aloadN X0.here hx rfl (hb hby dj68_6_0) rfl rfl k) ?_
  show oG _ _ _ _ (s₁.setTop (mkF m 1 #[.val (.ref a1)] [(.ref a1)]))
  obtain ⟨T309, X309, e309, st309⟩ := getF X0 hx hZ hown (host := "") (Or.inl (own_w hw 86 rfl)) Via.refl e0 p0_ (g := (mkF m 1 #[.val (.ref a1)] [(.ref a1)])) rfl rfl (hb hby dj68_6_1)
  refine oG.st st309 ?_
  show oG _ _ _ _ (T309.setTop (mkF m 4 #[.val (.ref a1)] [(.int n1)]))
  obtain ⟨fs310, hr310, hrun310, hend310, hW310, hsm310⟩ := X309.leave (v := some (.int n1)) (fun h => by rw [Bd.returns] at h; cases h)
  subst hPP
  refine ⟨_, _, own_retI X309 hx Bd.returns (hb hby dj68_6_4) hr310, hrun310, hend310, _, _, rfl, ?_, ⟨_, rfl⟩, hW310, hsm310.mono (by decide) (by decide)⟩
  · show Q_asblen Z _ _ h0 _ T309.heap _
    rw [e309]
    exact ⟨rfl, N0, rfl⟩
theorem dj67_93_0 : decode jdk_67_method_93_code 0 = .ok (.aload_n 0, 1) := by decide +kernel
theorem dj67_93_1 : decode jdk_67_method_93_code 1 = .ok (.invokespecial 343, 3) := by decide +kernel
theorem dj67_93_4 : decode jdk_67_method_93_code 4 = .ok (.ireturn, 1) := by decide +kernel
def Q_sblen (Z : State) (a1 : Nat) (n1 : Int32) (h0 : Heap) (v : Option Value) (h : Heap) (L : List Loc) : Prop := v = some (.int n1) ∧ Fr Z.heap.size L ∧ h = h0
set_option maxRecDepth 65536 in
set_option maxHeartbeats 40000000 in
theorem rm_sblen (l : Launch) (Z : State) (a0 : Array Value) (hw : ∀ d ∈ tables_1, d.before a0 Z = true) (ws : List Jvm.Cond) (a1 : Nat) (n1 : Int32) (h0 : Heap) (OL : Old Z Z.heap.size h0) (p0_ : Exa Z h0 a1 "java/lang/StringBuilder") (p1_ : Fld Z h0 a1 "java/lang/AbstractStringBuilder" "count" "I" (.int n1)) :
    MetFree l mN27 (head1 (Jvm.Cond.code mN27 jdk_67_method_93_code 1 (some .int) :: ws) rM1) (fun a U => a = #[(.ref a1)] ∧ Z.Warmed39 U.vm ∧ U.heap = h0) (fun _ _ _ _ _ => True) (fun _ U o U' => ∃ v L, o = .returned v ∧ Q_sblen Z a1 n1 h0 v U'.heap L ∧ FrameEnd U o U' L rM1.cells rM1.slots) := by
  refine MetFree.of_bodySF (plainFor_of_name pn_96) hisR ?_
  intro p e s m args below meth c s₁ Bd hml0 hP hK
  obtain ⟨rfl, hZ, hh⟩ := hP
  have hx := Bd.exec
  have hby := Bd.bytes
  have hml : c.maxLocals = 1 := hml0
  have hown : s.vm.findClass "java/lang/StringBuilder" = some m.cls := findClass_of_methodNamed Bd.named
  have hnm := (name_of_methodNamed Bd.named Bd.method).1
  have X0 : Stand p l e rM1 s m #[(.ref a1)] below meth c s₁ [] 0 0 := Stand.of_body Bd
  have e0 : s₁.heap = h0 := by rw [← hh, Bd.state]; rfl
  have N0 := Fr.nil Z.heap.size
  have Z0 : Z.heap.size ≤ h0.size := OL.2.1
  have lt_0 : @LT.lt Nat _ a1 h0.size := p0_.lt
  have lt_1 : @LT.lt Nat _ a1 h0.size := p1_.lt
  show oG p.tables e below (fun o tE => ∃ v L, o = .returned v ∧ Q_sblen Z a1 n1 h0 v tE.heap L ∧ FrameEnd s o tE L rM1.cells rM1.slots) (s₁.setTop (entryFrame m #[(.ref a1)] 1))
  refine own_hd (fun PP hPP => ?_)
  refine oG.st (fun t k => castTop (ef_97 m a1) k) ?_
  refine oG.st (fun _ k => XS.aloadN X0.here hx rfl (hb hby dj67_93_0) rfl rfl k) ?_
  show oG _ _ _ _ (s₁.setTop (mkF m 1 #[.val (.ref a1)] [(.ref a1)]))
  obtain ⟨_, _, ⟨T311, L311, k311, n311⟩, -, X311, ⟨Lc311, hQ311, l311, y311, z311⟩, st311⟩ := superBack X0 hx hZ (y := mN12) hown (own_w hw 137 rfl) (own_sameP (own_w hw 132 rfl) (own_w hw 91 rfl) rfl (by decide)) (own_w hw 133 rfl) (own_w hw 73 rfl) (by decide) (backOf (W := 0) (rm_asblen l Z a0 hw [] a1 n1 h0 OL p1_) hZ (own_w hw 138 rfl) (own_w hw 54 rfl) (by decide) (by decide)) e0 (Ins.self p0_) (g := (mkF m 1 #[.val (.ref a1)] [(.ref a1)])) rfl (by rw [hml]; rfl) (own_w hw 138 rfl) (argsL := []) (rest := []) (lenOf pd_254 rfl) rfl (by show 2 * 0 + _ ≤ _; exact Nat.le_of_eq rfl) (hb hby dj67_93_1) (fun _ _ => ⟨rfl, e0, (by decide : 0 + 0 ≤ _), (by decide : 0 + 0 ≤ _)⟩)
  dsimp only [Pt.U, Pt.locs, Pt.cells, Pt.slots] at X311 l311 y311 z311 st311 hQ311
  subst y311 z311
  obtain ⟨rfl, N311q, K311⟩ := hQ311
  have N311 := own_FrE l311 (Fr.app N0 N311q)
  refine oG.tr st311 ?_
  show oG _ _ _ _ (T311.setTop (mkF m 4 #[.val (.ref a1)] [(.int n1)]))
  obtain ⟨fs312, hr312, hrun312, hend312, hW312, hsm312⟩ := X311.leave (v := some (.int n1)) (fun h => by rw [Bd.returns] at h; cases h)
  subst hPP
  refine ⟨_, _, own_retI X311 hx Bd.returns (hb hby dj67_93_4) hr312, hrun312, hend312, _, _, rfl, ?_, ⟨_, rfl⟩, hW312, hsm312.mono (by decide) (by decide)⟩
  · show Q_sblen Z _ _ h0 _ T311.heap _
    rw [K311]
    exact ⟨rfl, N311, rfl⟩
theorem dj68_68_0 : decode cJ15 0 = .ok (.getstatic 18, 3) := by decide +kernel
theorem dj68_68_3 : decode cJ15 3 = .ok (.ifCond .eq 14, 3) := by decide +kernel
theorem dj68_68_6 : decode cJ15 6 = .ok (.aload_n 0, 1) := by decide +kernel
theorem dj68_68_7 : decode cJ15 7 = .ok (.getfield 22, 3) := by decide +kernel
theorem dj68_68_10 : decode cJ15 10 = .ok (.ifCond .ne 7, 3) := by decide +kernel
theorem dj68_68_13 : decode cJ15 13 = .ok (.iconst 1, 1) := by decide +kernel
theorem dj68_68_14 : decode cJ15 14 = .ok (.goto 4, 3) := by decide +kernel
theorem dj68_68_18 : decode cJ15 18 = .ok (.ireturn, 1) := by decide +kernel
def Q_asbl1 (Z : State) (a1 : Nat) (zc : Int32) (h0 : Heap) (v : Option Value) (h : Heap) (L : List Loc) : Prop := v = some (.int (1 : Int32)) ∧ Fr Z.heap.size L ∧ h = h0
set_option maxRecDepth 65536 in
set_option maxHeartbeats 40000000 in
theorem rm_asbl1 (l : Launch) (Z : State) (a0 : Array Value) (hw : ∀ d ∈ tables_1, d.before a0 Z = true) (ws : List Jvm.Cond) (a1 : Nat) (zc : Int32) (h0 : Heap) (OL : Old Z Z.heap.size h0) (p0_ : Fld Z h0 a1 "java/lang/AbstractStringBuilder" "coder" "B" (.int (0 : Int32))) (st_C : Sta Z Z.heap "java/lang/String" "COMPACT_STRINGS" "Z" (.int zc)) (hzc : ¬ zc = 0) :
    MetFree l mN11 (head1 (Jvm.Cond.code mN11 jdk_68_method_68_code 1 (some .boolean) :: ws) rM0) (fun a U => a = #[(.ref a1)] ∧ Z.Warmed39 U.vm ∧ U.heap = h0) (fun _ _ _ _ _ => True) (fun _ U o U' => ∃ v L, o = .returned v ∧ Q_asbl1 Z a1 zc h0 v U'.heap L ∧ FrameEnd U o U' L rM0.cells rM0.slots) := by
  refine MetFree.of_bodySF (plainFor_of_name pn_81) hisR ?_
  intro p e s m args below meth c s₁ Bd hml0 hP hK
  obtain ⟨rfl, hZ, hh⟩ := hP
  have hx := Bd.exec
  have hby := Bd.bytes
  have hml : c.maxLocals = 1 := hml0
  have hown : s.vm.findClass "java/lang/AbstractStringBuilder" = some m.cls := findClass_of_methodNamed Bd.named
  have hnm := (name_of_methodNamed Bd.named Bd.method).1
  have X0 : Stand p l e rM0 s m #[(.ref a1)] below meth c s₁ [] 0 0 := Stand.of_body Bd
  have e0 : s₁.heap = h0 := by rw [← hh, Bd.state]; rfl
  have N0 := Fr.nil Z.heap.size
  have Z0 : Z.heap.size ≤ h0.size := OL.2.1
  have lt_0 : @LT.lt Nat _ a1 h0.size := p0_.lt
  show oG p.tables e below (fun o tE => ∃ v L, o = .returned v ∧ Q_asbl1 Z a1 zc h0 v tE.heap L ∧ FrameEnd s o tE L rM0.cells rM0.slots) (s₁.setTop (entryFrame m #[(.ref a1)] 1))
  refine own_hd (fun PP hPP => ?_)
  refine oG.st (fun t k => castTop (ef_97 m a1) k) ?_
  show oG _ _ _ _ (s₁.setTop (mkF m 0 #[.val (.ref a1)] []))
  obtain ⟨T313, X313, e313, st313⟩ := getS2 X0 hx hZ hown (host := "") (Or.inl (own_w hw 57 rfl)) Via.refl e0 (st_C.ext OL.2) (g := (mkF m 0 #[.val (.ref a1)] [])) rfl (hb hby dj68_68_0)
  refine oG.st st313 ?_
  show oG _ _ _ _ (T313.setTop (mkF m 3 #[.val (.ref a1)] [(.int zc)]))
  have hc314 : ¬ (zc = (0 : Int32)) := hzc
  refine oG.st (fun _ k => XS.ifNo X313.here hx rfl (hb hby dj68_68_3) rfl ((if0 _ _).trans (feq hc314).1) k) ?_
  refine oG.st (fun _ k => XS.aloadN X313.here hx rfl (hb hby dj68_68_6) rfl rfl k) ?_
  show oG _ _ _ _ (T313.setTop (mkF m 7 #[.val (.ref a1)] [(.ref a1)]))
  obtain ⟨T315, X315, e315, st315⟩ := getF X313 hx hZ hown (host := "") (Or.inl (own_w hw 60 rfl)) Via.refl e313 p0_ (g := (mkF m 7 #[.val (.ref a1)] [(.ref a1)])) rfl rfl (hb hby dj68_68_7)
  refine oG.st st315 ?_
  show oG _ _ _ _ (T315.setTop (mkF m 10 #[.val (.ref a1)] [(.int (0 : Int32))]))
  refine oG.st (fun _ k => XS.ifNo X315.here hx rfl (hb hby dj68_68_10) rfl ((if0 _ _).trans (teq (rfl : (0 : Int32) = (0 : Int32))).2) k) ?_
  refine oG.st (fun _ k => XS.iconst X315.here hx rfl (hb hby dj68_68_13) (XS.goto X315.here hx rfl (pc0 := 14) (pc' := 18) rfl (hb hby dj68_68_14) (by decide) (by decide) k)) ?_
  show oG _ _ _ _ (T315.setTop (mkF m 18 #[.val (.ref a1)] [(.int (1 : Int32))]))
  obtain ⟨fs316, hr316, hrun316, hend316, hW316, hsm316⟩ := X315.leave (v := some (.int (nar .boolean (1 : Int32)))) (fun h => by rw [Bd.returns] at h; cases h)
  subst hPP
  refine ⟨_, _, retN X315 hx (t := .boolean) Bd.returns (by simp) (hb hby dj68_68_18) hr316, hrun316, hend316, _, _, rfl, ?_, ⟨_, rfl⟩, hW316, hsm316.mono (by decide) (by decide)⟩
  · show Q_asbl1 Z _ _ h0 _ T315.heap _
    rw [e315]
    exact ⟨rfl, N0, rfl⟩

theorem own_all (cs : List Int32) : (cs.drop 0).take (cs.length - 0) = cs := by simp

theorem ef_301 (m : MethodId) (x0 : Nat) (x1 : Nat) : entryFrame m #[(.ref x0), (.ref x1), .null] 5 = mkF m 0 #[.val (.ref x0), .val (.ref x1), .val .null, .unset, .unset] [] := by first | (simp [entryFrame, mkF, argsToLocals, Value.category]; done) | rfl
theorem dj42_150_0 : decode cJ4 0 = .ok (.aload_n 0, 1) := by decide +kernel
theorem dj42_150_1 : decode cJ4 1 = .ok (.invokespecial 1, 3) := by decide +kernel
theorem dj42_150_4 : decode cJ4 4 = .ok (.aload_n 1, 1) := by decide +kernel
theorem pd_305 : parseMethodDescriptor "()[B" = some ⟨[], some (.array .byte)⟩ := by decide +kernel
theorem dj42_150_5 : decode cJ4 5 = .ok (.invokevirtual 552, 3) := by decide +kernel
theorem dj42_150_8 : decode cJ4 8 = .ok (.astore_n 3, 1) := by decide +kernel
theorem dj42_150_9 : decode cJ4 9 = .ok (.aload_n 1, 1) := by decide +kernel
theorem dj42_150_10 : decode cJ4 10 = .ok (.invokevirtual 549, 3) := by decide +kernel
theorem dj42_150_13 : decode cJ4 13 = .ok (.istore 4, 2) := by decide +kernel
theorem dj42_150_15 : decode cJ4 15 = .ok (.aload_n 1, 1) := by decide +kernel
theorem pd_312 : parseMethodDescriptor "()Z" = some ⟨[], some .boolean⟩ := by decide +kernel
theorem dj42_150_16 : decode cJ4 16 = .ok (.invokevirtual 1047, 3) := by decide +kernel
theorem dj42_150_19 : decode cJ4 19 = .ok (.ifCond .eq 22, 3) := by decide +kernel
theorem dj42_150_22 : decode cJ4 22 = .ok (.aload_n 0, 1) := by decide +kernel
theorem dj42_150_23 : decode cJ4 23 = .ok (.iconst 0, 1) := by decide +kernel
theorem dj42_150_24 : decode cJ4 24 = .ok (.putfield 15, 3) := by decide +kernel
theorem dj42_150_27 : decode cJ4 27 = .ok (.aload_n 0, 1) := by decide +kernel
theorem dj42_150_28 : decode cJ4 28 = .ok (.aload_n 3, 1) := by decide +kernel
theorem dj42_150_29 : decode cJ4 29 = .ok (.iconst 0, 1) := by decide +kernel
theorem dj42_150_30 : decode cJ4 30 = .ok (.iload 4, 2) := by decide +kernel
theorem dj42_150_32 : decode cJ4 32 = .ok (.invokestatic 54, 3) := by decide +kernel
theorem dj42_150_35 : decode cJ4 35 = .ok (.putfield 9, 3) := by decide +kernel
theorem dj42_150_38 : decode cJ4 38 = .ok (.goto 59, 3) := by decide +kernel
theorem dj42_150_97 : decode cJ4 97 = .ok (.return_, 1) := by decide +kernel
def Q_sinit2 (Z : State) (a1 : Nat) (a2 : Nat) (cs : List Int32) (cap : Nat) (a4 : Nat) (k : ClassId) (zc : Int32) (h0 : Heap) (v : Option Value) (h : Heap) (L : List Loc) : Prop := ∃ (t : Nat), v = none ∧ Fr Z.heap.size L ∧ Keep h0 h [a1] ∧ own_Str Z h a1 t cs ∧ (h0.size ≤ t)
set_option maxRecDepth 65536 in
set_option maxHeartbeats 40000000 in
theorem rm_sinit2 (l : Launch) (Z : State) (a0 : Array Value) (hw : ∀ d ∈ tables_1, d.before a0 Z = true) (ws : List Jvm.Cond) (a1 : Nat) (a2 : Nat) (cs : List Int32) (cap : Nat) (a4 : Nat) (k : ClassId) (zc : Int32) (h0 : Heap) (OL : Old Z Z.heap.size h0) (p0_ : Exa Z h0 a1 "java/lang/String") (p1_ : Fld Z h0 a1 "java/lang/String" "value" "[B" .null) (p2_ : Fld Z h0 a1 "java/lang/String" "coder" "B" (.int (0 : Int32))) (p3_ : Exa Z h0 a2 "java/lang/StringBuilder") (p4_ : Fld Z h0 a2 "java/lang/AbstractStringBuilder" "value" "[B" (.ref a4)) (p5_ : Fld Z h0 a2 "java/lang/AbstractStringBuilder" "coder" "B" (.int (0 : Int32))) (p6_ : Fld Z h0 a2 "java/lang/AbstractStringBuilder" "count" "I" (.int (Int32.ofNat cs.length))) (p7_ : Arv Z h0 a4 k .byte (Int32.ofNat cap) (own_low cs) (.int (0 : Int32))) (st_C : Sta Z Z.heap "java/lang/String" "COMPACT_STRINGS" "Z" (.int zc)) (hzc : ¬ zc = 0) (hcs : cs.length ≤ cap) (hkb : Z.vm.findClass "[B" = some k) (hcap : cap ≤ 100) (hmx : cs.length ≤ 34) (hlc : ∀ c ∈ cs, ¬ c < 0 ∧ ¬ (255 : Int32) < c) (hn0 : Z.heap.size ≤ a1) :
    MetFree l mN17 (head1 (Jvm.Cond.code mN17 jdk_42_method_150_code 5 none :: ws) rM15) (fun a U => a = #[(.ref a1), (.ref a2), .null] ∧ Z.Warmed39 U.vm ∧ U.heap = h0) (fun _ _ _ _ _ => True) (fun _ U o U' => ∃ v L, o = .returned v ∧ Q_sinit2 Z a1 a2 cs cap a4 k zc h0 v U'.heap L ∧ FrameEnd U o U' L rM15.cells rM15.slots) := by
  refine MetFree.of_bodySF (plainFor_of_name pn_0) hisR ?_
  intro p e s m args below meth c s₁ Bd hml0 hP hK
  obtain ⟨rfl, hZ, hh⟩ := hP
  have hx := Bd.exec
  have hby := Bd.bytes
  have hml : c.maxLocals = 5 := hml0
  have hown : s.vm.findClass "java/lang/String" = some m.cls := findClass_of_methodNamed Bd.named
  have hnm := (name_of_methodNamed Bd.named Bd.method).1
  have X0 : Stand p l e rM15 s m #[(.ref a1), (.ref a2), .null] below meth c s₁ [] 0 0 := Stand.of_body Bd
  have e0 : s₁.heap = h0 := by rw [← hh, Bd.state]; rfl
  have N0 := Fr.nil Z.heap.size
  have Z0 : Z.heap.size ≤ h0.size := OL.2.1
  have lt_0 : @LT.lt Nat _ a1 h0.size := p0_.lt
  have lt_1 : @LT.lt Nat _ a1 h0.size := p1_.lt
  have lt_2 : @LT.lt Nat _ a1 h0.size := p2_.lt
  have lt_3 : @LT.lt Nat _ a2 h0.size := p3_.lt
  have lt_4 : @LT.lt Nat _ a2 h0.size := p4_.lt
  have lt_5 : @LT.lt Nat _ a2 h0.size := p5_.lt
  have lt_6 : @LT.lt Nat _ a2 h0.size := p6_.lt
  have lt_7 : @LT.lt Nat _ a4 h0.size := p7_.lt
  show oG p.tables e below (fun o tE => ∃ v L, o = .returned v ∧ Q_sinit2 Z a1 a2 cs cap a4 k zc h0 v tE.heap L ∧ FrameEnd s o tE L rM15.cells rM15.slots) (s₁.setTop (entryFrame m #[(.ref a1), (.ref a2), .null] 5))
  refine own_hd (fun PP hPP => ?_)
  refine oG.st (fun t k => castTop (ef_301 m a1 a2) k) ?_
  refine oG.st (fun _ k => XS.aloadN X0.here hx rfl (hb hby dj42_150_0) rfl rfl k) ?_
  show oG _ _ _ _ (s₁.setTop (mkF m 1 #[.val (.ref a1), .val (.ref a2), .val .null, .unset, .unset] [(.ref a1)]))
  obtain ⟨T317, X317, e317, st317⟩ := initO X0 hx hZ hown (own_w hw 18 rfl) (own_w hw 19 rfl) (own_w hw 20 rfl) e0 (g := (mkF m 1 #[.val (.ref a1), .val (.ref a2), .val .null, .unset, .unset] [(.ref a1)])) rfl (by rw [hml]; rfl) rfl (hb hby dj42_150_1) (by decide) (W := 0) (by show 2 * 0 + _ ≤ _; exact Nat.le_of_eq rfl) (by decide)
  refine oG.st st317 ?_
  refine oG.st (fun _ k => XS.aloadN X317.here hx rfl (hb hby dj42_150_4) rfl rfl k) ?_
  show oG _ _ _ _ (T317.setTop (mkF m 5 #[.val (.ref a1), .val (.ref a2), .val .null, .unset, .unset] [(.ref a2)]))
  obtain ⟨cq318, kq318, q318a, q318b, q318c⟩ := isOf hZ e317 p3_
  obtain ⟨_, _, ⟨T318, L318, k318, n318⟩, -, X318, ⟨Lc318, hQ318, l318, y318, z318⟩, st318⟩ := X317.virtualBack hx (y := mN9) (z := mN9) hown (own_v hZ hw 126 rfl) (own_v hZ hw 127 rfl) (notFace_of_selects (args := #[]) (own_v hZ hw 129 rfl)) (own_v hZ hw 129 rfl) (own_v hZ hw 128 rfl) (by decide) (backOf (W := 0) (rm_getValue l Z a0 hw [] a2 a4 h0 OL p4_) hZ (own_w hw 130 rfl) (own_w hw 54 rfl) (by decide) (by decide)) q318a q318c (g := (mkF m 5 #[.val (.ref a1), .val (.ref a2), .val .null, .unset, .unset] [(.ref a2)])) rfl (by rw [hml]; rfl) (Steps.refl _) (argsL := []) (rest := []) (lenOf pd_305 rfl) rfl (by show 2 * 0 + _ ≤ _; exact Nat.le_of_eq rfl) (hb hby dj42_150_5) (fun _ _ => ⟨rfl, e317, (by decide : 0 + 0 ≤ _), (by decide : 0 + 0 ≤ _)⟩)
  dsimp only [Pt.U, Pt.locs, Pt.cells, Pt.slots] at X318 l318 y318 z318 st318 hQ318
  subst y318 z318
  obtain ⟨rfl, N318q, K318⟩ := hQ318
  have N318 := own_FrE l318 (Fr.app N0 N318q)
  refine oG.tr st318 ?_
  refine oG.st (fun _ k => XS.astoreN X318.here hx rfl (hb hby dj42_150_8) rfl rfl (l' := #[.val (.ref a1), .val (.ref a2), .val .null, .val (.ref a4), .unset]) rfl (XS.aloadN X318.here hx rfl (hb hby dj42_150_9) rfl rfl k)) ?_
  show oG _ _ _ _ (T318.setTop (mkF m 10 #[.val (.ref a1), .val (.ref a2), .val .null, .val (.ref a4), .unset] [(.ref a2)]))
  obtain ⟨cq319, kq319, q319a, q319b, q319c⟩ := isOf hZ K318 p3_
  obtain ⟨_, _, ⟨T319, L319, k319, n319⟩, -, X319, ⟨Lc319, hQ319, l319, y319, z319⟩, st319⟩ := X318.virtualBack hx (y := mN12) (z := mN27) hown (own_v hZ hw 131 rfl) (own_v hZ hw 132 rfl) (own_nf (args := #[]) (own_v hZ hw 91 rfl) rfl) (own_v hZ hw 134 rfl) (own_v hZ hw 135 rfl) (by decide) (backOf (W := 0) (rm_sblen l Z a0 hw [] a2 (Int32.ofNat cs.length) h0 OL p3_ p6_) hZ (own_w hw 136 rfl) (own_w hw 46 rfl) (by decide) (by decide)) q319a q319c (g := (mkF m 10 #[.val (.ref a1), .val (.ref a2), .val .null, .val (.ref a4), .unset] [(.ref a2)])) rfl (by rw [hml]; rfl) (Steps.refl _) (argsL := []) (rest := []) (lenOf pd_254 rfl) rfl (by show 2 * 0 + _ ≤ _; exact Nat.le_of_eq rfl) (hb hby dj42_150_10) (fun _ _ => ⟨rfl, K318, (by decide : 0 + 0 ≤ _), (by decide : 0 + 0 ≤ _)⟩)
  dsimp only [Pt.U, Pt.locs, Pt.cells, Pt.slots] at X319 l319 y319 z319 st319 hQ319
  subst y319 z319
  obtain ⟨rfl, N319q, K319⟩ := hQ319
  have N319 := own_FrE l319 (Fr.app N318 N319q)
  refine oG.tr st319 ?_
  refine oG.st (fun _ k => XS.istore X319.here hx rfl (hb hby dj42_150_13) rfl (l' := #[.val (.ref a1), .val (.ref a2), .val .null, .val (.ref a4), .val (.int (Int32.ofNat cs.length))]) rfl (XS.aloadN X319.here hx rfl (hb hby dj42_150_15) rfl rfl k)) ?_
  show oG _ _ _ _ (T319.setTop (mkF m 16 #[.val (.ref a1), .val (.ref a2), .val .null, .val (.ref a4), .val (.int (Int32.ofNat cs.length))] [(.ref a2)]))
  obtain ⟨cq320, kq320, q320a, q320b, q320c⟩ := isOf hZ K319 p3_
  obtain ⟨_, _, ⟨T320, L320, k320, n320⟩, -, X320, ⟨Lc320, hQ320, l320, y320, z320⟩, st320⟩ := X319.virtualBack hx (y := mN11) (z := mN11) hown (own_v hZ hw 139 rfl) (own_v hZ hw 140 rfl) (notFace_of_selects (args := #[]) (own_v hZ hw 142 rfl)) (own_v hZ hw 142 rfl) (own_v hZ hw 141 rfl) (by decide) (backOf (W := 0) (rm_asbl1 l Z a0 hw [] a2 zc h0 OL p5_ st_C hzc) hZ (own_w hw 143 rfl) (own_w hw 54 rfl) (by decide) (by decide)) q320a q320c (g := (mkF m 16 #[.val (.ref a1), .val (.ref a2), .val .null, .val (.ref a4), .val (.int (Int32.ofNat cs.length))] [(.ref a2)])) rfl (by rw [hml]; rfl) (Steps.refl _) (argsL := []) (rest := []) (lenOf pd_312 rfl) rfl (by show 2 * 0 + _ ≤ _; exact Nat.le_of_eq rfl) (hb hby dj42_150_16) (fun _ _ => ⟨rfl, K319, (by decide : 0 + 0 ≤ _), (by decide : 0 + 0 ≤ _)⟩)
  dsimp only [Pt.U, Pt.locs, Pt.cells, Pt.slots] at X320 l320 y320 z320 st320 hQ320
  subst y320 z320
  obtain ⟨rfl, N320q, K320⟩ := hQ320
  have N320 := own_FrE l320 (Fr.app N319 N320q)
  refine oG.tr st320 ?_
  show oG _ _ _ _ (T320.setTop (mkF m 19 #[.val (.ref a1), .val (.ref a2), .val .null, .val (.ref a4), .val (.int (Int32.ofNat cs.length))] [(.int (1 : Int32))]))
  refine oG.st (fun _ k => XS.ifNo X320.here hx rfl (hb hby dj42_150_19) rfl ((if0 _ _).trans (feq (by decide : ¬ ((1 : Int32) = (0 : Int32)))).1) k) ?_
  refine oG.st (fun _ k => XS.aloadN X320.here hx rfl (hb hby dj42_150_22) rfl rfl (XS.iconst X320.here hx rfl (hb hby dj42_150_23) k)) ?_
  show oG _ _ _ _ (T320.setTop (mkF m 24 #[.val (.ref a1), .val (.ref a2), .val .null, .val (.ref a4), .val (.int (Int32.ofNat cs.length))] [(.int (0 : Int32)), (.ref a1)]))
  obtain ⟨T321, h321, X321, e321, W321, st321⟩ := putF X320 hx hZ hown (host := "") (Or.inl (own_w hw 33 rfl)) Via.refl K320 p2_ p0_ (Or.inr ⟨(own_w hw 34 rfl), rfl, hnm⟩) (own_w hw 9 rfl) (ty := .byte) (by decide) rfl (by decide) (g := (mkF m 24 #[.val (.ref a1), .val (.ref a2), .val .null, .val (.ref a4), .val (.int (Int32.ofNat cs.length))] [(.int (0 : Int32)), (.ref a1)])) rfl rfl (hb hby dj42_150_24)
  refine oG.st st321 ?_
  have gz322 : Z.heap.size ≤ a1 := by omega
  have N321 := Fr.snoc X321 N320 gz322
  have z321 : h0.size ≤ h321.size := Nat.le_of_eq W321.size.symm
  have f323 : Fld Z h321 a1 "java/lang/String" "coder" "B" (.int (0 : Int32)) := p2_.same W321
  refine oG.st (fun _ k => XS.aloadN X321.here hx rfl (hb hby dj42_150_27) rfl rfl (XS.aloadN X321.here hx rfl (hb hby dj42_150_28) rfl rfl (XS.iconst X321.here hx rfl (hb hby dj42_150_29) (XS.iload X321.here hx rfl (hb hby dj42_150_30) rfl k)))) ?_
  show oG _ _ _ _ (T321.setTop (mkF m 32 #[.val (.ref a1), .val (.ref a2), .val .null, .val (.ref a4), .val (.int (Int32.ofNat cs.length))] [(.int (Int32.ofNat cs.length)), (.int (0 : Int32)), (.ref a4), (.ref a1)]))
  have ne325 : @Ne Nat a1 a4 := Exa.neArv p0_ p7_ (own_w hw 9 rfl)
  have f326 : Arv Z h321 a4 k .byte (Int32.ofNat cap) (own_low cs) (.int (0 : Int32)) := p7_.other W321 (Ne.symm ne325)
  have f327 : Old Z Z.heap.size h321 := OL.wr W321 gz322
  obtain ⟨_, _, ⟨T324, L324, k324, n324⟩, -, X324, ⟨Lc324, hQ324, l324, y324, z324⟩, st324⟩ := Jvm.LawKit.callS X321 hx (y := mN31) hown (own_v hZ hw 144 rfl) (own_v hZ hw 145 rfl) (own_v hZ hw 146 rfl) (own_v hZ hw 147 rfl) (by decide) (backOf (W := 1) (rm_cor l Z a0 hw [] a4 (0 : Int32) (Int32.ofNat cs.length) 0 cs.length cs cap k h321 f327 f326 rfl rfl (Nat.zero_le _) (Nat.le_refl _) (by omega) hcap (by omega) hkb) hZ (own_w hw 147 rfl) (own_w hw 146 rfl) (by decide) (by decide)) (g := (mkF m 32 #[.val (.ref a1), .val (.ref a2), .val .null, .val (.ref a4), .val (.int (Int32.ofNat cs.length))] [(.int (Int32.ofNat cs.length)), (.int (0 : Int32)), (.ref a4), (.ref a1)])) rfl (by rw [hml]; rfl) (argsL := [(.ref a4), (.int (0 : Int32)), (.int (Int32.ofNat cs.length))]) (rest := [(.ref a1)]) (lenOf pd_78 rfl) rfl (by show 2 * 0 + _ ≤ _; exact Nat.le_of_eq rfl) (hb hby dj42_150_32) (fun _ _ => ⟨rfl, e321, (by decide : 0 + 1 ≤ _), (by decide : 0 + 34 ≤ _)⟩)
  dsimp only [Pt.U, Pt.locs, Pt.cells, Pt.slots] at X324 l324 y324 z324 st324 hQ324
  subst y324 z324
  obtain ⟨x_324, kx_324, rfl, N324q, K324, f324_0, pr324_0⟩ := hQ324
  have N324 := own_FrE l324 (Fr.app N321 N324q)
  have z324 : h321.size ≤ T324.heap.size := K324.1
  have lt324_0 : @LT.lt Nat _ x_324 T324.heap.size := f324_0.lt
  have f328 : Arv Z T324.heap x_324 kx_324 .byte (Int32.ofNat cs.length) (own_low cs) (.int (0 : Int32)) := by
    have q := f324_0
    rw [own_all, Nat.sub_zero] at q
    exact q
  refine oG.st st324 ?_
  show oG _ _ _ _ (T324.setTop (mkF m 35 #[.val (.ref a1), .val (.ref a2), .val .null, .val (.ref a4), .val (.int (Int32.ofNat cs.length))] [(.ref x_324), (.ref a1)]))
  have f329 : Fld Z h321 a1 "java/lang/String" "value" "[B" .null := p1_.other W321 (Or.inr (slot_ne (Or.inr (own_w hw 36 rfl)) (Or.inr (own_w hw 34 rfl)) (by decide) (t := (.array .byte)) (t' := .byte) (by decide) (by decide)))
  have f330 : Fld Z T324.heap a1 "java/lang/String" "value" "[B" .null := f329.keep K324 nin0
  have f331 : Exa Z h321 a1 "java/lang/String" := p0_.wr W321
  have f332 : Exa Z T324.heap a1 "java/lang/String" := f331.keep K324
  obtain ⟨T333, h333, X333, e333, W333, st333⟩ := putF X324 hx hZ hown (host := "") (Or.inl (own_w hw 35 rfl)) Via.refl rfl f330 f332 (Or.inr ⟨(own_w hw 36 rfl), rfl, hnm⟩) (own_w hw 9 rfl) (ty := (.array .byte)) (by decide) rfl rfl (g := (mkF m 35 #[.val (.ref a1), .val (.ref a2), .val .null, .val (.ref a4), .val (.int (Int32.ofNat cs.length))] [(.ref x_324), (.ref a1)])) rfl rfl (hb hby dj42_150_35)
  refine oG.st st333 ?_
  have N333 := Fr.snoc X333 N324 gz322
  have z333 : T324.heap.size ≤ h333.size := Nat.le_of_eq W333.size.symm
  have f334 : Fld Z h333 a1 "java/lang/String" "value" "[B" (.ref x_324) := f330.same W333
  refine oG.st (fun _ k => XS.goto X333.here hx rfl (pc0 := 38) (pc' := 97) rfl (hb hby dj42_150_38) (by decide) (by decide) k) ?_
  show oG _ _ _ _ (T333.setTop (mkF m 97 #[.val (.ref a1), .val (.ref a2), .val .null, .val (.ref a4), .val (.int (Int32.ofNat cs.length))] []))
  obtain ⟨fs335, hr335, hrun335, hend335, hW335, hsm335⟩ := X333.leave (v := none) (fun _ => rfl)
  have f336 : Exa Z h333 a1 "java/lang/String" := f332.wr W333
  have f337 : Fld Z T324.heap a1 "java/lang/String" "coder" "B" (.int (0 : Int32)) := f323.keep K324 nin0
  have f338 : Fld Z h333 a1 "java/lang/String" "coder" "B" (.int (0 : Int32)) := f337.other W333 (Or.inr (slot_ne (Or.inr (own_w hw 34 rfl)) (Or.inr (own_w hw 36 rfl)) (by decide) (t := .byte) (t' := (.array .byte)) (by decide) (by decide)))
  have ne339 : @Ne Nat a1 x_324 := Exa.neArv f332 f328 (own_w hw 9 rfl)
  have f340 : Arv Z h333 x_324 kx_324 .byte (Int32.ofNat cs.length) (own_low cs) (.int (0 : Int32)) := f328.other W333 (Ne.symm ne339)
  have K341 : Keep h0 h321 [a1] := (Keep.refl h0 [a1]).wr W321 (Or.inl (List.mem_of_getElem? (i := 0) rfl))
  have K342 : Keep h0 T324.heap [a1] := K341.trans K324 all0
  have K343 : Keep h0 h333 [a1] := K342.wr W333 (Or.inl (List.mem_of_getElem? (i := 0) rfl))
  subst hPP
  refine ⟨_, _, X333.returnOut hx Bd.returns (hb hby dj42_150_97) hr335, hrun335, hend335, _, _, rfl, ?_, ⟨_, rfl⟩, hW335, hsm335.mono (by decide) (by decide)⟩
  · show Q_sinit2 Z _ _ _ _ _ _ _ h0 _ T333.heap _
    rw [e333]
    exact ⟨x_324, rfl, N333, K343, (own_Str.mkL f336 f334 f338 f340 hlc (by omega)), (by omega)⟩
theorem dj42_53_0 : decode jdk_42_method_53_code 0 = .ok (.aload_n 0, 1) := by decide +kernel
theorem dj42_53_1 : decode jdk_42_method_53_code 1 = .ok (.aload_n 1, 1) := by decide +kernel
theorem dj42_53_2 : decode jdk_42_method_53_code 2 = .ok (.aconst_null, 1) := by decide +kernel
theorem pd_329 : parseMethodDescriptor "(Ljava/lang/AbstractStringBuilder;Ljava/lang/Void;)V" = some ⟨[(.object "java/lang/AbstractStringBuilder"), (.object "java/lang/Void")], none⟩ := by decide +kernel
theorem dj42_53_3 : decode jdk_42_method_53_code 3 = .ok (.invokespecial 489, 3) := by decide +kernel
theorem dj42_53_6 : decode jdk_42_method_53_code 6 = .ok (.return_, 1) := by decide +kernel
def Q_sinit1 (Z : State) (a1 : Nat) (a2 : Nat) (cs : List Int32) (cap : Nat) (a4 : Nat) (k : ClassId) (zc : Int32) (h0 : Heap) (v : Option Value) (h : Heap) (L : List Loc) : Prop := ∃ (t : Nat), v = none ∧ Fr Z.heap.size L ∧ Keep h0 h [a1] ∧ own_Str Z h a1 t cs ∧ (h0.size ≤ t)
set_option maxRecDepth 65536 in
set_option maxHeartbeats 40000000 in
theorem rm_sinit1 (l : Launch) (Z : State) (a0 : Array Value) (hw : ∀ d ∈ tables_1, d.before a0 Z = true) (ws : List Jvm.Cond) (a1 : Nat) (a2 : Nat) (cs : List Int32) (cap : Nat) (a4 : Nat) (k : ClassId) (zc : Int32) (h0 : Heap) (OL : Old Z Z.heap.size h0) (p0_ : Exa Z h0 a1 "java/lang/String") (p1_ : Fld Z h0 a1 "java/lang/String" "value" "[B" .null) (p2_ : Fld Z h0 a1 "java/lang/String" "coder" "B" (.int (0 : Int32))) (p3_ : Exa Z h0 a2 "java/lang/StringBuilder") (p4_ : Fld Z h0 a2 "java/lang/AbstractStringBuilder" "value" "[B" (.ref a4)) (p5_ : Fld Z h0 a2 "java/lang/AbstractStringBuilder" "coder" "B" (.int (0 : Int32))) (p6_ : Fld Z h0 a2 "java/lang/AbstractStringBuilder" "count" "I" (.int (Int32.ofNat cs.length))) (p7_ : Arv Z h0 a4 k .byte (Int32.ofNat cap) (own_low cs) (.int (0 : Int32))) (st_C : Sta Z Z.heap "java/lang/String" "COMPACT_STRINGS" "Z" (.int zc)) (hzc : ¬ zc = 0) (hcs : cs.length ≤ cap) (hkb : Z.vm.findClass "[B" = some k) (hcap : cap ≤ 100) (hmx : cs.length ≤ 34) (hlc : ∀ c ∈ cs, ¬ c < 0 ∧ ¬ (255 : Int32) < c) (hn0 : Z.heap.size ≤ a1) :
    MetFree l mN18 (head1 (Jvm.Cond.code mN18 jdk_42_method_53_code 2 none :: ws) rM17) (fun a U => a = #[(.ref a1), (.ref a2)] ∧ Z.Warmed39 U.vm ∧ U.heap = h0) (fun _ _ _ _ _ => True) (fun _ U o U' => ∃ v L, o = .returned v ∧ Q_sinit1 Z a1 a2 cs cap a4 k zc h0 v U'.heap L ∧ FrameEnd U o U' L rM17.cells rM17.slots) := by
  refine MetFree.of_bodySF (plainFor_of_name pn_0) hisR ?_
  intro p e s m args below meth c s₁ Bd hml0 hP hK
  obtain ⟨rfl, hZ, hh⟩ := hP
  have hx := Bd.exec
  have hby := Bd.bytes
  have hml : c.maxLocals = 2 := hml0
  have hown : s.vm.findClass "java/lang/String" = some m.cls := findClass_of_methodNamed Bd.named
  have hnm := (name_of_methodNamed Bd.named Bd.method).1
  have X0 : Stand p l e rM17 s m #[(.ref a1), (.ref a2)] below meth c s₁ [] 0 0 := Stand.of_body Bd
  have e0 : s₁.heap = h0 := by rw [← hh, Bd.state]; rfl
  have N0 := Fr.nil Z.heap.size
  have Z0 : Z.heap.size ≤ h0.size := OL.2.1
  have lt_0 : @LT.lt Nat _ a1 h0.size := p0_.lt
  have lt_1 : @LT.lt Nat _ a1 h0.size := p1_.lt
  have lt_2 : @LT.lt Nat _ a1 h0.size := p2_.lt
  have lt_3 : @LT.lt Nat _ a2 h0.size := p3_.lt
  have lt_4 : @LT.lt Nat _ a2 h0.size := p4_.lt
  have lt_5 : @LT.lt Nat _ a2 h0.size := p5_.lt
  have lt_6 : @LT.lt Nat _ a2 h0.size := p6_.lt
  have lt_7 : @LT.lt Nat _ a4 h0.size := p7_.lt
  show oG p.tables e below (fun o tE => ∃ v L, o = .returned v ∧ Q_sinit1 Z a1 a2 cs cap a4 k zc h0 v tE.heap L ∧ FrameEnd s o tE L rM17.cells rM17.slots) (s₁.setTop (entryFrame m #[(.ref a1), (.ref a2)] 2))
  refine own_hd (fun PP hPP => ?_)
  refine oG.st (fun t k => castTop (ef_15 m a1 a2) k) ?_
  refine oG.st (fun _ k => XS.aloadN X0.here hx rfl (hb hby dj42_53_0) rfl rfl (XS.aloadN X0.here hx rfl (hb hby dj42_53_1) rfl rfl (XS.aconstNull X0.here hx rfl (hb hby dj42_53_2) k))) ?_
  show oG _ _ _ _ (s₁.setTop (mkF m 3 #[.val (.ref a1), .val (.ref a2)] [.null, (.ref a2), (.ref a1)]))
  obtain ⟨_, _, ⟨T344, L344, k344, n344⟩, -, X344, ⟨Lc344, hQ344, l344, y344, z344⟩, st344⟩ := X0.specialBack hx (y := mN17) rfl hown (own_v hZ hw 123 rfl) (own_v hZ hw 124 rfl) (own_v hZ hw 125 rfl) (by decide) (backOf (W := 0) (rm_sinit2 l Z a0 hw [] a1 a2 cs cap a4 k zc h0 OL p0_ p1_ p2_ p3_ p4_ p5_ p6_ p7_ st_C hzc hcs hkb hcap hmx hlc hn0) hZ (own_w hw 125 rfl) (own_w hw 10 rfl) (by decide) (by decide)) (g := (mkF m 3 #[.val (.ref a1), .val (.ref a2)] [.null, (.ref a2), (.ref a1)])) rfl (by rw [hml]; rfl) (Steps.refl _) (a := a1) (argsL := [(.ref a2), .null]) (rest := []) (lenOf pd_329 rfl) rfl (by show 2 * 0 + _ ≤ _; exact Nat.le_of_eq rfl) (hb hby dj42_53_3) (fun _ _ => ⟨rfl, e0, (by decide : 0 + 1 ≤ _), (by decide : 0 + 34 ≤ _)⟩)
  dsimp only [Pt.U, Pt.locs, Pt.cells, Pt.slots] at X344 l344 y344 z344 st344 hQ344
  subst y344 z344
  obtain ⟨t_344, rfl, N344q, K344, f344_0, pr344_0⟩ := hQ344
  have N344 := own_FrE l344 (Fr.app N0 N344q)
  have z344 : h0.size ≤ T344.heap.size := K344.1
  have lt344_0 : @LT.lt Nat _ a1 T344.heap.size := f344_0.lt
  have ltv344_0 : @LT.lt Nat _ t_344 T344.heap.size := f344_0.ltv
  refine oG.tr st344 ?_
  show oG _ _ _ _ (T344.setTop (mkF m 6 #[.val (.ref a1), .val (.ref a2)] []))
  obtain ⟨fs345, hr345, hrun345, hend345, hW345, hsm345⟩ := X344.leave (v := none) (fun _ => rfl)
  have K346 : Keep h0 T344.heap [a1] := (Keep.refl h0 [a1]).trans K344 (allS (Or.inl (List.mem_of_getElem? (i := 0) rfl)) all0)
  subst hPP
  refine ⟨_, _, X344.returnOut hx Bd.returns (hb hby dj42_53_6) hr345, hrun345, hend345, _, _, rfl, ?_, ⟨_, rfl⟩, hW345, hsm345.mono (by decide) (by decide)⟩
  · show Q_sinit1 Z _ _ _ _ _ _ _ h0 _ T344.heap _
    exact ⟨t_344, rfl, N344, K346, f344_0, (by omega)⟩
theorem dj67_42_0 : decode jdk_67_method_42_code 0 = .ok (.new 18, 3) := by decide +kernel
theorem dj67_42_3 : decode jdk_67_method_42_code 3 = .ok (.dup, 1) := by decide +kernel
theorem dj67_42_4 : decode jdk_67_method_42_code 4 = .ok (.aload_n 0, 1) := by decide +kernel
theorem pd_335 : parseMethodDescriptor "(Ljava/lang/StringBuilder;)V" = some ⟨[(.object "java/lang/StringBuilder")], none⟩ := by decide +kernel
theorem dj67_42_5 : decode jdk_67_method_42_code 5 = .ok (.invokespecial 137, 3) := by decide +kernel
theorem dj67_42_8 : decode jdk_67_method_42_code 8 = .ok (.areturn, 1) := by decide +kernel
def Q_tostr (Z : State) (a1 : Nat) (cs : List Int32) (cap : Nat) (a4 : Nat) (k : ClassId) (zc : Int32) (h0 : Heap) (v : Option Value) (h : Heap) (L : List Loc) : Prop := ∃ (x : Nat), ∃ (t : Nat), v = some (.ref x) ∧ Fr Z.heap.size L ∧ Keep h0 h [] ∧ own_Str Z h x t cs ∧ (h0.size ≤ x) ∧ (h0.size ≤ t)
set_option maxRecDepth 65536 in
set_option maxHeartbeats 40000000 in
theorem rm_tostr (l : Launch) (Z : State) (a0 : Array Value) (hw : ∀ d ∈ tables_1, d.before a0 Z = true) (ws : List Jvm.Cond) (a1 : Nat) (cs : List Int32) (cap : Nat) (a4 : Nat) (k : ClassId) (zc : Int32) (h0 : Heap) (OL : Old Z Z.heap.size h0) (p0_ : Exa Z h0 a1 "java/lang/StringBuilder") (p1_ : Fld Z h0 a1 "java/lang/AbstractStringBuilder" "value" "[B" (.ref a4)) (p2_ : Fld Z h0 a1 "java/lang/AbstractStringBuilder" "coder" "B" (.int (0 : Int32))) (p3_ : Fld Z h0 a1 "java/lang/AbstractStringBuilder" "count" "I" (.int (Int32.ofNat cs.length))) (p4_ : Arv Z h0 a4 k .byte (Int32.ofNat cap) (own_low cs) (.int (0 : Int32))) (st_C : Sta Z Z.heap "java/lang/String" "COMPACT_STRINGS" "Z" (.int zc)) (hzc : ¬ zc = 0) (hcs : cs.length ≤ cap) (hkb : Z.vm.findClass "[B" = some k) (hcap : cap ≤ 100) (hmx : cs.length ≤ 34) (hlc : ∀ c ∈ cs, ¬ c < 0 ∧ ¬ (255 : Int32) < c) :
    MetFree l mN28 (head1 (Jvm.Cond.code mN28 jdk_67_method_42_code 1 (some (.object "java/lang/String")) :: ws) rM19) (fun a U => a = #[(.ref a1)] ∧ Z.Warmed39 U.vm ∧ U.heap = h0) (fun _ _ _ _ _ => True) (fun _ U o U' => ∃ v L, o = .returned v ∧ Q_tostr Z a1 cs cap a4 k zc h0 v U'.heap L ∧ FrameEnd U o U' L rM19.cells rM19.slots) := by
  refine MetFree.of_bodySF (plainFor_of_name pn_96) hisR ?_
  intro p e s m args below meth c s₁ Bd hml0 hP hK
  obtain ⟨rfl, hZ, hh⟩ := hP
  have hx := Bd.exec
  have hby := Bd.bytes
  have hml : c.maxLocals = 1 := hml0
  have hown : s.vm.findClass "java/lang/StringBuilder" = some m.cls := findClass_of_methodNamed Bd.named
  have hnm := (name_of_methodNamed Bd.named Bd.method).1
  have X0 : Stand p l e rM19 s m #[(.ref a1)] below meth c s₁ [] 0 0 := Stand.of_body Bd
  have e0 : s₁.heap = h0 := by rw [← hh, Bd.state]; rfl
  have N0 := Fr.nil Z.heap.size
  have Z0 : Z.heap.size ≤ h0.size := OL.2.1
  have lt_0 : @LT.lt Nat _ a1 h0.size := p0_.lt
  have lt_1 : @LT.lt Nat _ a1 h0.size := p1_.lt
  have lt_2 : @LT.lt Nat _ a1 h0.size := p2_.lt
  have lt_3 : @LT.lt Nat _ a1 h0.size := p3_.lt
  have lt_4 : @LT.lt Nat _ a4 h0.size := p4_.lt
  show oG p.tables e below (fun o tE => ∃ v L, o = .returned v ∧ Q_tostr Z a1 cs cap a4 k zc h0 v tE.heap L ∧ FrameEnd s o tE L rM19.cells rM19.slots) (s₁.setTop (entryFrame m #[(.ref a1)] 1))
  refine own_hd (fun PP hPP => ?_)
  refine oG.st (fun t k => castTop (ef_97 m a1) k) ?_
  show oG _ _ _ _ (s₁.setTop (mkF m 0 #[.val (.ref a1)] []))
  obtain ⟨T347, h347, X347, e347, E347, A347, D347, U347, st347⟩ := newO X0 hx hZ hown (own_w hw 119 rfl) (own_w hw 9 rfl) (own_w hw 10 rfl) e0 (g := (mkF m 0 #[.val (.ref a1)] [])) rfl (hb hby dj67_42_0) (by decide) (by decide)
  obtain ⟨b347, g347⟩ : ∃ z, z = h0.size := ⟨_, rfl⟩
  rw [← g347] at A347 D347 U347 st347
  refine oG.st st347 ?_
  have z347 : h0.size ≤ h347.size := E347.1
  have lt_b347 : @LT.lt Nat _ b347 h347.size := A347.lt
  have f348 : Fld Z h347 b347 "java/lang/String" "coder" "B" (.int (0 : Int32)) := D347 (Or.inr (own_w hw 34 rfl)) (ty := .byte) (by decide)
  have f349 : Fld Z h347 b347 "java/lang/String" "value" "[B" .null := D347 (Or.inr (own_w hw 36 rfl)) (ty := (.array .byte)) (by decide)
  refine oG.st (fun _ k => XS.dup X347.here hx rfl (hb hby dj67_42_3) rfl rfl (XS.aloadN X347.here hx rfl (hb hby dj67_42_4) rfl rfl k)) ?_
  show oG _ _ _ _ (T347.setTop (mkF m 5 #[.val (.ref a1)] [(.ref a1), (.ref b347), (.ref b347)]))
  have f351 : Exa Z h347 a1 "java/lang/StringBuilder" := p0_.ext E347
  have f352 : Fld Z h347 a1 "java/lang/AbstractStringBuilder" "value" "[B" (.ref a4) := p1_.ext E347
  have f353 : Fld Z h347 a1 "java/lang/AbstractStringBuilder" "coder" "B" (.int (0 : Int32)) := p2_.ext E347
  have f354 : Fld Z h347 a1 "java/lang/AbstractStringBuilder" "count" "I" (.int (Int32.ofNat cs.length)) := p3_.ext E347
  have f355 : Arv Z h347 a4 k .byte (Int32.ofNat cap) (own_low cs) (.int (0 : Int32)) := p4_.ext E347
  have f356 : Old Z Z.heap.size h347 := OL.ext E347
  obtain ⟨_, _, ⟨T350, L350, k350, n350⟩, -, X350, ⟨Lc350, hQ350, l350, y350, z350⟩, st350⟩ := X347.specialBack hx (y := mN18) rfl hown (own_v hZ hw 120 rfl) (own_v hZ hw 121 rfl) (own_v hZ hw 122 rfl) (by decide) (backOf (W := 1) (rm_sinit1 l Z a0 hw [] b347 a1 cs cap a4 k zc h347 f356 A347 f349 f348 f351 f352 f353 f354 f355 st_C hzc hcs hkb hcap hmx hlc (by omega)) hZ (own_w hw 122 rfl) (own_w hw 10 rfl) (by decide) (by decide)) (g := (mkF m 5 #[.val (.ref a1)] [(.ref a1), (.ref b347), (.ref b347)])) rfl (by rw [hml]; rfl) (Steps.refl _) (a := b347) (argsL := [(.ref a1)]) (rest := [(.ref b347)]) (lenOf pd_335 rfl) rfl (by show 2 * 0 + _ ≤ _; exact Nat.le_of_eq rfl) (hb hby dj67_42_5) (fun _ _ => ⟨rfl, e347, (by decide : 1 + 1 ≤ _), (by decide : 4 + 34 ≤ _)⟩)
  dsimp only [Pt.U, Pt.locs, Pt.cells, Pt.slots] at X350 l350 y350 z350 st350 hQ350
  subst y350 z350
  obtain ⟨t_350, rfl, N350q, K350, f350_0, pr350_0⟩ := hQ350
  have N350 := own_FrE l350 (Fr.app N0 N350q)
  have z350 : h347.size ≤ T350.heap.size := K350.1
  have lt350_0 : @LT.lt Nat _ b347 T350.heap.size := f350_0.lt
  have ltv350_0 : @LT.lt Nat _ t_350 T350.heap.size := f350_0.ltv
  refine oG.tr st350 ?_
  show oG _ _ _ _ (T350.setTop (mkF m 8 #[.val (.ref a1)] [(.ref b347)]))
  obtain ⟨fs357, hr357, hrun357, hend357, hW357, hsm357⟩ := X350.leave (v := some (.ref b347)) (fun h => by rw [Bd.returns] at h; cases h)
  have K358 : Keep h0 h347 [] := (Keep.refl h0 []).ext E347
  have gz359 : h0.size ≤ b347 := by omega
  have K360 : Keep h0 T350.heap [] := K358.trans K350 (allS (Or.inr gz359) all0)
  subst hPP
  refine ⟨_, _, own_retA X350 hx Bd.returns rfl rfl (hb hby dj67_42_8) hr357, hrun357, hend357, _, _, rfl, ?_, ⟨_, rfl⟩, hW357, hsm357.mono (by decide) (by decide)⟩
  · show Q_tostr Z _ _ _ _ _ _ h0 _ T350.heap _
    exact ⟨b347, t_350, rfl, N350, K360, f350_0, (by omega), (by omega)⟩

theorem own_one {r : Int32} {A : Prop} (h : (r = 1 ∧ A) ∨ (r = 0 ∧ ¬ A)) (q : ¬ (r = (0 : Int32))) : A := h.elim (fun a => a.2) (fun a => absurd a.1 q)
theorem own_zero {r : Int32} {A : Prop} (h : (r = 1 ∧ A) ∨ (r = 0 ∧ ¬ A)) (q : r = (0 : Int32)) : ¬ A := h.elim (fun a => by rw [a.1] at q; exact absurd q (by decide)) (fun a => a.2)
theorem own_lat0 : ∀ c ∈ ([] : List Int32), ¬ c < 0 ∧ ¬ (255 : Int32) < c := own_a0
theorem own_ch255 (x : Int32) : ¬ ((x &&& (255 : Int32)).toUInt32.toUInt16.toUInt32.toInt32) < 0 ∧ ¬ (255 : Int32) < ((x &&& (255 : Int32)).toUInt32.toUInt16.toUInt32.toInt32) := by
  have h1 := c_mask x 255 8 (by decide) (by decide)
  have h4 := c_i2c (x &&& 255)
  have e2 : (255 : Int32).toInt = 255 := by decide
  have e3 : (0 : Int32).toInt = 0 := by decide
  simp only [Int32.lt_iff_toInt_lt, e2, e3]
  omega
def own_c0 (x : Int32) : Int32 := ((x &&& (255 : Int32)).toUInt32.toUInt16.toUInt32.toInt32)
def own_c1 (x : Int32) : Int32 := (((x.toUInt32 >>> ((8 : Int32) &&& 31).toUInt32).toInt32 &&& (255 : Int32)).toUInt32.toUInt16.toUInt32.toInt32)
theorem own_c0l (x : Int32) : ¬ own_c0 x < 0 ∧ ¬ (255 : Int32) < own_c0 x := own_ch255 x
theorem own_c1l (x : Int32) : ¬ own_c1 x < 0 ∧ ¬ (255 : Int32) < own_c1 x := own_ch255 _
theorem own_n3 (x : Int32) : ∃ k : Nat, k ≤ 2 ∧ ((x &&& (3 : Int32)) % (3 : Int32)) = Int32.ofNat k := by
  have h1 := c_mask x 3 2 (by decide) (by decide)
  have h2 := (c_irem (x &&& (3 : Int32)) 3 3 (by decide)).1 (by omega)
  generalize (x &&& (3 : Int32)) % (3 : Int32) = y at h2 ⊢
  generalize (x &&& (3 : Int32)) = z at h1 h2
  refine ⟨y.toInt.toNat, by omega, ?_⟩
  apply Int32.toInt_inj.mp
  rw [own_of (by omega)]
  omega
theorem own_le2 {n : Nat} (h : n ≤ 2) : n = 0 ∨ n = 1 ∨ n = 2 := by omega
abbrev own_seg (x : Int32) (n : Nat) : List Int32 := [own_c0 x, own_c1 x].take n
theorem own_segl {x : Int32} {n : Nat} (h : n ≤ 2) : (own_seg x n).length = n := by simp [own_seg]; omega
theorem own_segL {x : Int32} {n : Nat} : ∀ c ∈ own_seg x n, ¬ c < 0 ∧ ¬ (255 : Int32) < c := fun c hc => (own_aS (P := fun c => ¬ c < 0 ∧ ¬ (255 : Int32) < c) (own_c0l x) (own_aS (own_c1l x) own_a0)) c (List.mem_of_mem_take hc)
theorem own_push {Z : State} {h h' : Heap} {a : Addr} {k : ClassId} {z : Int32} {es : List Int32} {j v : Int32} (F : Arv Z h a k .char z (es.map Value.int) (.int (0 : Int32))) (W : Wr h h' a j.toNatClampNeg (.int (nar .char v))) (hj : j = Int32.ofNat es.length) (hl : es.length < 1000) (hv : ¬ v < 0 ∧ ¬ (65535 : Int32) < v) : Arv Z h' a k .char z ((es ++ [v]).map Value.int) (.int (0 : Int32)) := by
  have F2 := F.pad (vs' := es.map Value.int ++ List.replicate 1 (Value.int (0 : Int32))) (fun i => pad_rep _ _ 1 i)
  obtain ⟨c, A, q1, S, q3, H, G⟩ := F2
  have F3 := Arv.set A q1 S q3 H G (fits_nar_char _) W es.length (by rw [hj, own_ofn (by omega)]) (by simp)
  rw [own_nar hv, List.set_append_right _ _ (by simp)] at F3
  simpa using F3
def own_role (La Lb : List Int32) : List Int32 := ([(97 : Int32), (99 : Int32), (115 : Int32), (58 : Int32), (114 : Int32), (97 : Int32), (109 : Int32), (58 : Int32), (58 : Int32)] : List Int32) ++ La ++ ([(58 : Int32), (114 : Int32), (111 : Int32), (108 : Int32), (101 : Int32), (47 : Int32)] : List Int32) ++ Lb
def own_asm (La Lb Ld : List Int32) : List Int32 := own_role La Lb ++ [(47 : Int32)] ++ Ld


theorem own_un {es : List Int32} {n : Nat} (h : es.length = n + 1) : ∃ x xs, es = x :: xs ∧ xs.length = n := by
  cases es with
  | nil => simp at h
  | cons a b => exact ⟨a, b, rfl, by simpa using h⟩

theorem own_L16 (es : List Int32) (h0 : es.length = 16) : ∃ x0 x1 x2 x3 x4 x5 x6 x7 x8 x9 x10 x11 x12 x13 x14 x15 : Int32, es = [x0, x1, x2, x3, x4, x5, x6, x7, x8, x9, x10, x11, x12, x13, x14, x15] := by
  obtain ⟨x0, es, rfl, h1⟩ := own_un h0
  obtain ⟨x1, es, rfl, h2⟩ := own_un h1
  obtain ⟨x2, es, rfl, h3⟩ := own_un h2
  obtain ⟨x3, es, rfl, h4⟩ := own_un h3
  obtain ⟨x4, es, rfl, h5⟩ := own_un h4
  obtain ⟨x5, es, rfl, h6⟩ := own_un h5
  obtain ⟨x6, es, rfl, h7⟩ := own_un h6
  obtain ⟨x7, es, rfl, h8⟩ := own_un h7
  obtain ⟨x8, es, rfl, h9⟩ := own_un h8
  obtain ⟨x9, es, rfl, h10⟩ := own_un h9
  obtain ⟨x10, es, rfl, h11⟩ := own_un h10
  obtain ⟨x11, es, rfl, h12⟩ := own_un h11
  obtain ⟨x12, es, rfl, h13⟩ := own_un h12
  obtain ⟨x13, es, rfl, h14⟩ := own_un h13
  obtain ⟨x14, es, rfl, h15⟩ := own_un h14
  obtain ⟨x15, es, rfl, h16⟩ := own_un h15
  obtain rfl := List.eq_nil_of_length_eq_zero h16
  exact ⟨x0, x1, x2, x3, x4, x5, x6, x7, x8, x9, x10, x11, x12, x13, x14, x15, rfl⟩
theorem own_L17 (es : List Int32) (h0 : es.length = 17) : ∃ x0 x1 x2 x3 x4 x5 x6 x7 x8 x9 x10 x11 x12 x13 x14 x15 x16 : Int32, es = [x0, x1, x2, x3, x4, x5, x6, x7, x8, x9, x10, x11, x12, x13, x14, x15, x16] := by
  obtain ⟨x0, es, rfl, h1⟩ := own_un h0
  obtain ⟨x1, es, rfl, h2⟩ := own_un h1
  obtain ⟨x2, es, rfl, h3⟩ := own_un h2
  obtain ⟨x3, es, rfl, h4⟩ := own_un h3
  obtain ⟨x4, es, rfl, h5⟩ := own_un h4
  obtain ⟨x5, es, rfl, h6⟩ := own_un h5
  obtain ⟨x6, es, rfl, h7⟩ := own_un h6
  obtain ⟨x7, es, rfl, h8⟩ := own_un h7
  obtain ⟨x8, es, rfl, h9⟩ := own_un h8
  obtain ⟨x9, es, rfl, h10⟩ := own_un h9
  obtain ⟨x10, es, rfl, h11⟩ := own_un h10
  obtain ⟨x11, es, rfl, h12⟩ := own_un h11
  obtain ⟨x12, es, rfl, h13⟩ := own_un h12
  obtain ⟨x13, es, rfl, h14⟩ := own_un h13
  obtain ⟨x14, es, rfl, h15⟩ := own_un h14
  obtain ⟨x15, es, rfl, h16⟩ := own_un h15
  obtain ⟨x16, es, rfl, h17⟩ := own_un h16
  obtain rfl := List.eq_nil_of_length_eq_zero h17
  exact ⟨x0, x1, x2, x3, x4, x5, x6, x7, x8, x9, x10, x11, x12, x13, x14, x15, x16, rfl⟩
theorem own_L18 (es : List Int32) (h0 : es.length = 18) : ∃ x0 x1 x2 x3 x4 x5 x6 x7 x8 x9 x10 x11 x12 x13 x14 x15 x16 x17 : Int32, es = [x0, x1, x2, x3, x4, x5, x6, x7, x8, x9, x10, x11, x12, x13, x14, x15, x16, x17] := by
  obtain ⟨x0, es, rfl, h1⟩ := own_un h0
  obtain ⟨x1, es, rfl, h2⟩ := own_un h1
  obtain ⟨x2, es, rfl, h3⟩ := own_un h2
  obtain ⟨x3, es, rfl, h4⟩ := own_un h3
  obtain ⟨x4, es, rfl, h5⟩ := own_un h4
  obtain ⟨x5, es, rfl, h6⟩ := own_un h5
  obtain ⟨x6, es, rfl, h7⟩ := own_un h6
  obtain ⟨x7, es, rfl, h8⟩ := own_un h7
  obtain ⟨x8, es, rfl, h9⟩ := own_un h8
  obtain ⟨x9, es, rfl, h10⟩ := own_un h9
  obtain ⟨x10, es, rfl, h11⟩ := own_un h10
  obtain ⟨x11, es, rfl, h12⟩ := own_un h11
  obtain ⟨x12, es, rfl, h13⟩ := own_un h12
  obtain ⟨x13, es, rfl, h14⟩ := own_un h13
  obtain ⟨x14, es, rfl, h15⟩ := own_un h14
  obtain ⟨x15, es, rfl, h16⟩ := own_un h15
  obtain ⟨x16, es, rfl, h17⟩ := own_un h16
  obtain ⟨x17, es, rfl, h18⟩ := own_un h17
  obtain rfl := List.eq_nil_of_length_eq_zero h18
  exact ⟨x0, x1, x2, x3, x4, x5, x6, x7, x8, x9, x10, x11, x12, x13, x14, x15, x16, x17, rfl⟩
theorem own_L19 (es : List Int32) (h0 : es.length = 19) : ∃ x0 x1 x2 x3 x4 x5 x6 x7 x8 x9 x10 x11 x12 x13 x14 x15 x16 x17 x18 : Int32, es = [x0, x1, x2, x3, x4, x5, x6, x7, x8, x9, x10, x11, x12, x13, x14, x15, x16, x17, x18] := by
  obtain ⟨x0, es, rfl, h1⟩ := own_un h0
  obtain ⟨x1, es, rfl, h2⟩ := own_un h1
  obtain ⟨x2, es, rfl, h3⟩ := own_un h2
  obtain ⟨x3, es, rfl, h4⟩ := own_un h3
  obtain ⟨x4, es, rfl, h5⟩ := own_un h4
  obtain ⟨x5, es, rfl, h6⟩ := own_un h5
  obtain ⟨x6, es, rfl, h7⟩ := own_un h6
  obtain ⟨x7, es, rfl, h8⟩ := own_un h7
  obtain ⟨x8, es, rfl, h9⟩ := own_un h8
  obtain ⟨x9, es, rfl, h10⟩ := own_un h9
  obtain ⟨x10, es, rfl, h11⟩ := own_un h10
  obtain ⟨x11, es, rfl, h12⟩ := own_un h11
  obtain ⟨x12, es, rfl, h13⟩ := own_un h12
  obtain ⟨x13, es, rfl, h14⟩ := own_un h13
  obtain ⟨x14, es, rfl, h15⟩ := own_un h14
  obtain ⟨x15, es, rfl, h16⟩ := own_un h15
  obtain ⟨x16, es, rfl, h17⟩ := own_un h16
  obtain ⟨x17, es, rfl, h18⟩ := own_un h17
  obtain ⟨x18, es, rfl, h19⟩ := own_un h18
  obtain rfl := List.eq_nil_of_length_eq_zero h19
  exact ⟨x0, x1, x2, x3, x4, x5, x6, x7, x8, x9, x10, x11, x12, x13, x14, x15, x16, x17, x18, rfl⟩
theorem own_L20 (es : List Int32) (h0 : es.length = 20) : ∃ x0 x1 x2 x3 x4 x5 x6 x7 x8 x9 x10 x11 x12 x13 x14 x15 x16 x17 x18 x19 : Int32, es = [x0, x1, x2, x3, x4, x5, x6, x7, x8, x9, x10, x11, x12, x13, x14, x15, x16, x17, x18, x19] := by
  obtain ⟨x0, es, rfl, h1⟩ := own_un h0
  obtain ⟨x1, es, rfl, h2⟩ := own_un h1
  obtain ⟨x2, es, rfl, h3⟩ := own_un h2
  obtain ⟨x3, es, rfl, h4⟩ := own_un h3
  obtain ⟨x4, es, rfl, h5⟩ := own_un h4
  obtain ⟨x5, es, rfl, h6⟩ := own_un h5
  obtain ⟨x6, es, rfl, h7⟩ := own_un h6
  obtain ⟨x7, es, rfl, h8⟩ := own_un h7
  obtain ⟨x8, es, rfl, h9⟩ := own_un h8
  obtain ⟨x9, es, rfl, h10⟩ := own_un h9
  obtain ⟨x10, es, rfl, h11⟩ := own_un h10
  obtain ⟨x11, es, rfl, h12⟩ := own_un h11
  obtain ⟨x12, es, rfl, h13⟩ := own_un h12
  obtain ⟨x13, es, rfl, h14⟩ := own_un h13
  obtain ⟨x14, es, rfl, h15⟩ := own_un h14
  obtain ⟨x15, es, rfl, h16⟩ := own_un h15
  obtain ⟨x16, es, rfl, h17⟩ := own_un h16
  obtain ⟨x17, es, rfl, h18⟩ := own_un h17
  obtain ⟨x18, es, rfl, h19⟩ := own_un h18
  obtain ⟨x19, es, rfl, h20⟩ := own_un h19
  obtain rfl := List.eq_nil_of_length_eq_zero h20
  exact ⟨x0, x1, x2, x3, x4, x5, x6, x7, x8, x9, x10, x11, x12, x13, x14, x15, x16, x17, x18, x19, rfl⟩
theorem own_L21 (es : List Int32) (h0 : es.length = 21) : ∃ x0 x1 x2 x3 x4 x5 x6 x7 x8 x9 x10 x11 x12 x13 x14 x15 x16 x17 x18 x19 x20 : Int32, es = [x0, x1, x2, x3, x4, x5, x6, x7, x8, x9, x10, x11, x12, x13, x14, x15, x16, x17, x18, x19, x20] := by
  obtain ⟨x0, es, rfl, h1⟩ := own_un h0
  obtain ⟨x1, es, rfl, h2⟩ := own_un h1
  obtain ⟨x2, es, rfl, h3⟩ := own_un h2
  obtain ⟨x3, es, rfl, h4⟩ := own_un h3
  obtain ⟨x4, es, rfl, h5⟩ := own_un h4
  obtain ⟨x5, es, rfl, h6⟩ := own_un h5
  obtain ⟨x6, es, rfl, h7⟩ := own_un h6
  obtain ⟨x7, es, rfl, h8⟩ := own_un h7
  obtain ⟨x8, es, rfl, h9⟩ := own_un h8
  obtain ⟨x9, es, rfl, h10⟩ := own_un h9
  obtain ⟨x10, es, rfl, h11⟩ := own_un h10
  obtain ⟨x11, es, rfl, h12⟩ := own_un h11
  obtain ⟨x12, es, rfl, h13⟩ := own_un h12
  obtain ⟨x13, es, rfl, h14⟩ := own_un h13
  obtain ⟨x14, es, rfl, h15⟩ := own_un h14
  obtain ⟨x15, es, rfl, h16⟩ := own_un h15
  obtain ⟨x16, es, rfl, h17⟩ := own_un h16
  obtain ⟨x17, es, rfl, h18⟩ := own_un h17
  obtain ⟨x18, es, rfl, h19⟩ := own_un h18
  obtain ⟨x19, es, rfl, h20⟩ := own_un h19
  obtain ⟨x20, es, rfl, h21⟩ := own_un h20
  obtain rfl := List.eq_nil_of_length_eq_zero h21
  exact ⟨x0, x1, x2, x3, x4, x5, x6, x7, x8, x9, x10, x11, x12, x13, x14, x15, x16, x17, x18, x19, x20, rfl⟩
theorem own_L22 (es : List Int32) (h0 : es.length = 22) : ∃ x0 x1 x2 x3 x4 x5 x6 x7 x8 x9 x10 x11 x12 x13 x14 x15 x16 x17 x18 x19 x20 x21 : Int32, es = [x0, x1, x2, x3, x4, x5, x6, x7, x8, x9, x10, x11, x12, x13, x14, x15, x16, x17, x18, x19, x20, x21] := by
  obtain ⟨x0, es, rfl, h1⟩ := own_un h0
  obtain ⟨x1, es, rfl, h2⟩ := own_un h1
  obtain ⟨x2, es, rfl, h3⟩ := own_un h2
  obtain ⟨x3, es, rfl, h4⟩ := own_un h3
  obtain ⟨x4, es, rfl, h5⟩ := own_un h4
  obtain ⟨x5, es, rfl, h6⟩ := own_un h5
  obtain ⟨x6, es, rfl, h7⟩ := own_un h6
  obtain ⟨x7, es, rfl, h8⟩ := own_un h7
  obtain ⟨x8, es, rfl, h9⟩ := own_un h8
  obtain ⟨x9, es, rfl, h10⟩ := own_un h9
  obtain ⟨x10, es, rfl, h11⟩ := own_un h10
  obtain ⟨x11, es, rfl, h12⟩ := own_un h11
  obtain ⟨x12, es, rfl, h13⟩ := own_un h12
  obtain ⟨x13, es, rfl, h14⟩ := own_un h13
  obtain ⟨x14, es, rfl, h15⟩ := own_un h14
  obtain ⟨x15, es, rfl, h16⟩ := own_un h15
  obtain ⟨x16, es, rfl, h17⟩ := own_un h16
  obtain ⟨x17, es, rfl, h18⟩ := own_un h17
  obtain ⟨x18, es, rfl, h19⟩ := own_un h18
  obtain ⟨x19, es, rfl, h20⟩ := own_un h19
  obtain ⟨x20, es, rfl, h21⟩ := own_un h20
  obtain ⟨x21, es, rfl, h22⟩ := own_un h21
  obtain rfl := List.eq_nil_of_length_eq_zero h22
  exact ⟨x0, x1, x2, x3, x4, x5, x6, x7, x8, x9, x10, x11, x12, x13, x14, x15, x16, x17, x18, x19, x20, x21, rfl⟩
theorem pn_338 : plainName "com/example/vigilant_gate/vigilantgate/IdentityArns" = true := by first | (simp [plainName, overriddenIn]; done) | decide +kernel
theorem dp6_4_0 : decode cJ22 0 = .ok (.new 7, 3) := by decide +kernel
theorem dp6_4_3 : decode cJ22 3 = .ok (.dup, 1) := by decide +kernel
theorem pd_341 : parseMethodDescriptor "()V" = some ⟨[], none⟩ := by decide +kernel
theorem dp6_4_4 : decode cJ22 4 = .ok (.invokespecial 9, 3) := by decide +kernel
theorem dp6_4_7 : decode cJ22 7 = .ok (.ldc 12, 2) := by decide +kernel
theorem pd_344 : parseMethodDescriptor "(Ljava/lang/String;)Ljava/lang/StringBuilder;" = some ⟨[(.object "java/lang/String")], some (.object "java/lang/StringBuilder")⟩ := by decide +kernel
theorem dp6_4_9 : decode cJ22 9 = .ok (.invokevirtual 14, 3) := by decide +kernel
theorem dp6_4_12 : decode cJ22 12 = .ok (.aload_n 0, 1) := by decide +kernel
theorem dp6_4_13 : decode cJ22 13 = .ok (.invokevirtual 14, 3) := by decide +kernel
theorem dp6_4_16 : decode cJ22 16 = .ok (.ldc 26, 2) := by decide +kernel
theorem dp6_4_18 : decode cJ22 18 = .ok (.invokevirtual 14, 3) := by decide +kernel
theorem dp6_4_21 : decode cJ22 21 = .ok (.aload_n 1, 1) := by decide +kernel
theorem dp6_4_22 : decode cJ22 22 = .ok (.invokevirtual 14, 3) := by decide +kernel
theorem pd_352 : parseMethodDescriptor "()Ljava/lang/String;" = some ⟨[], some (.object "java/lang/String")⟩ := by decide +kernel
theorem dp6_4_25 : decode cJ22 25 = .ok (.invokevirtual 20, 3) := by decide +kernel
theorem dp6_4_28 : decode cJ22 28 = .ok (.areturn, 1) := by decide +kernel
def Q_role (Z : State) (a1 : Nat) (a2 : Nat) (ta : Nat) (La : List Int32) (tb : Nat) (Lb : List Int32) (zc : Int32) (h0 : Heap) (v : Option Value) (h : Heap) (L : List Loc) : Prop := ∃ (x : Nat), ∃ (t2 : Nat), v = some (.ref x) ∧ Fr Z.heap.size L ∧ Keep h0 h [] ∧ own_Str Z h x t2 (own_role La Lb) ∧ (h0.size ≤ t2)
set_option maxRecDepth 65536 in
set_option maxHeartbeats 40000000 in
theorem rm_role (l : Launch) (Z : State) (a0 : Array Value) (hw : ∀ d ∈ tables_1, d.before a0 Z = true) (ws : List Jvm.Cond) (a1 : Nat) (a2 : Nat) (ta : Nat) (La : List Int32) (tb : Nat) (Lb : List Int32) (zc : Int32) (h0 : Heap) (hEL : EW Z a0 consts_1) (OL : Old Z Z.heap.size h0) (p0_ : own_Str Z h0 a1 ta La) (p1_ : own_Str Z h0 a2 tb Lb) (st_C : Sta Z Z.heap "java/lang/String" "COMPACT_STRINGS" "Z" (.int zc)) (hzc : ¬ zc = 0) (hm1 : La.length ≤ 2) (hm2 : Lb.length ≤ 2) (hl1 : ∀ c ∈ La, ¬ c < 0 ∧ ¬ (255 : Int32) < c) (hl2 : ∀ c ∈ Lb, ¬ c < 0 ∧ ¬ (255 : Int32) < c) :
    MetFree l mN1 (head1 (Jvm.Cond.code mN1 prog_6_method_4_code 2 (some (.object "java/lang/String")) :: ws) rM21) (fun a U => a = #[(.ref a1), (.ref a2)] ∧ Z.Warmed39 U.vm ∧ U.heap = h0 ∧ CHv Z consts_1 U.vm h0) (fun _ _ _ _ _ => True) (fun _ U o U' => ∃ v L, o = .returned v ∧ Q_role Z a1 a2 ta La tb Lb zc h0 v U'.heap L ∧ CHr Z consts_1 U.vm U.heap U'.vm U'.heap ∧ ReturnedEndW U o U' L rM21.cells rM21.slots) := by
  refine MetFree.of_bodySF (plainFor_of_name pn_338) hisR ?_
  intro p e s m args below meth c s₁ Bd hml0 hP hK
  obtain ⟨rfl, hZ, hh, hC0⟩ := hP
  have hx := Bd.exec
  have hby := Bd.bytes
  have hml : c.maxLocals = 2 := hml0
  have hown : s.vm.findClass "com/example/vigilant_gate/vigilantgate/IdentityArns" = some m.cls := findClass_of_methodNamed Bd.named
  have hnm := (name_of_methodNamed Bd.named Bd.method).1
  have X0 : Stand p l e rM21 (s.setVm s.vm) m #[(.ref a1), (.ref a2)] below meth c s₁ [] 0 0 := Stand.of_body Bd
  have e0 : s₁.heap = h0 := by rw [← hh, Bd.state]; rfl
  have N0 := Fr.nil Z.heap.size
  have Z0 : Z.heap.size ≤ h0.size := OL.2.1
  have hS0 : s.Since s.vm h0.size := (State.WarmedH.refl s).since _
  have wS := own_wS hw
  have R0 : CHr Z consts_1 s.vm h0 s.vm h0 := CHr.refl hC0
  have lt_0 : @LT.lt Nat _ a1 h0.size := p0_.lt
  have ltv_0 : @LT.lt Nat _ ta h0.size := p0_.ltv
  have lt_1 : @LT.lt Nat _ a2 h0.size := p1_.lt
  have ltv_1 : @LT.lt Nat _ tb h0.size := p1_.ltv
  show oG p.tables e below (fun o tE => ∃ v L, o = .returned v ∧ Q_role Z a1 a2 ta La tb Lb zc h0 v tE.heap L ∧ CHr Z consts_1 s.vm s.heap tE.vm tE.heap ∧ ReturnedEndW s o tE L rM21.cells rM21.slots) (s₁.setTop (entryFrame m #[(.ref a1), (.ref a2)] 2))
  refine own_hd (fun PP hPP => ?_)
  refine oG.st (fun t k => castTop (ef_15 m a1 a2) k) ?_
  show oG _ _ _ _ (s₁.setTop (mkF m 0 #[.val (.ref a1), .val (.ref a2)] []))
  obtain ⟨T361, h361, X361, e361, E361, A361, D361, U361, st361⟩ := newO X0 hx hZ hown (own_w hw 44 rfl) (own_w hw 45 rfl) (own_w hw 46 rfl) e0 (g := (mkF m 0 #[.val (.ref a1), .val (.ref a2)] [])) rfl (hb hby dp6_4_0) (by decide) (by decide)
  obtain ⟨b361, g361⟩ : ∃ z, z = h0.size := ⟨_, rfl⟩
  rw [← g361] at A361 D361 U361 st361
  refine oG.st st361 ?_
  have z361 : h0.size ≤ h361.size := E361.1
  have lt_b361 : @LT.lt Nat _ b361 h361.size := A361.lt
  have f362 : Fld Z h361 b361 "java/lang/AbstractStringBuilder" "value" "[B" .null := D361 (Or.inl (own_w hw 59 rfl)) (ty := (.array .byte)) (by decide)
  have f363 : Fld Z h361 b361 "java/lang/AbstractStringBuilder" "coder" "B" (.int (0 : Int32)) := D361 (Or.inl (own_w hw 61 rfl)) (ty := .byte) (by decide)
  have f364 : Fld Z h361 b361 "java/lang/AbstractStringBuilder" "count" "I" (.int (0 : Int32)) := D361 (Or.inl (own_w hw 87 rfl)) (ty := .int) (by decide)
  have R361 : CHr Z consts_1 s.vm h0 s.vm h361 := R0.trans (CHr.ext E361 R0.1)
  refine oG.st (fun _ k => XS.dup X361.here hx rfl (hb hby dp6_4_3) rfl rfl k) ?_
  show oG _ _ _ _ (T361.setTop (mkF m 4 #[.val (.ref a1), .val (.ref a2)] [(.ref b361), (.ref b361)]))
  have f366 : Old Z Z.heap.size h361 := OL.ext E361
  obtain ⟨_, _, ⟨T365, L365, k365, n365⟩, -, X365, ⟨Lc365, hQ365, l365, y365, z365⟩, st365⟩ := X361.specialBack hx (y := mN25) rfl hown (own_v hZ hw 47 rfl) (own_v hZ hw 48 rfl) (own_v hZ hw 49 rfl) (by decide) (backOf (W := 1) (rm_sbinit l Z a0 hw [] b361 zc h361 f366 A361 f362 f363 f364 st_C hzc (by omega)) hZ (own_w hw 49 rfl) (own_w hw 46 rfl) (by decide) (by decide)) (g := (mkF m 4 #[.val (.ref a1), .val (.ref a2)] [(.ref b361), (.ref b361)])) rfl (by rw [hml]; rfl) (Steps.refl _) (a := b361) (argsL := []) (rest := [(.ref b361)]) (lenOf pd_341 rfl) rfl (by show 2 * 0 + _ ≤ _; exact Nat.le_of_eq rfl) (hb hby dp6_4_4) (fun _ _ => ⟨rfl, e361, (by decide : 1 + 1 ≤ _), (by decide : 4 + 16 ≤ _)⟩)
  dsimp only [Pt.U, Pt.locs, Pt.cells, Pt.slots] at X365 l365 y365 z365 st365 hQ365
  subst y365 z365
  obtain ⟨a3_365, k_365, rfl, N365q, K365, f365_0, f365_1, f365_2, f365_3, f365_4, pr365_0, pr365_1⟩ := hQ365
  have N365 := own_FrE l365 (Fr.app N0 N365q)
  have Sf367 : Safe Z consts_1 s.vm h361 b361 := Safe.exa hZ.alike A361 (by decide) (by decide)
  have z365 : h361.size ≤ T365.heap.size := K365.1
  have R365 : CHr Z consts_1 s.vm h0 s.vm T365.heap := R361.trans (CHr.keep K365 (sfS Sf367 sf0) R361.1)
  have lt365_0 : @LT.lt Nat _ b361 T365.heap.size := f365_0.lt
  have lt365_1 : @LT.lt Nat _ b361 T365.heap.size := f365_1.lt
  have lt365_2 : @LT.lt Nat _ b361 T365.heap.size := f365_2.lt
  have lt365_3 : @LT.lt Nat _ b361 T365.heap.size := f365_3.lt
  have lt365_4 : @LT.lt Nat _ a3_365 T365.heap.size := f365_4.lt
  have Sf368 : Safe Z consts_1 s.vm T365.heap a3_365 := Safe.keep K365 (sfS Sf367 sf0) R361.1 (Safe.new pr365_0)
  refine oG.tr st365 ?_
  show oG _ _ _ _ (T365.setTop (mkF m 7 #[.val (.ref a1), .val (.ref a2)] [(.ref b361)]))
  obtain ⟨a369, T369, h369, kk369, t369, kb369, X369, e369, E369, hS369, hk369, hZ369, hown369, A369, C369, V369, B369, la369, lb369, ch369, Li369, sf369, st369⟩ := ldcCH X365 hx hZ hown (own_w hw 65 rfl) wS rfl hS0 (by omega) hEL (by decide) R365.1 (vs := [(.int (97 : Int32)), (.int (99 : Int32)), (.int (115 : Int32)), (.int (58 : Int32)), (.int (114 : Int32)), (.int (97 : Int32)), (.int (109 : Int32)), (.int (58 : Int32)), (.int (58 : Int32))]) (z := (9 : Int32)) (by decide) (by decide) (by decide) (g := (mkF m 7 #[.val (.ref a1), .val (.ref a2)] [(.ref b361)])) rfl (hb hby dp6_4_7) (n := 36) (by decide) (by decide) (by decide) (by decide)
  refine oG.st st369 ?_
  have z369 : T365.heap.size ≤ h369.size := E369.1
  have la369' : @LT.lt Nat _ a369 h369.size := la369
  have lb369' : @LT.lt Nat _ t369 h369.size := lb369
  have R369 : CHr Z consts_1 s.vm h0 T369.vm h369 := R365.trans ch369
  have Sf370 : Safe Z consts_1 T369.vm h369 a3_365 := ch369.safe (by show @LT.lt Nat _ a3_365 _; omega) Sf368
  have fT369 : own_Str Z h369 a369 t369 ([(97 : Int32), (99 : Int32), (115 : Int32), (58 : Int32), (114 : Int32), (97 : Int32), (109 : Int32), (58 : Int32), (58 : Int32)] : List Int32) := ⟨kb369, 0, (9 : Int32), [(.int (97 : Int32)), (.int (99 : Int32)), (.int (115 : Int32)), (.int (58 : Int32)), (.int (114 : Int32)), (.int (97 : Int32)), (.int (109 : Int32)), (.int (58 : Int32)), (.int (58 : Int32))], A369, V369, C369, B369, Or.inl ⟨rfl, rfl, rfl, (by decide)⟩, (by decide), (by decide)⟩
  have nl371 := sf369 a3_365 Sf370
  have nl371a : @Ne Nat a3_365 a369 := nl371.1
  have nl371b : @Ne Nat a3_365 t369 := nl371.2
  show oG _ _ _ _ (T369.setTop (mkF m 9 #[.val (.ref a1), .val (.ref a2)] [(.ref a369), (.ref b361)]))
  have f373 : Exa Z h369 b361 "java/lang/StringBuilder" := f365_0.ext E369
  have f374 : Fld Z h369 b361 "java/lang/AbstractStringBuilder" "value" "[B" (.ref a3_365) := f365_1.ext E369
  have f375 : Fld Z h369 b361 "java/lang/AbstractStringBuilder" "coder" "B" (.int (0 : Int32)) := f365_2.ext E369
  have f376 : Fld Z h369 b361 "java/lang/AbstractStringBuilder" "count" "I" (.int (0 : Int32)) := f365_3.ext E369
  have f377 : Arv Z h369 a3_365 k_365 .byte (Int32.ofNat 16) (own_low ([] : List Int32)) (.int (0 : Int32)) := f365_4.ext E369
  have gz378 : Z.heap.size ≤ b361 := by omega
  have f379 : Old Z Z.heap.size T365.heap := f366.keep K365 (allS gz378 all0)
  have f380 : Old Z Z.heap.size h369 := f379.ext E369
  obtain ⟨cq372, kq372, q372a, q372b, q372c⟩ := isOf hZ369 e369 f373
  obtain ⟨_, _, ⟨T372, L372, k372, n372⟩, -, X372, ⟨Lc372, hQ372, l372, y372, z372⟩, st372⟩ := X369.virtualBack hx (y := mN26) (z := mN26) hown369 (own_v hZ369 hw 66 rfl) (own_v hZ369 hw 67 rfl) (notFace_of_selects (args := #[]) (own_v hZ369 hw 69 rfl)) (own_v hZ369 hw 69 rfl) (own_v hZ369 hw 68 rfl) (by decide) (backOf (W := 0) (rm_sbappend l Z a0 hw [] b361 a369 t369 ([] : List Int32) ([(97 : Int32), (99 : Int32), (115 : Int32), (58 : Int32), (114 : Int32), (97 : Int32), (109 : Int32), (58 : Int32), (58 : Int32)] : List Int32) 16 k_365 zc a3_365 h369 f380 f373 f374 f375 f376 fT369 f377 st_C hzc (by (try simp only [List.length_append, List.length_cons, List.length_nil]); omega) (Nat.zero_le _) (Or.inl rfl) pr365_1 (Ne.symm nl371b) (by omega) (by omega) (by decide)) hZ369 (own_w hw 70 rfl) (own_w hw 46 rfl) (by decide) (by decide)) q372a q372c (g := (mkF m 9 #[.val (.ref a1), .val (.ref a2)] [(.ref a369), (.ref b361)])) rfl (by rw [hml]; rfl) (Steps.refl _) (argsL := [(.ref a369)]) (rest := []) (lenOf pd_344 rfl) rfl (by show 2 * 0 + _ ≤ _; exact Nat.le_of_eq rfl) (hb hby dp6_4_9) (fun _ _ => ⟨rfl, e369, (by decide : 4 + 1 ≤ _), (by decide : 60 + 34 ≤ _)⟩)
  dsimp only [Pt.U, Pt.locs, Pt.cells, Pt.slots] at X372 l372 y372 z372 st372 hQ372
  subst y372 z372
  obtain ⟨a5_372, cap2_372, k2_372, rfl, N372q, K372, f372_0, f372_1, f372_2, f372_3, f372_4, pr372_0, pr372_1, pr372_2, pr372_3⟩ := hQ372
  have N372 := own_FrE l372 (Fr.app N365 N372q)
  have Sf381 : Safe Z consts_1 T369.vm h369 b361 := Safe.exa hZ369.alike f373 (by decide) (by decide)
  have z372 : h369.size ≤ T372.heap.size := K372.1
  have R372 : CHr Z consts_1 s.vm h0 T369.vm T372.heap := R369.trans (CHr.keep K372 (sfS Sf381 (sfS Sf370 sf0)) R369.1)
  have Sf382 : Safe Z consts_1 T369.vm T372.heap a3_365 := Safe.keep K372 (sfS Sf381 (sfS Sf370 sf0)) R369.1 Sf370
  have lt372_0 : @LT.lt Nat _ b361 T372.heap.size := f372_0.lt
  have lt372_1 : @LT.lt Nat _ b361 T372.heap.size := f372_1.lt
  have lt372_2 : @LT.lt Nat _ b361 T372.heap.size := f372_2.lt
  have lt372_3 : @LT.lt Nat _ b361 T372.heap.size := f372_3.lt
  have lt372_4 : @LT.lt Nat _ a5_372 T372.heap.size := f372_4.lt
  have Sf383 : Safe Z consts_1 T369.vm T372.heap a5_372 := Or.elim pr372_3 (fun q => by rw [q]; exact Sf382) (fun q => Safe.keep K372 (sfS Sf381 (sfS Sf370 sf0)) R369.1 (Safe.new q))
  have h5_372 : h0.size ≤ a5_372 := own_New.le pr372_3 (by omega) (by omega)
  have c5_372 := pr372_1.le
  refine oG.tr st372 ?_
  refine oG.st (fun _ k => XS.aloadN X372.here hx rfl (hb hby dp6_4_12) rfl rfl k) ?_
  show oG _ _ _ _ (T372.setTop (mkF m 13 #[.val (.ref a1), .val (.ref a2)] [(.ref a1), (.ref b361)]))
  have f385 : own_Str Z h361 a1 ta La := p0_.ext E361
  have ne386 : @Ne Nat a1 b361 := Exa.ne f385.exa A361 (by decide)
  have ne387 : @Ne Nat b361 ta := own_Str.neV f385 A361 (own_w hw 45 rfl)
  have f388 : own_Str Z T365.heap a1 ta La := f385.keep K365 (ninS ne386 nin0) (ninS (Ne.symm ne387) nin0)
  have f389 : own_Str Z h369 a1 ta La := f388.ext E369
  have ne390 : @Ne Nat a1 a3_365 := Exa.neArv f389.exa f377 (own_w hw 9 rfl)
  have no391 : @Ne Nat ta a3_365 := by omega
  have f392 : own_Str Z T372.heap a1 ta La := f389.keep K372 (ninS ne386 (ninS ne390 nin0)) (ninS (Ne.symm ne387) (ninS no391 nin0))
  have no393 : @Ne Nat ta a5_372 := by omega
  have gz394 : Z.heap.size ≤ a3_365 := by omega
  have f395 : Old Z Z.heap.size T372.heap := f380.keep K372 (allS gz378 (allS gz394 all0))
  obtain ⟨cq384, kq384, q384a, q384b, q384c⟩ := isOf hZ369 rfl f372_0
  obtain ⟨_, _, ⟨T384, L384, k384, n384⟩, -, X384, ⟨Lc384, hQ384, l384, y384, z384⟩, st384⟩ := X372.virtualBack hx (y := mN26) (z := mN26) hown369 (own_v hZ369 hw 66 rfl) (own_v hZ369 hw 67 rfl) (notFace_of_selects (args := #[]) (own_v hZ369 hw 69 rfl)) (own_v hZ369 hw 69 rfl) (own_v hZ369 hw 68 rfl) (by decide) (backOf (W := 0) (rm_sbappend l Z a0 hw [] b361 a1 ta (([] : List Int32) ++ ([(97 : Int32), (99 : Int32), (115 : Int32), (58 : Int32), (114 : Int32), (97 : Int32), (109 : Int32), (58 : Int32), (58 : Int32)] : List Int32)) La cap2_372 k2_372 zc a5_372 T372.heap f395 f372_0 f372_1 f372_2 f372_3 f392 f372_4 st_C hzc (by (try simp only [List.length_append, List.length_cons, List.length_nil]); omega) pr372_0 pr372_1 pr372_2 no393 (by omega) (by omega) hl1) hZ369 (own_w hw 70 rfl) (own_w hw 46 rfl) (by decide) (by decide)) q384a q384c (g := (mkF m 13 #[.val (.ref a1), .val (.ref a2)] [(.ref a1), (.ref b361)])) rfl (by rw [hml]; rfl) (Steps.refl _) (argsL := [(.ref a1)]) (rest := []) (lenOf pd_344 rfl) rfl (by show 2 * 0 + _ ≤ _; exact Nat.le_of_eq rfl) (hb hby dp6_4_13) (fun _ _ => ⟨rfl, rfl, (by decide : 5 + 1 ≤ _), (by decide : 94 + 34 ≤ _)⟩)
  dsimp only [Pt.U, Pt.locs, Pt.cells, Pt.slots] at X384 l384 y384 z384 st384 hQ384
  subst y384 z384
  obtain ⟨a5_384, cap2_384, k2_384, rfl, N384q, K384, f384_0, f384_1, f384_2, f384_3, f384_4, pr384_0, pr384_1, pr384_2, pr384_3⟩ := hQ384
  have N384 := own_FrE l384 (Fr.app N372 N384q)
  have Sf396 : Safe Z consts_1 T369.vm T372.heap b361 := Safe.exa hZ369.alike f372_0 (by decide) (by decide)
  have z384 : T372.heap.size ≤ T384.heap.size := K384.1
  have R384 : CHr Z consts_1 s.vm h0 T369.vm T384.heap := R372.trans (CHr.keep K384 (sfS Sf396 (sfS Sf383 sf0)) R372.1)
  have Sf397 : Safe Z consts_1 T369.vm T384.heap a5_372 := Safe.keep K384 (sfS Sf396 (sfS Sf383 sf0)) R372.1 Sf383
  have lt384_0 : @LT.lt Nat _ b361 T384.heap.size := f384_0.lt
  have lt384_1 : @LT.lt Nat _ b361 T384.heap.size := f384_1.lt
  have lt384_2 : @LT.lt Nat _ b361 T384.heap.size := f384_2.lt
  have lt384_3 : @LT.lt Nat _ b361 T384.heap.size := f384_3.lt
  have lt384_4 : @LT.lt Nat _ a5_384 T384.heap.size := f384_4.lt
  have Sf398 : Safe Z consts_1 T369.vm T384.heap a5_384 := Or.elim pr384_3 (fun q => by rw [q]; exact Sf397) (fun q => Safe.keep K384 (sfS Sf396 (sfS Sf383 sf0)) R372.1 (Safe.new q))
  have h5_384 : h0.size ≤ a5_384 := own_New.le pr384_3 (by omega) (by omega)
  have c5_384 := pr384_1.le
  refine oG.tr st384 ?_
  show oG _ _ _ _ (T384.setTop (mkF m 16 #[.val (.ref a1), .val (.ref a2)] [(.ref b361)]))
  obtain ⟨a399, T399, h399, kk399, t399, kb399, X399, e399, E399, hS399, hk399, hZ399, hown399, A399, C399, V399, B399, la399, lb399, ch399, Li399, sf399, st399⟩ := ldcCH X384 hx hZ369 hown369 (own_w hw 113 rfl) wS rfl hS369 (by omega) hEL (by decide) R384.1 (vs := [(.int (58 : Int32)), (.int (114 : Int32)), (.int (111 : Int32)), (.int (108 : Int32)), (.int (101 : Int32)), (.int (47 : Int32))]) (z := (6 : Int32)) (by decide) (by decide) (by decide) (g := (mkF m 16 #[.val (.ref a1), .val (.ref a2)] [(.ref b361)])) rfl (hb hby dp6_4_16) (n := 24) (by decide) (by decide) (by decide) (by decide)
  refine oG.st st399 ?_
  have z399 : T384.heap.size ≤ h399.size := E399.1
  have la399' : @LT.lt Nat _ a399 h399.size := la399
  have lb399' : @LT.lt Nat _ t399 h399.size := lb399
  have R399 : CHr Z consts_1 s.vm h0 T399.vm h399 := R384.trans ch399
  have Sf400 : Safe Z consts_1 T399.vm h399 a5_384 := ch399.safe (by show @LT.lt Nat _ a5_384 _; omega) Sf398
  have fT399 : own_Str Z h399 a399 t399 ([(58 : Int32), (114 : Int32), (111 : Int32), (108 : Int32), (101 : Int32), (47 : Int32)] : List Int32) := ⟨kb399, 0, (6 : Int32), [(.int (58 : Int32)), (.int (114 : Int32)), (.int (111 : Int32)), (.int (108 : Int32)), (.int (101 : Int32)), (.int (47 : Int32))], A399, V399, C399, B399, Or.inl ⟨rfl, rfl, rfl, (by decide)⟩, (by decide), (by decide)⟩
  have nl401 := sf399 a5_384 Sf400
  have nl401a : @Ne Nat a5_384 a399 := nl401.1
  have nl401b : @Ne Nat a5_384 t399 := nl401.2
  show oG _ _ _ _ (T399.setTop (mkF m 18 #[.val (.ref a1), .val (.ref a2)] [(.ref a399), (.ref b361)]))
  have f403 : Exa Z h399 b361 "java/lang/StringBuilder" := f384_0.ext E399
  have f404 : Fld Z h399 b361 "java/lang/AbstractStringBuilder" "value" "[B" (.ref a5_384) := f384_1.ext E399
  have f405 : Fld Z h399 b361 "java/lang/AbstractStringBuilder" "coder" "B" (.int (0 : Int32)) := f384_2.ext E399
  have f406 : Fld Z h399 b361 "java/lang/AbstractStringBuilder" "count" "I" (.int (Int32.ofNat ((([] : List Int32) ++ ([(97 : Int32), (99 : Int32), (115 : Int32), (58 : Int32), (114 : Int32), (97 : Int32), (109 : Int32), (58 : Int32), (58 : Int32)] : List Int32)) ++ La).length)) := f384_3.ext E399
  have f407 : Arv Z h399 a5_384 k2_384 .byte (Int32.ofNat cap2_384) (own_low ((([] : List Int32) ++ ([(97 : Int32), (99 : Int32), (115 : Int32), (58 : Int32), (114 : Int32), (97 : Int32), (109 : Int32), (58 : Int32), (58 : Int32)] : List Int32)) ++ La)) (.int (0 : Int32)) := f384_4.ext E399
  have gz408 : Z.heap.size ≤ a5_372 := by omega
  have f409 : Old Z Z.heap.size T384.heap := f395.keep K384 (allS gz378 (allS gz408 all0))
  have f410 : Old Z Z.heap.size h399 := f409.ext E399
  obtain ⟨cq402, kq402, q402a, q402b, q402c⟩ := isOf hZ399 e399 f403
  obtain ⟨_, _, ⟨T402, L402, k402, n402⟩, -, X402, ⟨Lc402, hQ402, l402, y402, z402⟩, st402⟩ := X399.virtualBack hx (y := mN26) (z := mN26) hown399 (own_v hZ399 hw 66 rfl) (own_v hZ399 hw 67 rfl) (notFace_of_selects (args := #[]) (own_v hZ399 hw 69 rfl)) (own_v hZ399 hw 69 rfl) (own_v hZ399 hw 68 rfl) (by decide) (backOf (W := 0) (rm_sbappend l Z a0 hw [] b361 a399 t399 ((([] : List Int32) ++ ([(97 : Int32), (99 : Int32), (115 : Int32), (58 : Int32), (114 : Int32), (97 : Int32), (109 : Int32), (58 : Int32), (58 : Int32)] : List Int32)) ++ La) ([(58 : Int32), (114 : Int32), (111 : Int32), (108 : Int32), (101 : Int32), (47 : Int32)] : List Int32) cap2_384 k2_384 zc a5_384 h399 f410 f403 f404 f405 f406 fT399 f407 st_C hzc (by (try simp only [List.length_append, List.length_cons, List.length_nil]); omega) pr384_0 pr384_1 pr384_2 (Ne.symm nl401b) (by omega) (by omega) (by decide)) hZ399 (own_w hw 70 rfl) (own_w hw 46 rfl) (by decide) (by decide)) q402a q402c (g := (mkF m 18 #[.val (.ref a1), .val (.ref a2)] [(.ref a399), (.ref b361)])) rfl (by rw [hml]; rfl) (Steps.refl _) (argsL := [(.ref a399)]) (rest := []) (lenOf pd_344 rfl) rfl (by show 2 * 0 + _ ≤ _; exact Nat.le_of_eq rfl) (hb hby dp6_4_18) (fun _ _ => ⟨rfl, e399, (by decide : 8 + 1 ≤ _), (by decide : 156 + 34 ≤ _)⟩)
  dsimp only [Pt.U, Pt.locs, Pt.cells, Pt.slots] at X402 l402 y402 z402 st402 hQ402
  subst y402 z402
  obtain ⟨a5_402, cap2_402, k2_402, rfl, N402q, K402, f402_0, f402_1, f402_2, f402_3, f402_4, pr402_0, pr402_1, pr402_2, pr402_3⟩ := hQ402
  have N402 := own_FrE l402 (Fr.app N384 N402q)
  have Sf411 : Safe Z consts_1 T399.vm h399 b361 := Safe.exa hZ399.alike f403 (by decide) (by decide)
  have z402 : h399.size ≤ T402.heap.size := K402.1
  have R402 : CHr Z consts_1 s.vm h0 T399.vm T402.heap := R399.trans (CHr.keep K402 (sfS Sf411 (sfS Sf400 sf0)) R399.1)
  have Sf412 : Safe Z consts_1 T399.vm T402.heap a5_384 := Safe.keep K402 (sfS Sf411 (sfS Sf400 sf0)) R399.1 Sf400
  have lt402_0 : @LT.lt Nat _ b361 T402.heap.size := f402_0.lt
  have lt402_1 : @LT.lt Nat _ b361 T402.heap.size := f402_1.lt
  have lt402_2 : @LT.lt Nat _ b361 T402.heap.size := f402_2.lt
  have lt402_3 : @LT.lt Nat _ b361 T402.heap.size := f402_3.lt
  have lt402_4 : @LT.lt Nat _ a5_402 T402.heap.size := f402_4.lt
  have Sf413 : Safe Z consts_1 T399.vm T402.heap a5_402 := Or.elim pr402_3 (fun q => by rw [q]; exact Sf412) (fun q => Safe.keep K402 (sfS Sf411 (sfS Sf400 sf0)) R399.1 (Safe.new q))
  have h5_402 : h0.size ≤ a5_402 := own_New.le pr402_3 (by omega) (by omega)
  have c5_402 := pr402_1.le
  refine oG.tr st402 ?_
  refine oG.st (fun _ k => XS.aloadN X402.here hx rfl (hb hby dp6_4_21) rfl rfl k) ?_
  show oG _ _ _ _ (T402.setTop (mkF m 22 #[.val (.ref a1), .val (.ref a2)] [(.ref a2), (.ref b361)]))
  have f415 : own_Str Z h361 a2 tb Lb := p1_.ext E361
  have ne416 : @Ne Nat a2 b361 := Exa.ne f415.exa A361 (by decide)
  have ne417 : @Ne Nat b361 tb := own_Str.neV f415 A361 (own_w hw 45 rfl)
  have f418 : own_Str Z T365.heap a2 tb Lb := f415.keep K365 (ninS ne416 nin0) (ninS (Ne.symm ne417) nin0)
  have f419 : own_Str Z h369 a2 tb Lb := f418.ext E369
  have ne420 : @Ne Nat a2 a3_365 := Exa.neArv f419.exa f377 (own_w hw 9 rfl)
  have no421 : @Ne Nat tb a3_365 := by omega
  have f422 : own_Str Z T372.heap a2 tb Lb := f419.keep K372 (ninS ne416 (ninS ne420 nin0)) (ninS (Ne.symm ne417) (ninS no421 nin0))
  have ne423 : @Ne Nat a2 a5_372 := Exa.neArv f422.exa f372_4 (own_w hw 9 rfl)
  have no424 : @Ne Nat tb a5_372 := by omega
  have f425 : own_Str Z T384.heap a2 tb Lb := f422.keep K384 (ninS ne416 (ninS ne423 nin0)) (ninS (Ne.symm ne417) (ninS no424 nin0))
  have f426 : own_Str Z h399 a2 tb Lb := f425.ext E399
  have ne427 : @Ne Nat a2 a5_384 := Exa.neArv f426.exa f407 (own_w hw 9 rfl)
  have no428 : @Ne Nat tb a5_384 := by omega
  have f429 : own_Str Z T402.heap a2 tb Lb := f426.keep K402 (ninS ne416 (ninS ne427 nin0)) (ninS (Ne.symm ne417) (ninS no428 nin0))
  have no430 : @Ne Nat tb a5_402 := by omega
  have gz431 : Z.heap.size ≤ a5_384 := by omega
  have f432 : Old Z Z.heap.size T402.heap := f410.keep K402 (allS gz378 (allS gz431 all0))
  obtain ⟨cq414, kq414, q414a, q414b, q414c⟩ := isOf hZ399 rfl f402_0
  obtain ⟨_, _, ⟨T414, L414, k414, n414⟩, -, X414, ⟨Lc414, hQ414, l414, y414, z414⟩, st414⟩ := X402.virtualBack hx (y := mN26) (z := mN26) hown399 (own_v hZ399 hw 66 rfl) (own_v hZ399 hw 67 rfl) (notFace_of_selects (args := #[]) (own_v hZ399 hw 69 rfl)) (own_v hZ399 hw 69 rfl) (own_v hZ399 hw 68 rfl) (by decide) (backOf (W := 0) (rm_sbappend l Z a0 hw [] b361 a2 tb (((([] : List Int32) ++ ([(97 : Int32), (99 : Int32), (115 : Int32), (58 : Int32), (114 : Int32), (97 : Int32), (109 : Int32), (58 : Int32), (58 : Int32)] : List Int32)) ++ La) ++ ([(58 : Int32), (114 : Int32), (111 : Int32), (108 : Int32), (101 : Int32), (47 : Int32)] : List Int32)) Lb cap2_402 k2_402 zc a5_402 T402.heap f432 f402_0 f402_1 f402_2 f402_3 f429 f402_4 st_C hzc (by (try simp only [List.length_append, List.length_cons, List.length_nil]); omega) pr402_0 pr402_1 pr402_2 no430 (by omega) (by omega) hl2) hZ399 (own_w hw 70 rfl) (own_w hw 46 rfl) (by decide) (by decide)) q414a q414c (g := (mkF m 22 #[.val (.ref a1), .val (.ref a2)] [(.ref a2), (.ref b361)])) rfl (by rw [hml]; rfl) (Steps.refl _) (argsL := [(.ref a2)]) (rest := []) (lenOf pd_344 rfl) rfl (by show 2 * 0 + _ ≤ _; exact Nat.le_of_eq rfl) (hb hby dp6_4_22) (fun _ _ => ⟨rfl, rfl, (by decide : 9 + 1 ≤ _), (by decide : 190 + 34 ≤ _)⟩)
  dsimp only [Pt.U, Pt.locs, Pt.cells, Pt.slots] at X414 l414 y414 z414 st414 hQ414
  subst y414 z414
  obtain ⟨a5_414, cap2_414, k2_414, rfl, N414q, K414, f414_0, f414_1, f414_2, f414_3, f414_4, pr414_0, pr414_1, pr414_2, pr414_3⟩ := hQ414
  have N414 := own_FrE l414 (Fr.app N402 N414q)
  have Sf433 : Safe Z consts_1 T399.vm T402.heap b361 := Safe.exa hZ399.alike f402_0 (by decide) (by decide)
  have z414 : T402.heap.size ≤ T414.heap.size := K414.1
  have R414 : CHr Z consts_1 s.vm h0 T399.vm T414.heap := R402.trans (CHr.keep K414 (sfS Sf433 (sfS Sf413 sf0)) R402.1)
  have Sf434 : Safe Z consts_1 T399.vm T414.heap a5_402 := Safe.keep K414 (sfS Sf433 (sfS Sf413 sf0)) R402.1 Sf413
  have lt414_0 : @LT.lt Nat _ b361 T414.heap.size := f414_0.lt
  have lt414_1 : @LT.lt Nat _ b361 T414.heap.size := f414_1.lt
  have lt414_2 : @LT.lt Nat _ b361 T414.heap.size := f414_2.lt
  have lt414_3 : @LT.lt Nat _ b361 T414.heap.size := f414_3.lt
  have lt414_4 : @LT.lt Nat _ a5_414 T414.heap.size := f414_4.lt
  have Sf435 : Safe Z consts_1 T399.vm T414.heap a5_414 := Or.elim pr414_3 (fun q => by rw [q]; exact Sf434) (fun q => Safe.keep K414 (sfS Sf433 (sfS Sf413 sf0)) R402.1 (Safe.new q))
  have h5_414 : h0.size ≤ a5_414 := own_New.le pr414_3 (by omega) (by omega)
  have c5_414 := pr414_1.le
  refine oG.tr st414 ?_
  show oG _ _ _ _ (T414.setTop (mkF m 25 #[.val (.ref a1), .val (.ref a2)] [(.ref b361)]))
  have gz437 : Z.heap.size ≤ a5_402 := by omega
  have f438 : Old Z Z.heap.size T414.heap := f432.keep K414 (allS gz378 (allS gz437 all0))
  obtain ⟨cq436, kq436, q436a, q436b, q436c⟩ := isOf hZ399 rfl f414_0
  obtain ⟨_, _, ⟨T436, L436, k436, n436⟩, -, X436, ⟨Lc436, hQ436, l436, y436, z436⟩, st436⟩ := X414.virtualBack hx (y := mN28) (z := mN28) hown399 (own_v hZ399 hw 114 rfl) (own_v hZ399 hw 115 rfl) (notFace_of_selects (args := #[]) (own_v hZ399 hw 117 rfl)) (own_v hZ399 hw 117 rfl) (own_v hZ399 hw 116 rfl) (by decide) (backOf (W := 0) (rm_tostr l Z a0 hw [] b361 ((((([] : List Int32) ++ ([(97 : Int32), (99 : Int32), (115 : Int32), (58 : Int32), (114 : Int32), (97 : Int32), (109 : Int32), (58 : Int32), (58 : Int32)] : List Int32)) ++ La) ++ ([(58 : Int32), (114 : Int32), (111 : Int32), (108 : Int32), (101 : Int32), (47 : Int32)] : List Int32)) ++ Lb) cap2_414 a5_414 k2_414 zc T414.heap f438 f414_0 f414_1 f414_2 f414_3 f414_4 st_C hzc pr414_0 pr414_2 (Nat.le_trans (own_Cap.le pr414_1) (by decide)) (by (try simp only [List.length_append, List.length_cons, List.length_nil]); omega) (own_latA (own_latA (own_latA (own_latA own_lat0 (by decide)) hl1) (by decide)) hl2)) hZ399 (own_w hw 118 rfl) (own_w hw 46 rfl) (by decide) (by decide)) q436a q436c (g := (mkF m 25 #[.val (.ref a1), .val (.ref a2)] [(.ref b361)])) rfl (by rw [hml]; rfl) (Steps.refl _) (argsL := []) (rest := []) (lenOf pd_352 rfl) rfl (by show 2 * 0 + _ ≤ _; exact Nat.le_of_eq rfl) (hb hby dp6_4_25) (fun _ _ => ⟨rfl, rfl, (by decide : 10 + 2 ≤ _), (by decide : 224 + 38 ≤ _)⟩)
  dsimp only [Pt.U, Pt.locs, Pt.cells, Pt.slots] at X436 l436 y436 z436 st436 hQ436
  subst y436 z436
  obtain ⟨x_436, t_436, rfl, N436q, K436, f436_0, pr436_0, pr436_1⟩ := hQ436
  have N436 := own_FrE l436 (Fr.app N414 N436q)
  have z436 : T414.heap.size ≤ T436.heap.size := K436.1
  have R436 : CHr Z consts_1 s.vm h0 T399.vm T436.heap := R414.trans (CHr.keep K436 sf0 R414.1)
  have Sf439 : Safe Z consts_1 T399.vm T436.heap a5_414 := Safe.keep K436 sf0 R414.1 Sf435
  have lt436_0 : @LT.lt Nat _ x_436 T436.heap.size := f436_0.lt
  have ltv436_0 : @LT.lt Nat _ t_436 T436.heap.size := f436_0.ltv
  refine oG.tr st436 ?_
  show oG _ _ _ _ (T436.setTop (mkF m 28 #[.val (.ref a1), .val (.ref a2)] [(.ref x_436)]))
  obtain ⟨fs440, hr440, hrun440, hend440, hret440⟩ := X436.leaveW hS399 (by omega) (v := some (.ref x_436)) (fun h => by rw [Bd.returns] at h; cases h)
  have f441 : own_Str Z T436.heap x_436 t_436 (own_role La Lb) := by
    have q := f436_0
    unfold own_role
    rw [List.nil_append] at q
    exact q
  have K442 : Keep h0 h361 [] := (Keep.refl h0 []).ext E361
  have gz443 : h0.size ≤ b361 := by omega
  have K444 : Keep h0 T365.heap [] := K442.trans K365 (allS (Or.inr gz443) all0)
  have K445 : Keep h0 h369 [] := K444.ext E369
  have gz446 : h0.size ≤ a3_365 := by omega
  have K447 : Keep h0 T372.heap [] := K445.trans K372 (allS (Or.inr gz443) (allS (Or.inr gz446) all0))
  have gz448 : h0.size ≤ a5_372 := by omega
  have K449 : Keep h0 T384.heap [] := K447.trans K384 (allS (Or.inr gz443) (allS (Or.inr gz448) all0))
  have K450 : Keep h0 h399 [] := K449.ext E399
  have gz451 : h0.size ≤ a5_384 := by omega
  have K452 : Keep h0 T402.heap [] := K450.trans K402 (allS (Or.inr gz443) (allS (Or.inr gz451) all0))
  have gz453 : h0.size ≤ a5_402 := by omega
  have K454 : Keep h0 T414.heap [] := K452.trans K414 (allS (Or.inr gz443) (allS (Or.inr gz453) all0))
  have K455 : Keep h0 T436.heap [] := K454.trans K436 all0
  subst hPP
  refine ⟨_, _, own_retA X436 hx Bd.returns rfl rfl (hb hby dp6_4_28) hr440, hrun440, hend440, _, _, rfl, ?_, ?_, hret440.1, hret440.2.1, hret440.2.2.1, hret440.2.2.2.mono (by decide) (by decide)⟩
  · show Q_role Z _ _ _ _ _ _ _ h0 _ T436.heap _
    exact ⟨x_436, t_436, rfl, N436, K455, f441, (by omega)⟩
  · have hfin := R436.trans (CHv.at X436 hZ399 hEL R436.1)
    rw [← hh] at hfin
    show CHr Z consts_1 s.vm s.heap T436.vm T436.heap
    exact hfin

theorem own_roleL {La Lb : List Int32} (h1 : ∀ c ∈ La, ¬ c < 0 ∧ ¬ (255 : Int32) < c) (h2 : ∀ c ∈ Lb, ¬ c < 0 ∧ ¬ (255 : Int32) < c) : ∀ c ∈ own_role La Lb, ¬ c < 0 ∧ ¬ (255 : Int32) < c := own_latA (own_latA (own_latA (by decide) h1) (by decide)) h2
theorem own_rolen (La Lb : List Int32) : (own_role La Lb).length = 15 + La.length + Lb.length := by
  simp only [own_role, List.length_append, List.length_cons, List.length_nil]
  omega

theorem ef_355 (m : MethodId) (x0 : Nat) (x1 : Nat) (x2 : Nat) : entryFrame m #[(.ref x0), (.ref x1), (.ref x2)] 3 = mkF m 0 #[.val (.ref x0), .val (.ref x1), .val (.ref x2)] [] := by first | (simp [entryFrame, mkF, argsToLocals, Value.category]; done) | rfl
theorem dp6_5_0 : decode cJ23 0 = .ok (.new 7, 3) := by decide +kernel
theorem dp6_5_3 : decode cJ23 3 = .ok (.dup, 1) := by decide +kernel
theorem dp6_5_4 : decode cJ23 4 = .ok (.invokespecial 9, 3) := by decide +kernel
theorem dp6_5_7 : decode cJ23 7 = .ok (.aload_n 0, 1) := by decide +kernel
theorem dp6_5_8 : decode cJ23 8 = .ok (.aload_n 1, 1) := by decide +kernel
theorem pd_361 : parseMethodDescriptor "(Ljava/lang/String;Ljava/lang/String;)Ljava/lang/String;" = some ⟨[(.object "java/lang/String"), (.object "java/lang/String")], some (.object "java/lang/String")⟩ := by decide +kernel
theorem dp6_5_9 : decode cJ23 9 = .ok (.invokestatic 28, 3) := by decide +kernel
theorem dp6_5_12 : decode cJ23 12 = .ok (.invokevirtual 14, 3) := by decide +kernel
theorem dp6_5_15 : decode cJ23 15 = .ok (.ldc 32, 2) := by decide +kernel
theorem dp6_5_17 : decode cJ23 17 = .ok (.invokevirtual 14, 3) := by decide +kernel
theorem dp6_5_20 : decode cJ23 20 = .ok (.aload_n 2, 1) := by decide +kernel
theorem dp6_5_21 : decode cJ23 21 = .ok (.invokevirtual 14, 3) := by decide +kernel
theorem dp6_5_24 : decode cJ23 24 = .ok (.invokevirtual 20, 3) := by decide +kernel
theorem dp6_5_27 : decode cJ23 27 = .ok (.areturn, 1) := by decide +kernel
def Q_assumed (Z : State) (a1 : Nat) (a2 : Nat) (a3 : Nat) (ta : Nat) (La : List Int32) (tb : Nat) (Lb : List Int32) (td : Nat) (Ld : List Int32) (zc : Int32) (h0 : Heap) (v : Option Value) (h : Heap) (L : List Loc) : Prop := ∃ (x : Nat), ∃ (t2 : Nat), v = some (.ref x) ∧ Fr Z.heap.size L ∧ Keep h0 h [] ∧ own_Str Z h x t2 (own_asm La Lb Ld) ∧ (h0.size ≤ t2)
set_option maxRecDepth 65536 in
set_option maxHeartbeats 40000000 in
theorem rm_assumed (l : Launch) (Z : State) (a0 : Array Value) (hw : ∀ d ∈ tables_1, d.before a0 Z = true) (ws : List Jvm.Cond) (a1 : Nat) (a2 : Nat) (a3 : Nat) (ta : Nat) (La : List Int32) (tb : Nat) (Lb : List Int32) (td : Nat) (Ld : List Int32) (zc : Int32) (h0 : Heap) (hEL : EW Z a0 consts_1) (OL : Old Z Z.heap.size h0) (p0_ : own_Str Z h0 a1 ta La) (p1_ : own_Str Z h0 a2 tb Lb) (p2_ : own_Str Z h0 a3 td Ld) (st_C : Sta Z Z.heap "java/lang/String" "COMPACT_STRINGS" "Z" (.int zc)) (hzc : ¬ zc = 0) (hm1 : La.length ≤ 2) (hm2 : Lb.length ≤ 2) (hl1 : ∀ c ∈ La, ¬ c < 0 ∧ ¬ (255 : Int32) < c) (hl2 : ∀ c ∈ Lb, ¬ c < 0 ∧ ¬ (255 : Int32) < c) (hm3 : Ld.length ≤ 2) (hl3 : ∀ c ∈ Ld, ¬ c < 0 ∧ ¬ (255 : Int32) < c) :
    MetFree l mN0 (head1 (Jvm.Cond.code mN0 prog_6_method_5_code 3 (some (.object "java/lang/String")) :: ws) rM22) (fun a U => a = #[(.ref a1), (.ref a2), (.ref a3)] ∧ Z.Warmed39 U.vm ∧ U.heap = h0 ∧ CHv Z consts_1 U.vm h0) (fun _ _ _ _ _ => True) (fun _ U o U' => ∃ v L, o = .returned v ∧ Q_assumed Z a1 a2 a3 ta La tb Lb td Ld zc h0 v U'.heap L ∧ CHr Z consts_1 U.vm U.heap U'.vm U'.heap ∧ ReturnedEndW U o U' L rM22.cells rM22.slots) := by
  refine MetFree.of_bodySF (plainFor_of_name pn_338) hisR ?_
  intro p e s m args below meth c s₁ Bd hml0 hP hK
  obtain ⟨rfl, hZ, hh, hC0⟩ := hP
  have hx := Bd.exec
  have hby := Bd.bytes
  have hml : c.maxLocals = 3 := hml0
  have hown : s.vm.findClass "com/example/vigilant_gate/vigilantgate/IdentityArns" = some m.cls := findClass_of_methodNamed Bd.named
  have hnm := (name_of_methodNamed Bd.named Bd.method).1
  have X0 : Stand p l e rM22 (s.setVm s.vm) m #[(.ref a1), (.ref a2), (.ref a3)] below meth c s₁ [] 0 0 := Stand.of_body Bd
  have e0 : s₁.heap = h0 := by rw [← hh, Bd.state]; rfl
  have N0 := Fr.nil Z.heap.size
  have Z0 : Z.heap.size ≤ h0.size := OL.2.1
  have hS0 : s.Since s.vm h0.size := (State.WarmedH.refl s).since _
  have wS := own_wS hw
  have R0 : CHr Z consts_1 s.vm h0 s.vm h0 := CHr.refl hC0
  have lt_0 : @LT.lt Nat _ a1 h0.size := p0_.lt
  have ltv_0 : @LT.lt Nat _ ta h0.size := p0_.ltv
  have lt_1 : @LT.lt Nat _ a2 h0.size := p1_.lt
  have ltv_1 : @LT.lt Nat _ tb h0.size := p1_.ltv
  have lt_2 : @LT.lt Nat _ a3 h0.size := p2_.lt
  have ltv_2 : @LT.lt Nat _ td h0.size := p2_.ltv
  show oG p.tables e below (fun o tE => ∃ v L, o = .returned v ∧ Q_assumed Z a1 a2 a3 ta La tb Lb td Ld zc h0 v tE.heap L ∧ CHr Z consts_1 s.vm s.heap tE.vm tE.heap ∧ ReturnedEndW s o tE L rM22.cells rM22.slots) (s₁.setTop (entryFrame m #[(.ref a1), (.ref a2), (.ref a3)] 3))
  refine own_hd (fun PP hPP => ?_)
  refine oG.st (fun t k => castTop (ef_355 m a1 a2 a3) k) ?_
  show oG _ _ _ _ (s₁.setTop (mkF m 0 #[.val (.ref a1), .val (.ref a2), .val (.ref a3)] []))
  obtain ⟨T456, h456, X456, e456, E456, A456, D456, U456, st456⟩ := newO X0 hx hZ hown (own_w hw 44 rfl) (own_w hw 45 rfl) (own_w hw 46 rfl) e0 (g := (mkF m 0 #[.val (.ref a1), .val (.ref a2), .val (.ref a3)] [])) rfl (hb hby dp6_5_0) (by decide) (by decide)
  obtain ⟨b456, g456⟩ : ∃ z, z = h0.size := ⟨_, rfl⟩
  rw [← g456] at A456 D456 U456 st456
  refine oG.st st456 ?_
  have z456 : h0.size ≤ h456.size := E456.1
  have lt_b456 : @LT.lt Nat _ b456 h456.size := A456.lt
  have f457 : Fld Z h456 b456 "java/lang/AbstractStringBuilder" "value" "[B" .null := D456 (Or.inl (own_w hw 59 rfl)) (ty := (.array .byte)) (by decide)
  have f458 : Fld Z h456 b456 "java/lang/AbstractStringBuilder" "coder" "B" (.int (0 : Int32)) := D456 (Or.inl (own_w hw 61 rfl)) (ty := .byte) (by decide)
  have f459 : Fld Z h456 b456 "java/lang/AbstractStringBuilder" "count" "I" (.int (0 : Int32)) := D456 (Or.inl (own_w hw 87 rfl)) (ty := .int) (by decide)
  have R456 : CHr Z consts_1 s.vm h0 s.vm h456 := R0.trans (CHr.ext E456 R0.1)
  refine oG.st (fun _ k => XS.dup X456.here hx rfl (hb hby dp6_5_3) rfl rfl k) ?_
  show oG _ _ _ _ (T456.setTop (mkF m 4 #[.val (.ref a1), .val (.ref a2), .val (.ref a3)] [(.ref b456), (.ref b456)]))
  have f461 : Old Z Z.heap.size h456 := OL.ext E456
  obtain ⟨_, _, ⟨T460, L460, k460, n460⟩, -, X460, ⟨Lc460, hQ460, l460, y460, z460⟩, st460⟩ := X456.specialBack hx (y := mN25) rfl hown (own_v hZ hw 47 rfl) (own_v hZ hw 48 rfl) (own_v hZ hw 49 rfl) (by decide) (backOf (W := 1) (rm_sbinit l Z a0 hw [] b456 zc h456 f461 A456 f457 f458 f459 st_C hzc (by omega)) hZ (own_w hw 49 rfl) (own_w hw 46 rfl) (by decide) (by decide)) (g := (mkF m 4 #[.val (.ref a1), .val (.ref a2), .val (.ref a3)] [(.ref b456), (.ref b456)])) rfl (by rw [hml]; rfl) (Steps.refl _) (a := b456) (argsL := []) (rest := [(.ref b456)]) (lenOf pd_341 rfl) rfl (by show 2 * 0 + _ ≤ _; exact Nat.le_of_eq rfl) (hb hby dp6_5_4) (fun _ _ => ⟨rfl, e456, (by decide : 1 + 1 ≤ _), (by decide : 4 + 16 ≤ _)⟩)
  dsimp only [Pt.U, Pt.locs, Pt.cells, Pt.slots] at X460 l460 y460 z460 st460 hQ460
  subst y460 z460
  obtain ⟨a3_460, k_460, rfl, N460q, K460, f460_0, f460_1, f460_2, f460_3, f460_4, pr460_0, pr460_1⟩ := hQ460
  have N460 := own_FrE l460 (Fr.app N0 N460q)
  have Sf462 : Safe Z consts_1 s.vm h456 b456 := Safe.exa hZ.alike A456 (by decide) (by decide)
  have z460 : h456.size ≤ T460.heap.size := K460.1
  have R460 : CHr Z consts_1 s.vm h0 s.vm T460.heap := R456.trans (CHr.keep K460 (sfS Sf462 sf0) R456.1)
  have lt460_0 : @LT.lt Nat _ b456 T460.heap.size := f460_0.lt
  have lt460_1 : @LT.lt Nat _ b456 T460.heap.size := f460_1.lt
  have lt460_2 : @LT.lt Nat _ b456 T460.heap.size := f460_2.lt
  have lt460_3 : @LT.lt Nat _ b456 T460.heap.size := f460_3.lt
  have lt460_4 : @LT.lt Nat _ a3_460 T460.heap.size := f460_4.lt
  have Sf463 : Safe Z consts_1 s.vm T460.heap a3_460 := Safe.keep K460 (sfS Sf462 sf0) R456.1 (Safe.new pr460_0)
  refine oG.tr st460 ?_
  refine oG.st (fun _ k => XS.aloadN X460.here hx rfl (hb hby dp6_5_7) rfl rfl (XS.aloadN X460.here hx rfl (hb hby dp6_5_8) rfl rfl k)) ?_
  show oG _ _ _ _ (T460.setTop (mkF m 9 #[.val (.ref a1), .val (.ref a2), .val (.ref a3)] [(.ref a2), (.ref a1), (.ref b456)]))
  have f465 : own_Str Z h456 a1 ta La := p0_.ext E456
  have ne466 : @Ne Nat a1 b456 := Exa.ne f465.exa A456 (by decide)
  have ne467 : @Ne Nat b456 ta := own_Str.neV f465 A456 (own_w hw 45 rfl)
  have f468 : own_Str Z T460.heap a1 ta La := f465.keep K460 (ninS ne466 nin0) (ninS (Ne.symm ne467) nin0)
  have f469 : own_Str Z h456 a2 tb Lb := p1_.ext E456
  have ne470 : @Ne Nat a2 b456 := Exa.ne f469.exa A456 (by decide)
  have ne471 : @Ne Nat b456 tb := own_Str.neV f469 A456 (own_w hw 45 rfl)
  have f472 : own_Str Z T460.heap a2 tb Lb := f469.keep K460 (ninS ne470 nin0) (ninS (Ne.symm ne471) nin0)
  have gz473 : Z.heap.size ≤ b456 := by omega
  have f474 : Old Z Z.heap.size T460.heap := f461.keep K460 (allS gz473 all0)
  obtain ⟨_, _, ⟨T464, L464, k464, n464⟩, -, X464, hs464, hg464, ⟨Lc464, hQ464, l464, y464, z464, ch464⟩, st464⟩ := callSS X460 hx (y := mN1) hown (own_v hZ hw 62 rfl) (own_v hZ hw 63 rfl) (own_v hZ hw 42 rfl) (own_v hZ hw 64 rfl) (by decide) (backOfSH (s := s) (vm0 := s.vm) (W := 1) (rm_role l Z a0 hw [] a1 a2 ta La tb Lb zc T460.heap hEL f474 f468 f472 st_C hzc hm1 hm2 hl1 hl2) hZ (own_w hw 64 rfl) (own_w hw 42 rfl) (by decide) (by decide) hEL R460.1) (g := (mkF m 9 #[.val (.ref a1), .val (.ref a2), .val (.ref a3)] [(.ref a2), (.ref a1), (.ref b456)])) rfl (by rw [hml]; rfl) (argsL := [(.ref a1), (.ref a2)]) (rest := [(.ref b456)]) (lenOf pd_361 rfl) rfl (by show 2 * 0 + _ ≤ _; exact Nat.le_of_eq rfl) (hb hby dp6_5_9) (fun _ _ => ⟨rfl, rfl, (by decide : 2 + 14 ≤ _), (by decide : 20 + 300 ≤ _)⟩)
  dsimp only [Pt.U, Pt.locs, Pt.cells, Pt.slots] at X464 l464 y464 z464 st464 hQ464 hs464 hg464 ch464
  subst y464 z464
  obtain ⟨x_464, t2_464, rfl, N464q, K464, f464_0, pr464_0⟩ := hQ464
  have N464 := own_FrE l464 (Fr.app N460 N464q)
  obtain ⟨Y464, hS464, hZ464, hown464⟩ := rebS hS0 (n1 := T460.heap.size) (by omega) X464 hs464 (by have := hg464; first | exact this | (rw [← rfl]; exact this)) hZ hown
  have z464 : T460.heap.size ≤ T464.heap.size := K464.1
  have R464 : CHr Z consts_1 s.vm h0 T464.vm T464.heap := R460.trans ch464
  have Sf475 : Safe Z consts_1 T464.vm T464.heap a3_460 := ch464.safe (by show @LT.lt Nat _ a3_460 _; omega) Sf463
  have lt464_0 : @LT.lt Nat _ x_464 T464.heap.size := f464_0.lt
  have ltv464_0 : @LT.lt Nat _ t2_464 T464.heap.size := f464_0.ltv
  refine oG.tr st464 ?_
  show oG _ _ _ _ (T464.setTop (mkF m 12 #[.val (.ref a1), .val (.ref a2), .val (.ref a3)] [(.ref x_464), (.ref b456)]))
  have f477 : Exa Z T464.heap b456 "java/lang/StringBuilder" := f460_0.keep K464
  have f478 : Fld Z T464.heap b456 "java/lang/AbstractStringBuilder" "value" "[B" (.ref a3_460) := f460_1.keep K464 nin0
  have f479 : Fld Z T464.heap b456 "java/lang/AbstractStringBuilder" "coder" "B" (.int (0 : Int32)) := f460_2.keep K464 nin0
  have f480 : Fld Z T464.heap b456 "java/lang/AbstractStringBuilder" "count" "I" (.int (0 : Int32)) := f460_3.keep K464 nin0
  have f481 : Arv Z T464.heap a3_460 k_460 .byte (Int32.ofNat 16) (own_low ([] : List Int32)) (.int (0 : Int32)) := f460_4.keep K464 nin0
  have no482 : @Ne Nat t2_464 a3_460 := by omega
  have f483 : Old Z Z.heap.size T464.heap := f474.keep K464 all0
  obtain ⟨cq476, kq476, q476a, q476b, q476c⟩ := isOf hZ464 rfl f477
  obtain ⟨_, _, ⟨T476, L476, k476, n476⟩, -, X476, ⟨Lc476, hQ476, l476, y476, z476⟩, st476⟩ := Y464.virtualBack hx (y := mN26) (z := mN26) hown464 (own_v hZ464 hw 66 rfl) (own_v hZ464 hw 67 rfl) (notFace_of_selects (args := #[]) (own_v hZ464 hw 69 rfl)) (own_v hZ464 hw 69 rfl) (own_v hZ464 hw 68 rfl) (by decide) (backOf (W := 0) (rm_sbappend l Z a0 hw [] b456 x_464 t2_464 ([] : List Int32) (own_role La Lb) 16 k_460 zc a3_460 T464.heap f483 f477 f478 f479 f480 f464_0 f481 st_C hzc (by (try simp only [List.length_append, List.length_cons, List.length_nil, own_rolen]); omega) (Nat.zero_le _) (Or.inl rfl) pr460_1 no482 (by omega) (by omega) (own_roleL hl1 hl2)) hZ464 (own_w hw 70 rfl) (own_w hw 46 rfl) (by decide) (by decide)) q476a q476c (g := (mkF m 12 #[.val (.ref a1), .val (.ref a2), .val (.ref a3)] [(.ref x_464), (.ref b456)])) rfl (by rw [hml]; rfl) (Steps.refl _) (argsL := [(.ref x_464)]) (rest := []) (lenOf pd_344 rfl) rfl (by show 2 * 0 + _ ≤ _; exact Nat.le_of_eq rfl) (hb hby dp6_5_12) (fun _ _ => ⟨rfl, rfl, (by decide : 16 + 1 ≤ _), (by decide : 320 + 34 ≤ _)⟩)
  dsimp only [Pt.U, Pt.locs, Pt.cells, Pt.slots] at X476 l476 y476 z476 st476 hQ476
  subst y476 z476
  obtain ⟨a5_476, cap2_476, k2_476, rfl, N476q, K476, f476_0, f476_1, f476_2, f476_3, f476_4, pr476_0, pr476_1, pr476_2, pr476_3⟩ := hQ476
  have N476 := own_FrE l476 (Fr.app N464 N476q)
  have Sf484 : Safe Z consts_1 T464.vm T464.heap b456 := Safe.exa hZ464.alike f477 (by decide) (by decide)
  have z476 : T464.heap.size ≤ T476.heap.size := K476.1
  have R476 : CHr Z consts_1 s.vm h0 T464.vm T476.heap := R464.trans (CHr.keep K476 (sfS Sf484 (sfS Sf475 sf0)) R464.1)
  have Sf485 : Safe Z consts_1 T464.vm T476.heap a3_460 := Safe.keep K476 (sfS Sf484 (sfS Sf475 sf0)) R464.1 Sf475
  have lt476_0 : @LT.lt Nat _ b456 T476.heap.size := f476_0.lt
  have lt476_1 : @LT.lt Nat _ b456 T476.heap.size := f476_1.lt
  have lt476_2 : @LT.lt Nat _ b456 T476.heap.size := f476_2.lt
  have lt476_3 : @LT.lt Nat _ b456 T476.heap.size := f476_3.lt
  have lt476_4 : @LT.lt Nat _ a5_476 T476.heap.size := f476_4.lt
  have Sf486 : Safe Z consts_1 T464.vm T476.heap a5_476 := Or.elim pr476_3 (fun q => by rw [q]; exact Sf485) (fun q => Safe.keep K476 (sfS Sf484 (sfS Sf475 sf0)) R464.1 (Safe.new q))
  have h5_476 : h0.size ≤ a5_476 := own_New.le pr476_3 (by omega) (by omega)
  have c5_476 := pr476_1.le
  refine oG.tr st476 ?_
  show oG _ _ _ _ (T476.setTop (mkF m 15 #[.val (.ref a1), .val (.ref a2), .val (.ref a3)] [(.ref b456)]))
  obtain ⟨a487, T487, h487, kk487, t487, kb487, X487, e487, E487, hS487, hk487, hZ487, hown487, A487, C487, V487, B487, la487, lb487, ch487, Li487, sf487, st487⟩ := ldcCH X476 hx hZ464 hown464 (own_w hw 157 rfl) wS rfl hS464 (by omega) hEL (by decide) R476.1 (vs := [(.int (47 : Int32))]) (z := (1 : Int32)) (by decide) (by decide) (by decide) (g := (mkF m 15 #[.val (.ref a1), .val (.ref a2), .val (.ref a3)] [(.ref b456)])) rfl (hb hby dp6_5_15) (n := 4) (by decide) (by decide) (by decide) (by decide)
  refine oG.st st487 ?_
  have z487 : T476.heap.size ≤ h487.size := E487.1
  have la487' : @LT.lt Nat _ a487 h487.size := la487
  have lb487' : @LT.lt Nat _ t487 h487.size := lb487
  have R487 : CHr Z consts_1 s.vm h0 T487.vm h487 := R476.trans ch487
  have Sf488 : Safe Z consts_1 T487.vm h487 a5_476 := ch487.safe (by show @LT.lt Nat _ a5_476 _; omega) Sf486
  have fT487 : own_Str Z h487 a487 t487 ([(47 : Int32)] : List Int32) := ⟨kb487, 0, (1 : Int32), [(.int (47 : Int32))], A487, V487, C487, B487, Or.inl ⟨rfl, rfl, rfl, (by decide)⟩, (by decide), (by decide)⟩
  have nl489 := sf487 a5_476 Sf488
  have nl489a : @Ne Nat a5_476 a487 := nl489.1
  have nl489b : @Ne Nat a5_476 t487 := nl489.2
  show oG _ _ _ _ (T487.setTop (mkF m 17 #[.val (.ref a1), .val (.ref a2), .val (.ref a3)] [(.ref a487), (.ref b456)]))
  have f491 : Exa Z h487 b456 "java/lang/StringBuilder" := f476_0.ext E487
  have f492 : Fld Z h487 b456 "java/lang/AbstractStringBuilder" "value" "[B" (.ref a5_476) := f476_1.ext E487
  have f493 : Fld Z h487 b456 "java/lang/AbstractStringBuilder" "coder" "B" (.int (0 : Int32)) := f476_2.ext E487
  have f494 : Fld Z h487 b456 "java/lang/AbstractStringBuilder" "count" "I" (.int (Int32.ofNat (([] : List Int32) ++ (own_role La Lb)).length)) := f476_3.ext E487
  have f495 : Arv Z h487 a5_476 k2_476 .byte (Int32.ofNat cap2_476) (own_low (([] : List Int32) ++ (own_role La Lb))) (.int (0 : Int32)) := f476_4.ext E487
  have gz496 : Z.heap.size ≤ a3_460 := by omega
  have f497 : Old Z Z.heap.size T476.heap := f483.keep K476 (allS gz473 (allS gz496 all0))
  have f498 : Old Z Z.heap.size h487 := f497.ext E487
  obtain ⟨cq490, kq490, q490a, q490b, q490c⟩ := isOf hZ487 e487 f491
  obtain ⟨_, _, ⟨T490, L490, k490, n490⟩, -, X490, ⟨Lc490, hQ490, l490, y490, z490⟩, st490⟩ := X487.virtualBack hx (y := mN26) (z := mN26) hown487 (own_v hZ487 hw 66 rfl) (own_v hZ487 hw 67 rfl) (notFace_of_selects (args := #[]) (own_v hZ487 hw 69 rfl)) (own_v hZ487 hw 69 rfl) (own_v hZ487 hw 68 rfl) (by decide) (backOf (W := 0) (rm_sbappend l Z a0 hw [] b456 a487 t487 (([] : List Int32) ++ (own_role La Lb)) ([(47 : Int32)] : List Int32) cap2_476 k2_476 zc a5_476 h487 f498 f491 f492 f493 f494 fT487 f495 st_C hzc (by (try simp only [List.length_append, List.length_cons, List.length_nil, own_rolen]); omega) pr476_0 pr476_1 pr476_2 (Ne.symm nl489b) (by omega) (by omega) (by decide)) hZ487 (own_w hw 70 rfl) (own_w hw 46 rfl) (by decide) (by decide)) q490a q490c (g := (mkF m 17 #[.val (.ref a1), .val (.ref a2), .val (.ref a3)] [(.ref a487), (.ref b456)])) rfl (by rw [hml]; rfl) (Steps.refl _) (argsL := [(.ref a487)]) (rest := []) (lenOf pd_344 rfl) rfl (by show 2 * 0 + _ ≤ _; exact Nat.le_of_eq rfl) (hb hby dp6_5_17) (fun _ _ => ⟨rfl, e487, (by decide : 19 + 1 ≤ _), (by decide : 362 + 34 ≤ _)⟩)
  dsimp only [Pt.U, Pt.locs, Pt.cells, Pt.slots] at X490 l490 y490 z490 st490 hQ490
  subst y490 z490
  obtain ⟨a5_490, cap2_490, k2_490, rfl, N490q, K490, f490_0, f490_1, f490_2, f490_3, f490_4, pr490_0, pr490_1, pr490_2, pr490_3⟩ := hQ490
  have N490 := own_FrE l490 (Fr.app N476 N490q)
  have Sf499 : Safe Z consts_1 T487.vm h487 b456 := Safe.exa hZ487.alike f491 (by decide) (by decide)
  have z490 : h487.size ≤ T490.heap.size := K490.1
  have R490 : CHr Z consts_1 s.vm h0 T487.vm T490.heap := R487.trans (CHr.keep K490 (sfS Sf499 (sfS Sf488 sf0)) R487.1)
  have Sf500 : Safe Z consts_1 T487.vm T490.heap a5_476 := Safe.keep K490 (sfS Sf499 (sfS Sf488 sf0)) R487.1 Sf488
  have lt490_0 : @LT.lt Nat _ b456 T490.heap.size := f490_0.lt
  have lt490_1 : @LT.lt Nat _ b456 T490.heap.size := f490_1.lt
  have lt490_2 : @LT.lt Nat _ b456 T490.heap.size := f490_2.lt
  have lt490_3 : @LT.lt Nat _ b456 T490.heap.size := f490_3.lt
  have lt490_4 : @LT.lt Nat _ a5_490 T490.heap.size := f490_4.lt
  have Sf501 : Safe Z consts_1 T487.vm T490.heap a5_490 := Or.elim pr490_3 (fun q => by rw [q]; exact Sf500) (fun q => Safe.keep K490 (sfS Sf499 (sfS Sf488 sf0)) R487.1 (Safe.new q))
  have h5_490 : h0.size ≤ a5_490 := own_New.le pr490_3 (by omega) (by omega)
  have c5_490 := pr490_1.le
  refine oG.tr st490 ?_
  refine oG.st (fun _ k => XS.aloadN X490.here hx rfl (hb hby dp6_5_20) rfl rfl k) ?_
  show oG _ _ _ _ (T490.setTop (mkF m 21 #[.val (.ref a1), .val (.ref a2), .val (.ref a3)] [(.ref a3), (.ref b456)]))
  have f503 : own_Str Z h456 a3 td Ld := p2_.ext E456
  have ne504 : @Ne Nat a3 b456 := Exa.ne f503.exa A456 (by decide)
  have ne505 : @Ne Nat b456 td := own_Str.neV f503 A456 (own_w hw 45 rfl)
  have f506 : own_Str Z T460.heap a3 td Ld := f503.keep K460 (ninS ne504 nin0) (ninS (Ne.symm ne505) nin0)
  have f507 : own_Str Z T464.heap a3 td Ld := f506.keep K464 nin0 nin0
  have ne508 : @Ne Nat a3 a3_460 := Exa.neArv f507.exa f481 (own_w hw 9 rfl)
  have no509 : @Ne Nat td a3_460 := by omega
  have f510 : own_Str Z T476.heap a3 td Ld := f507.keep K476 (ninS ne504 (ninS ne508 nin0)) (ninS (Ne.symm ne505) (ninS no509 nin0))
  have f511 : own_Str Z h487 a3 td Ld := f510.ext E487
  have ne512 : @Ne Nat a3 a5_476 := Exa.neArv f511.exa f495 (own_w hw 9 rfl)
  have no513 : @Ne Nat td a5_476 := by omega
  have f514 : own_Str Z T490.heap a3 td Ld := f511.keep K490 (ninS ne504 (ninS ne512 nin0)) (ninS (Ne.symm ne505) (ninS no513 nin0))
  have no515 : @Ne Nat td a5_490 := by omega
  have gz516 : Z.heap.size ≤ a5_476 := by omega
  have f517 : Old Z Z.heap.size T490.heap := f498.keep K490 (allS gz473 (allS gz516 all0))
  obtain ⟨cq502, kq502, q502a, q502b, q502c⟩ := isOf hZ487 rfl f490_0
  obtain ⟨_, _, ⟨T502, L502, k502, n502⟩, -, X502, ⟨Lc502, hQ502, l502, y502, z502⟩, st502⟩ := X490.virtualBack hx (y := mN26) (z := mN26) hown487 (own_v hZ487 hw 66 rfl) (own_v hZ487 hw 67 rfl) (notFace_of_selects (args := #[]) (own_v hZ487 hw 69 rfl)) (own_v hZ487 hw 69 rfl) (own_v hZ487 hw 68 rfl) (by decide) (backOf (W := 0) (rm_sbappend l Z a0 hw [] b456 a3 td ((([] : List Int32) ++ (own_role La Lb)) ++ ([(47 : Int32)] : List Int32)) Ld cap2_490 k2_490 zc a5_490 T490.heap f517 f490_0 f490_1 f490_2 f490_3 f514 f490_4 st_C hzc (by (try simp only [List.length_append, List.length_cons, List.length_nil, own_rolen]); omega) pr490_0 pr490_1 pr490_2 no515 (by omega) (by omega) hl3) hZ487 (own_w hw 70 rfl) (own_w hw 46 rfl) (by decide) (by decide)) q502a q502c (g := (mkF m 21 #[.val (.ref a1), .val (.ref a2), .val (.ref a3)] [(.ref a3), (.ref b456)])) rfl (by rw [hml]; rfl) (Steps.refl _) (argsL := [(.ref a3)]) (rest := []) (lenOf pd_344 rfl) rfl (by show 2 * 0 + _ ≤ _; exact Nat.le_of_eq rfl) (hb hby dp6_5_21) (fun _ _ => ⟨rfl, rfl, (by decide : 20 + 1 ≤ _), (by decide : 396 + 34 ≤ _)⟩)
  dsimp only [Pt.U, Pt.locs, Pt.cells, Pt.slots] at X502 l502 y502 z502 st502 hQ502
  subst y502 z502
  obtain ⟨a5_502, cap2_502, k2_502, rfl, N502q, K502, f502_0, f502_1, f502_2, f502_3, f502_4, pr502_0, pr502_1, pr502_2, pr502_3⟩ := hQ502
  have N502 := own_FrE l502 (Fr.app N490 N502q)
  have Sf518 : Safe Z consts_1 T487.vm T490.heap b456 := Safe.exa hZ487.alike f490_0 (by decide) (by decide)
  have z502 : T490.heap.size ≤ T502.heap.size := K502.1
  have R502 : CHr Z consts_1 s.vm h0 T487.vm T502.heap := R490.trans (CHr.keep K502 (sfS Sf518 (sfS Sf501 sf0)) R490.1)
  have Sf519 : Safe Z consts_1 T487.vm T502.heap a5_490 := Safe.keep K502 (sfS Sf518 (sfS Sf501 sf0)) R490.1 Sf501
  have lt502_0 : @LT.lt Nat _ b456 T502.heap.size := f502_0.lt
  have lt502_1 : @LT.lt Nat _ b456 T502.heap.size := f502_1.lt
  have lt502_2 : @LT.lt Nat _ b456 T502.heap.size := f502_2.lt
  have lt502_3 : @LT.lt Nat _ b456 T502.heap.size := f502_3.lt
  have lt502_4 : @LT.lt Nat _ a5_502 T502.heap.size := f502_4.lt
  have Sf520 : Safe Z consts_1 T487.vm T502.heap a5_502 := Or.elim pr502_3 (fun q => by rw [q]; exact Sf519) (fun q => Safe.keep K502 (sfS Sf518 (sfS Sf501 sf0)) R490.1 (Safe.new q))
  have h5_502 : h0.size ≤ a5_502 := own_New.le pr502_3 (by omega) (by omega)
  have c5_502 := pr502_1.le
  refine oG.tr st502 ?_
  show oG _ _ _ _ (T502.setTop (mkF m 24 #[.val (.ref a1), .val (.ref a2), .val (.ref a3)] [(.ref b456)]))
  have gz522 : Z.heap.size ≤ a5_490 := by omega
  have f523 : Old Z Z.heap.size T502.heap := f517.keep K502 (allS gz473 (allS gz522 all0))
  obtain ⟨cq521, kq521, q521a, q521b, q521c⟩ := isOf hZ487 rfl f502_0
  obtain ⟨_, _, ⟨T521, L521, k521, n521⟩, -, X521, ⟨Lc521, hQ521, l521, y521, z521⟩, st521⟩ := X502.virtualBack hx (y := mN28) (z := mN28) hown487 (own_v hZ487 hw 114 rfl) (own_v hZ487 hw 115 rfl) (notFace_of_selects (args := #[]) (own_v hZ487 hw 117 rfl)) (own_v hZ487 hw 117 rfl) (own_v hZ487 hw 116 rfl) (by decide) (backOf (W := 0) (rm_tostr l Z a0 hw [] b456 (((([] : List Int32) ++ (own_role La Lb)) ++ ([(47 : Int32)] : List Int32)) ++ Ld) cap2_502 a5_502 k2_502 zc T502.heap f523 f502_0 f502_1 f502_2 f502_3 f502_4 st_C hzc pr502_0 pr502_2 (Nat.le_trans (own_Cap.le pr502_1) (by decide)) (by (try simp only [List.length_append, List.length_cons, List.length_nil, own_rolen]); omega) (own_latA (own_latA (own_latA own_lat0 (own_roleL hl1 hl2)) (by decide)) hl3)) hZ487 (own_w hw 118 rfl) (own_w hw 46 rfl) (by decide) (by decide)) q521a q521c (g := (mkF m 24 #[.val (.ref a1), .val (.ref a2), .val (.ref a3)] [(.ref b456)])) rfl (by rw [hml]; rfl) (Steps.refl _) (argsL := []) (rest := []) (lenOf pd_352 rfl) rfl (by show 2 * 0 + _ ≤ _; exact Nat.le_of_eq rfl) (hb hby dp6_5_24) (fun _ _ => ⟨rfl, rfl, (by decide : 21 + 2 ≤ _), (by decide : 430 + 38 ≤ _)⟩)
  dsimp only [Pt.U, Pt.locs, Pt.cells, Pt.slots] at X521 l521 y521 z521 st521 hQ521
  subst y521 z521
  obtain ⟨x_521, t_521, rfl, N521q, K521, f521_0, pr521_0, pr521_1⟩ := hQ521
  have N521 := own_FrE l521 (Fr.app N502 N521q)
  have z521 : T502.heap.size ≤ T521.heap.size := K521.1
  have R521 : CHr Z consts_1 s.vm h0 T487.vm T521.heap := R502.trans (CHr.keep K521 sf0 R502.1)
  have Sf524 : Safe Z consts_1 T487.vm T521.heap a5_502 := Safe.keep K521 sf0 R502.1 Sf520
  have lt521_0 : @LT.lt Nat _ x_521 T521.heap.size := f521_0.lt
  have ltv521_0 : @LT.lt Nat _ t_521 T521.heap.size := f521_0.ltv
  refine oG.tr st521 ?_
  show oG _ _ _ _ (T521.setTop (mkF m 27 #[.val (.ref a1), .val (.ref a2), .val (.ref a3)] [(.ref x_521)]))
  obtain ⟨fs525, hr525, hrun525, hend525, hret525⟩ := X521.leaveW hS487 (by omega) (v := some (.ref x_521)) (fun h => by rw [Bd.returns] at h; cases h)
  have f526 : own_Str Z T521.heap x_521 t_521 (own_asm La Lb Ld) := by
    have q := f521_0
    unfold own_asm
    rw [List.nil_append] at q
    exact q
  have K527 : Keep h0 h456 [] := (Keep.refl h0 []).ext E456
  have gz528 : h0.size ≤ b456 := by omega
  have K529 : Keep h0 T460.heap [] := K527.trans K460 (allS (Or.inr gz528) all0)
  have K530 : Keep h0 T464.heap [] := K529.trans K464 all0
  have gz531 : h0.size ≤ a3_460 := by omega
  have K532 : Keep h0 T476.heap [] := K530.trans K476 (allS (Or.inr gz528) (allS (Or.inr gz531) all0))
  have K533 : Keep h0 h487 [] := K532.ext E487
  have gz534 : h0.size ≤ a5_476 := by omega
  have K535 : Keep h0 T490.heap [] := K533.trans K490 (allS (Or.inr gz528) (allS (Or.inr gz534) all0))
  have gz536 : h0.size ≤ a5_490 := by omega
  have K537 : Keep h0 T502.heap [] := K535.trans K502 (allS (Or.inr gz528) (allS (Or.inr gz536) all0))
  have K538 : Keep h0 T521.heap [] := K537.trans K521 all0
  subst hPP
  refine ⟨_, _, own_retA X521 hx Bd.returns rfl rfl (hb hby dp6_5_27) hr525, hrun525, hend525, _, _, rfl, ?_, ?_, hret525.1, hret525.2.1, hret525.2.2.1, hret525.2.2.2.mono (by decide) (by decide)⟩
  · show Q_assumed Z _ _ _ _ _ _ _ _ _ _ h0 _ T521.heap _
    exact ⟨x_521, t_521, rfl, N521, K538, f526, (by omega)⟩
  · have hfin := R521.trans (CHv.at X521 hZ487 hEL R521.1)
    rw [← hh] at hfin
    show CHr Z consts_1 s.vm s.heap T521.vm T521.heap
    exact hfin
theorem pn_370 : plainName "com/example/vigilant_gate/vigilantgate/IdentityArnsAssumedRolePinLaw" = true := by first | (simp [plainName, overriddenIn]; done) | decide +kernel
theorem ef_371 (m : MethodId) (x0 : Int32) : entryFrame m #[(.int x0)] 1 = mkF m 0 #[.val (.int x0)] [] := by first | (simp [entryFrame, mkF, argsToLocals, Value.category]; done) | rfl
theorem d_method_3_0 : decode method_3_code 0 = .ok (.iload_n 0, 1) := by decide +kernel
theorem d_method_3_1 : decode method_3_code 1 = .ok (.sipush 255, 3) := by decide +kernel
theorem d_method_3_4 : decode method_3_code 4 = .ok (.iand, 1) := by decide +kernel
theorem d_method_3_5 : decode method_3_code 5 = .ok (.i2c, 1) := by decide +kernel
theorem d_method_3_6 : decode method_3_code 6 = .ok (.ireturn, 1) := by decide +kernel
def Q_c0 (Z : State) (p1 : Int32) (h0 : Heap) (v : Option Value) (h : Heap) (L : List Loc) : Prop := v = some (.int (own_c0 p1)) ∧ Fr Z.heap.size L ∧ h = h0
set_option maxRecDepth 65536 in
set_option maxHeartbeats 40000000 in
theorem rm_c0 (l : Launch) (Z : State) (a0 : Array Value) (hw : ∀ d ∈ tables_1, d.before a0 Z = true) (ws : List Jvm.Cond) (p1 : Int32) (h0 : Heap) (OL : Old Z Z.heap.size h0) :
    MetFree l mN2 (head1 (Jvm.Cond.code mN2 method_3_code 1 (some .char) :: ws) rM0) (fun a U => a = #[(.int p1)] ∧ Z.Warmed39 U.vm ∧ U.heap = h0) (fun _ _ _ _ _ => True) (fun _ U o U' => ∃ v L, o = .returned v ∧ Q_c0 Z p1 h0 v U'.heap L ∧ FrameEnd U o U' L rM0.cells rM0.slots) := by
  refine MetFree.of_bodySF (plainFor_of_name pn_370) hisR ?_
  intro p e s m args below meth c s₁ Bd hml0 hP hK
  obtain ⟨rfl, hZ, hh⟩ := hP
  have hx := Bd.exec
  have hby := Bd.bytes
  have hml : c.maxLocals = 1 := hml0
  have hown : s.vm.findClass "com/example/vigilant_gate/vigilantgate/IdentityArnsAssumedRolePinLaw" = some m.cls := findClass_of_methodNamed Bd.named
  have hnm := (name_of_methodNamed Bd.named Bd.method).1
  have X0 : Stand p l e rM0 s m #[(.int p1)] below meth c s₁ [] 0 0 := Stand.of_body Bd
  have e0 : s₁.heap = h0 := by rw [← hh, Bd.state]; rfl
  have N0 := Fr.nil Z.heap.size
  have Z0 : Z.heap.size ≤ h0.size := OL.2.1
  show oG p.tables e below (fun o tE => ∃ v L, o = .returned v ∧ Q_c0 Z p1 h0 v tE.heap L ∧ FrameEnd s o tE L rM0.cells rM0.slots) (s₁.setTop (entryFrame m #[(.int p1)] 1))
  refine own_hd (fun PP hPP => ?_)
  refine oG.st (fun t k => castTop (ef_371 m p1) k) ?_
  refine oG.st (fun _ k => XS.iloadN X0.here hx rfl (hb hby d_method_3_0) rfl (XS.sipush X0.here hx rfl (hb hby d_method_3_1) (XS.iand X0.here hx rfl (hb hby d_method_3_4) rfl (XS.i2c X0.here hx rfl (hb hby d_method_3_5) rfl k)))) ?_
  show oG _ _ _ _ (s₁.setTop (mkF m 6 #[.val (.int p1)] [(.int ((p1 &&& (255 : Int32)).toUInt32.toUInt16.toUInt32.toInt32))]))
  obtain ⟨fs539, hr539, hrun539, hend539, hW539, hsm539⟩ := X0.leave (v := some (.int (nar .char ((p1 &&& (255 : Int32)).toUInt32.toUInt16.toUInt32.toInt32)))) (fun h => by rw [Bd.returns] at h; cases h)
  subst hPP
  refine ⟨_, _, retN X0 hx (t := .char) Bd.returns (by simp) (hb hby d_method_3_6) hr539, hrun539, hend539, _, _, rfl, ?_, ⟨_, rfl⟩, hW539, hsm539.mono (by decide) (by decide)⟩
  · show Q_c0 Z _ h0 _ s₁.heap _
    rw [e0]
    exact ⟨(by rw [own_nar (own_up (own_ch255 _))]; rfl), N0, rfl⟩
theorem d_method_4_0 : decode cJ19 0 = .ok (.iload_n 0, 1) := by decide +kernel
theorem d_method_4_1 : decode cJ19 1 = .ok (.bipush 8, 2) := by decide +kernel
theorem d_method_4_3 : decode cJ19 3 = .ok (.iushr, 1) := by decide +kernel
theorem d_method_4_4 : decode cJ19 4 = .ok (.sipush 255, 3) := by decide +kernel
theorem d_method_4_7 : decode cJ19 7 = .ok (.iand, 1) := by decide +kernel
theorem d_method_4_8 : decode cJ19 8 = .ok (.i2c, 1) := by decide +kernel
theorem d_method_4_9 : decode cJ19 9 = .ok (.ireturn, 1) := by decide +kernel
def Q_c1 (Z : State) (p1 : Int32) (h0 : Heap) (v : Option Value) (h : Heap) (L : List Loc) : Prop := v = some (.int (own_c1 p1)) ∧ Fr Z.heap.size L ∧ h = h0
set_option maxRecDepth 65536 in
set_option maxHeartbeats 40000000 in
theorem rm_c1 (l : Launch) (Z : State) (a0 : Array Value) (hw : ∀ d ∈ tables_1, d.before a0 Z = true) (ws : List Jvm.Cond) (p1 : Int32) (h0 : Heap) (OL : Old Z Z.heap.size h0) :
    MetFree l mN3 (head1 (Jvm.Cond.code mN3 method_4_code 1 (some .char) :: ws) rM0) (fun a U => a = #[(.int p1)] ∧ Z.Warmed39 U.vm ∧ U.heap = h0) (fun _ _ _ _ _ => True) (fun _ U o U' => ∃ v L, o = .returned v ∧ Q_c1 Z p1 h0 v U'.heap L ∧ FrameEnd U o U' L rM0.cells rM0.slots) := by
  refine MetFree.of_bodySF (plainFor_of_name pn_370) hisR ?_
  intro p e s m args below meth c s₁ Bd hml0 hP hK
  obtain ⟨rfl, hZ, hh⟩ := hP
  have hx := Bd.exec
  have hby := Bd.bytes
  have hml : c.maxLocals = 1 := hml0
  have hown : s.vm.findClass "com/example/vigilant_gate/vigilantgate/IdentityArnsAssumedRolePinLaw" = some m.cls := findClass_of_methodNamed Bd.named
  have hnm := (name_of_methodNamed Bd.named Bd.method).1
  have X0 : Stand p l e rM0 s m #[(.int p1)] below meth c s₁ [] 0 0 := Stand.of_body Bd
  have e0 : s₁.heap = h0 := by rw [← hh, Bd.state]; rfl
  have N0 := Fr.nil Z.heap.size
  have Z0 : Z.heap.size ≤ h0.size := OL.2.1
  show oG p.tables e below (fun o tE => ∃ v L, o = .returned v ∧ Q_c1 Z p1 h0 v tE.heap L ∧ FrameEnd s o tE L rM0.cells rM0.slots) (s₁.setTop (entryFrame m #[(.int p1)] 1))
  refine own_hd (fun PP hPP => ?_)
  refine oG.st (fun t k => castTop (ef_371 m p1) k) ?_
  refine oG.st (fun _ k => XS.iloadN X0.here hx rfl (hb hby d_method_4_0) rfl (XS.bipush X0.here hx rfl (hb hby d_method_4_1) (XS.iushr X0.here hx rfl (hb hby d_method_4_3) rfl (XS.sipush X0.here hx rfl (hb hby d_method_4_4) (XS.iand X0.here hx rfl (hb hby d_method_4_7) rfl k))))) ?_
  show oG _ _ _ _ (s₁.setTop (mkF m 8 #[.val (.int p1)] [(.int (((p1.toUInt32 >>> ((8 : Int32) &&& 31).toUInt32).toInt32) &&& (255 : Int32)))]))
  refine oG.st (fun _ k => XS.i2c X0.here hx rfl (hb hby d_method_4_8) rfl k) ?_
  show oG _ _ _ _ (s₁.setTop (mkF m 9 #[.val (.int p1)] [(.int ((((p1.toUInt32 >>> ((8 : Int32) &&& 31).toUInt32).toInt32) &&& (255 : Int32)).toUInt32.toUInt16.toUInt32.toInt32))]))
  obtain ⟨fs540, hr540, hrun540, hend540, hW540, hsm540⟩ := X0.leave (v := some (.int (nar .char ((((p1.toUInt32 >>> ((8 : Int32) &&& 31).toUInt32).toInt32) &&& (255 : Int32)).toUInt32.toUInt16.toUInt32.toInt32)))) (fun h => by rw [Bd.returns] at h; cases h)
  subst hPP
  refine ⟨_, _, retN X0 hx (t := .char) Bd.returns (by simp) (hb hby d_method_4_9) hr540, hrun540, hend540, _, _, rfl, ?_, ⟨_, rfl⟩, hW540, hsm540.mono (by decide) (by decide)⟩
  · show Q_c1 Z _ h0 _ s₁.heap _
    rw [e0]
    exact ⟨(by rw [own_nar (own_up (own_ch255 _))]; rfl), N0, rfl⟩
theorem ef_384 (m : MethodId) (x0 : Int32) (x1 : Int32) : entryFrame m #[(.int x0), (.int x1)] 3 = mkF m 0 #[.val (.int x0), .val (.int x1), .unset] [] := by first | (simp [entryFrame, mkF, argsToLocals, Value.category]; done) | rfl
theorem d_method_5_0 : decode cJ20 0 = .ok (.iload_n 1, 1) := by decide +kernel
theorem d_method_5_1 : decode cJ20 1 = .ok (.newarray .char, 2) := by decide +kernel
theorem d_method_5_3 : decode cJ20 3 = .ok (.astore_n 2, 1) := by decide +kernel
theorem d_method_5_4 : decode cJ20 4 = .ok (.iload_n 1, 1) := by decide +kernel
theorem d_method_5_5 : decode cJ20 5 = .ok (.ifCond .le 10, 3) := by decide +kernel
theorem d_method_5_15 : decode cJ20 15 = .ok (.iload_n 1, 1) := by decide +kernel
theorem d_method_5_16 : decode cJ20 16 = .ok (.iconst 1, 1) := by decide +kernel
theorem d_method_5_17 : decode cJ20 17 = .ok (.if_icmp .le 10, 3) := by decide +kernel
theorem d_method_5_27 : decode cJ20 27 = .ok (.new 23, 3) := by decide +kernel
theorem d_method_5_30 : decode cJ20 30 = .ok (.dup, 1) := by decide +kernel
theorem d_method_5_31 : decode cJ20 31 = .ok (.aload_n 2, 1) := by decide +kernel
theorem pd_396 : parseMethodDescriptor "([C)V" = some ⟨[(.array .char)], none⟩ := by decide +kernel
theorem d_method_5_32 : decode cJ20 32 = .ok (.invokespecial 25, 3) := by decide +kernel
theorem d_method_5_35 : decode cJ20 35 = .ok (.areturn, 1) := by decide +kernel
theorem d_method_5_8 : decode cJ20 8 = .ok (.aload_n 2, 1) := by decide +kernel
theorem d_method_5_9 : decode cJ20 9 = .ok (.iconst 0, 1) := by decide +kernel
theorem d_method_5_10 : decode cJ20 10 = .ok (.iload_n 0, 1) := by decide +kernel
theorem pd_402 : parseMethodDescriptor "(I)C" = some ⟨[.int], some .char⟩ := by decide +kernel
theorem d_method_5_11 : decode cJ20 11 = .ok (.invokestatic 32, 3) := by decide +kernel
theorem d_method_5_14 : decode cJ20 14 = .ok (.castore, 1) := by decide +kernel
theorem d_method_5_20 : decode cJ20 20 = .ok (.aload_n 2, 1) := by decide +kernel
theorem d_method_5_21 : decode cJ20 21 = .ok (.iconst 1, 1) := by decide +kernel
theorem d_method_5_22 : decode cJ20 22 = .ok (.iload_n 0, 1) := by decide +kernel
theorem d_method_5_23 : decode cJ20 23 = .ok (.invokestatic 36, 3) := by decide +kernel
theorem d_method_5_26 : decode cJ20 26 = .ok (.castore, 1) := by decide +kernel
def Q_drawn (Z : State) (p1 : Int32) (p2 : Int32) (n : Nat) (zc : Int32) (h0 : Heap) (v : Option Value) (h : Heap) (L : List Loc) : Prop := ∃ (x : Nat), ∃ (t : Nat), v = some (.ref x) ∧ Fr Z.heap.size L ∧ Keep h0 h [] ∧ own_Str Z h x t (own_seg p1 n)
set_option maxRecDepth 65536 in
set_option maxHeartbeats 40000000 in
theorem rm_drawn (l : Launch) (Z : State) (a0 : Array Value) (hw : ∀ d ∈ tables_1, d.before a0 Z = true) (ws : List Jvm.Cond) (p1 : Int32) (p2 : Int32) (n : Nat) (zc : Int32) (h0 : Heap) (hEL : EW Z a0 consts_1) (OL : Old Z Z.heap.size h0) (st_C : Sta Z Z.heap "java/lang/String" "COMPACT_STRINGS" "Z" (.int zc)) (hzc : ¬ zc = 0) (hp2 : p2 = Int32.ofNat n) (hn : n ≤ 2) :
    MetFree l mN4 (head1 (Jvm.Cond.code mN4 method_5_code 3 (some (.object "java/lang/String")) :: ws) rM20) (fun a U => a = #[(.int p1), (.int p2)] ∧ Z.Warmed39 U.vm ∧ U.heap = h0 ∧ CHv Z consts_1 U.vm h0) (fun _ _ _ _ _ => True) (fun _ U o U' => ∃ v L, o = .returned v ∧ Q_drawn Z p1 p2 n zc h0 v U'.heap L ∧ CHr Z consts_1 U.vm U.heap U'.vm U'.heap ∧ ReturnedEndW U o U' L rM20.cells rM20.slots) := by
  refine MetFree.of_bodySF (plainFor_of_name pn_370) hisR ?_
  intro p e s m args below meth c s₁ Bd hml0 hP hK
  obtain ⟨rfl, hZ, hh, hC0⟩ := hP
  have hx := Bd.exec
  have hby := Bd.bytes
  have hml : c.maxLocals = 3 := hml0
  have hown : s.vm.findClass "com/example/vigilant_gate/vigilantgate/IdentityArnsAssumedRolePinLaw" = some m.cls := findClass_of_methodNamed Bd.named
  have hnm := (name_of_methodNamed Bd.named Bd.method).1
  have X0 : Stand p l e rM20 (s.setVm s.vm) m #[(.int p1), (.int p2)] below meth c s₁ [] 0 0 := Stand.of_body Bd
  have e0 : s₁.heap = h0 := by rw [← hh, Bd.state]; rfl
  have N0 := Fr.nil Z.heap.size
  have Z0 : Z.heap.size ≤ h0.size := OL.2.1
  have hS0 : s.Since s.vm h0.size := (State.WarmedH.refl s).since _
  have wS := own_wS hw
  have R0 : CHr Z consts_1 s.vm h0 s.vm h0 := CHr.refl hC0
  show oG p.tables e below (fun o tE => ∃ v L, o = .returned v ∧ Q_drawn Z p1 p2 n zc h0 v tE.heap L ∧ CHr Z consts_1 s.vm s.heap tE.vm tE.heap ∧ ReturnedEndW s o tE L rM20.cells rM20.slots) (s₁.setTop (entryFrame m #[(.int p1), (.int p2)] 3))
  refine own_hd (fun PP hPP => ?_)
  refine oG.st (fun t k => castTop (ef_384 m p1 p2) k) ?_
  show oG _ _ _ _ (s₁.setTop (mkF m 0 #[.val (.int p1), .val (.int p2), .unset] []))
  have hn3 := own_le2 hn
  rcases hn3 with rfl | rfl | rfl
  ·
    obtain rfl : p2 = (0 : Int32) := hp2
    refine oG.st (fun _ k => XS.iloadN X0.here hx rfl (hb hby d_method_5_0) rfl k) ?_
    show oG _ _ _ _ (s₁.setTop (mkF m 1 #[.val (.int p1), .val (.int (0 : Int32)), .unset] [(.int (0 : Int32))]))
    obtain ⟨T541, h541, k541, X541, e541, E541, A541, st541⟩ := newP X0 hx hZ (own_w hw 4 rfl) e0 (g := (mkF m 1 #[.val (.int p1), .val (.int (0 : Int32)), .unset] [(.int (0 : Int32))])) rfl (hb hby d_method_5_1) rfl (by decide) (cap := 0) (by decide) (by decide) (by decide) (by decide)
    obtain ⟨b541, g541⟩ : ∃ z, z = h0.size := ⟨_, rfl⟩
    rw [← g541] at A541 st541
    refine oG.st st541 ?_
    have z541 : h0.size ≤ h541.size := E541.1
    have f542 : Arv Z h541 b541 k541 .char (0 : Int32) [] (.int (0 : Int32)) := (Arv.new A541 (by decide)).pad (pad_rep [] (.int (0 : Int32)) 0)
    have lt_b541 : @LT.lt Nat _ b541 h541.size := f542.lt
    have R541 : CHr Z consts_1 s.vm h0 s.vm h541 := R0.trans (CHr.ext E541 R0.1)
    refine oG.st (fun _ k => XS.astoreN X541.here hx rfl (hb hby d_method_5_3) rfl rfl (l' := #[.val (.int p1), .val (.int (0 : Int32)), .val (.ref b541)]) rfl (XS.iloadN X541.here hx rfl (hb hby d_method_5_4) rfl k)) ?_
    show oG _ _ _ _ (T541.setTop (mkF m 5 #[.val (.int p1), .val (.int (0 : Int32)), .val (.ref b541)] [(.int (0 : Int32))]))
    refine oG.st (fun _ k => XS.ifYes X541.here hx rfl (pc0 := 5) (pc' := 15) rfl (hb hby d_method_5_5) rfl ((if0 _ _).trans (flt (by decide : ¬ ((0 : Int32) < (0 : Int32)))).2.2.2) (by decide) (by decide) k) ?_
    refine oG.st (fun _ k => XS.iloadN X541.here hx rfl (hb hby d_method_5_15) rfl (XS.iconst X541.here hx rfl (hb hby d_method_5_16) k)) ?_
    show oG _ _ _ _ (T541.setTop (mkF m 17 #[.val (.int p1), .val (.int (0 : Int32)), .val (.ref b541)] [(.int (1 : Int32)), (.int (0 : Int32))]))
    refine oG.st (fun _ k => XS.icmpYes X541.here hx rfl (pc0 := 17) (pc' := 27) rfl (hb hby d_method_5_17) rfl (flt (by decide : ¬ ((1 : Int32) < (0 : Int32)))).2.2.2 (by decide) (by decide) k) ?_
    show oG _ _ _ _ (T541.setTop (mkF m 27 #[.val (.int p1), .val (.int (0 : Int32)), .val (.ref b541)] []))
    obtain ⟨T543, h543, X543, e543, E543, A543, D543, U543, st543⟩ := newO X541 hx hZ hown (own_w hw 8 rfl) (own_w hw 9 rfl) (own_w hw 10 rfl) e541 (g := (mkF m 27 #[.val (.int p1), .val (.int (0 : Int32)), .val (.ref b541)] [])) rfl (hb hby d_method_5_27) (by decide) (by decide)
    obtain ⟨b543, g543⟩ : ∃ z, z = h541.size := ⟨_, rfl⟩
    rw [← g543] at A543 D543 U543 st543
    refine oG.st st543 ?_
    have z543 : h541.size ≤ h543.size := E543.1
    have lt_b543 : @LT.lt Nat _ b543 h543.size := A543.lt
    have f544 : Fld Z h543 b543 "java/lang/String" "coder" "B" (.int (0 : Int32)) := D543 (Or.inr (own_w hw 34 rfl)) (ty := .byte) (by decide)
    have f545 : Fld Z h543 b543 "java/lang/String" "value" "[B" .null := D543 (Or.inr (own_w hw 36 rfl)) (ty := (.array .byte)) (by decide)
    have R543 : CHr Z consts_1 s.vm h0 s.vm h543 := R541.trans (CHr.ext E543 R541.1)
    have Sf543 : Safe Z consts_1 s.vm h543 b543 := (Safe.new (Nat.le_of_eq g543.symm)).ext E543 R541.1
    refine oG.st (fun _ k => XS.dup X543.here hx rfl (hb hby d_method_5_30) rfl rfl (XS.aloadN X543.here hx rfl (hb hby d_method_5_31) rfl rfl k)) ?_
    show oG _ _ _ _ (T543.setTop (mkF m 32 #[.val (.int p1), .val (.int (0 : Int32)), .val (.ref b541)] [(.ref b541), (.ref b543), (.ref b543)]))
    have f547 : Arv Z h543 b541 k541 .char (0 : Int32) [] (.int (0 : Int32)) := f542.ext E543
    have f548 : Old Z Z.heap.size h541 := OL.ext E541
    have f549 : Old Z Z.heap.size h543 := f548.ext E543
    obtain ⟨_, _, ⟨T546, L546, k546, n546⟩, -, X546, hs546, hg546, ⟨Lc546, hQ546, l546, y546, z546, ch546⟩, st546⟩ := X543.specialBackS hx (y := mN19) rfl hown (own_v hZ hw 11 rfl) (own_v hZ hw 12 rfl) (own_v hZ hw 13 rfl) (by decide) (backOfSH (s := s) (vm0 := s.vm) (W := 1) (rm_init1e l Z a0 hw [] b543 b541 k541 [] (.int (0 : Int32)) h543 hEL f549 A543 f545 f544 f547 (by omega)) hZ (own_w hw 13 rfl) (own_w hw 10 rfl) (by decide) (by decide) hEL R543.1) (g := (mkF m 32 #[.val (.int p1), .val (.int (0 : Int32)), .val (.ref b541)] [(.ref b541), (.ref b543), (.ref b543)])) rfl (by rw [hml]; rfl) (Steps.refl _) (a := b543) (argsL := [(.ref b541)]) (rest := [(.ref b543)]) (lenOf pd_396 rfl) rfl (by show 2 * 0 + _ ≤ _; exact Nat.le_of_eq rfl) (hb hby d_method_5_32) (fun _ _ => ⟨rfl, e543, (by decide : 2 + 4 ≤ _), (by decide : 4 + 8 ≤ _)⟩)
    dsimp only [Pt.U, Pt.locs, Pt.cells, Pt.slots] at X546 l546 y546 z546 st546 hQ546 hs546 hg546 ch546
    subst y546 z546
    obtain ⟨t_546, rfl, N546q, K546, f546_0⟩ := hQ546
    have N546 := own_FrE l546 (Fr.app N0 N546q)
    obtain ⟨Y546, hS546, hZ546, hown546⟩ := rebS hS0 (n1 := h543.size) (by omega) X546 hs546 (by have := hg546; first | exact this | (rw [← e543]; exact this)) hZ hown
    have z546 : h543.size ≤ T546.heap.size := K546.1
    have R546 : CHr Z consts_1 s.vm h0 T546.vm T546.heap := R543.trans ch546
    have Sf550 : Safe Z consts_1 T546.vm T546.heap b543 := ch546.safe (by show @LT.lt Nat _ b543 _; omega) Sf543
    have lt546_0 : @LT.lt Nat _ b543 T546.heap.size := f546_0.lt
    have ltv546_0 : @LT.lt Nat _ t_546 T546.heap.size := f546_0.ltv
    refine oG.tr st546 ?_
    show oG _ _ _ _ (T546.setTop (mkF m 35 #[.val (.int p1), .val (.int (0 : Int32)), .val (.ref b541)] [(.ref b543)]))
    obtain ⟨fs551, hr551, hrun551, hend551, hret551⟩ := Y546.leaveW hS546 (by omega) (v := some (.ref b543)) (fun h => by rw [Bd.returns] at h; cases h)
    have K552 : Keep h0 h541 [] := (Keep.refl h0 []).ext E541
    have K553 : Keep h0 h543 [] := K552.ext E543
    have gz554 : h0.size ≤ b543 := by omega
    have K555 : Keep h0 T546.heap [] := K553.trans K546 (allS (Or.inr gz554) all0)
    subst hPP
    refine ⟨_, _, own_retA Y546 hx Bd.returns rfl rfl (hb hby d_method_5_35) hr551, hrun551, hend551, _, _, rfl, ?_, ?_, hret551.1, hret551.2.1, hret551.2.2.1, hret551.2.2.2.mono (by decide) (by decide)⟩
    · show Q_drawn Z _ _ _ _ h0 _ T546.heap _
      exact ⟨b543, t_546, rfl, N546, K555, f546_0⟩
    · have hfin := R546.trans (CHv.at Y546 hZ546 hEL R546.1)
      rw [← hh] at hfin
      show CHr Z consts_1 s.vm s.heap T546.vm T546.heap
      exact hfin
  ·
    obtain rfl : p2 = (1 : Int32) := hp2
    refine oG.st (fun _ k => XS.iloadN X0.here hx rfl (hb hby d_method_5_0) rfl k) ?_
    show oG _ _ _ _ (s₁.setTop (mkF m 1 #[.val (.int p1), .val (.int (1 : Int32)), .unset] [(.int (1 : Int32))]))
    obtain ⟨T556, h556, k556, X556, e556, E556, A556, st556⟩ := newP X0 hx hZ (own_w hw 4 rfl) e0 (g := (mkF m 1 #[.val (.int p1), .val (.int (1 : Int32)), .unset] [(.int (1 : Int32))])) rfl (hb hby d_method_5_1) rfl (by decide) (cap := 1) (by decide) (by decide) (by decide) (by decide)
    obtain ⟨b556, g556⟩ : ∃ z, z = h0.size := ⟨_, rfl⟩
    rw [← g556] at A556 st556
    refine oG.st st556 ?_
    have z556 : h0.size ≤ h556.size := E556.1
    have f557 : Arv Z h556 b556 k556 .char (1 : Int32) [(.int (0 : Int32))] (.int (0 : Int32)) := (Arv.new A556 (by decide)).pad (pad_rep [] (.int (0 : Int32)) 1)
    have lt_b556 : @LT.lt Nat _ b556 h556.size := f557.lt
    have R556 : CHr Z consts_1 s.vm h0 s.vm h556 := R0.trans (CHr.ext E556 R0.1)
    refine oG.st (fun _ k => XS.astoreN X556.here hx rfl (hb hby d_method_5_3) rfl rfl (l' := #[.val (.int p1), .val (.int (1 : Int32)), .val (.ref b556)]) rfl (XS.iloadN X556.here hx rfl (hb hby d_method_5_4) rfl k)) ?_
    show oG _ _ _ _ (T556.setTop (mkF m 5 #[.val (.int p1), .val (.int (1 : Int32)), .val (.ref b556)] [(.int (1 : Int32))]))
    refine oG.st (fun _ k => XS.ifNo X556.here hx rfl (hb hby d_method_5_5) rfl ((if0 _ _).trans (tlt (by decide : (0 : Int32) < (1 : Int32))).2.2.2) k) ?_
    refine oG.st (fun _ k => XS.aloadN X556.here hx rfl (hb hby d_method_5_8) rfl rfl (XS.iconst X556.here hx rfl (hb hby d_method_5_9) (XS.iloadN X556.here hx rfl (hb hby d_method_5_10) rfl k))) ?_
    show oG _ _ _ _ (T556.setTop (mkF m 11 #[.val (.int p1), .val (.int (1 : Int32)), .val (.ref b556)] [(.int p1), (.int (0 : Int32)), (.ref b556)]))
    have f559 : Old Z Z.heap.size h556 := OL.ext E556
    obtain ⟨_, _, ⟨T558, L558, k558, n558⟩, -, X558, ⟨Lc558, hQ558, l558, y558, z558⟩, st558⟩ := Jvm.LawKit.callS X556 hx (y := mN2) hown (own_v hZ hw 5 rfl) (own_v hZ hw 6 rfl) (own_v hZ hw 2 rfl) (own_v hZ hw 7 rfl) (by decide) (backOf (W := 2) (rm_c0 l Z a0 hw [] p1 h556 f559 ) hZ (own_w hw 7 rfl) (own_w hw 2 rfl) (by decide) (by decide)) (g := (mkF m 11 #[.val (.int p1), .val (.int (1 : Int32)), .val (.ref b556)] [(.int p1), (.int (0 : Int32)), (.ref b556)])) rfl (by rw [hml]; rfl) (argsL := [(.int p1)]) (rest := [(.int (0 : Int32)), (.ref b556)]) (lenOf pd_402 rfl) rfl (by show 2 * 0 + _ ≤ _; exact Nat.le_of_eq rfl) (hb hby d_method_5_11) (fun _ _ => ⟨rfl, e556, (by decide : 1 + 0 ≤ _), (by decide : 1 + 0 ≤ _)⟩)
    dsimp only [Pt.U, Pt.locs, Pt.cells, Pt.slots] at X558 l558 y558 z558 st558 hQ558
    subst y558 z558
    obtain ⟨rfl, N558q, K558⟩ := hQ558
    have N558 := own_FrE l558 (Fr.app N0 N558q)
    refine oG.st st558 ?_
    show oG _ _ _ _ (T558.setTop (mkF m 14 #[.val (.int p1), .val (.int (1 : Int32)), .val (.ref b556)] [(.int (own_c0 p1)), (.int (0 : Int32)), (.ref b556)]))
    obtain ⟨c560, Ar560, q560, S560, Nn560, H560, G560⟩ := id f557
    have hin560 : ¬ ((0 : Int32) < 0 ∨ c560.slots.size ≤ ((0 : Int32)).toNatClampNeg) := inb_of S560 ⟨by decide, by decide⟩
    obtain ⟨T560, h560, X560, e560, W560, st560⟩ := stC X558 hx hZ K558 Ar560 (j := (0 : Int32)) hin560 (g := (mkF m 14 #[.val (.int p1), .val (.int (1 : Int32)), .val (.ref b556)] [(.int (own_c0 p1)), (.int (0 : Int32)), (.ref b556)])) rfl rfl (hb hby d_method_5_14)
    refine oG.st st560 ?_
    have gz561 : Z.heap.size ≤ b556 := by omega
    have N560 := Fr.snoc X560 N558 gz561
    have Sf563 : Safe Z consts_1 s.vm h556 b556 := Safe.arv hZ.alike f557 (by decide)
    have z560 : h556.size ≤ h560.size := Nat.le_of_eq W560.size.symm
    have f562 := Arv.set Ar560 q560 S560 Nn560 H560 G560 (fits_nar_char _) W560 0 rfl (Nat.le_of_ble_eq_true rfl)
    rw [own_nar (own_up (own_c0l p1))] at f562
    have f564 : Arv Z h560 b556 k556 .char (1 : Int32) [(.int (own_c0 p1))] (.int (0 : Int32)) := f562
    have R560 : CHr Z consts_1 s.vm h0 s.vm h560 := R556.trans (CHr.wr W560 Sf563 R556.1)
    refine oG.st (fun _ k => XS.iloadN X560.here hx rfl (hb hby d_method_5_15) rfl (XS.iconst X560.here hx rfl (hb hby d_method_5_16) k)) ?_
    show oG _ _ _ _ (T560.setTop (mkF m 17 #[.val (.int p1), .val (.int (1 : Int32)), .val (.ref b556)] [(.int (1 : Int32)), (.int (1 : Int32))]))
    refine oG.st (fun _ k => XS.icmpYes X560.here hx rfl (pc0 := 17) (pc' := 27) rfl (hb hby d_method_5_17) rfl (flt (by decide : ¬ ((1 : Int32) < (1 : Int32)))).2.2.2 (by decide) (by decide) k) ?_
    show oG _ _ _ _ (T560.setTop (mkF m 27 #[.val (.int p1), .val (.int (1 : Int32)), .val (.ref b556)] []))
    obtain ⟨T565, h565, X565, e565, E565, A565, D565, U565, st565⟩ := newO X560 hx hZ hown (own_w hw 8 rfl) (own_w hw 9 rfl) (own_w hw 10 rfl) e560 (g := (mkF m 27 #[.val (.int p1), .val (.int (1 : Int32)), .val (.ref b556)] [])) rfl (hb hby d_method_5_27) (by decide) (by decide)
    obtain ⟨b565, g565⟩ : ∃ z, z = h560.size := ⟨_, rfl⟩
    rw [← g565] at A565 D565 U565 st565
    refine oG.st st565 ?_
    have z565 : h560.size ≤ h565.size := E565.1
    have lt_b565 : @LT.lt Nat _ b565 h565.size := A565.lt
    have f566 : Fld Z h565 b565 "java/lang/String" "coder" "B" (.int (0 : Int32)) := D565 (Or.inr (own_w hw 34 rfl)) (ty := .byte) (by decide)
    have f567 : Fld Z h565 b565 "java/lang/String" "value" "[B" .null := D565 (Or.inr (own_w hw 36 rfl)) (ty := (.array .byte)) (by decide)
    have R565 : CHr Z consts_1 s.vm h0 s.vm h565 := R560.trans (CHr.ext E565 R560.1)
    have Sf565 : Safe Z consts_1 s.vm h565 b565 := (Safe.new (Nat.le_of_eq g565.symm)).ext E565 R560.1
    refine oG.st (fun _ k => XS.dup X565.here hx rfl (hb hby d_method_5_30) rfl rfl (XS.aloadN X565.here hx rfl (hb hby d_method_5_31) rfl rfl k)) ?_
    show oG _ _ _ _ (T565.setTop (mkF m 32 #[.val (.int p1), .val (.int (1 : Int32)), .val (.ref b556)] [(.ref b556), (.ref b565), (.ref b565)]))
    have f569 : Arv Z h565 b556 k556 .char (1 : Int32) [(.int (own_c0 p1))] (.int (0 : Int32)) := f564.ext E565
    have f570 : Old Z Z.heap.size h560 := f559.wr W560 gz561
    have f571 : Old Z Z.heap.size h565 := f570.ext E565
    have hp568 : ∀ c ∈ ([(own_c0 p1)] : List Int32), ¬ c < 0 ∧ ¬ (255 : Int32) < c := (own_aS (own_c0l p1) own_a0)
    obtain ⟨_, _, ⟨T568, L568, k568, n568⟩, -, X568, ⟨Lc568, hQ568, l568, y568, z568⟩, st568⟩ := X565.specialBack hx (y := mN19) rfl hown (own_v hZ hw 11 rfl) (own_v hZ hw 12 rfl) (own_v hZ hw 13 rfl) (by decide) (StrChars.Road.backV (W := 1) hZ (own_hws hw) (kI := 4) (own_w hw 9 rfl) (cs := ([(own_c0 p1)] : List Int32)) (bs := (([(own_c0 p1)] : List Int32)).map (fun c => c.toInt8.toInt32)) (n := 1) (n0 := Z.heap.size) (by omega) (by omega) A565 f567 f566 f569 (st_C.ext f571.2) hzc rfl rfl (by decide) (by decide) hp568 rfl (by decide) (by decide)) (g := (mkF m 32 #[.val (.int p1), .val (.int (1 : Int32)), .val (.ref b556)] [(.ref b556), (.ref b565), (.ref b565)])) rfl (by rw [hml]; rfl) (Steps.refl _) (a := b565) (argsL := [(.ref b556)]) (rest := [(.ref b565)]) (lenOf pd_396 rfl) rfl (by show 2 * 0 + _ ≤ _; exact Nat.le_of_eq rfl) (hb hby d_method_5_32) (fun _ _ => ⟨rfl, e565, (by decide : 2 + 1 ≤ _), (by decide : 5 + 1 ≤ _)⟩)
    dsimp only [Pt.U, Pt.locs, Pt.cells, Pt.slots] at X568 l568 y568 z568 st568 hQ568
    subst y568 z568
    obtain ⟨rfl, N568q, K568, Ex568, Cd568, t568, kb568, u568, v568, w568, Vl568, Ar568⟩ := hQ568
    have N568 := own_FrE l568 (Fr.app N560 N568q)
    have z568 : h565.size ≤ T568.heap.size := K568.1
    have R568 : CHr Z consts_1 s.vm h0 s.vm T568.heap := R565.trans (CHr.keep K568 (sfS Sf565 sf0) R565.1)
    have Sf572 : Safe Z consts_1 s.vm T568.heap b565 := Safe.keep K568 (sfS Sf565 sf0) R565.1 Sf565
    have fT568 : own_Str Z T568.heap b565 t568 ([(own_c0 p1)] : List Int32) := ⟨kb568, 0, (1 : Int32), _, Ex568, Vl568, Cd568, Ar568, StrChars.Road.codOf rfl (fun c q => (hp568 c q).2), own_upL hp568, (Nat.le_of_ble_eq_true rfl)⟩
    have lt568 : @LT.lt Nat _ t568 T568.heap.size := fT568.ltv
    refine oG.tr st568 ?_
    show oG _ _ _ _ (T568.setTop (mkF m 35 #[.val (.int p1), .val (.int (1 : Int32)), .val (.ref b556)] [(.ref b565)]))
    obtain ⟨fs573, hr573, hrun573, hend573, hret573⟩ := X568.leaveW hS0 (by omega) (v := some (.ref b565)) (fun h => by rw [Bd.returns] at h; cases h)
    have K574 : Keep h0 h556 [] := (Keep.refl h0 []).ext E556
    have gz575 : h0.size ≤ b556 := by omega
    have K576 : Keep h0 h560 [] := K574.wr W560 (Or.inr gz575)
    have K577 : Keep h0 h565 [] := K576.ext E565
    have gz578 : h0.size ≤ b565 := by omega
    have K579 : Keep h0 T568.heap [] := K577.trans K568 (allS (Or.inr gz578) all0)
    subst hPP
    refine ⟨_, _, own_retA X568 hx Bd.returns rfl rfl (hb hby d_method_5_35) hr573, hrun573, hend573, _, _, rfl, ?_, ?_, hret573.1, hret573.2.1, hret573.2.2.1, hret573.2.2.2.mono (by decide) (by decide)⟩
    · show Q_drawn Z _ _ _ _ h0 _ T568.heap _
      exact ⟨b565, t568, rfl, N568, K579, fT568⟩
    · have hfin := R568.trans (CHv.at X568 hZ hEL R568.1)
      rw [← hh] at hfin
      show CHr Z consts_1 s.vm s.heap T568.vm T568.heap
      exact hfin
  ·
    obtain rfl : p2 = (2 : Int32) := hp2
    refine oG.st (fun _ k => XS.iloadN X0.here hx rfl (hb hby d_method_5_0) rfl k) ?_
    show oG _ _ _ _ (s₁.setTop (mkF m 1 #[.val (.int p1), .val (.int (2 : Int32)), .unset] [(.int (2 : Int32))]))
    obtain ⟨T580, h580, k580, X580, e580, E580, A580, st580⟩ := newP X0 hx hZ (own_w hw 4 rfl) e0 (g := (mkF m 1 #[.val (.int p1), .val (.int (2 : Int32)), .unset] [(.int (2 : Int32))])) rfl (hb hby d_method_5_1) rfl (by decide) (cap := 2) (by decide) (by decide) (by decide) (by decide)
    obtain ⟨b580, g580⟩ : ∃ z, z = h0.size := ⟨_, rfl⟩
    rw [← g580] at A580 st580
    refine oG.st st580 ?_
    have z580 : h0.size ≤ h580.size := E580.1
    have f581 : Arv Z h580 b580 k580 .char (2 : Int32) [(.int (0 : Int32)), (.int (0 : Int32))] (.int (0 : Int32)) := (Arv.new A580 (by decide)).pad (pad_rep [] (.int (0 : Int32)) 2)
    have lt_b580 : @LT.lt Nat _ b580 h580.size := f581.lt
    have R580 : CHr Z consts_1 s.vm h0 s.vm h580 := R0.trans (CHr.ext E580 R0.1)
    refine oG.st (fun _ k => XS.astoreN X580.here hx rfl (hb hby d_method_5_3) rfl rfl (l' := #[.val (.int p1), .val (.int (2 : Int32)), .val (.ref b580)]) rfl (XS.iloadN X580.here hx rfl (hb hby d_method_5_4) rfl k)) ?_
    show oG _ _ _ _ (T580.setTop (mkF m 5 #[.val (.int p1), .val (.int (2 : Int32)), .val (.ref b580)] [(.int (2 : Int32))]))
    refine oG.st (fun _ k => XS.ifNo X580.here hx rfl (hb hby d_method_5_5) rfl ((if0 _ _).trans (tlt (by decide : (0 : Int32) < (2 : Int32))).2.2.2) k) ?_
    refine oG.st (fun _ k => XS.aloadN X580.here hx rfl (hb hby d_method_5_8) rfl rfl (XS.iconst X580.here hx rfl (hb hby d_method_5_9) (XS.iloadN X580.here hx rfl (hb hby d_method_5_10) rfl k))) ?_
    show oG _ _ _ _ (T580.setTop (mkF m 11 #[.val (.int p1), .val (.int (2 : Int32)), .val (.ref b580)] [(.int p1), (.int (0 : Int32)), (.ref b580)]))
    have f583 : Old Z Z.heap.size h580 := OL.ext E580
    obtain ⟨_, _, ⟨T582, L582, k582, n582⟩, -, X582, ⟨Lc582, hQ582, l582, y582, z582⟩, st582⟩ := Jvm.LawKit.callS X580 hx (y := mN2) hown (own_v hZ hw 5 rfl) (own_v hZ hw 6 rfl) (own_v hZ hw 2 rfl) (own_v hZ hw 7 rfl) (by decide) (backOf (W := 2) (rm_c0 l Z a0 hw [] p1 h580 f583 ) hZ (own_w hw 7 rfl) (own_w hw 2 rfl) (by decide) (by decide)) (g := (mkF m 11 #[.val (.int p1), .val (.int (2 : Int32)), .val (.ref b580)] [(.int p1), (.int (0 : Int32)), (.ref b580)])) rfl (by rw [hml]; rfl) (argsL := [(.int p1)]) (rest := [(.int (0 : Int32)), (.ref b580)]) (lenOf pd_402 rfl) rfl (by show 2 * 0 + _ ≤ _; exact Nat.le_of_eq rfl) (hb hby d_method_5_11) (fun _ _ => ⟨rfl, e580, (by decide : 1 + 0 ≤ _), (by decide : 2 + 0 ≤ _)⟩)
    dsimp only [Pt.U, Pt.locs, Pt.cells, Pt.slots] at X582 l582 y582 z582 st582 hQ582
    subst y582 z582
    obtain ⟨rfl, N582q, K582⟩ := hQ582
    have N582 := own_FrE l582 (Fr.app N0 N582q)
    refine oG.st st582 ?_
    show oG _ _ _ _ (T582.setTop (mkF m 14 #[.val (.int p1), .val (.int (2 : Int32)), .val (.ref b580)] [(.int (own_c0 p1)), (.int (0 : Int32)), (.ref b580)]))
    obtain ⟨c584, Ar584, q584, S584, Nn584, H584, G584⟩ := id f581
    have hin584 : ¬ ((0 : Int32) < 0 ∨ c584.slots.size ≤ ((0 : Int32)).toNatClampNeg) := inb_of S584 ⟨by decide, by decide⟩
    obtain ⟨T584, h584, X584, e584, W584, st584⟩ := stC X582 hx hZ K582 Ar584 (j := (0 : Int32)) hin584 (g := (mkF m 14 #[.val (.int p1), .val (.int (2 : Int32)), .val (.ref b580)] [(.int (own_c0 p1)), (.int (0 : Int32)), (.ref b580)])) rfl rfl (hb hby d_method_5_14)
    refine oG.st st584 ?_
    have gz585 : Z.heap.size ≤ b580 := by omega
    have N584 := Fr.snoc X584 N582 gz585
    have Sf587 : Safe Z consts_1 s.vm h580 b580 := Safe.arv hZ.alike f581 (by decide)
    have z584 : h580.size ≤ h584.size := Nat.le_of_eq W584.size.symm
    have f586 := Arv.set Ar584 q584 S584 Nn584 H584 G584 (fits_nar_char _) W584 0 rfl (Nat.le_of_ble_eq_true rfl)
    rw [own_nar (own_up (own_c0l p1))] at f586
    have f588 : Arv Z h584 b580 k580 .char (2 : Int32) [(.int (own_c0 p1)), (.int (0 : Int32))] (.int (0 : Int32)) := f586
    have R584 : CHr Z consts_1 s.vm h0 s.vm h584 := R580.trans (CHr.wr W584 Sf587 R580.1)
    refine oG.st (fun _ k => XS.iloadN X584.here hx rfl (hb hby d_method_5_15) rfl (XS.iconst X584.here hx rfl (hb hby d_method_5_16) k)) ?_
    show oG _ _ _ _ (T584.setTop (mkF m 17 #[.val (.int p1), .val (.int (2 : Int32)), .val (.ref b580)] [(.int (1 : Int32)), (.int (2 : Int32))]))
    refine oG.st (fun _ k => XS.icmpNo X584.here hx rfl (hb hby d_method_5_17) rfl (tlt (by decide : (1 : Int32) < (2 : Int32))).2.2.2 k) ?_
    refine oG.st (fun _ k => XS.aloadN X584.here hx rfl (hb hby d_method_5_20) rfl rfl (XS.iconst X584.here hx rfl (hb hby d_method_5_21) (XS.iloadN X584.here hx rfl (hb hby d_method_5_22) rfl k))) ?_
    show oG _ _ _ _ (T584.setTop (mkF m 23 #[.val (.int p1), .val (.int (2 : Int32)), .val (.ref b580)] [(.int p1), (.int (1 : Int32)), (.ref b580)]))
    have f590 : Old Z Z.heap.size h584 := f583.wr W584 gz585
    obtain ⟨_, _, ⟨T589, L589, k589, n589⟩, -, X589, ⟨Lc589, hQ589, l589, y589, z589⟩, st589⟩ := Jvm.LawKit.callS X584 hx (y := mN3) hown (own_v hZ hw 199 rfl) (own_v hZ hw 200 rfl) (own_v hZ hw 2 rfl) (own_v hZ hw 201 rfl) (by decide) (backOf (W := 2) (rm_c1 l Z a0 hw [] p1 h584 f590 ) hZ (own_w hw 201 rfl) (own_w hw 2 rfl) (by decide) (by decide)) (g := (mkF m 23 #[.val (.int p1), .val (.int (2 : Int32)), .val (.ref b580)] [(.int p1), (.int (1 : Int32)), (.ref b580)])) rfl (by rw [hml]; rfl) (argsL := [(.int p1)]) (rest := [(.int (1 : Int32)), (.ref b580)]) (lenOf pd_402 rfl) rfl (by show 2 * 0 + _ ≤ _; exact Nat.le_of_eq rfl) (hb hby d_method_5_23) (fun _ _ => ⟨rfl, e584, (by decide : 1 + 0 ≤ _), (by decide : 2 + 0 ≤ _)⟩)
    dsimp only [Pt.U, Pt.locs, Pt.cells, Pt.slots] at X589 l589 y589 z589 st589 hQ589
    subst y589 z589
    obtain ⟨rfl, N589q, K589⟩ := hQ589
    have N589 := own_FrE l589 (Fr.app N584 N589q)
    refine oG.st st589 ?_
    show oG _ _ _ _ (T589.setTop (mkF m 26 #[.val (.int p1), .val (.int (2 : Int32)), .val (.ref b580)] [(.int (own_c1 p1)), (.int (1 : Int32)), (.ref b580)]))
    obtain ⟨c591, Ar591, q591, S591, Nn591, H591, G591⟩ := id f588
    have hin591 : ¬ ((1 : Int32) < 0 ∨ c591.slots.size ≤ ((1 : Int32)).toNatClampNeg) := inb_of S591 ⟨by decide, by decide⟩
    obtain ⟨T591, h591, X591, e591, W591, st591⟩ := stC X589 hx hZ K589 Ar591 (j := (1 : Int32)) hin591 (g := (mkF m 26 #[.val (.int p1), .val (.int (2 : Int32)), .val (.ref b580)] [(.int (own_c1 p1)), (.int (1 : Int32)), (.ref b580)])) rfl rfl (hb hby d_method_5_26)
    refine oG.st st591 ?_
    have N591 := Fr.snoc X591 N589 gz585
    have Sf593 : Safe Z consts_1 s.vm h584 b580 := Safe.arv hZ.alike f588 (by decide)
    have z591 : h584.size ≤ h591.size := Nat.le_of_eq W591.size.symm
    have f592 := Arv.set Ar591 q591 S591 Nn591 H591 G591 (fits_nar_char _) W591 1 rfl (Nat.le_of_ble_eq_true rfl)
    rw [own_nar (own_up (own_c1l p1))] at f592
    have f594 : Arv Z h591 b580 k580 .char (2 : Int32) [(.int (own_c0 p1)), (.int (own_c1 p1))] (.int (0 : Int32)) := f592
    have R591 : CHr Z consts_1 s.vm h0 s.vm h591 := R584.trans (CHr.wr W591 Sf593 R584.1)
    show oG _ _ _ _ (T591.setTop (mkF m 27 #[.val (.int p1), .val (.int (2 : Int32)), .val (.ref b580)] []))
    obtain ⟨T595, h595, X595, e595, E595, A595, D595, U595, st595⟩ := newO X591 hx hZ hown (own_w hw 8 rfl) (own_w hw 9 rfl) (own_w hw 10 rfl) e591 (g := (mkF m 27 #[.val (.int p1), .val (.int (2 : Int32)), .val (.ref b580)] [])) rfl (hb hby d_method_5_27) (by decide) (by decide)
    obtain ⟨b595, g595⟩ : ∃ z, z = h591.size := ⟨_, rfl⟩
    rw [← g595] at A595 D595 U595 st595
    refine oG.st st595 ?_
    have z595 : h591.size ≤ h595.size := E595.1
    have lt_b595 : @LT.lt Nat _ b595 h595.size := A595.lt
    have f596 : Fld Z h595 b595 "java/lang/String" "coder" "B" (.int (0 : Int32)) := D595 (Or.inr (own_w hw 34 rfl)) (ty := .byte) (by decide)
    have f597 : Fld Z h595 b595 "java/lang/String" "value" "[B" .null := D595 (Or.inr (own_w hw 36 rfl)) (ty := (.array .byte)) (by decide)
    have R595 : CHr Z consts_1 s.vm h0 s.vm h595 := R591.trans (CHr.ext E595 R591.1)
    have Sf595 : Safe Z consts_1 s.vm h595 b595 := (Safe.new (Nat.le_of_eq g595.symm)).ext E595 R591.1
    refine oG.st (fun _ k => XS.dup X595.here hx rfl (hb hby d_method_5_30) rfl rfl (XS.aloadN X595.here hx rfl (hb hby d_method_5_31) rfl rfl k)) ?_
    show oG _ _ _ _ (T595.setTop (mkF m 32 #[.val (.int p1), .val (.int (2 : Int32)), .val (.ref b580)] [(.ref b580), (.ref b595), (.ref b595)]))
    have f599 : Arv Z h595 b580 k580 .char (2 : Int32) [(.int (own_c0 p1)), (.int (own_c1 p1))] (.int (0 : Int32)) := f594.ext E595
    have f600 : Old Z Z.heap.size h591 := f590.wr W591 gz585
    have f601 : Old Z Z.heap.size h595 := f600.ext E595
    have hp598 : ∀ c ∈ ([(own_c0 p1), (own_c1 p1)] : List Int32), ¬ c < 0 ∧ ¬ (255 : Int32) < c := (own_aS (own_c0l p1) (own_aS (own_c1l p1) own_a0))
    obtain ⟨_, _, ⟨T598, L598, k598, n598⟩, -, X598, ⟨Lc598, hQ598, l598, y598, z598⟩, st598⟩ := X595.specialBack hx (y := mN19) rfl hown (own_v hZ hw 11 rfl) (own_v hZ hw 12 rfl) (own_v hZ hw 13 rfl) (by decide) (StrChars.Road.backV (W := 1) hZ (own_hws hw) (kI := 4) (own_w hw 9 rfl) (cs := ([(own_c0 p1), (own_c1 p1)] : List Int32)) (bs := (([(own_c0 p1), (own_c1 p1)] : List Int32)).map (fun c => c.toInt8.toInt32)) (n := 2) (n0 := Z.heap.size) (by omega) (by omega) A595 f597 f596 f599 (st_C.ext f601.2) hzc rfl rfl (by decide) (by decide) hp598 rfl (by decide) (by decide)) (g := (mkF m 32 #[.val (.int p1), .val (.int (2 : Int32)), .val (.ref b580)] [(.ref b580), (.ref b595), (.ref b595)])) rfl (by rw [hml]; rfl) (Steps.refl _) (a := b595) (argsL := [(.ref b580)]) (rest := [(.ref b595)]) (lenOf pd_396 rfl) rfl (by show 2 * 0 + _ ≤ _; exact Nat.le_of_eq rfl) (hb hby d_method_5_32) (fun _ _ => ⟨rfl, e595, (by decide : 2 + 1 ≤ _), (by decide : 6 + 2 ≤ _)⟩)
    dsimp only [Pt.U, Pt.locs, Pt.cells, Pt.slots] at X598 l598 y598 z598 st598 hQ598
    subst y598 z598
    obtain ⟨rfl, N598q, K598, Ex598, Cd598, t598, kb598, u598, v598, w598, Vl598, Ar598⟩ := hQ598
    have N598 := own_FrE l598 (Fr.app N591 N598q)
    have z598 : h595.size ≤ T598.heap.size := K598.1
    have R598 : CHr Z consts_1 s.vm h0 s.vm T598.heap := R595.trans (CHr.keep K598 (sfS Sf595 sf0) R595.1)
    have Sf602 : Safe Z consts_1 s.vm T598.heap b595 := Safe.keep K598 (sfS Sf595 sf0) R595.1 Sf595
    have fT598 : own_Str Z T598.heap b595 t598 ([(own_c0 p1), (own_c1 p1)] : List Int32) := ⟨kb598, 0, (2 : Int32), _, Ex598, Vl598, Cd598, Ar598, StrChars.Road.codOf rfl (fun c q => (hp598 c q).2), own_upL hp598, (Nat.le_of_ble_eq_true rfl)⟩
    have lt598 : @LT.lt Nat _ t598 T598.heap.size := fT598.ltv
    refine oG.tr st598 ?_
    show oG _ _ _ _ (T598.setTop (mkF m 35 #[.val (.int p1), .val (.int (2 : Int32)), .val (.ref b580)] [(.ref b595)]))
    obtain ⟨fs603, hr603, hrun603, hend603, hret603⟩ := X598.leaveW hS0 (by omega) (v := some (.ref b595)) (fun h => by rw [Bd.returns] at h; cases h)
    have K604 : Keep h0 h580 [] := (Keep.refl h0 []).ext E580
    have gz605 : h0.size ≤ b580 := by omega
    have K606 : Keep h0 h584 [] := K604.wr W584 (Or.inr gz605)
    have K607 : Keep h0 h591 [] := K606.wr W591 (Or.inr gz605)
    have K608 : Keep h0 h595 [] := K607.ext E595
    have gz609 : h0.size ≤ b595 := by omega
    have K610 : Keep h0 T598.heap [] := K608.trans K598 (allS (Or.inr gz609) all0)
    subst hPP
    refine ⟨_, _, own_retA X598 hx Bd.returns rfl rfl (hb hby d_method_5_35) hr603, hrun603, hend603, _, _, rfl, ?_, ?_, hret603.1, hret603.2.1, hret603.2.2.1, hret603.2.2.2.mono (by decide) (by decide)⟩
    · show Q_drawn Z _ _ _ _ h0 _ T598.heap _
      exact ⟨b595, t598, rfl, N598, K610, fT598⟩
    · have hfin := R598.trans (CHv.at X598 hZ hEL R598.1)
      rw [← hh] at hfin
      show CHr Z consts_1 s.vm s.heap T598.vm T598.heap
      exact hfin
theorem ef_410 (m : MethodId) (x0 : Nat) (x1 : Int32) (x2 : Int32) (x3 : Int32) : entryFrame m #[(.ref x0), (.int x1), (.int x2), (.int x3)] 4 = mkF m 0 #[.val (.ref x0), .val (.int x1), .val (.int x2), .val (.int x3)] [] := by first | (simp [entryFrame, mkF, argsToLocals, Value.category]; done) | rfl
theorem d_method_6_0 : decode cJ21 0 = .ok (.iload_n 3, 1) := by decide +kernel
theorem d_method_6_1 : decode cJ21 1 = .ok (.ifCond .le 10, 3) := by decide +kernel
theorem d_method_6_11 : decode cJ21 11 = .ok (.iload_n 3, 1) := by decide +kernel
theorem d_method_6_12 : decode cJ21 12 = .ok (.iconst 1, 1) := by decide +kernel
theorem d_method_6_13 : decode cJ21 13 = .ok (.if_icmp .le 12, 3) := by decide +kernel
theorem d_method_6_25 : decode cJ21 25 = .ok (.iload_n 1, 1) := by decide +kernel
theorem d_method_6_26 : decode cJ21 26 = .ok (.iload_n 3, 1) := by decide +kernel
theorem d_method_6_27 : decode cJ21 27 = .ok (.iadd, 1) := by decide +kernel
theorem d_method_6_28 : decode cJ21 28 = .ok (.ireturn, 1) := by decide +kernel
theorem d_method_6_4 : decode cJ21 4 = .ok (.aload_n 0, 1) := by decide +kernel
theorem d_method_6_5 : decode cJ21 5 = .ok (.iload_n 1, 1) := by decide +kernel
theorem d_method_6_6 : decode cJ21 6 = .ok (.iload_n 2, 1) := by decide +kernel
theorem d_method_6_7 : decode cJ21 7 = .ok (.invokestatic 32, 3) := by decide +kernel
theorem d_method_6_10 : decode cJ21 10 = .ok (.castore, 1) := by decide +kernel
theorem d_method_6_16 : decode cJ21 16 = .ok (.aload_n 0, 1) := by decide +kernel
theorem d_method_6_17 : decode cJ21 17 = .ok (.iload_n 1, 1) := by decide +kernel
theorem d_method_6_18 : decode cJ21 18 = .ok (.iconst 1, 1) := by decide +kernel
theorem d_method_6_19 : decode cJ21 19 = .ok (.iadd, 1) := by decide +kernel
theorem d_method_6_20 : decode cJ21 20 = .ok (.iload_n 2, 1) := by decide +kernel
theorem d_method_6_21 : decode cJ21 21 = .ok (.invokestatic 36, 3) := by decide +kernel
theorem d_method_6_24 : decode cJ21 24 = .ok (.castore, 1) := by decide +kernel
def Q_put (Z : State) (a1 : Nat) (p2 : Int32) (p3 : Int32) (p4 : Int32) (n : Nat) (es : List Int32) (k : ClassId) (NN : Nat) (h0 : Heap) (v : Option Value) (h : Heap) (L : List Loc) : Prop := v = some (.int (Int32.ofNat (es ++ own_seg p3 n).length)) ∧ Fr Z.heap.size L ∧ Keep h0 h [a1] ∧ Arv Z h a1 k .char (Int32.ofNat NN) ((es ++ own_seg p3 n).map Value.int) (.int (0 : Int32))
set_option maxRecDepth 65536 in
set_option maxHeartbeats 40000000 in
theorem rm_put (l : Launch) (Z : State) (a0 : Array Value) (hw : ∀ d ∈ tables_1, d.before a0 Z = true) (ws : List Jvm.Cond) (a1 : Nat) (p2 : Int32) (p3 : Int32) (p4 : Int32) (n : Nat) (es : List Int32) (k : ClassId) (NN : Nat) (h0 : Heap) (OL : Old Z Z.heap.size h0) (p0_ : Arv Z h0 a1 k .char (Int32.ofNat NN) (es.map Value.int) (.int (0 : Int32))) (hp2 : p2 = Int32.ofNat es.length) (hp4 : p4 = Int32.ofNat n) (hn : n ≤ 2) (hfit : es.length + n ≤ NN) (hNN : NN ≤ 100) (hn0 : Z.heap.size ≤ a1) :
    MetFree l mN5 (head1 (Jvm.Cond.code mN5 method_6_code 4 (some .int) :: ws) rM4) (fun a U => a = #[(.ref a1), (.int p2), (.int p3), (.int p4)] ∧ Z.Warmed39 U.vm ∧ U.heap = h0) (fun _ _ _ _ _ => True) (fun _ U o U' => ∃ v L, o = .returned v ∧ Q_put Z a1 p2 p3 p4 n es k NN h0 v U'.heap L ∧ FrameEnd U o U' L rM4.cells rM4.slots) := by
  refine MetFree.of_bodySF (plainFor_of_name pn_370) hisR ?_
  intro p e s m args below meth c s₁ Bd hml0 hP hK
  obtain ⟨rfl, hZ, hh⟩ := hP
  have hx := Bd.exec
  have hby := Bd.bytes
  have hml : c.maxLocals = 4 := hml0
  have hown : s.vm.findClass "com/example/vigilant_gate/vigilantgate/IdentityArnsAssumedRolePinLaw" = some m.cls := findClass_of_methodNamed Bd.named
  have hnm := (name_of_methodNamed Bd.named Bd.method).1
  have X0 : Stand p l e rM4 s m #[(.ref a1), (.int p2), (.int p3), (.int p4)] below meth c s₁ [] 0 0 := Stand.of_body Bd
  have e0 : s₁.heap = h0 := by rw [← hh, Bd.state]; rfl
  have N0 := Fr.nil Z.heap.size
  have Z0 : Z.heap.size ≤ h0.size := OL.2.1
  have lt_0 : @LT.lt Nat _ a1 h0.size := p0_.lt
  show oG p.tables e below (fun o tE => ∃ v L, o = .returned v ∧ Q_put Z a1 p2 p3 p4 n es k NN h0 v tE.heap L ∧ FrameEnd s o tE L rM4.cells rM4.slots) (s₁.setTop (entryFrame m #[(.ref a1), (.int p2), (.int p3), (.int p4)] 4))
  refine own_hd (fun PP hPP => ?_)
  refine oG.st (fun t k => castTop (ef_410 m a1 p2 p3 p4) k) ?_
  subst hp2
  show oG _ _ _ _ (s₁.setTop (mkF m 0 #[.val (.ref a1), .val (.int (Int32.ofNat es.length)), .val (.int p3), .val (.int p4)] []))
  have hn3 := own_le2 hn
  rcases hn3 with rfl | rfl | rfl
  ·
    obtain rfl : p4 = (0 : Int32) := hp4
    refine oG.st (fun _ k => XS.iloadN X0.here hx rfl (hb hby d_method_6_0) rfl k) ?_
    show oG _ _ _ _ (s₁.setTop (mkF m 1 #[.val (.ref a1), .val (.int (Int32.ofNat es.length)), .val (.int p3), .val (.int (0 : Int32))] [(.int (0 : Int32))]))
    refine oG.st (fun _ k => XS.ifYes X0.here hx rfl (pc0 := 1) (pc' := 11) rfl (hb hby d_method_6_1) rfl ((if0 _ _).trans (flt (by decide : ¬ ((0 : Int32) < (0 : Int32)))).2.2.2) (by decide) (by decide) k) ?_
    refine oG.st (fun _ k => XS.iloadN X0.here hx rfl (hb hby d_method_6_11) rfl (XS.iconst X0.here hx rfl (hb hby d_method_6_12) k)) ?_
    show oG _ _ _ _ (s₁.setTop (mkF m 13 #[.val (.ref a1), .val (.int (Int32.ofNat es.length)), .val (.int p3), .val (.int (0 : Int32))] [(.int (1 : Int32)), (.int (0 : Int32))]))
    refine oG.st (fun _ k => XS.icmpYes X0.here hx rfl (pc0 := 13) (pc' := 25) rfl (hb hby d_method_6_13) rfl (flt (by decide : ¬ ((1 : Int32) < (0 : Int32)))).2.2.2 (by decide) (by decide) k) ?_
    refine oG.st (fun _ k => XS.iloadN X0.here hx rfl (hb hby d_method_6_25) rfl (XS.iloadN X0.here hx rfl (hb hby d_method_6_26) rfl (XS.iadd X0.here hx rfl (hb hby d_method_6_27) rfl k))) ?_
    show oG _ _ _ _ (s₁.setTop (mkF m 28 #[.val (.ref a1), .val (.int (Int32.ofNat es.length)), .val (.int p3), .val (.int (0 : Int32))] [(.int ((Int32.ofNat es.length) + (0 : Int32)))]))
    obtain ⟨fs611, hr611, hrun611, hend611, hW611, hsm611⟩ := X0.leave (v := some (.int ((Int32.ofNat es.length) + (0 : Int32)))) (fun h => by rw [Bd.returns] at h; cases h)
    have f612 : Arv Z h0 a1 k .char (Int32.ofNat NN) ((es ++ own_seg p3 0).map Value.int) (.int (0 : Int32)) := by
      have q := p0_
      simpa [own_seg] using q
    subst hPP
    refine ⟨_, _, own_retI X0 hx Bd.returns (hb hby d_method_6_28) hr611, hrun611, hend611, _, _, rfl, ?_, ⟨_, rfl⟩, hW611, hsm611.mono (by decide) (by decide)⟩
    · show Q_put Z _ _ _ _ _ _ _ _ h0 _ s₁.heap _
      rw [e0]
      exact ⟨(congrArg (fun z => some (Value.int z)) ((own_ofA (i := es.length) (j := 0) (by omega)).trans (congrArg Int32.ofNat (by rw [List.length_append, own_segl (by omega)])))), N0, (Keep.refl h0 [a1]), f612⟩
  ·
    obtain rfl : p4 = (1 : Int32) := hp4
    refine oG.st (fun _ k => XS.iloadN X0.here hx rfl (hb hby d_method_6_0) rfl k) ?_
    show oG _ _ _ _ (s₁.setTop (mkF m 1 #[.val (.ref a1), .val (.int (Int32.ofNat es.length)), .val (.int p3), .val (.int (1 : Int32))] [(.int (1 : Int32))]))
    refine oG.st (fun _ k => XS.ifNo X0.here hx rfl (hb hby d_method_6_1) rfl ((if0 _ _).trans (tlt (by decide : (0 : Int32) < (1 : Int32))).2.2.2) k) ?_
    refine oG.st (fun _ k => XS.aloadN X0.here hx rfl (hb hby d_method_6_4) rfl rfl (XS.iloadN X0.here hx rfl (hb hby d_method_6_5) rfl (XS.iloadN X0.here hx rfl (hb hby d_method_6_6) rfl k))) ?_
    show oG _ _ _ _ (s₁.setTop (mkF m 7 #[.val (.ref a1), .val (.int (Int32.ofNat es.length)), .val (.int p3), .val (.int (1 : Int32))] [(.int p3), (.int (Int32.ofNat es.length)), (.ref a1)]))
    obtain ⟨_, _, ⟨T613, L613, k613, n613⟩, -, X613, ⟨Lc613, hQ613, l613, y613, z613⟩, st613⟩ := Jvm.LawKit.callS X0 hx (y := mN2) hown (own_v hZ hw 5 rfl) (own_v hZ hw 6 rfl) (own_v hZ hw 2 rfl) (own_v hZ hw 7 rfl) (by decide) (backOf (W := 2) (rm_c0 l Z a0 hw [] p3 h0 OL ) hZ (own_w hw 7 rfl) (own_w hw 2 rfl) (by decide) (by decide)) (g := (mkF m 7 #[.val (.ref a1), .val (.int (Int32.ofNat es.length)), .val (.int p3), .val (.int (1 : Int32))] [(.int p3), (.int (Int32.ofNat es.length)), (.ref a1)])) rfl (by rw [hml]; rfl) (argsL := [(.int p3)]) (rest := [(.int (Int32.ofNat es.length)), (.ref a1)]) (lenOf pd_402 rfl) rfl (by show 2 * 0 + _ ≤ _; exact Nat.le_of_eq rfl) (hb hby d_method_6_7) (fun _ _ => ⟨rfl, e0, (by decide : 0 + 0 ≤ _), (by decide : 0 + 0 ≤ _)⟩)
    dsimp only [Pt.U, Pt.locs, Pt.cells, Pt.slots] at X613 l613 y613 z613 st613 hQ613
    subst y613 z613
    obtain ⟨rfl, N613q, K613⟩ := hQ613
    have N613 := own_FrE l613 (Fr.app N0 N613q)
    refine oG.st st613 ?_
    show oG _ _ _ _ (T613.setTop (mkF m 10 #[.val (.ref a1), .val (.int (Int32.ofNat es.length)), .val (.int p3), .val (.int (1 : Int32))] [(.int (own_c0 p3)), (.int (Int32.ofNat es.length)), (.ref a1)]))
    have hj10 : (Int32.ofNat es.length) = Int32.ofNat es.length := rfl
    obtain ⟨c614, Ar614, q614, S614, Nn614, H614, G614⟩ := id p0_
    have hin614 : ¬ ((Int32.ofNat es.length) < 0 ∨ c614.slots.size ≤ ((Int32.ofNat es.length)).toNatClampNeg) := inb_of S614 ⟨by rw [hj10]; exact own_of0 (by (try simp only [List.length_append, List.length_cons, List.length_nil]); omega), by rw [hj10]; exact (own_oflt (by (try simp only [List.length_append, List.length_cons, List.length_nil]); omega) (by (try simp only [List.length_append, List.length_cons, List.length_nil]); omega)).mpr (by (try simp only [List.length_append, List.length_cons, List.length_nil]); omega)⟩
    obtain ⟨T614, h614, X614, e614, W614, st614⟩ := stC X613 hx hZ K613 Ar614 (j := (Int32.ofNat es.length)) hin614 (g := (mkF m 10 #[.val (.ref a1), .val (.int (Int32.ofNat es.length)), .val (.int p3), .val (.int (1 : Int32))] [(.int (own_c0 p3)), (.int (Int32.ofNat es.length)), (.ref a1)])) rfl rfl (hb hby d_method_6_10)
    refine oG.st st614 ?_
    have gz615 : Z.heap.size ≤ a1 := by omega
    have N614 := Fr.snoc X614 N613 gz615
    have z614 : h0.size ≤ h614.size := Nat.le_of_eq W614.size.symm
    have f617 : Arv Z h614 a1 k .char (Int32.ofNat NN) ((es ++ [(own_c0 p3)]).map Value.int) (.int (0 : Int32)) := own_push p0_ W614 hj10 (by (try simp only [List.length_append, List.length_cons, List.length_nil]); omega) (own_up (own_c0l p3))
    refine oG.st (fun _ k => XS.iloadN X614.here hx rfl (hb hby d_method_6_11) rfl (XS.iconst X614.here hx rfl (hb hby d_method_6_12) k)) ?_
    show oG _ _ _ _ (T614.setTop (mkF m 13 #[.val (.ref a1), .val (.int (Int32.ofNat es.length)), .val (.int p3), .val (.int (1 : Int32))] [(.int (1 : Int32)), (.int (1 : Int32))]))
    refine oG.st (fun _ k => XS.icmpYes X614.here hx rfl (pc0 := 13) (pc' := 25) rfl (hb hby d_method_6_13) rfl (flt (by decide : ¬ ((1 : Int32) < (1 : Int32)))).2.2.2 (by decide) (by decide) k) ?_
    refine oG.st (fun _ k => XS.iloadN X614.here hx rfl (hb hby d_method_6_25) rfl (XS.iloadN X614.here hx rfl (hb hby d_method_6_26) rfl (XS.iadd X614.here hx rfl (hb hby d_method_6_27) rfl k))) ?_
    show oG _ _ _ _ (T614.setTop (mkF m 28 #[.val (.ref a1), .val (.int (Int32.ofNat es.length)), .val (.int p3), .val (.int (1 : Int32))] [(.int ((Int32.ofNat es.length) + (1 : Int32)))]))
    obtain ⟨fs618, hr618, hrun618, hend618, hW618, hsm618⟩ := X614.leave (v := some (.int ((Int32.ofNat es.length) + (1 : Int32)))) (fun h => by rw [Bd.returns] at h; cases h)
    have f619 : Arv Z h614 a1 k .char (Int32.ofNat NN) ((es ++ own_seg p3 1).map Value.int) (.int (0 : Int32)) := by
      have q := f617
      simpa [own_seg] using q
    have K620 : Keep h0 h614 [a1] := (Keep.refl h0 [a1]).wr W614 (Or.inl (List.mem_of_getElem? (i := 0) rfl))
    subst hPP
    refine ⟨_, _, own_retI X614 hx Bd.returns (hb hby d_method_6_28) hr618, hrun618, hend618, _, _, rfl, ?_, ⟨_, rfl⟩, hW618, hsm618.mono (by decide) (by decide)⟩
    · show Q_put Z _ _ _ _ _ _ _ _ h0 _ T614.heap _
      rw [e614]
      exact ⟨(congrArg (fun z => some (Value.int z)) ((own_ofA (i := es.length) (j := 1) (by omega)).trans (congrArg Int32.ofNat (by rw [List.length_append, own_segl (by omega)])))), N614, K620, f619⟩
  ·
    obtain rfl : p4 = (2 : Int32) := hp4
    refine oG.st (fun _ k => XS.iloadN X0.here hx rfl (hb hby d_method_6_0) rfl k) ?_
    show oG _ _ _ _ (s₁.setTop (mkF m 1 #[.val (.ref a1), .val (.int (Int32.ofNat es.length)), .val (.int p3), .val (.int (2 : Int32))] [(.int (2 : Int32))]))
    refine oG.st (fun _ k => XS.ifNo X0.here hx rfl (hb hby d_method_6_1) rfl ((if0 _ _).trans (tlt (by decide : (0 : Int32) < (2 : Int32))).2.2.2) k) ?_
    refine oG.st (fun _ k => XS.aloadN X0.here hx rfl (hb hby d_method_6_4) rfl rfl (XS.iloadN X0.here hx rfl (hb hby d_method_6_5) rfl (XS.iloadN X0.here hx rfl (hb hby d_method_6_6) rfl k))) ?_
    show oG _ _ _ _ (s₁.setTop (mkF m 7 #[.val (.ref a1), .val (.int (Int32.ofNat es.length)), .val (.int p3), .val (.int (2 : Int32))] [(.int p3), (.int (Int32.ofNat es.length)), (.ref a1)]))
    obtain ⟨_, _, ⟨T621, L621, k621, n621⟩, -, X621, ⟨Lc621, hQ621, l621, y621, z621⟩, st621⟩ := Jvm.LawKit.callS X0 hx (y := mN2) hown (own_v hZ hw 5 rfl) (own_v hZ hw 6 rfl) (own_v hZ hw 2 rfl) (own_v hZ hw 7 rfl) (by decide) (backOf (W := 2) (rm_c0 l Z a0 hw [] p3 h0 OL ) hZ (own_w hw 7 rfl) (own_w hw 2 rfl) (by decide) (by decide)) (g := (mkF m 7 #[.val (.ref a1), .val (.int (Int32.ofNat es.length)), .val (.int p3), .val (.int (2 : Int32))] [(.int p3), (.int (Int32.ofNat es.length)), (.ref a1)])) rfl (by rw [hml]; rfl) (argsL := [(.int p3)]) (rest := [(.int (Int32.ofNat es.length)), (.ref a1)]) (lenOf pd_402 rfl) rfl (by show 2 * 0 + _ ≤ _; exact Nat.le_of_eq rfl) (hb hby d_method_6_7) (fun _ _ => ⟨rfl, e0, (by decide : 0 + 0 ≤ _), (by decide : 0 + 0 ≤ _)⟩)
    dsimp only [Pt.U, Pt.locs, Pt.cells, Pt.slots] at X621 l621 y621 z621 st621 hQ621
    subst y621 z621
    obtain ⟨rfl, N621q, K621⟩ := hQ621
    have N621 := own_FrE l621 (Fr.app N0 N621q)
    refine oG.st st621 ?_
    show oG _ _ _ _ (T621.setTop (mkF m 10 #[.val (.ref a1), .val (.int (Int32.ofNat es.length)), .val (.int p3), .val (.int (2 : Int32))] [(.int (own_c0 p3)), (.int (Int32.ofNat es.length)), (.ref a1)]))
    have hj10 : (Int32.ofNat es.length) = Int32.ofNat es.length := rfl
    obtain ⟨c622, Ar622, q622, S622, Nn622, H622, G622⟩ := id p0_
    have hin622 : ¬ ((Int32.ofNat es.length) < 0 ∨ c622.slots.size ≤ ((Int32.ofNat es.length)).toNatClampNeg) := inb_of S622 ⟨by rw [hj10]; exact own_of0 (by (try simp only [List.length_append, List.length_cons, List.length_nil]); omega), by rw [hj10]; exact (own_oflt (by (try simp only [List.length_append, List.length_cons, List.length_nil]); omega) (by (try simp only [List.length_append, List.length_cons, List.length_nil]); omega)).mpr (by (try simp only [List.length_append, List.length_cons, List.length_nil]); omega)⟩
    obtain ⟨T622, h622, X622, e622, W622, st622⟩ := stC X621 hx hZ K621 Ar622 (j := (Int32.ofNat es.length)) hin622 (g := (mkF m 10 #[.val (.ref a1), .val (.int (Int32.ofNat es.length)), .val (.int p3), .val (.int (2 : Int32))] [(.int (own_c0 p3)), (.int (Int32.ofNat es.length)), (.ref a1)])) rfl rfl (hb hby d_method_6_10)
    refine oG.st st622 ?_
    have gz623 : Z.heap.size ≤ a1 := by omega
    have N622 := Fr.snoc X622 N621 gz623
    have z622 : h0.size ≤ h622.size := Nat.le_of_eq W622.size.symm
    have f625 : Arv Z h622 a1 k .char (Int32.ofNat NN) ((es ++ [(own_c0 p3)]).map Value.int) (.int (0 : Int32)) := own_push p0_ W622 hj10 (by (try simp only [List.length_append, List.length_cons, List.length_nil]); omega) (own_up (own_c0l p3))
    refine oG.st (fun _ k => XS.iloadN X622.here hx rfl (hb hby d_method_6_11) rfl (XS.iconst X622.here hx rfl (hb hby d_method_6_12) k)) ?_
    show oG _ _ _ _ (T622.setTop (mkF m 13 #[.val (.ref a1), .val (.int (Int32.ofNat es.length)), .val (.int p3), .val (.int (2 : Int32))] [(.int (1 : Int32)), (.int (2 : Int32))]))
    refine oG.st (fun _ k => XS.icmpNo X622.here hx rfl (hb hby d_method_6_13) rfl (tlt (by decide : (1 : Int32) < (2 : Int32))).2.2.2 k) ?_
    refine oG.st (fun _ k => XS.aloadN X622.here hx rfl (hb hby d_method_6_16) rfl rfl (XS.iloadN X622.here hx rfl (hb hby d_method_6_17) rfl (XS.iconst X622.here hx rfl (hb hby d_method_6_18) (XS.iadd X622.here hx rfl (hb hby d_method_6_19) rfl (XS.iloadN X622.here hx rfl (hb hby d_method_6_20) rfl k))))) ?_
    show oG _ _ _ _ (T622.setTop (mkF m 21 #[.val (.ref a1), .val (.int (Int32.ofNat es.length)), .val (.int p3), .val (.int (2 : Int32))] [(.int p3), (.int ((Int32.ofNat es.length) + (1 : Int32))), (.ref a1)]))
    have f627 : Old Z Z.heap.size h622 := OL.wr W622 gz623
    obtain ⟨_, _, ⟨T626, L626, k626, n626⟩, -, X626, ⟨Lc626, hQ626, l626, y626, z626⟩, st626⟩ := Jvm.LawKit.callS X622 hx (y := mN3) hown (own_v hZ hw 199 rfl) (own_v hZ hw 200 rfl) (own_v hZ hw 2 rfl) (own_v hZ hw 201 rfl) (by decide) (backOf (W := 2) (rm_c1 l Z a0 hw [] p3 h622 f627 ) hZ (own_w hw 201 rfl) (own_w hw 2 rfl) (by decide) (by decide)) (g := (mkF m 21 #[.val (.ref a1), .val (.int (Int32.ofNat es.length)), .val (.int p3), .val (.int (2 : Int32))] [(.int p3), (.int ((Int32.ofNat es.length) + (1 : Int32))), (.ref a1)])) rfl (by rw [hml]; rfl) (argsL := [(.int p3)]) (rest := [(.int ((Int32.ofNat es.length) + (1 : Int32))), (.ref a1)]) (lenOf pd_402 rfl) rfl (by show 2 * 0 + _ ≤ _; exact Nat.le_of_eq rfl) (hb hby d_method_6_21) (fun _ _ => ⟨rfl, e622, (by decide : 0 + 0 ≤ _), (by decide : 0 + 0 ≤ _)⟩)
    dsimp only [Pt.U, Pt.locs, Pt.cells, Pt.slots] at X626 l626 y626 z626 st626 hQ626
    subst y626 z626
    obtain ⟨rfl, N626q, K626⟩ := hQ626
    have N626 := own_FrE l626 (Fr.app N622 N626q)
    refine oG.st st626 ?_
    show oG _ _ _ _ (T626.setTop (mkF m 24 #[.val (.ref a1), .val (.int (Int32.ofNat es.length)), .val (.int p3), .val (.int (2 : Int32))] [(.int (own_c1 p3)), (.int ((Int32.ofNat es.length) + (1 : Int32))), (.ref a1)]))
    have hj24 : ((Int32.ofNat es.length) + (1 : Int32)) = Int32.ofNat (es ++ [(own_c0 p3)]).length := ((own_ofA (i := es.length) (j := 1) (by (try simp only [List.length_append, List.length_cons, List.length_nil]); omega)).trans (congrArg Int32.ofNat (by simp only [List.length_append, List.length_cons, List.length_nil] <;> omega)))
    obtain ⟨c628, Ar628, q628, S628, Nn628, H628, G628⟩ := id f625
    have hin628 : ¬ (((Int32.ofNat es.length) + (1 : Int32)) < 0 ∨ c628.slots.size ≤ (((Int32.ofNat es.length) + (1 : Int32))).toNatClampNeg) := inb_of S628 ⟨by rw [hj24]; exact own_of0 (by (try simp only [List.length_append, List.length_cons, List.length_nil]); omega), by rw [hj24]; exact (own_oflt (by (try simp only [List.length_append, List.length_cons, List.length_nil]); omega) (by (try simp only [List.length_append, List.length_cons, List.length_nil]); omega)).mpr (by (try simp only [List.length_append, List.length_cons, List.length_nil]); omega)⟩
    obtain ⟨T628, h628, X628, e628, W628, st628⟩ := stC X626 hx hZ K626 Ar628 (j := ((Int32.ofNat es.length) + (1 : Int32))) hin628 (g := (mkF m 24 #[.val (.ref a1), .val (.int (Int32.ofNat es.length)), .val (.int p3), .val (.int (2 : Int32))] [(.int (own_c1 p3)), (.int ((Int32.ofNat es.length) + (1 : Int32))), (.ref a1)])) rfl rfl (hb hby d_method_6_24)
    refine oG.st st628 ?_
    have N628 := Fr.snoc X628 N626 gz623
    have z628 : h622.size ≤ h628.size := Nat.le_of_eq W628.size.symm
    have f630 : Arv Z h628 a1 k .char (Int32.ofNat NN) (((es ++ [(own_c0 p3)]) ++ [(own_c1 p3)]).map Value.int) (.int (0 : Int32)) := own_push f625 W628 hj24 (by (try simp only [List.length_append, List.length_cons, List.length_nil]); omega) (own_up (own_c1l p3))
    refine oG.st (fun _ k => XS.iloadN X628.here hx rfl (hb hby d_method_6_25) rfl (XS.iloadN X628.here hx rfl (hb hby d_method_6_26) rfl (XS.iadd X628.here hx rfl (hb hby d_method_6_27) rfl k))) ?_
    show oG _ _ _ _ (T628.setTop (mkF m 28 #[.val (.ref a1), .val (.int (Int32.ofNat es.length)), .val (.int p3), .val (.int (2 : Int32))] [(.int ((Int32.ofNat es.length) + (2 : Int32)))]))
    obtain ⟨fs631, hr631, hrun631, hend631, hW631, hsm631⟩ := X628.leave (v := some (.int ((Int32.ofNat es.length) + (2 : Int32)))) (fun h => by rw [Bd.returns] at h; cases h)
    have f632 : Arv Z h628 a1 k .char (Int32.ofNat NN) ((es ++ own_seg p3 2).map Value.int) (.int (0 : Int32)) := by
      have q := f630
      simpa [own_seg] using q
    have K633 : Keep h0 h622 [a1] := (Keep.refl h0 [a1]).wr W622 (Or.inl (List.mem_of_getElem? (i := 0) rfl))
    have K634 : Keep h0 h628 [a1] := K633.wr W628 (Or.inl (List.mem_of_getElem? (i := 0) rfl))
    subst hPP
    refine ⟨_, _, own_retI X628 hx Bd.returns (hb hby d_method_6_28) hr631, hrun631, hend631, _, _, rfl, ?_, ⟨_, rfl⟩, hW631, hsm631.mono (by decide) (by decide)⟩
    · show Q_put Z _ _ _ _ _ _ _ _ h0 _ T628.heap _
      rw [e628]
      exact ⟨(congrArg (fun z => some (Value.int z)) ((own_ofA (i := es.length) (j := 2) (by omega)).trans (congrArg Int32.ofNat (by rw [List.length_append, own_segl (by omega)])))), N628, K634, f632⟩

theorem own_hjA {X Y : List Int32} {k : Nat} (hX : X.length ≤ 40) (hk : k ≤ 40) (hY : Y.length = X.length + k) : Int32.ofNat X.length + Int32.ofNat k = Int32.ofNat Y.length := (own_ofA (by omega)).trans (congrArg Int32.ofNat hY.symm)
theorem own_inb {L N : Nat} {t : Int32} (ht : t = Int32.ofNat L) (h : L < N) (hN : N ≤ 100) : ¬ t < 0 ∧ t < Int32.ofNat N := by
  subst ht
  exact ⟨own_of0 (by omega), (own_oflt (by omega) (by omega)).mpr h⟩
theorem own_litA {L ka kr ks : Nat} (h : L < 16) : L < 16 + ka + kr + ks := by omega
theorem own_litB {L j ka kr ks : Nat} (h : L = 9 + ka) (hj : j < 7) : L + j < 16 + ka + kr + ks := by omega
theorem own_litC {L j ka kr ks : Nat} (h : L = 15 + ka + kr) (hj : j < 1) : L + j < 16 + ka + kr + ks := by omega
theorem own_len0 {L ka kr ks : Nat} (h : L = 16 + ka + kr + ks) : 0 < L := by omega
theorem own_len22 {L ka kr ks : Nat} (h : L = 16 + ka + kr + ks) (h1 : ka ≤ 2) (h2 : kr ≤ 2) (h3 : ks ≤ 2) : L ≤ 22 := by omega
theorem own_latE {E F : List Int32} (h : F = E) (hF : ∀ c ∈ F, ¬ c < 0 ∧ ¬ (255 : Int32) < c) : ∀ c ∈ E, ¬ c < 0 ∧ ¬ (255 : Int32) < c := h ▸ hF
theorem own_l1000 {L N : Nat} (h : L < N) (hN : N ≤ 100) : L < 1000 := by omega

def Q_initG (Z : State) (a1 : Nat) (a2 : Nat) (nn : Int32) (cs : List Int32) (k1 : ClassId) (d1 : Value) (zc : Int32) (h0 : Heap) (v : Option Value) (h : Heap) (L : List Loc) : Prop := ∃ (t : Nat), v = none ∧ Fr Z.heap.size L ∧ Keep h0 h [a1] ∧ own_Str Z h a1 t cs ∧ (h0.size ≤ t)

set_option maxHeartbeats 4000000 in
theorem own_backG {p : Program} {l : Launch} {e : Env} {R : Room} {s : State} {args : Array Value} {below : List Frame} {len W : Nat} {Z : State} {a0 : Array Value} {h : Heap} (hZ : Z.Warmed39 s.vm) (hw : ∀ d ∈ tables_1, d.before a0 Z = true)
    {x b : Addr} {nn : Int32} {cs : List Int32} {k1 : ClassId} {d1 : Value} {zc : Int32} (OL : Old Z Z.heap.size h) (E : Exa Z h x "java/lang/String") (V : Fld Z h x "java/lang/String" "value" "[B" .null) (C : Fld Z h x "java/lang/String" "coder" "B" (.int (0 : Int32))) (K : Arv Z h b k1 .char nn (cs.map Value.int) d1)
    (s1 : Sta Z Z.heap "java/lang/String" "COMPACT_STRINGS" "Z" (.int zc)) (hnn : nn = Int32.ofNat cs.length) (hlen : 0 < cs.length) (hle : cs.length ≤ 22) (hp : ∀ c ∈ cs, ¬ c < 0 ∧ ¬ (255 : Int32) < c) (hn0 : Z.heap.size ≤ x) (hzc : ¬ zc = 0) (hfr : 6 ≤ R.frames) (hlo : W + (2 + 11) + 76 ≤ R.locals) :
    Back l R p e below s args mN19 len W (fun P a => a = #[.ref x, .ref b] ∧ P.U.heap = h ∧ P.cells + 1 ≤ R.cells ∧ P.slots + 22 ≤ R.slots)
      (fun P _ v B => ∃ L, Q_initG Z x b nn cs k1 d1 zc h v B.U.heap L ∧ B.locs = P.locs ++ L ∧ B.cells = P.cells + 1 ∧ B.slots = P.slots + 22) := by
  have hb := StrChars.Road.backV (p := p) (l := l) (e := e) (R := R) (s := s) (args := args) (below := below) (len := len) (W := W) hZ (own_hws hw) (kI := 4) (own_w hw 9 rfl) (cs := cs) (bs := cs.map (fun c => c.toInt8.toInt32)) (n := cs.length) (n0 := Z.heap.size) hn0 (OL.2.1) E V C K (s1.ext OL.2) hzc rfl hnn hlen (by omega) hp rfl (by omega) (by omega)
  intro m meth c A g ig mk a X hg hs hd hW hm hpre
  obtain ⟨hp1, hp2, hp3, hp4⟩ := hpre
  obtain ⟨v, B, X', ⟨L, hq, hl, hc, hsl⟩, st⟩ := hb m meth c A g ig mk a X hg hs hd hW hm ⟨hp1, hp2, by omega, by omega⟩
  refine ⟨v, ⟨B.U, B.locs, A.cells + 1, A.slots + 22⟩, ?_, ⟨L, ?_, hl, rfl, rfl⟩, st⟩
  · exact X'.wide (fun x hx _ => hx) (by show B.cells ≤ A.cells + 1; omega) (by show B.slots ≤ A.slots + 22; omega)
  · obtain ⟨rfl, N, Kp, Ex, Cd, t, kb, u1, u2, u3, Vl, Ar⟩ := hq
    exact ⟨t, rfl, N, Kp, ⟨kb, 0, nn, _, Ex, Vl, Cd, Ar, hnn ▸ StrChars.Road.codOf rfl (fun c q => (hp c q).2), own_upL hp, by omega⟩, u2⟩

theorem ef_432 (m : MethodId) (x0 : Int32) (x1 : Int32) (x2 : Int32) (x3 : Int32) : entryFrame m #[(.int x0), (.int x1), (.int x2), (.int x3)] maxLocals = mkF m 0 #[.val (.int x0), .val (.int x1), .val (.int x2), .val (.int x3), .unset, .unset, .unset, .unset, .unset, .unset, .unset, .unset, .unset] [] := by first | (simp [entryFrame, mkF, argsToLocals, Value.category, maxLocals]; done) | rfl
theorem pd_433 : parseMethodDescriptor "(II)Ljava/lang/String;" = some ⟨[.int, .int], some (.object "java/lang/String")⟩ := by decide +kernel
theorem pd_434 : parseMethodDescriptor "(Ljava/lang/String;Ljava/lang/String;Ljava/lang/String;)Ljava/lang/String;" = some ⟨[(.object "java/lang/String"), (.object "java/lang/String"), (.object "java/lang/String")], some (.object "java/lang/String")⟩ := by decide +kernel
theorem pd_435 : parseMethodDescriptor "([CIII)I" = some ⟨[(.array .char), .int, .int, .int], some .int⟩ := by decide +kernel
theorem pd_436 : parseMethodDescriptor "(Ljava/lang/Object;)Z" = some ⟨[(.object "java/lang/Object")], some .boolean⟩ := by decide +kernel
def Q_law (Z : State) (p1 : Int32) (p2 : Int32) (p3 : Int32) (p4 : Int32) (zc : Int32) (fm : Value) (h0 : Heap) (v : Option Value) (h : Heap) (L : List Loc) : Prop := v = some (.int (1 : Int32)) ∧ Fr Z.heap.size L ∧ Keep h0 h []
set_option maxRecDepth 65536 in
set_option maxHeartbeats 40000000 in
theorem rm_law (l : Launch) (Z : State) (a0 : Array Value) (hw : ∀ d ∈ tables_1, d.before a0 Z = true) (ws : List Jvm.Cond) (p1 : Int32) (p2 : Int32) (p3 : Int32) (p4 : Int32) (zc : Int32) (fm : Value) (h0 : Heap) (hEL : EW Z a0 consts_1) (OL : Old Z Z.heap.size h0) (st_C : Sta Z Z.heap "java/lang/String" "COMPACT_STRINGS" "Z" (.int zc)) (st_SIOOBE_FORMATTER : Sta Z Z.heap "jdk/internal/util/Preconditions" "SIOOBE_FORMATTER" "Ljava/util/function/BiFunction;" fm) (hzc : ¬ zc = 0) (hfm : fm.isRef = true) :
    MetFree l x (head1 (Jvm.Cond.code x code maxLocals ret :: ws) room_1) (fun a U => a = #[(.int p1), (.int p2), (.int p3), (.int p4)] ∧ Z.Warmed39 U.vm ∧ U.heap = h0 ∧ CHv Z consts_1 U.vm h0) (fun _ _ _ _ _ => True) (fun _ U o U' => ∃ v L, o = .returned v ∧ Q_law Z p1 p2 p3 p4 zc fm h0 v U'.heap L ∧ CHr Z consts_1 U.vm U.heap U'.vm U'.heap ∧ ReturnedEndW U o U' L 64 4672) := by
  refine MetFree.of_bodySF (plainFor_of_name pn_370) hisR ?_
  intro p e s m args below meth c s₁ Bd hml0 hP hK
  obtain ⟨rfl, hZ, hh, hC0⟩ := hP
  have hx := Bd.exec
  have hby := Bd.bytes
  have hml : c.maxLocals = 13 := hml0
  have hown : s.vm.findClass "com/example/vigilant_gate/vigilantgate/IdentityArnsAssumedRolePinLaw" = some m.cls := findClass_of_methodNamed Bd.named
  have hnm := (name_of_methodNamed Bd.named Bd.method).1
  have X0 : Stand p l e room_1 (s.setVm s.vm) m #[(.int p1), (.int p2), (.int p3), (.int p4)] below meth c s₁ [] 0 0 := Stand.of_body Bd
  have e0 : s₁.heap = h0 := by rw [← hh, Bd.state]; rfl
  have N0 := Fr.nil Z.heap.size
  have Z0 : Z.heap.size ≤ h0.size := OL.2.1
  have hS0 : s.Since s.vm h0.size := (State.WarmedH.refl s).since _
  have wS := own_wS hw
  have R0 : CHr Z consts_1 s.vm h0 s.vm h0 := CHr.refl hC0
  show oG p.tables e below (fun o tE => ∃ v L, o = .returned v ∧ Q_law Z p1 p2 p3 p4 zc fm h0 v tE.heap L ∧ CHr Z consts_1 s.vm s.heap tE.vm tE.heap ∧ ReturnedEndW s o tE L 64 4672) (s₁.setTop (entryFrame m #[(.int p1), (.int p2), (.int p3), (.int p4)] maxLocals))
  refine own_hd (fun PP hPP => ?_)
  refine oG.st (fun t k => castTop (ef_432 m p1 p2 p3 p4) k) ?_
  show oG _ _ _ _ (s₁.setTop (mkF m 0 #[.val (.int p1), .val (.int p2), .val (.int p3), .val (.int p4), .unset, .unset, .unset, .unset, .unset, .unset, .unset, .unset, .unset] []))
  have J635 : ∀ (la : Int32) (lr : Int32) (ls : Int32), ((∃ k : Nat, k ≤ 2 ∧ la = Int32.ofNat k) ∧ (∃ k : Nat, k ≤ 2 ∧ lr = Int32.ofNat k) ∧ (∃ k : Nat, k ≤ 2 ∧ ls = Int32.ofNat k)) → oG p.tables e below PP (s₁.setTop (mkF m 25 #[.val (.int p1), .val (.int p2), .val (.int p3), .val (.int p4), .val (.int la), .val (.int lr), .val (.int ls), .unset, .unset, .unset, .unset, .unset, .unset] [])) := by
    intro la lr ls hJ635
    obtain ⟨⟨ka, hka, rfl⟩, ⟨kr, hkr, rfl⟩, ⟨ks, hks, rfl⟩⟩ := hJ635
    refine oG.st (fun _ k => XS.iloadN X0.here hx rfl (hb hby at_25) rfl (XS.iload X0.here hx rfl (hb hby at_26) rfl k)) ?_
    show oG _ _ _ _ (s₁.setTop (mkF m 28 #[.val (.int p1), .val (.int p2), .val (.int p3), .val (.int p4), .val (.int (Int32.ofNat ka)), .val (.int (Int32.ofNat kr)), .val (.int (Int32.ofNat ks)), .unset, .unset, .unset, .unset, .unset, .unset] [(.int (Int32.ofNat ka)), (.int p1)]))
    obtain ⟨_, _, ⟨T636, L636, k636, n636⟩, -, X636, hs636, hg636, ⟨Lc636, hQ636, l636, y636, z636, ch636⟩, st636⟩ := callSS X0 hx (y := mN4) hown (own_v hZ hw 0 rfl) (own_v hZ hw 1 rfl) (own_v hZ hw 2 rfl) (own_v hZ hw 3 rfl) (by decide) (backOfSH (s := s) (vm0 := s.vm) (W := 0) (rm_drawn l Z a0 hw [] p1 (Int32.ofNat ka) ka zc h0 hEL OL st_C hzc rfl hka) hZ (own_w hw 3 rfl) (own_w hw 2 rfl) (by decide) (by decide) hEL R0.1) (g := (mkF m 28 #[.val (.int p1), .val (.int p2), .val (.int p3), .val (.int p4), .val (.int (Int32.ofNat ka)), .val (.int (Int32.ofNat kr)), .val (.int (Int32.ofNat ks)), .unset, .unset, .unset, .unset, .unset, .unset] [(.int (Int32.ofNat ka)), (.int p1)])) rfl (by rw [hml]; rfl) (argsL := [(.int p1), (.int (Int32.ofNat ka))]) (rest := []) (lenOf pd_433 rfl) rfl (by show 2 * 0 + _ ≤ _; exact Nat.le_of_eq rfl) (hb hby at_28) (fun _ _ => ⟨rfl, e0, (by decide : 0 + 8 ≤ _), (by decide : 0 + 30 ≤ _)⟩)
    dsimp only [Pt.U, Pt.locs, Pt.cells, Pt.slots] at X636 l636 y636 z636 st636 hQ636 hs636 hg636 ch636
    subst y636 z636
    obtain ⟨x_636, t_636, rfl, N636q, K636, f636_0⟩ := hQ636
    have N636 := own_FrE l636 (Fr.app N0 N636q)
    obtain ⟨Y636, hS636, hZ636, hown636⟩ := rebS hS0 (n1 := h0.size) (by omega) X636 hs636 (by have := hg636; first | exact this | (rw [← e0]; exact this)) hZ hown
    have z636 : h0.size ≤ T636.heap.size := K636.1
    have R636 : CHr Z consts_1 s.vm h0 T636.vm T636.heap := R0.trans ch636
    have lt636_0 : @LT.lt Nat _ x_636 T636.heap.size := f636_0.lt
    have ltv636_0 : @LT.lt Nat _ t_636 T636.heap.size := f636_0.ltv
    refine oG.tr st636 ?_
    refine oG.st (fun _ k => XS.astore Y636.here hx rfl (hb hby at_31) rfl rfl (l' := #[.val (.int p1), .val (.int p2), .val (.int p3), .val (.int p4), .val (.int (Int32.ofNat ka)), .val (.int (Int32.ofNat kr)), .val (.int (Int32.ofNat ks)), .val (.ref x_636), .unset, .unset, .unset, .unset, .unset]) rfl (XS.iloadN Y636.here hx rfl (hb hby at_33) rfl (XS.iload Y636.here hx rfl (hb hby at_34) rfl k))) ?_
    show oG _ _ _ _ (T636.setTop (mkF m 36 #[.val (.int p1), .val (.int p2), .val (.int p3), .val (.int p4), .val (.int (Int32.ofNat ka)), .val (.int (Int32.ofNat kr)), .val (.int (Int32.ofNat ks)), .val (.ref x_636), .unset, .unset, .unset, .unset, .unset] [(.int (Int32.ofNat kr)), (.int p2)]))
    have f638 : Old Z Z.heap.size T636.heap := OL.keep K636 all0
    obtain ⟨_, _, ⟨T637, L637, k637, n637⟩, -, X637, hs637, hg637, ⟨Lc637, hQ637, l637, y637, z637, ch637⟩, st637⟩ := callSS Y636 hx (y := mN4) hown636 (own_v hZ636 hw 0 rfl) (own_v hZ636 hw 1 rfl) (own_v hZ636 hw 2 rfl) (own_v hZ636 hw 3 rfl) (by decide) (backOfSH (s := s) (vm0 := T636.vm) (W := 0) (rm_drawn l Z a0 hw [] p2 (Int32.ofNat kr) kr zc T636.heap hEL f638 st_C hzc rfl hkr) hZ636 (own_w hw 3 rfl) (own_w hw 2 rfl) (by decide) (by decide) hEL R636.1) (g := (mkF m 36 #[.val (.int p1), .val (.int p2), .val (.int p3), .val (.int p4), .val (.int (Int32.ofNat ka)), .val (.int (Int32.ofNat kr)), .val (.int (Int32.ofNat ks)), .val (.ref x_636), .unset, .unset, .unset, .unset, .unset] [(.int (Int32.ofNat kr)), (.int p2)])) rfl (by rw [hml]; rfl) (argsL := [(.int p2), (.int (Int32.ofNat kr))]) (rest := []) (lenOf pd_433 rfl) rfl (by show 2 * 0 + _ ≤ _; exact Nat.le_of_eq rfl) (hb hby at_36) (fun _ _ => ⟨rfl, rfl, (by decide : 8 + 8 ≤ _), (by decide : 30 + 30 ≤ _)⟩)
    dsimp only [Pt.U, Pt.locs, Pt.cells, Pt.slots] at X637 l637 y637 z637 st637 hQ637 hs637 hg637 ch637
    subst y637 z637
    obtain ⟨x_637, t_637, rfl, N637q, K637, f637_0⟩ := hQ637
    have N637 := own_FrE l637 (Fr.app N636 N637q)
    obtain ⟨Y637, hS637, hZ637, hown637⟩ := rebS hS636 (n1 := T636.heap.size) (by omega) X637 hs637 (by have := hg637; first | exact this | (rw [← rfl]; exact this)) hZ636 hown636
    have z637 : T636.heap.size ≤ T637.heap.size := K637.1
    have R637 : CHr Z consts_1 s.vm h0 T637.vm T637.heap := R636.trans ch637
    have lt637_0 : @LT.lt Nat _ x_637 T637.heap.size := f637_0.lt
    have ltv637_0 : @LT.lt Nat _ t_637 T637.heap.size := f637_0.ltv
    refine oG.tr st637 ?_
    refine oG.st (fun _ k => XS.astore Y637.here hx rfl (hb hby at_39) rfl rfl (l' := #[.val (.int p1), .val (.int p2), .val (.int p3), .val (.int p4), .val (.int (Int32.ofNat ka)), .val (.int (Int32.ofNat kr)), .val (.int (Int32.ofNat ks)), .val (.ref x_636), .val (.ref x_637), .unset, .unset, .unset, .unset]) rfl (XS.iloadN Y637.here hx rfl (hb hby at_41) rfl (XS.iload Y637.here hx rfl (hb hby at_42) rfl k))) ?_
    show oG _ _ _ _ (T637.setTop (mkF m 44 #[.val (.int p1), .val (.int p2), .val (.int p3), .val (.int p4), .val (.int (Int32.ofNat ka)), .val (.int (Int32.ofNat kr)), .val (.int (Int32.ofNat ks)), .val (.ref x_636), .val (.ref x_637), .unset, .unset, .unset, .unset] [(.int (Int32.ofNat ks)), (.int p3)]))
    have f640 : Old Z Z.heap.size T637.heap := f638.keep K637 all0
    obtain ⟨_, _, ⟨T639, L639, k639, n639⟩, -, X639, hs639, hg639, ⟨Lc639, hQ639, l639, y639, z639, ch639⟩, st639⟩ := callSS Y637 hx (y := mN4) hown637 (own_v hZ637 hw 0 rfl) (own_v hZ637 hw 1 rfl) (own_v hZ637 hw 2 rfl) (own_v hZ637 hw 3 rfl) (by decide) (backOfSH (s := s) (vm0 := T637.vm) (W := 0) (rm_drawn l Z a0 hw [] p3 (Int32.ofNat ks) ks zc T637.heap hEL f640 st_C hzc rfl hks) hZ637 (own_w hw 3 rfl) (own_w hw 2 rfl) (by decide) (by decide) hEL R637.1) (g := (mkF m 44 #[.val (.int p1), .val (.int p2), .val (.int p3), .val (.int p4), .val (.int (Int32.ofNat ka)), .val (.int (Int32.ofNat kr)), .val (.int (Int32.ofNat ks)), .val (.ref x_636), .val (.ref x_637), .unset, .unset, .unset, .unset] [(.int (Int32.ofNat ks)), (.int p3)])) rfl (by rw [hml]; rfl) (argsL := [(.int p3), (.int (Int32.ofNat ks))]) (rest := []) (lenOf pd_433 rfl) rfl (by show 2 * 0 + _ ≤ _; exact Nat.le_of_eq rfl) (hb hby at_44) (fun _ _ => ⟨rfl, rfl, (by decide : 16 + 8 ≤ _), (by decide : 60 + 30 ≤ _)⟩)
    dsimp only [Pt.U, Pt.locs, Pt.cells, Pt.slots] at X639 l639 y639 z639 st639 hQ639 hs639 hg639 ch639
    subst y639 z639
    obtain ⟨x_639, t_639, rfl, N639q, K639, f639_0⟩ := hQ639
    have N639 := own_FrE l639 (Fr.app N637 N639q)
    obtain ⟨Y639, hS639, hZ639, hown639⟩ := rebS hS637 (n1 := T637.heap.size) (by omega) X639 hs639 (by have := hg639; first | exact this | (rw [← rfl]; exact this)) hZ637 hown637
    have z639 : T637.heap.size ≤ T639.heap.size := K639.1
    have R639 : CHr Z consts_1 s.vm h0 T639.vm T639.heap := R637.trans ch639
    have lt639_0 : @LT.lt Nat _ x_639 T639.heap.size := f639_0.lt
    have ltv639_0 : @LT.lt Nat _ t_639 T639.heap.size := f639_0.ltv
    refine oG.tr st639 ?_
    refine oG.st (fun _ k => XS.astore Y639.here hx rfl (hb hby at_47) rfl rfl (l' := #[.val (.int p1), .val (.int p2), .val (.int p3), .val (.int p4), .val (.int (Int32.ofNat ka)), .val (.int (Int32.ofNat kr)), .val (.int (Int32.ofNat ks)), .val (.ref x_636), .val (.ref x_637), .val (.ref x_639), .unset, .unset, .unset]) rfl (XS.aload Y639.here hx rfl (hb hby at_49) rfl rfl (XS.aload Y639.here hx rfl (hb hby at_51) rfl rfl (XS.aload Y639.here hx rfl (hb hby at_53) rfl rfl k)))) ?_
    show oG _ _ _ _ (T639.setTop (mkF m 55 #[.val (.int p1), .val (.int p2), .val (.int p3), .val (.int p4), .val (.int (Int32.ofNat ka)), .val (.int (Int32.ofNat kr)), .val (.int (Int32.ofNat ks)), .val (.ref x_636), .val (.ref x_637), .val (.ref x_639), .unset, .unset, .unset] [(.ref x_639), (.ref x_637), (.ref x_636)]))
    have f642 : own_Str Z T637.heap x_636 t_636 (own_seg p1 ka) := f636_0.keep K637 nin0 nin0
    have f643 : own_Str Z T639.heap x_636 t_636 (own_seg p1 ka) := f642.keep K639 nin0 nin0
    have f644 : own_Str Z T639.heap x_637 t_637 (own_seg p2 kr) := f637_0.keep K639 nin0 nin0
    have f645 : Old Z Z.heap.size T639.heap := f640.keep K639 all0
    obtain ⟨_, _, ⟨T641, L641, k641, n641⟩, -, X641, hs641, hg641, ⟨Lc641, hQ641, l641, y641, z641, ch641⟩, st641⟩ := callSS Y639 hx (y := mN0) hown639 (own_v hZ639 hw 40 rfl) (own_v hZ639 hw 41 rfl) (own_v hZ639 hw 42 rfl) (own_v hZ639 hw 43 rfl) (by decide) (backOfSH (s := s) (vm0 := T639.vm) (W := 0) (rm_assumed l Z a0 hw [] x_636 x_637 x_639 t_636 (own_seg p1 ka) t_637 (own_seg p2 kr) t_639 (own_seg p3 ks) zc T639.heap hEL f645 f643 f644 f639_0 st_C hzc (by rw [own_segl hka]; exact hka) (by rw [own_segl hkr]; exact hkr) own_segL own_segL (by rw [own_segl hks]; exact hks) own_segL) hZ639 (own_w hw 43 rfl) (own_w hw 42 rfl) (by decide) (by decide) hEL R639.1) (g := (mkF m 55 #[.val (.int p1), .val (.int p2), .val (.int p3), .val (.int p4), .val (.int (Int32.ofNat ka)), .val (.int (Int32.ofNat kr)), .val (.int (Int32.ofNat ks)), .val (.ref x_636), .val (.ref x_637), .val (.ref x_639), .unset, .unset, .unset] [(.ref x_639), (.ref x_637), (.ref x_636)])) rfl (by rw [hml]; rfl) (argsL := [(.ref x_636), (.ref x_637), (.ref x_639)]) (rest := []) (lenOf pd_434 rfl) rfl (by show 2 * 0 + _ ≤ _; exact Nat.le_of_eq rfl) (hb hby at_55) (fun _ _ => ⟨rfl, rfl, (by decide : 24 + 30 ≤ _), (by decide : 90 + 640 ≤ _)⟩)
    dsimp only [Pt.U, Pt.locs, Pt.cells, Pt.slots] at X641 l641 y641 z641 st641 hQ641 hs641 hg641 ch641
    subst y641 z641
    obtain ⟨x_641, t2_641, rfl, N641q, K641, f641_0, pr641_0⟩ := hQ641
    have N641 := own_FrE l641 (Fr.app N639 N641q)
    obtain ⟨Y641, hS641, hZ641, hown641⟩ := rebS hS639 (n1 := T639.heap.size) (by omega) X641 hs641 (by have := hg641; first | exact this | (rw [← rfl]; exact this)) hZ639 hown639
    have z641 : T639.heap.size ≤ T641.heap.size := K641.1
    have R641 : CHr Z consts_1 s.vm h0 T641.vm T641.heap := R639.trans ch641
    have lt641_0 : @LT.lt Nat _ x_641 T641.heap.size := f641_0.lt
    have ltv641_0 : @LT.lt Nat _ t2_641 T641.heap.size := f641_0.ltv
    refine oG.tr st641 ?_
    refine oG.st (fun _ k => XS.astore Y641.here hx rfl (hb hby at_58) rfl rfl (l' := #[.val (.int p1), .val (.int p2), .val (.int p3), .val (.int p4), .val (.int (Int32.ofNat ka)), .val (.int (Int32.ofNat kr)), .val (.int (Int32.ofNat ks)), .val (.ref x_636), .val (.ref x_637), .val (.ref x_639), .val (.ref x_641), .unset, .unset]) rfl (XS.bipush Y641.here hx rfl (hb hby at_60) (XS.iload Y641.here hx rfl (hb hby at_62) rfl (XS.iadd Y641.here hx rfl (hb hby at_64) rfl (XS.iload Y641.here hx rfl (hb hby at_65) rfl k))))) ?_
    show oG _ _ _ _ (T641.setTop (mkF m 67 #[.val (.int p1), .val (.int p2), .val (.int p3), .val (.int p4), .val (.int (Int32.ofNat ka)), .val (.int (Int32.ofNat kr)), .val (.int (Int32.ofNat ks)), .val (.ref x_636), .val (.ref x_637), .val (.ref x_639), .val (.ref x_641), .unset, .unset] [(.int (Int32.ofNat kr)), (.int ((16 : Int32) + (Int32.ofNat ka)))]))
    refine oG.st (fun _ k => XS.iadd Y641.here hx rfl (hb hby at_67) rfl (XS.iload Y641.here hx rfl (hb hby at_68) rfl (XS.iadd Y641.here hx rfl (hb hby at_70) rfl k))) ?_
    show oG _ _ _ _ (T641.setTop (mkF m 71 #[.val (.int p1), .val (.int p2), .val (.int p3), .val (.int p4), .val (.int (Int32.ofNat ka)), .val (.int (Int32.ofNat kr)), .val (.int (Int32.ofNat ks)), .val (.ref x_636), .val (.ref x_637), .val (.ref x_639), .val (.ref x_641), .unset, .unset] [(.int ((((16 : Int32) + (Int32.ofNat ka)) + (Int32.ofNat kr)) + (Int32.ofNat ks)))]))
    have hNN : ((((16 : Int32) + (Int32.ofNat ka)) + (Int32.ofNat kr)) + (Int32.ofNat ks)) = Int32.ofNat (16 + ka + kr + ks) := by
      have q1 := own_ofA (i := 16) (j := ka) (by omega)
      have q2 := own_ofA (i := 16 + ka) (j := kr) (by omega)
      have q3 := own_ofA (i := 16 + ka + kr) (j := ks) (by omega)
      rw [← q3, ← q2, ← q1]
      rfl
    rw [hNN]
    show oG _ _ _ _ (T641.setTop (mkF m 71 #[.val (.int p1), .val (.int p2), .val (.int p3), .val (.int p4), .val (.int (Int32.ofNat ka)), .val (.int (Int32.ofNat kr)), .val (.int (Int32.ofNat ks)), .val (.ref x_636), .val (.ref x_637), .val (.ref x_639), .val (.ref x_641), .unset, .unset] [(.int (Int32.ofNat (16 + ka + kr + ks)))]))
    have hN100 : (16 + ka + kr + ks) ≤ 100 := by omega
    obtain ⟨T646, h646, k646, X646, e646, E646, A646, st646⟩ := newP Y641 hx hZ641 (own_w hw 4 rfl) rfl (g := (mkF m 71 #[.val (.int p1), .val (.int p2), .val (.int p3), .val (.int p4), .val (.int (Int32.ofNat ka)), .val (.int (Int32.ofNat kr)), .val (.int (Int32.ofNat ks)), .val (.ref x_636), .val (.ref x_637), .val (.ref x_639), .val (.ref x_641), .unset, .unset] [(.int (Int32.ofNat (16 + ka + kr + ks)))])) rfl (hb hby at_71) rfl (own_of0 (by omega)) (cap := 22) (by rw [own_ofn (by omega)]; omega) (by decide) (by decide) (by decide)
    obtain ⟨b646, g646⟩ : ∃ z, z = T641.heap.size := ⟨_, rfl⟩
    rw [← g646] at A646 st646
    refine oG.st st646 ?_
    have z646 : T641.heap.size ≤ h646.size := E646.1
    have f647 : Arv Z h646 b646 k646 .char (Int32.ofNat (16 + ka + kr + ks)) [] (.int (0 : Int32)) := Arv.new A646 (own_of0 (by omega))
    have lt_b646 : @LT.lt Nat _ b646 h646.size := f647.lt
    have R646 : CHr Z consts_1 s.vm h0 T641.vm h646 := R641.trans (CHr.ext E646 R641.1)
    refine oG.st (fun _ k => XS.astore X646.here hx rfl (hb hby at_73) rfl rfl (l' := #[.val (.int p1), .val (.int p2), .val (.int p3), .val (.int p4), .val (.int (Int32.ofNat ka)), .val (.int (Int32.ofNat kr)), .val (.int (Int32.ofNat ks)), .val (.ref x_636), .val (.ref x_637), .val (.ref x_639), .val (.ref x_641), .val (.ref b646), .unset]) rfl k) ?_
    show oG _ _ _ _ (T646.setTop (mkF m 75 #[.val (.int p1), .val (.int p2), .val (.int p3), .val (.int p4), .val (.int (Int32.ofNat ka)), .val (.int (Int32.ofNat kr)), .val (.int (Int32.ofNat ks)), .val (.ref x_636), .val (.ref x_637), .val (.ref x_639), .val (.ref x_641), .val (.ref b646), .unset] []))
    have f648 : Arv Z h646 b646 k646 .char (Int32.ofNat (16 + ka + kr + ks)) (([] : List Int32).map Value.int) (.int (0 : Int32)) := f647
    refine oG.st (fun _ k => XS.aload X646.here hx rfl (hb hby at_75) rfl rfl (XS.iconst X646.here hx rfl (hb hby at_77) (XS.bipush X646.here hx rfl (hb hby at_78) k))) ?_
    show oG _ _ _ _ (T646.setTop (mkF m 80 #[.val (.int p1), .val (.int p2), .val (.int p3), .val (.int p4), .val (.int (Int32.ofNat ka)), .val (.int (Int32.ofNat kr)), .val (.int (Int32.ofNat ks)), .val (.ref x_636), .val (.ref x_637), .val (.ref x_639), .val (.ref x_641), .val (.ref b646), .unset] [(.int (97 : Int32)), (.int (0 : Int32)), (.ref b646)]))
    have hj80 : (0 : Int32) = Int32.ofNat ([] : List Int32).length := rfl
    have hlt80 : ([] : List Int32).length < (16 + ka + kr + ks) := own_litA (Nat.le_of_ble_eq_true rfl)
    obtain ⟨c649, Ar649, q649, S649, Nn649, H649, G649⟩ := id f648
    have hin649 : ¬ ((0 : Int32) < 0 ∨ c649.slots.size ≤ ((0 : Int32)).toNatClampNeg) := inb_of S649 (own_inb hj80 hlt80 hN100)
    obtain ⟨T649, h649, X649, e649, W649, st649⟩ := stC X646 hx hZ641 e646 Ar649 (j := (0 : Int32)) hin649 (g := (mkF m 80 #[.val (.int p1), .val (.int p2), .val (.int p3), .val (.int p4), .val (.int (Int32.ofNat ka)), .val (.int (Int32.ofNat kr)), .val (.int (Int32.ofNat ks)), .val (.ref x_636), .val (.ref x_637), .val (.ref x_639), .val (.ref x_641), .val (.ref b646), .unset] [(.int (97 : Int32)), (.int (0 : Int32)), (.ref b646)])) rfl rfl (hb hby at_80)
    refine oG.st st649 ?_
    have gz650 : Z.heap.size ≤ b646 := by omega
    have N649 := Fr.snoc X649 N641 gz650
    have Sf652 : Safe Z consts_1 T641.vm h646 b646 := Safe.arv hZ641.alike f648 (by decide)
    have z649 : h646.size ≤ h649.size := Nat.le_of_eq W649.size.symm
    have f653 : Arv Z h649 b646 k646 .char (Int32.ofNat (16 + ka + kr + ks)) ((([] : List Int32) ++ [(97 : Int32)]).map Value.int) (.int (0 : Int32)) := own_push f648 W649 hj80 (own_l1000 hlt80 hN100) (by decide)
    have R649 : CHr Z consts_1 s.vm h0 T641.vm h649 := R646.trans (CHr.wr W649 Sf652 R646.1)
    refine oG.st (fun _ k => XS.aload X649.here hx rfl (hb hby at_81) rfl rfl (XS.iconst X649.here hx rfl (hb hby at_83) (XS.bipush X649.here hx rfl (hb hby at_84) k))) ?_
    show oG _ _ _ _ (T649.setTop (mkF m 86 #[.val (.int p1), .val (.int p2), .val (.int p3), .val (.int p4), .val (.int (Int32.ofNat ka)), .val (.int (Int32.ofNat kr)), .val (.int (Int32.ofNat ks)), .val (.ref x_636), .val (.ref x_637), .val (.ref x_639), .val (.ref x_641), .val (.ref b646), .unset] [(.int (99 : Int32)), (.int (1 : Int32)), (.ref b646)]))
    have hj86 : (1 : Int32) = Int32.ofNat (([] : List Int32) ++ [(97 : Int32)]).length := rfl
    have hlt86 : (([] : List Int32) ++ [(97 : Int32)]).length < (16 + ka + kr + ks) := own_litA (Nat.le_of_ble_eq_true rfl)
    obtain ⟨c654, Ar654, q654, S654, Nn654, H654, G654⟩ := id f653
    have hin654 : ¬ ((1 : Int32) < 0 ∨ c654.slots.size ≤ ((1 : Int32)).toNatClampNeg) := inb_of S654 (own_inb hj86 hlt86 hN100)
    obtain ⟨T654, h654, X654, e654, W654, st654⟩ := stC X649 hx hZ641 e649 Ar654 (j := (1 : Int32)) hin654 (g := (mkF m 86 #[.val (.int p1), .val (.int p2), .val (.int p3), .val (.int p4), .val (.int (Int32.ofNat ka)), .val (.int (Int32.ofNat kr)), .val (.int (Int32.ofNat ks)), .val (.ref x_636), .val (.ref x_637), .val (.ref x_639), .val (.ref x_641), .val (.ref b646), .unset] [(.int (99 : Int32)), (.int (1 : Int32)), (.ref b646)])) rfl rfl (hb hby at_86)
    refine oG.st st654 ?_
    have N654 := Fr.snoc X654 N649 gz650
    have Sf656 : Safe Z consts_1 T641.vm h649 b646 := Safe.arv hZ641.alike f653 (by decide)
    have z654 : h649.size ≤ h654.size := Nat.le_of_eq W654.size.symm
    have f657 : Arv Z h654 b646 k646 .char (Int32.ofNat (16 + ka + kr + ks)) (((([] : List Int32) ++ [(97 : Int32)]) ++ [(99 : Int32)]).map Value.int) (.int (0 : Int32)) := own_push f653 W654 hj86 (own_l1000 hlt86 hN100) (by decide)
    have R654 : CHr Z consts_1 s.vm h0 T641.vm h654 := R649.trans (CHr.wr W654 Sf656 R649.1)
    refine oG.st (fun _ k => XS.aload X654.here hx rfl (hb hby at_87) rfl rfl (XS.iconst X654.here hx rfl (hb hby at_89) (XS.bipush X654.here hx rfl (hb hby at_90) k))) ?_
    show oG _ _ _ _ (T654.setTop (mkF m 92 #[.val (.int p1), .val (.int p2), .val (.int p3), .val (.int p4), .val (.int (Int32.ofNat ka)), .val (.int (Int32.ofNat kr)), .val (.int (Int32.ofNat ks)), .val (.ref x_636), .val (.ref x_637), .val (.ref x_639), .val (.ref x_641), .val (.ref b646), .unset] [(.int (115 : Int32)), (.int (2 : Int32)), (.ref b646)]))
    have hj92 : (2 : Int32) = Int32.ofNat ((([] : List Int32) ++ [(97 : Int32)]) ++ [(99 : Int32)]).length := rfl
    have hlt92 : ((([] : List Int32) ++ [(97 : Int32)]) ++ [(99 : Int32)]).length < (16 + ka + kr + ks) := own_litA (Nat.le_of_ble_eq_true rfl)
    obtain ⟨c658, Ar658, q658, S658, Nn658, H658, G658⟩ := id f657
    have hin658 : ¬ ((2 : Int32) < 0 ∨ c658.slots.size ≤ ((2 : Int32)).toNatClampNeg) := inb_of S658 (own_inb hj92 hlt92 hN100)
    obtain ⟨T658, h658, X658, e658, W658, st658⟩ := stC X654 hx hZ641 e654 Ar658 (j := (2 : Int32)) hin658 (g := (mkF m 92 #[.val (.int p1), .val (.int p2), .val (.int p3), .val (.int p4), .val (.int (Int32.ofNat ka)), .val (.int (Int32.ofNat kr)), .val (.int (Int32.ofNat ks)), .val (.ref x_636), .val (.ref x_637), .val (.ref x_639), .val (.ref x_641), .val (.ref b646), .unset] [(.int (115 : Int32)), (.int (2 : Int32)), (.ref b646)])) rfl rfl (hb hby at_92)
    refine oG.st st658 ?_
    have N658 := Fr.snoc X658 N654 gz650
    have Sf660 : Safe Z consts_1 T641.vm h654 b646 := Safe.arv hZ641.alike f657 (by decide)
    have z658 : h654.size ≤ h658.size := Nat.le_of_eq W658.size.symm
    have f661 : Arv Z h658 b646 k646 .char (Int32.ofNat (16 + ka + kr + ks)) ((((([] : List Int32) ++ [(97 : Int32)]) ++ [(99 : Int32)]) ++ [(115 : Int32)]).map Value.int) (.int (0 : Int32)) := own_push f657 W658 hj92 (own_l1000 hlt92 hN100) (by decide)
    have R658 : CHr Z consts_1 s.vm h0 T641.vm h658 := R654.trans (CHr.wr W658 Sf660 R654.1)
    refine oG.st (fun _ k => XS.aload X658.here hx rfl (hb hby at_93) rfl rfl (XS.iconst X658.here hx rfl (hb hby at_95) (XS.bipush X658.here hx rfl (hb hby at_96) k))) ?_
    show oG _ _ _ _ (T658.setTop (mkF m 98 #[.val (.int p1), .val (.int p2), .val (.int p3), .val (.int p4), .val (.int (Int32.ofNat ka)), .val (.int (Int32.ofNat kr)), .val (.int (Int32.ofNat ks)), .val (.ref x_636), .val (.ref x_637), .val (.ref x_639), .val (.ref x_641), .val (.ref b646), .unset] [(.int (58 : Int32)), (.int (3 : Int32)), (.ref b646)]))
    have hj98 : (3 : Int32) = Int32.ofNat (((([] : List Int32) ++ [(97 : Int32)]) ++ [(99 : Int32)]) ++ [(115 : Int32)]).length := rfl
    have hlt98 : (((([] : List Int32) ++ [(97 : Int32)]) ++ [(99 : Int32)]) ++ [(115 : Int32)]).length < (16 + ka + kr + ks) := own_litA (Nat.le_of_ble_eq_true rfl)
    obtain ⟨c662, Ar662, q662, S662, Nn662, H662, G662⟩ := id f661
    have hin662 : ¬ ((3 : Int32) < 0 ∨ c662.slots.size ≤ ((3 : Int32)).toNatClampNeg) := inb_of S662 (own_inb hj98 hlt98 hN100)
    obtain ⟨T662, h662, X662, e662, W662, st662⟩ := stC X658 hx hZ641 e658 Ar662 (j := (3 : Int32)) hin662 (g := (mkF m 98 #[.val (.int p1), .val (.int p2), .val (.int p3), .val (.int p4), .val (.int (Int32.ofNat ka)), .val (.int (Int32.ofNat kr)), .val (.int (Int32.ofNat ks)), .val (.ref x_636), .val (.ref x_637), .val (.ref x_639), .val (.ref x_641), .val (.ref b646), .unset] [(.int (58 : Int32)), (.int (3 : Int32)), (.ref b646)])) rfl rfl (hb hby at_98)
    refine oG.st st662 ?_
    have N662 := Fr.snoc X662 N658 gz650
    have Sf664 : Safe Z consts_1 T641.vm h658 b646 := Safe.arv hZ641.alike f661 (by decide)
    have z662 : h658.size ≤ h662.size := Nat.le_of_eq W662.size.symm
    have f665 : Arv Z h662 b646 k646 .char (Int32.ofNat (16 + ka + kr + ks)) (((((([] : List Int32) ++ [(97 : Int32)]) ++ [(99 : Int32)]) ++ [(115 : Int32)]) ++ [(58 : Int32)]).map Value.int) (.int (0 : Int32)) := own_push f661 W662 hj98 (own_l1000 hlt98 hN100) (by decide)
    have R662 : CHr Z consts_1 s.vm h0 T641.vm h662 := R658.trans (CHr.wr W662 Sf664 R658.1)
    refine oG.st (fun _ k => XS.aload X662.here hx rfl (hb hby at_99) rfl rfl (XS.iconst X662.here hx rfl (hb hby at_101) (XS.bipush X662.here hx rfl (hb hby at_102) k))) ?_
    show oG _ _ _ _ (T662.setTop (mkF m 104 #[.val (.int p1), .val (.int p2), .val (.int p3), .val (.int p4), .val (.int (Int32.ofNat ka)), .val (.int (Int32.ofNat kr)), .val (.int (Int32.ofNat ks)), .val (.ref x_636), .val (.ref x_637), .val (.ref x_639), .val (.ref x_641), .val (.ref b646), .unset] [(.int (114 : Int32)), (.int (4 : Int32)), (.ref b646)]))
    have hj104 : (4 : Int32) = Int32.ofNat ((((([] : List Int32) ++ [(97 : Int32)]) ++ [(99 : Int32)]) ++ [(115 : Int32)]) ++ [(58 : Int32)]).length := rfl
    have hlt104 : ((((([] : List Int32) ++ [(97 : Int32)]) ++ [(99 : Int32)]) ++ [(115 : Int32)]) ++ [(58 : Int32)]).length < (16 + ka + kr + ks) := own_litA (Nat.le_of_ble_eq_true rfl)
    obtain ⟨c666, Ar666, q666, S666, Nn666, H666, G666⟩ := id f665
    have hin666 : ¬ ((4 : Int32) < 0 ∨ c666.slots.size ≤ ((4 : Int32)).toNatClampNeg) := inb_of S666 (own_inb hj104 hlt104 hN100)
    obtain ⟨T666, h666, X666, e666, W666, st666⟩ := stC X662 hx hZ641 e662 Ar666 (j := (4 : Int32)) hin666 (g := (mkF m 104 #[.val (.int p1), .val (.int p2), .val (.int p3), .val (.int p4), .val (.int (Int32.ofNat ka)), .val (.int (Int32.ofNat kr)), .val (.int (Int32.ofNat ks)), .val (.ref x_636), .val (.ref x_637), .val (.ref x_639), .val (.ref x_641), .val (.ref b646), .unset] [(.int (114 : Int32)), (.int (4 : Int32)), (.ref b646)])) rfl rfl (hb hby at_104)
    refine oG.st st666 ?_
    have N666 := Fr.snoc X666 N662 gz650
    have Sf668 : Safe Z consts_1 T641.vm h662 b646 := Safe.arv hZ641.alike f665 (by decide)
    have z666 : h662.size ≤ h666.size := Nat.le_of_eq W666.size.symm
    have f669 : Arv Z h666 b646 k646 .char (Int32.ofNat (16 + ka + kr + ks)) ((((((([] : List Int32) ++ [(97 : Int32)]) ++ [(99 : Int32)]) ++ [(115 : Int32)]) ++ [(58 : Int32)]) ++ [(114 : Int32)]).map Value.int) (.int (0 : Int32)) := own_push f665 W666 hj104 (own_l1000 hlt104 hN100) (by decide)
    have R666 : CHr Z consts_1 s.vm h0 T641.vm h666 := R662.trans (CHr.wr W666 Sf668 R662.1)
    refine oG.st (fun _ k => XS.aload X666.here hx rfl (hb hby at_105) rfl rfl (XS.iconst X666.here hx rfl (hb hby at_107) (XS.bipush X666.here hx rfl (hb hby at_108) k))) ?_
    show oG _ _ _ _ (T666.setTop (mkF m 110 #[.val (.int p1), .val (.int p2), .val (.int p3), .val (.int p4), .val (.int (Int32.ofNat ka)), .val (.int (Int32.ofNat kr)), .val (.int (Int32.ofNat ks)), .val (.ref x_636), .val (.ref x_637), .val (.ref x_639), .val (.ref x_641), .val (.ref b646), .unset] [(.int (97 : Int32)), (.int (5 : Int32)), (.ref b646)]))
    have hj110 : (5 : Int32) = Int32.ofNat (((((([] : List Int32) ++ [(97 : Int32)]) ++ [(99 : Int32)]) ++ [(115 : Int32)]) ++ [(58 : Int32)]) ++ [(114 : Int32)]).length := rfl
    have hlt110 : (((((([] : List Int32) ++ [(97 : Int32)]) ++ [(99 : Int32)]) ++ [(115 : Int32)]) ++ [(58 : Int32)]) ++ [(114 : Int32)]).length < (16 + ka + kr + ks) := own_litA (Nat.le_of_ble_eq_true rfl)
    obtain ⟨c670, Ar670, q670, S670, Nn670, H670, G670⟩ := id f669
    have hin670 : ¬ ((5 : Int32) < 0 ∨ c670.slots.size ≤ ((5 : Int32)).toNatClampNeg) := inb_of S670 (own_inb hj110 hlt110 hN100)
    obtain ⟨T670, h670, X670, e670, W670, st670⟩ := stC X666 hx hZ641 e666 Ar670 (j := (5 : Int32)) hin670 (g := (mkF m 110 #[.val (.int p1), .val (.int p2), .val (.int p3), .val (.int p4), .val (.int (Int32.ofNat ka)), .val (.int (Int32.ofNat kr)), .val (.int (Int32.ofNat ks)), .val (.ref x_636), .val (.ref x_637), .val (.ref x_639), .val (.ref x_641), .val (.ref b646), .unset] [(.int (97 : Int32)), (.int (5 : Int32)), (.ref b646)])) rfl rfl (hb hby at_110)
    refine oG.st st670 ?_
    have N670 := Fr.snoc X670 N666 gz650
    have Sf672 : Safe Z consts_1 T641.vm h666 b646 := Safe.arv hZ641.alike f669 (by decide)
    have z670 : h666.size ≤ h670.size := Nat.le_of_eq W670.size.symm
    have f673 : Arv Z h670 b646 k646 .char (Int32.ofNat (16 + ka + kr + ks)) (((((((([] : List Int32) ++ [(97 : Int32)]) ++ [(99 : Int32)]) ++ [(115 : Int32)]) ++ [(58 : Int32)]) ++ [(114 : Int32)]) ++ [(97 : Int32)]).map Value.int) (.int (0 : Int32)) := own_push f669 W670 hj110 (own_l1000 hlt110 hN100) (by decide)
    have R670 : CHr Z consts_1 s.vm h0 T641.vm h670 := R666.trans (CHr.wr W670 Sf672 R666.1)
    refine oG.st (fun _ k => XS.aload X670.here hx rfl (hb hby at_111) rfl rfl (XS.bipush X670.here hx rfl (hb hby at_113) (XS.bipush X670.here hx rfl (hb hby at_115) k))) ?_
    show oG _ _ _ _ (T670.setTop (mkF m 117 #[.val (.int p1), .val (.int p2), .val (.int p3), .val (.int p4), .val (.int (Int32.ofNat ka)), .val (.int (Int32.ofNat kr)), .val (.int (Int32.ofNat ks)), .val (.ref x_636), .val (.ref x_637), .val (.ref x_639), .val (.ref x_641), .val (.ref b646), .unset] [(.int (109 : Int32)), (.int (6 : Int32)), (.ref b646)]))
    have hj117 : (6 : Int32) = Int32.ofNat ((((((([] : List Int32) ++ [(97 : Int32)]) ++ [(99 : Int32)]) ++ [(115 : Int32)]) ++ [(58 : Int32)]) ++ [(114 : Int32)]) ++ [(97 : Int32)]).length := rfl
    have hlt117 : ((((((([] : List Int32) ++ [(97 : Int32)]) ++ [(99 : Int32)]) ++ [(115 : Int32)]) ++ [(58 : Int32)]) ++ [(114 : Int32)]) ++ [(97 : Int32)]).length < (16 + ka + kr + ks) := own_litA (Nat.le_of_ble_eq_true rfl)
    obtain ⟨c674, Ar674, q674, S674, Nn674, H674, G674⟩ := id f673
    have hin674 : ¬ ((6 : Int32) < 0 ∨ c674.slots.size ≤ ((6 : Int32)).toNatClampNeg) := inb_of S674 (own_inb hj117 hlt117 hN100)
    obtain ⟨T674, h674, X674, e674, W674, st674⟩ := stC X670 hx hZ641 e670 Ar674 (j := (6 : Int32)) hin674 (g := (mkF m 117 #[.val (.int p1), .val (.int p2), .val (.int p3), .val (.int p4), .val (.int (Int32.ofNat ka)), .val (.int (Int32.ofNat kr)), .val (.int (Int32.ofNat ks)), .val (.ref x_636), .val (.ref x_637), .val (.ref x_639), .val (.ref x_641), .val (.ref b646), .unset] [(.int (109 : Int32)), (.int (6 : Int32)), (.ref b646)])) rfl rfl (hb hby at_117)
    refine oG.st st674 ?_
    have N674 := Fr.snoc X674 N670 gz650
    have Sf676 : Safe Z consts_1 T641.vm h670 b646 := Safe.arv hZ641.alike f673 (by decide)
    have z674 : h670.size ≤ h674.size := Nat.le_of_eq W674.size.symm
    have f677 : Arv Z h674 b646 k646 .char (Int32.ofNat (16 + ka + kr + ks)) ((((((((([] : List Int32) ++ [(97 : Int32)]) ++ [(99 : Int32)]) ++ [(115 : Int32)]) ++ [(58 : Int32)]) ++ [(114 : Int32)]) ++ [(97 : Int32)]) ++ [(109 : Int32)]).map Value.int) (.int (0 : Int32)) := own_push f673 W674 hj117 (own_l1000 hlt117 hN100) (by decide)
    have R674 : CHr Z consts_1 s.vm h0 T641.vm h674 := R670.trans (CHr.wr W674 Sf676 R670.1)
    refine oG.st (fun _ k => XS.aload X674.here hx rfl (hb hby at_118) rfl rfl (XS.bipush X674.here hx rfl (hb hby at_120) (XS.bipush X674.here hx rfl (hb hby at_122) k))) ?_
    show oG _ _ _ _ (T674.setTop (mkF m 124 #[.val (.int p1), .val (.int p2), .val (.int p3), .val (.int p4), .val (.int (Int32.ofNat ka)), .val (.int (Int32.ofNat kr)), .val (.int (Int32.ofNat ks)), .val (.ref x_636), .val (.ref x_637), .val (.ref x_639), .val (.ref x_641), .val (.ref b646), .unset] [(.int (58 : Int32)), (.int (7 : Int32)), (.ref b646)]))
    have hj124 : (7 : Int32) = Int32.ofNat (((((((([] : List Int32) ++ [(97 : Int32)]) ++ [(99 : Int32)]) ++ [(115 : Int32)]) ++ [(58 : Int32)]) ++ [(114 : Int32)]) ++ [(97 : Int32)]) ++ [(109 : Int32)]).length := rfl
    have hlt124 : (((((((([] : List Int32) ++ [(97 : Int32)]) ++ [(99 : Int32)]) ++ [(115 : Int32)]) ++ [(58 : Int32)]) ++ [(114 : Int32)]) ++ [(97 : Int32)]) ++ [(109 : Int32)]).length < (16 + ka + kr + ks) := own_litA (Nat.le_of_ble_eq_true rfl)
    obtain ⟨c678, Ar678, q678, S678, Nn678, H678, G678⟩ := id f677
    have hin678 : ¬ ((7 : Int32) < 0 ∨ c678.slots.size ≤ ((7 : Int32)).toNatClampNeg) := inb_of S678 (own_inb hj124 hlt124 hN100)
    obtain ⟨T678, h678, X678, e678, W678, st678⟩ := stC X674 hx hZ641 e674 Ar678 (j := (7 : Int32)) hin678 (g := (mkF m 124 #[.val (.int p1), .val (.int p2), .val (.int p3), .val (.int p4), .val (.int (Int32.ofNat ka)), .val (.int (Int32.ofNat kr)), .val (.int (Int32.ofNat ks)), .val (.ref x_636), .val (.ref x_637), .val (.ref x_639), .val (.ref x_641), .val (.ref b646), .unset] [(.int (58 : Int32)), (.int (7 : Int32)), (.ref b646)])) rfl rfl (hb hby at_124)
    refine oG.st st678 ?_
    have N678 := Fr.snoc X678 N674 gz650
    have Sf680 : Safe Z consts_1 T641.vm h674 b646 := Safe.arv hZ641.alike f677 (by decide)
    have z678 : h674.size ≤ h678.size := Nat.le_of_eq W678.size.symm
    have f681 : Arv Z h678 b646 k646 .char (Int32.ofNat (16 + ka + kr + ks)) (((((((((([] : List Int32) ++ [(97 : Int32)]) ++ [(99 : Int32)]) ++ [(115 : Int32)]) ++ [(58 : Int32)]) ++ [(114 : Int32)]) ++ [(97 : Int32)]) ++ [(109 : Int32)]) ++ [(58 : Int32)]).map Value.int) (.int (0 : Int32)) := own_push f677 W678 hj124 (own_l1000 hlt124 hN100) (by decide)
    have R678 : CHr Z consts_1 s.vm h0 T641.vm h678 := R674.trans (CHr.wr W678 Sf680 R674.1)
    refine oG.st (fun _ k => XS.aload X678.here hx rfl (hb hby at_125) rfl rfl (XS.bipush X678.here hx rfl (hb hby at_127) (XS.bipush X678.here hx rfl (hb hby at_129) k))) ?_
    show oG _ _ _ _ (T678.setTop (mkF m 131 #[.val (.int p1), .val (.int p2), .val (.int p3), .val (.int p4), .val (.int (Int32.ofNat ka)), .val (.int (Int32.ofNat kr)), .val (.int (Int32.ofNat ks)), .val (.ref x_636), .val (.ref x_637), .val (.ref x_639), .val (.ref x_641), .val (.ref b646), .unset] [(.int (58 : Int32)), (.int (8 : Int32)), (.ref b646)]))
    have hj131 : (8 : Int32) = Int32.ofNat ((((((((([] : List Int32) ++ [(97 : Int32)]) ++ [(99 : Int32)]) ++ [(115 : Int32)]) ++ [(58 : Int32)]) ++ [(114 : Int32)]) ++ [(97 : Int32)]) ++ [(109 : Int32)]) ++ [(58 : Int32)]).length := rfl
    have hlt131 : ((((((((([] : List Int32) ++ [(97 : Int32)]) ++ [(99 : Int32)]) ++ [(115 : Int32)]) ++ [(58 : Int32)]) ++ [(114 : Int32)]) ++ [(97 : Int32)]) ++ [(109 : Int32)]) ++ [(58 : Int32)]).length < (16 + ka + kr + ks) := own_litA (Nat.le_of_ble_eq_true rfl)
    obtain ⟨c682, Ar682, q682, S682, Nn682, H682, G682⟩ := id f681
    have hin682 : ¬ ((8 : Int32) < 0 ∨ c682.slots.size ≤ ((8 : Int32)).toNatClampNeg) := inb_of S682 (own_inb hj131 hlt131 hN100)
    obtain ⟨T682, h682, X682, e682, W682, st682⟩ := stC X678 hx hZ641 e678 Ar682 (j := (8 : Int32)) hin682 (g := (mkF m 131 #[.val (.int p1), .val (.int p2), .val (.int p3), .val (.int p4), .val (.int (Int32.ofNat ka)), .val (.int (Int32.ofNat kr)), .val (.int (Int32.ofNat ks)), .val (.ref x_636), .val (.ref x_637), .val (.ref x_639), .val (.ref x_641), .val (.ref b646), .unset] [(.int (58 : Int32)), (.int (8 : Int32)), (.ref b646)])) rfl rfl (hb hby at_131)
    refine oG.st st682 ?_
    have N682 := Fr.snoc X682 N678 gz650
    have Sf684 : Safe Z consts_1 T641.vm h678 b646 := Safe.arv hZ641.alike f681 (by decide)
    have z682 : h678.size ≤ h682.size := Nat.le_of_eq W682.size.symm
    have f685 : Arv Z h682 b646 k646 .char (Int32.ofNat (16 + ka + kr + ks)) ((((((((((([] : List Int32) ++ [(97 : Int32)]) ++ [(99 : Int32)]) ++ [(115 : Int32)]) ++ [(58 : Int32)]) ++ [(114 : Int32)]) ++ [(97 : Int32)]) ++ [(109 : Int32)]) ++ [(58 : Int32)]) ++ [(58 : Int32)]).map Value.int) (.int (0 : Int32)) := own_push f681 W682 hj131 (own_l1000 hlt131 hN100) (by decide)
    have R682 : CHr Z consts_1 s.vm h0 T641.vm h682 := R678.trans (CHr.wr W682 Sf684 R678.1)
    refine oG.st (fun _ k => XS.aload X682.here hx rfl (hb hby at_132) rfl rfl (XS.bipush X682.here hx rfl (hb hby at_134) (XS.iloadN X682.here hx rfl (hb hby at_136) rfl (XS.iload X682.here hx rfl (hb hby at_137) rfl k)))) ?_
    show oG _ _ _ _ (T682.setTop (mkF m 139 #[.val (.int p1), .val (.int p2), .val (.int p3), .val (.int p4), .val (.int (Int32.ofNat ka)), .val (.int (Int32.ofNat kr)), .val (.int (Int32.ofNat ks)), .val (.ref x_636), .val (.ref x_637), .val (.ref x_639), .val (.ref x_641), .val (.ref b646), .unset] [(.int (Int32.ofNat ka)), (.int p1), (.int (9 : Int32)), (.ref b646)]))
    have hj139 : (9 : Int32) = Int32.ofNat (((((((((([] : List Int32) ++ [(97 : Int32)]) ++ [(99 : Int32)]) ++ [(115 : Int32)]) ++ [(58 : Int32)]) ++ [(114 : Int32)]) ++ [(97 : Int32)]) ++ [(109 : Int32)]) ++ [(58 : Int32)]) ++ [(58 : Int32)]).length := rfl
    have f687 : Old Z Z.heap.size T641.heap := f645.keep K641 all0
    have f688 : Old Z Z.heap.size h646 := f687.ext E646
    have f689 : Old Z Z.heap.size h649 := f688.wr W649 gz650
    have f690 : Old Z Z.heap.size h654 := f689.wr W654 gz650
    have f691 : Old Z Z.heap.size h658 := f690.wr W658 gz650
    have f692 : Old Z Z.heap.size h662 := f691.wr W662 gz650
    have f693 : Old Z Z.heap.size h666 := f692.wr W666 gz650
    have f694 : Old Z Z.heap.size h670 := f693.wr W670 gz650
    have f695 : Old Z Z.heap.size h674 := f694.wr W674 gz650
    have f696 : Old Z Z.heap.size h678 := f695.wr W678 gz650
    have f697 : Old Z Z.heap.size h682 := f696.wr W682 gz650
    obtain ⟨_, _, ⟨T686, L686, k686, n686⟩, -, X686, ⟨Lc686, hQ686, l686, y686, z686⟩, st686⟩ := Jvm.LawKit.callS X682 hx (y := mN5) hown641 (own_v hZ641 hw 186 rfl) (own_v hZ641 hw 187 rfl) (own_v hZ641 hw 2 rfl) (own_v hZ641 hw 188 rfl) (by decide) (backOf (W := 0) (rm_put l Z a0 hw [] b646 (9 : Int32) p1 (Int32.ofNat ka) ka (((((((((([] : List Int32) ++ [(97 : Int32)]) ++ [(99 : Int32)]) ++ [(115 : Int32)]) ++ [(58 : Int32)]) ++ [(114 : Int32)]) ++ [(97 : Int32)]) ++ [(109 : Int32)]) ++ [(58 : Int32)]) ++ [(58 : Int32)]) k646 (16 + ka + kr + ks) h682 f697 f685 hj139 rfl hka (by (try simp only [List.length_append, List.length_cons, List.length_nil]); omega) (by omega) (by omega)) hZ641 (own_w hw 188 rfl) (own_w hw 2 rfl) (by decide) (by decide)) (g := (mkF m 139 #[.val (.int p1), .val (.int p2), .val (.int p3), .val (.int p4), .val (.int (Int32.ofNat ka)), .val (.int (Int32.ofNat kr)), .val (.int (Int32.ofNat ks)), .val (.ref x_636), .val (.ref x_637), .val (.ref x_639), .val (.ref x_641), .val (.ref b646), .unset] [(.int (Int32.ofNat ka)), (.int p1), (.int (9 : Int32)), (.ref b646)])) rfl (by rw [hml]; rfl) (argsL := [(.ref b646), (.int (9 : Int32)), (.int p1), (.int (Int32.ofNat ka))]) (rest := []) (lenOf pd_435 rfl) rfl (by show 2 * 0 + _ ≤ _; exact Nat.le_of_eq rfl) (hb hby at_139) (fun _ _ => ⟨rfl, e682, (by decide : 55 + 0 ≤ _), (by decide : 752 + 0 ≤ _)⟩)
    dsimp only [Pt.U, Pt.locs, Pt.cells, Pt.slots] at X686 l686 y686 z686 st686 hQ686
    subst y686 z686
    obtain ⟨rfl, N686q, K686, f686_0⟩ := hQ686
    have N686 := own_FrE l686 (Fr.app N682 N686q)
    have Sf698 : Safe Z consts_1 T641.vm h682 b646 := Safe.arv hZ641.alike f685 (by decide)
    have z686 : h682.size ≤ T686.heap.size := K686.1
    have R686 : CHr Z consts_1 s.vm h0 T641.vm T686.heap := R682.trans (CHr.keep K686 (sfS Sf698 sf0) R682.1)
    have lt686_0 : @LT.lt Nat _ b646 T686.heap.size := f686_0.lt
    obtain ⟨E1, hE1⟩ : ∃ E : List Int32, E = ((((((((((([] : List Int32) ++ [(97 : Int32)]) ++ [(99 : Int32)]) ++ [(115 : Int32)]) ++ [(58 : Int32)]) ++ [(114 : Int32)]) ++ [(97 : Int32)]) ++ [(109 : Int32)]) ++ [(58 : Int32)]) ++ [(58 : Int32)]) ++ own_seg p1 ka) := ⟨_, rfl⟩
    have hLE1 : E1.length = 9 + ka := by
      rw [hE1, List.length_append, own_segl (by omega)]
      simp only [List.length_append, List.length_cons, List.length_nil] <;> omega
    have hBE1 : E1.length ≤ 40 := by omega
    have f699 : Arv Z T686.heap b646 k646 .char (Int32.ofNat (16 + ka + kr + ks)) (E1.map Value.int) (.int (0 : Int32)) := by rw [hE1]; exact f686_0
    refine oG.st st686 ?_
    show oG _ _ _ _ (T686.setTop (mkF m 142 #[.val (.int p1), .val (.int p2), .val (.int p3), .val (.int p4), .val (.int (Int32.ofNat ka)), .val (.int (Int32.ofNat kr)), .val (.int (Int32.ofNat ks)), .val (.ref x_636), .val (.ref x_637), .val (.ref x_639), .val (.ref x_641), .val (.ref b646), .unset] [(.int (Int32.ofNat ((((((((((([] : List Int32) ++ [(97 : Int32)]) ++ [(99 : Int32)]) ++ [(115 : Int32)]) ++ [(58 : Int32)]) ++ [(114 : Int32)]) ++ [(97 : Int32)]) ++ [(109 : Int32)]) ++ [(58 : Int32)]) ++ [(58 : Int32)]) ++ own_seg p1 ka).length))]))
    rw [← hE1]
    refine oG.st (fun _ k => XS.istore X686.here hx rfl (hb hby at_142) rfl (l' := #[.val (.int p1), .val (.int p2), .val (.int p3), .val (.int p4), .val (.int (Int32.ofNat ka)), .val (.int (Int32.ofNat kr)), .val (.int (Int32.ofNat ks)), .val (.ref x_636), .val (.ref x_637), .val (.ref x_639), .val (.ref x_641), .val (.ref b646), .val (.int (Int32.ofNat E1.length))]) rfl (XS.aload X686.here hx rfl (hb hby at_144) rfl rfl (XS.iload X686.here hx rfl (hb hby at_146) rfl (XS.bipush X686.here hx rfl (hb hby at_148) k)))) ?_
    show oG _ _ _ _ (T686.setTop (mkF m 150 #[.val (.int p1), .val (.int p2), .val (.int p3), .val (.int p4), .val (.int (Int32.ofNat ka)), .val (.int (Int32.ofNat kr)), .val (.int (Int32.ofNat ks)), .val (.ref x_636), .val (.ref x_637), .val (.ref x_639), .val (.ref x_641), .val (.ref b646), .val (.int (Int32.ofNat E1.length))] [(.int (58 : Int32)), (.int (Int32.ofNat E1.length)), (.ref b646)]))
    have hj150 : (Int32.ofNat E1.length) = Int32.ofNat E1.length := rfl
    have hlt150 : E1.length < (16 + ka + kr + ks) := own_litB (j := 0) hLE1 (by decide)
    obtain ⟨c700, Ar700, q700, S700, Nn700, H700, G700⟩ := id f699
    have hin700 : ¬ ((Int32.ofNat E1.length) < 0 ∨ c700.slots.size ≤ ((Int32.ofNat E1.length)).toNatClampNeg) := inb_of S700 (own_inb hj150 hlt150 hN100)
    obtain ⟨T700, h700, X700, e700, W700, st700⟩ := stC X686 hx hZ641 rfl Ar700 (j := (Int32.ofNat E1.length)) hin700 (g := (mkF m 150 #[.val (.int p1), .val (.int p2), .val (.int p3), .val (.int p4), .val (.int (Int32.ofNat ka)), .val (.int (Int32.ofNat kr)), .val (.int (Int32.ofNat ks)), .val (.ref x_636), .val (.ref x_637), .val (.ref x_639), .val (.ref x_641), .val (.ref b646), .val (.int (Int32.ofNat E1.length))] [(.int (58 : Int32)), (.int (Int32.ofNat E1.length)), (.ref b646)])) rfl rfl (hb hby at_150)
    refine oG.st st700 ?_
    have N700 := Fr.snoc X700 N686 gz650
    have Sf702 : Safe Z consts_1 T641.vm T686.heap b646 := Safe.arv hZ641.alike f699 (by decide)
    have z700 : T686.heap.size ≤ h700.size := Nat.le_of_eq W700.size.symm
    have f703 : Arv Z h700 b646 k646 .char (Int32.ofNat (16 + ka + kr + ks)) ((E1 ++ [(58 : Int32)]).map Value.int) (.int (0 : Int32)) := own_push f699 W700 hj150 (own_l1000 hlt150 hN100) (by decide)
    have R700 : CHr Z consts_1 s.vm h0 T641.vm h700 := R686.trans (CHr.wr W700 Sf702 R686.1)
    refine oG.st (fun _ k => XS.aload X700.here hx rfl (hb hby at_151) rfl rfl (XS.iload X700.here hx rfl (hb hby at_153) rfl (XS.iconst X700.here hx rfl (hb hby at_155) (XS.iadd X700.here hx rfl (hb hby at_156) rfl (XS.bipush X700.here hx rfl (hb hby at_157) k))))) ?_
    show oG _ _ _ _ (T700.setTop (mkF m 159 #[.val (.int p1), .val (.int p2), .val (.int p3), .val (.int p4), .val (.int (Int32.ofNat ka)), .val (.int (Int32.ofNat kr)), .val (.int (Int32.ofNat ks)), .val (.ref x_636), .val (.ref x_637), .val (.ref x_639), .val (.ref x_641), .val (.ref b646), .val (.int (Int32.ofNat E1.length))] [(.int (114 : Int32)), (.int ((Int32.ofNat E1.length) + (1 : Int32))), (.ref b646)]))
    have hj159 : ((Int32.ofNat E1.length) + (1 : Int32)) = Int32.ofNat (E1 ++ [(58 : Int32)]).length := own_hjA (X := E1) (k := 1) hBE1 (by decide) (by simp only [List.length_append]; rfl)
    have hlt159 : (E1 ++ [(58 : Int32)]).length < (16 + ka + kr + ks) := by
      rw [show (E1 ++ [(58 : Int32)]).length = E1.length + 1 from by simp only [List.length_append]; rfl]
      exact own_litB hLE1 (by decide)
    obtain ⟨c704, Ar704, q704, S704, Nn704, H704, G704⟩ := id f703
    have hin704 : ¬ (((Int32.ofNat E1.length) + (1 : Int32)) < 0 ∨ c704.slots.size ≤ (((Int32.ofNat E1.length) + (1 : Int32))).toNatClampNeg) := inb_of S704 (own_inb hj159 hlt159 hN100)
    obtain ⟨T704, h704, X704, e704, W704, st704⟩ := stC X700 hx hZ641 e700 Ar704 (j := ((Int32.ofNat E1.length) + (1 : Int32))) hin704 (g := (mkF m 159 #[.val (.int p1), .val (.int p2), .val (.int p3), .val (.int p4), .val (.int (Int32.ofNat ka)), .val (.int (Int32.ofNat kr)), .val (.int (Int32.ofNat ks)), .val (.ref x_636), .val (.ref x_637), .val (.ref x_639), .val (.ref x_641), .val (.ref b646), .val (.int (Int32.ofNat E1.length))] [(.int (114 : Int32)), (.int ((Int32.ofNat E1.length) + (1 : Int32))), (.ref b646)])) rfl rfl (hb hby at_159)
    refine oG.st st704 ?_
    have N704 := Fr.snoc X704 N700 gz650
    have Sf706 : Safe Z consts_1 T641.vm h700 b646 := Safe.arv hZ641.alike f703 (by decide)
    have z704 : h700.size ≤ h704.size := Nat.le_of_eq W704.size.symm
    have f707 : Arv Z h704 b646 k646 .char (Int32.ofNat (16 + ka + kr + ks)) (((E1 ++ [(58 : Int32)]) ++ [(114 : Int32)]).map Value.int) (.int (0 : Int32)) := own_push f703 W704 hj159 (own_l1000 hlt159 hN100) (by decide)
    have R704 : CHr Z consts_1 s.vm h0 T641.vm h704 := R700.trans (CHr.wr W704 Sf706 R700.1)
    refine oG.st (fun _ k => XS.aload X704.here hx rfl (hb hby at_160) rfl rfl (XS.iload X704.here hx rfl (hb hby at_162) rfl (XS.iconst X704.here hx rfl (hb hby at_164) (XS.iadd X704.here hx rfl (hb hby at_165) rfl (XS.bipush X704.here hx rfl (hb hby at_166) k))))) ?_
    show oG _ _ _ _ (T704.setTop (mkF m 168 #[.val (.int p1), .val (.int p2), .val (.int p3), .val (.int p4), .val (.int (Int32.ofNat ka)), .val (.int (Int32.ofNat kr)), .val (.int (Int32.ofNat ks)), .val (.ref x_636), .val (.ref x_637), .val (.ref x_639), .val (.ref x_641), .val (.ref b646), .val (.int (Int32.ofNat E1.length))] [(.int (111 : Int32)), (.int ((Int32.ofNat E1.length) + (2 : Int32))), (.ref b646)]))
    have hj168 : ((Int32.ofNat E1.length) + (2 : Int32)) = Int32.ofNat ((E1 ++ [(58 : Int32)]) ++ [(114 : Int32)]).length := own_hjA (X := E1) (k := 2) hBE1 (by decide) (by simp only [List.length_append]; rfl)
    have hlt168 : ((E1 ++ [(58 : Int32)]) ++ [(114 : Int32)]).length < (16 + ka + kr + ks) := by
      rw [show ((E1 ++ [(58 : Int32)]) ++ [(114 : Int32)]).length = E1.length + 2 from by simp only [List.length_append]; rfl]
      exact own_litB hLE1 (by decide)
    obtain ⟨c708, Ar708, q708, S708, Nn708, H708, G708⟩ := id f707
    have hin708 : ¬ (((Int32.ofNat E1.length) + (2 : Int32)) < 0 ∨ c708.slots.size ≤ (((Int32.ofNat E1.length) + (2 : Int32))).toNatClampNeg) := inb_of S708 (own_inb hj168 hlt168 hN100)
    obtain ⟨T708, h708, X708, e708, W708, st708⟩ := stC X704 hx hZ641 e704 Ar708 (j := ((Int32.ofNat E1.length) + (2 : Int32))) hin708 (g := (mkF m 168 #[.val (.int p1), .val (.int p2), .val (.int p3), .val (.int p4), .val (.int (Int32.ofNat ka)), .val (.int (Int32.ofNat kr)), .val (.int (Int32.ofNat ks)), .val (.ref x_636), .val (.ref x_637), .val (.ref x_639), .val (.ref x_641), .val (.ref b646), .val (.int (Int32.ofNat E1.length))] [(.int (111 : Int32)), (.int ((Int32.ofNat E1.length) + (2 : Int32))), (.ref b646)])) rfl rfl (hb hby at_168)
    refine oG.st st708 ?_
    have N708 := Fr.snoc X708 N704 gz650
    have Sf710 : Safe Z consts_1 T641.vm h704 b646 := Safe.arv hZ641.alike f707 (by decide)
    have z708 : h704.size ≤ h708.size := Nat.le_of_eq W708.size.symm
    have f711 : Arv Z h708 b646 k646 .char (Int32.ofNat (16 + ka + kr + ks)) ((((E1 ++ [(58 : Int32)]) ++ [(114 : Int32)]) ++ [(111 : Int32)]).map Value.int) (.int (0 : Int32)) := own_push f707 W708 hj168 (own_l1000 hlt168 hN100) (by decide)
    have R708 : CHr Z consts_1 s.vm h0 T641.vm h708 := R704.trans (CHr.wr W708 Sf710 R704.1)
    refine oG.st (fun _ k => XS.aload X708.here hx rfl (hb hby at_169) rfl rfl (XS.iload X708.here hx rfl (hb hby at_171) rfl (XS.iconst X708.here hx rfl (hb hby at_173) (XS.iadd X708.here hx rfl (hb hby at_174) rfl (XS.bipush X708.here hx rfl (hb hby at_175) k))))) ?_
    show oG _ _ _ _ (T708.setTop (mkF m 177 #[.val (.int p1), .val (.int p2), .val (.int p3), .val (.int p4), .val (.int (Int32.ofNat ka)), .val (.int (Int32.ofNat kr)), .val (.int (Int32.ofNat ks)), .val (.ref x_636), .val (.ref x_637), .val (.ref x_639), .val (.ref x_641), .val (.ref b646), .val (.int (Int32.ofNat E1.length))] [(.int (108 : Int32)), (.int ((Int32.ofNat E1.length) + (3 : Int32))), (.ref b646)]))
    have hj177 : ((Int32.ofNat E1.length) + (3 : Int32)) = Int32.ofNat (((E1 ++ [(58 : Int32)]) ++ [(114 : Int32)]) ++ [(111 : Int32)]).length := own_hjA (X := E1) (k := 3) hBE1 (by decide) (by simp only [List.length_append]; rfl)
    have hlt177 : (((E1 ++ [(58 : Int32)]) ++ [(114 : Int32)]) ++ [(111 : Int32)]).length < (16 + ka + kr + ks) := by
      rw [show (((E1 ++ [(58 : Int32)]) ++ [(114 : Int32)]) ++ [(111 : Int32)]).length = E1.length + 3 from by simp only [List.length_append]; rfl]
      exact own_litB hLE1 (by decide)
    obtain ⟨c712, Ar712, q712, S712, Nn712, H712, G712⟩ := id f711
    have hin712 : ¬ (((Int32.ofNat E1.length) + (3 : Int32)) < 0 ∨ c712.slots.size ≤ (((Int32.ofNat E1.length) + (3 : Int32))).toNatClampNeg) := inb_of S712 (own_inb hj177 hlt177 hN100)
    obtain ⟨T712, h712, X712, e712, W712, st712⟩ := stC X708 hx hZ641 e708 Ar712 (j := ((Int32.ofNat E1.length) + (3 : Int32))) hin712 (g := (mkF m 177 #[.val (.int p1), .val (.int p2), .val (.int p3), .val (.int p4), .val (.int (Int32.ofNat ka)), .val (.int (Int32.ofNat kr)), .val (.int (Int32.ofNat ks)), .val (.ref x_636), .val (.ref x_637), .val (.ref x_639), .val (.ref x_641), .val (.ref b646), .val (.int (Int32.ofNat E1.length))] [(.int (108 : Int32)), (.int ((Int32.ofNat E1.length) + (3 : Int32))), (.ref b646)])) rfl rfl (hb hby at_177)
    refine oG.st st712 ?_
    have N712 := Fr.snoc X712 N708 gz650
    have Sf714 : Safe Z consts_1 T641.vm h708 b646 := Safe.arv hZ641.alike f711 (by decide)
    have z712 : h708.size ≤ h712.size := Nat.le_of_eq W712.size.symm
    have f715 : Arv Z h712 b646 k646 .char (Int32.ofNat (16 + ka + kr + ks)) (((((E1 ++ [(58 : Int32)]) ++ [(114 : Int32)]) ++ [(111 : Int32)]) ++ [(108 : Int32)]).map Value.int) (.int (0 : Int32)) := own_push f711 W712 hj177 (own_l1000 hlt177 hN100) (by decide)
    have R712 : CHr Z consts_1 s.vm h0 T641.vm h712 := R708.trans (CHr.wr W712 Sf714 R708.1)
    refine oG.st (fun _ k => XS.aload X712.here hx rfl (hb hby at_178) rfl rfl (XS.iload X712.here hx rfl (hb hby at_180) rfl (XS.iconst X712.here hx rfl (hb hby at_182) (XS.iadd X712.here hx rfl (hb hby at_183) rfl (XS.bipush X712.here hx rfl (hb hby at_184) k))))) ?_
    show oG _ _ _ _ (T712.setTop (mkF m 186 #[.val (.int p1), .val (.int p2), .val (.int p3), .val (.int p4), .val (.int (Int32.ofNat ka)), .val (.int (Int32.ofNat kr)), .val (.int (Int32.ofNat ks)), .val (.ref x_636), .val (.ref x_637), .val (.ref x_639), .val (.ref x_641), .val (.ref b646), .val (.int (Int32.ofNat E1.length))] [(.int (101 : Int32)), (.int ((Int32.ofNat E1.length) + (4 : Int32))), (.ref b646)]))
    have hj186 : ((Int32.ofNat E1.length) + (4 : Int32)) = Int32.ofNat ((((E1 ++ [(58 : Int32)]) ++ [(114 : Int32)]) ++ [(111 : Int32)]) ++ [(108 : Int32)]).length := own_hjA (X := E1) (k := 4) hBE1 (by decide) (by simp only [List.length_append]; rfl)
    have hlt186 : ((((E1 ++ [(58 : Int32)]) ++ [(114 : Int32)]) ++ [(111 : Int32)]) ++ [(108 : Int32)]).length < (16 + ka + kr + ks) := by
      rw [show ((((E1 ++ [(58 : Int32)]) ++ [(114 : Int32)]) ++ [(111 : Int32)]) ++ [(108 : Int32)]).length = E1.length + 4 from by simp only [List.length_append]; rfl]
      exact own_litB hLE1 (by decide)
    obtain ⟨c716, Ar716, q716, S716, Nn716, H716, G716⟩ := id f715
    have hin716 : ¬ (((Int32.ofNat E1.length) + (4 : Int32)) < 0 ∨ c716.slots.size ≤ (((Int32.ofNat E1.length) + (4 : Int32))).toNatClampNeg) := inb_of S716 (own_inb hj186 hlt186 hN100)
    obtain ⟨T716, h716, X716, e716, W716, st716⟩ := stC X712 hx hZ641 e712 Ar716 (j := ((Int32.ofNat E1.length) + (4 : Int32))) hin716 (g := (mkF m 186 #[.val (.int p1), .val (.int p2), .val (.int p3), .val (.int p4), .val (.int (Int32.ofNat ka)), .val (.int (Int32.ofNat kr)), .val (.int (Int32.ofNat ks)), .val (.ref x_636), .val (.ref x_637), .val (.ref x_639), .val (.ref x_641), .val (.ref b646), .val (.int (Int32.ofNat E1.length))] [(.int (101 : Int32)), (.int ((Int32.ofNat E1.length) + (4 : Int32))), (.ref b646)])) rfl rfl (hb hby at_186)
    refine oG.st st716 ?_
    have N716 := Fr.snoc X716 N712 gz650
    have Sf718 : Safe Z consts_1 T641.vm h712 b646 := Safe.arv hZ641.alike f715 (by decide)
    have z716 : h712.size ≤ h716.size := Nat.le_of_eq W716.size.symm
    have f719 : Arv Z h716 b646 k646 .char (Int32.ofNat (16 + ka + kr + ks)) ((((((E1 ++ [(58 : Int32)]) ++ [(114 : Int32)]) ++ [(111 : Int32)]) ++ [(108 : Int32)]) ++ [(101 : Int32)]).map Value.int) (.int (0 : Int32)) := own_push f715 W716 hj186 (own_l1000 hlt186 hN100) (by decide)
    have R716 : CHr Z consts_1 s.vm h0 T641.vm h716 := R712.trans (CHr.wr W716 Sf718 R712.1)
    refine oG.st (fun _ k => XS.aload X716.here hx rfl (hb hby at_187) rfl rfl (XS.iload X716.here hx rfl (hb hby at_189) rfl (XS.iconst X716.here hx rfl (hb hby at_191) (XS.iadd X716.here hx rfl (hb hby at_192) rfl (XS.bipush X716.here hx rfl (hb hby at_193) k))))) ?_
    show oG _ _ _ _ (T716.setTop (mkF m 195 #[.val (.int p1), .val (.int p2), .val (.int p3), .val (.int p4), .val (.int (Int32.ofNat ka)), .val (.int (Int32.ofNat kr)), .val (.int (Int32.ofNat ks)), .val (.ref x_636), .val (.ref x_637), .val (.ref x_639), .val (.ref x_641), .val (.ref b646), .val (.int (Int32.ofNat E1.length))] [(.int (47 : Int32)), (.int ((Int32.ofNat E1.length) + (5 : Int32))), (.ref b646)]))
    have hj195 : ((Int32.ofNat E1.length) + (5 : Int32)) = Int32.ofNat (((((E1 ++ [(58 : Int32)]) ++ [(114 : Int32)]) ++ [(111 : Int32)]) ++ [(108 : Int32)]) ++ [(101 : Int32)]).length := own_hjA (X := E1) (k := 5) hBE1 (by decide) (by simp only [List.length_append]; rfl)
    have hlt195 : (((((E1 ++ [(58 : Int32)]) ++ [(114 : Int32)]) ++ [(111 : Int32)]) ++ [(108 : Int32)]) ++ [(101 : Int32)]).length < (16 + ka + kr + ks) := by
      rw [show (((((E1 ++ [(58 : Int32)]) ++ [(114 : Int32)]) ++ [(111 : Int32)]) ++ [(108 : Int32)]) ++ [(101 : Int32)]).length = E1.length + 5 from by simp only [List.length_append]; rfl]
      exact own_litB hLE1 (by decide)
    obtain ⟨c720, Ar720, q720, S720, Nn720, H720, G720⟩ := id f719
    have hin720 : ¬ (((Int32.ofNat E1.length) + (5 : Int32)) < 0 ∨ c720.slots.size ≤ (((Int32.ofNat E1.length) + (5 : Int32))).toNatClampNeg) := inb_of S720 (own_inb hj195 hlt195 hN100)
    obtain ⟨T720, h720, X720, e720, W720, st720⟩ := stC X716 hx hZ641 e716 Ar720 (j := ((Int32.ofNat E1.length) + (5 : Int32))) hin720 (g := (mkF m 195 #[.val (.int p1), .val (.int p2), .val (.int p3), .val (.int p4), .val (.int (Int32.ofNat ka)), .val (.int (Int32.ofNat kr)), .val (.int (Int32.ofNat ks)), .val (.ref x_636), .val (.ref x_637), .val (.ref x_639), .val (.ref x_641), .val (.ref b646), .val (.int (Int32.ofNat E1.length))] [(.int (47 : Int32)), (.int ((Int32.ofNat E1.length) + (5 : Int32))), (.ref b646)])) rfl rfl (hb hby at_195)
    refine oG.st st720 ?_
    have N720 := Fr.snoc X720 N716 gz650
    have Sf722 : Safe Z consts_1 T641.vm h716 b646 := Safe.arv hZ641.alike f719 (by decide)
    have z720 : h716.size ≤ h720.size := Nat.le_of_eq W720.size.symm
    have f723 : Arv Z h720 b646 k646 .char (Int32.ofNat (16 + ka + kr + ks)) (((((((E1 ++ [(58 : Int32)]) ++ [(114 : Int32)]) ++ [(111 : Int32)]) ++ [(108 : Int32)]) ++ [(101 : Int32)]) ++ [(47 : Int32)]).map Value.int) (.int (0 : Int32)) := own_push f719 W720 hj195 (own_l1000 hlt195 hN100) (by decide)
    have R720 : CHr Z consts_1 s.vm h0 T641.vm h720 := R716.trans (CHr.wr W720 Sf722 R716.1)
    refine oG.st (fun _ k => XS.aload X720.here hx rfl (hb hby at_196) rfl rfl (XS.iload X720.here hx rfl (hb hby at_198) rfl (XS.bipush X720.here hx rfl (hb hby at_200) (XS.iadd X720.here hx rfl (hb hby at_202) rfl (XS.iloadN X720.here hx rfl (hb hby at_203) rfl k))))) ?_
    show oG _ _ _ _ (T720.setTop (mkF m 204 #[.val (.int p1), .val (.int p2), .val (.int p3), .val (.int p4), .val (.int (Int32.ofNat ka)), .val (.int (Int32.ofNat kr)), .val (.int (Int32.ofNat ks)), .val (.ref x_636), .val (.ref x_637), .val (.ref x_639), .val (.ref x_641), .val (.ref b646), .val (.int (Int32.ofNat E1.length))] [(.int p2), (.int ((Int32.ofNat E1.length) + (6 : Int32))), (.ref b646)]))
    refine oG.st (fun _ k => XS.iload X720.here hx rfl (hb hby at_204) rfl k) ?_
    show oG _ _ _ _ (T720.setTop (mkF m 206 #[.val (.int p1), .val (.int p2), .val (.int p3), .val (.int p4), .val (.int (Int32.ofNat ka)), .val (.int (Int32.ofNat kr)), .val (.int (Int32.ofNat ks)), .val (.ref x_636), .val (.ref x_637), .val (.ref x_639), .val (.ref x_641), .val (.ref b646), .val (.int (Int32.ofNat E1.length))] [(.int (Int32.ofNat kr)), (.int p2), (.int ((Int32.ofNat E1.length) + (6 : Int32))), (.ref b646)]))
    have hj206 : ((Int32.ofNat E1.length) + (6 : Int32)) = Int32.ofNat ((((((E1 ++ [(58 : Int32)]) ++ [(114 : Int32)]) ++ [(111 : Int32)]) ++ [(108 : Int32)]) ++ [(101 : Int32)]) ++ [(47 : Int32)]).length := own_hjA (X := E1) (k := 6) hBE1 (by decide) (by simp only [List.length_append]; rfl)
    have f725 : Old Z Z.heap.size T686.heap := f697.keep K686 (allS gz650 all0)
    have f726 : Old Z Z.heap.size h700 := f725.wr W700 gz650
    have f727 : Old Z Z.heap.size h704 := f726.wr W704 gz650
    have f728 : Old Z Z.heap.size h708 := f727.wr W708 gz650
    have f729 : Old Z Z.heap.size h712 := f728.wr W712 gz650
    have f730 : Old Z Z.heap.size h716 := f729.wr W716 gz650
    have f731 : Old Z Z.heap.size h720 := f730.wr W720 gz650
    obtain ⟨_, _, ⟨T724, L724, k724, n724⟩, -, X724, ⟨Lc724, hQ724, l724, y724, z724⟩, st724⟩ := Jvm.LawKit.callS X720 hx (y := mN5) hown641 (own_v hZ641 hw 186 rfl) (own_v hZ641 hw 187 rfl) (own_v hZ641 hw 2 rfl) (own_v hZ641 hw 188 rfl) (by decide) (backOf (W := 0) (rm_put l Z a0 hw [] b646 ((Int32.ofNat E1.length) + (6 : Int32)) p2 (Int32.ofNat kr) kr ((((((E1 ++ [(58 : Int32)]) ++ [(114 : Int32)]) ++ [(111 : Int32)]) ++ [(108 : Int32)]) ++ [(101 : Int32)]) ++ [(47 : Int32)]) k646 (16 + ka + kr + ks) h720 f731 f723 hj206 rfl hkr (by (try simp only [List.length_append, List.length_cons, List.length_nil]); omega) (by omega) (by omega)) hZ641 (own_w hw 188 rfl) (own_w hw 2 rfl) (by decide) (by decide)) (g := (mkF m 206 #[.val (.int p1), .val (.int p2), .val (.int p3), .val (.int p4), .val (.int (Int32.ofNat ka)), .val (.int (Int32.ofNat kr)), .val (.int (Int32.ofNat ks)), .val (.ref x_636), .val (.ref x_637), .val (.ref x_639), .val (.ref x_641), .val (.ref b646), .val (.int (Int32.ofNat E1.length))] [(.int (Int32.ofNat kr)), (.int p2), (.int ((Int32.ofNat E1.length) + (6 : Int32))), (.ref b646)])) rfl (by rw [hml]; rfl) (argsL := [(.ref b646), (.int ((Int32.ofNat E1.length) + (6 : Int32))), (.int p2), (.int (Int32.ofNat kr))]) (rest := []) (lenOf pd_435 rfl) rfl (by show 2 * 0 + _ ≤ _; exact Nat.le_of_eq rfl) (hb hby at_206) (fun _ _ => ⟨rfl, e720, (by decide : 55 + 0 ≤ _), (by decide : 752 + 0 ≤ _)⟩)
    dsimp only [Pt.U, Pt.locs, Pt.cells, Pt.slots] at X724 l724 y724 z724 st724 hQ724
    subst y724 z724
    obtain ⟨rfl, N724q, K724, f724_0⟩ := hQ724
    have N724 := own_FrE l724 (Fr.app N720 N724q)
    have Sf732 : Safe Z consts_1 T641.vm h720 b646 := Safe.arv hZ641.alike f723 (by decide)
    have z724 : h720.size ≤ T724.heap.size := K724.1
    have R724 : CHr Z consts_1 s.vm h0 T641.vm T724.heap := R720.trans (CHr.keep K724 (sfS Sf732 sf0) R720.1)
    have lt724_0 : @LT.lt Nat _ b646 T724.heap.size := f724_0.lt
    obtain ⟨E2, hE2⟩ : ∃ E : List Int32, E = (((((((E1 ++ [(58 : Int32)]) ++ [(114 : Int32)]) ++ [(111 : Int32)]) ++ [(108 : Int32)]) ++ [(101 : Int32)]) ++ [(47 : Int32)]) ++ own_seg p2 kr) := ⟨_, rfl⟩
    have hLE2 : E2.length = 15 + ka + kr := by
      rw [hE2, List.length_append, own_segl (by omega)]
      simp only [List.length_append, List.length_cons, List.length_nil] <;> omega
    have hBE2 : E2.length ≤ 40 := by omega
    have f733 : Arv Z T724.heap b646 k646 .char (Int32.ofNat (16 + ka + kr + ks)) (E2.map Value.int) (.int (0 : Int32)) := by rw [hE2]; exact f724_0
    refine oG.st st724 ?_
    show oG _ _ _ _ (T724.setTop (mkF m 209 #[.val (.int p1), .val (.int p2), .val (.int p3), .val (.int p4), .val (.int (Int32.ofNat ka)), .val (.int (Int32.ofNat kr)), .val (.int (Int32.ofNat ks)), .val (.ref x_636), .val (.ref x_637), .val (.ref x_639), .val (.ref x_641), .val (.ref b646), .val (.int (Int32.ofNat E1.length))] [(.int (Int32.ofNat (((((((E1 ++ [(58 : Int32)]) ++ [(114 : Int32)]) ++ [(111 : Int32)]) ++ [(108 : Int32)]) ++ [(101 : Int32)]) ++ [(47 : Int32)]) ++ own_seg p2 kr).length))]))
    rw [← hE2]
    refine oG.st (fun _ k => XS.istore X724.here hx rfl (hb hby at_209) rfl (l' := #[.val (.int p1), .val (.int p2), .val (.int p3), .val (.int p4), .val (.int (Int32.ofNat ka)), .val (.int (Int32.ofNat kr)), .val (.int (Int32.ofNat ks)), .val (.ref x_636), .val (.ref x_637), .val (.ref x_639), .val (.ref x_641), .val (.ref b646), .val (.int (Int32.ofNat E2.length))]) rfl (XS.aload X724.here hx rfl (hb hby at_211) rfl rfl (XS.iload X724.here hx rfl (hb hby at_213) rfl (XS.bipush X724.here hx rfl (hb hby at_215) k)))) ?_
    show oG _ _ _ _ (T724.setTop (mkF m 217 #[.val (.int p1), .val (.int p2), .val (.int p3), .val (.int p4), .val (.int (Int32.ofNat ka)), .val (.int (Int32.ofNat kr)), .val (.int (Int32.ofNat ks)), .val (.ref x_636), .val (.ref x_637), .val (.ref x_639), .val (.ref x_641), .val (.ref b646), .val (.int (Int32.ofNat E2.length))] [(.int (47 : Int32)), (.int (Int32.ofNat E2.length)), (.ref b646)]))
    have hj217 : (Int32.ofNat E2.length) = Int32.ofNat E2.length := rfl
    have hlt217 : E2.length < (16 + ka + kr + ks) := own_litC (j := 0) hLE2 (by decide)
    obtain ⟨c734, Ar734, q734, S734, Nn734, H734, G734⟩ := id f733
    have hin734 : ¬ ((Int32.ofNat E2.length) < 0 ∨ c734.slots.size ≤ ((Int32.ofNat E2.length)).toNatClampNeg) := inb_of S734 (own_inb hj217 hlt217 hN100)
    obtain ⟨T734, h734, X734, e734, W734, st734⟩ := stC X724 hx hZ641 rfl Ar734 (j := (Int32.ofNat E2.length)) hin734 (g := (mkF m 217 #[.val (.int p1), .val (.int p2), .val (.int p3), .val (.int p4), .val (.int (Int32.ofNat ka)), .val (.int (Int32.ofNat kr)), .val (.int (Int32.ofNat ks)), .val (.ref x_636), .val (.ref x_637), .val (.ref x_639), .val (.ref x_641), .val (.ref b646), .val (.int (Int32.ofNat E2.length))] [(.int (47 : Int32)), (.int (Int32.ofNat E2.length)), (.ref b646)])) rfl rfl (hb hby at_217)
    refine oG.st st734 ?_
    have N734 := Fr.snoc X734 N724 gz650
    have Sf736 : Safe Z consts_1 T641.vm T724.heap b646 := Safe.arv hZ641.alike f733 (by decide)
    have z734 : T724.heap.size ≤ h734.size := Nat.le_of_eq W734.size.symm
    have f737 : Arv Z h734 b646 k646 .char (Int32.ofNat (16 + ka + kr + ks)) ((E2 ++ [(47 : Int32)]).map Value.int) (.int (0 : Int32)) := own_push f733 W734 hj217 (own_l1000 hlt217 hN100) (by decide)
    have R734 : CHr Z consts_1 s.vm h0 T641.vm h734 := R724.trans (CHr.wr W734 Sf736 R724.1)
    refine oG.st (fun _ k => XS.aload X734.here hx rfl (hb hby at_218) rfl rfl (XS.iload X734.here hx rfl (hb hby at_220) rfl (XS.iconst X734.here hx rfl (hb hby at_222) (XS.iadd X734.here hx rfl (hb hby at_223) rfl (XS.iloadN X734.here hx rfl (hb hby at_224) rfl k))))) ?_
    show oG _ _ _ _ (T734.setTop (mkF m 225 #[.val (.int p1), .val (.int p2), .val (.int p3), .val (.int p4), .val (.int (Int32.ofNat ka)), .val (.int (Int32.ofNat kr)), .val (.int (Int32.ofNat ks)), .val (.ref x_636), .val (.ref x_637), .val (.ref x_639), .val (.ref x_641), .val (.ref b646), .val (.int (Int32.ofNat E2.length))] [(.int p3), (.int ((Int32.ofNat E2.length) + (1 : Int32))), (.ref b646)]))
    refine oG.st (fun _ k => XS.iload X734.here hx rfl (hb hby at_225) rfl k) ?_
    show oG _ _ _ _ (T734.setTop (mkF m 227 #[.val (.int p1), .val (.int p2), .val (.int p3), .val (.int p4), .val (.int (Int32.ofNat ka)), .val (.int (Int32.ofNat kr)), .val (.int (Int32.ofNat ks)), .val (.ref x_636), .val (.ref x_637), .val (.ref x_639), .val (.ref x_641), .val (.ref b646), .val (.int (Int32.ofNat E2.length))] [(.int (Int32.ofNat ks)), (.int p3), (.int ((Int32.ofNat E2.length) + (1 : Int32))), (.ref b646)]))
    have hj227 : ((Int32.ofNat E2.length) + (1 : Int32)) = Int32.ofNat (E2 ++ [(47 : Int32)]).length := own_hjA (X := E2) (k := 1) hBE2 (by decide) (by simp only [List.length_append]; rfl)
    have f739 : Old Z Z.heap.size T724.heap := f731.keep K724 (allS gz650 all0)
    have f740 : Old Z Z.heap.size h734 := f739.wr W734 gz650
    obtain ⟨_, _, ⟨T738, L738, k738, n738⟩, -, X738, ⟨Lc738, hQ738, l738, y738, z738⟩, st738⟩ := Jvm.LawKit.callS X734 hx (y := mN5) hown641 (own_v hZ641 hw 186 rfl) (own_v hZ641 hw 187 rfl) (own_v hZ641 hw 2 rfl) (own_v hZ641 hw 188 rfl) (by decide) (backOf (W := 0) (rm_put l Z a0 hw [] b646 ((Int32.ofNat E2.length) + (1 : Int32)) p3 (Int32.ofNat ks) ks (E2 ++ [(47 : Int32)]) k646 (16 + ka + kr + ks) h734 f740 f737 hj227 rfl hks (by (try simp only [List.length_append, List.length_cons, List.length_nil]); omega) (by omega) (by omega)) hZ641 (own_w hw 188 rfl) (own_w hw 2 rfl) (by decide) (by decide)) (g := (mkF m 227 #[.val (.int p1), .val (.int p2), .val (.int p3), .val (.int p4), .val (.int (Int32.ofNat ka)), .val (.int (Int32.ofNat kr)), .val (.int (Int32.ofNat ks)), .val (.ref x_636), .val (.ref x_637), .val (.ref x_639), .val (.ref x_641), .val (.ref b646), .val (.int (Int32.ofNat E2.length))] [(.int (Int32.ofNat ks)), (.int p3), (.int ((Int32.ofNat E2.length) + (1 : Int32))), (.ref b646)])) rfl (by rw [hml]; rfl) (argsL := [(.ref b646), (.int ((Int32.ofNat E2.length) + (1 : Int32))), (.int p3), (.int (Int32.ofNat ks))]) (rest := []) (lenOf pd_435 rfl) rfl (by show 2 * 0 + _ ≤ _; exact Nat.le_of_eq rfl) (hb hby at_227) (fun _ _ => ⟨rfl, e734, (by decide : 55 + 0 ≤ _), (by decide : 752 + 0 ≤ _)⟩)
    dsimp only [Pt.U, Pt.locs, Pt.cells, Pt.slots] at X738 l738 y738 z738 st738 hQ738
    subst y738 z738
    obtain ⟨rfl, N738q, K738, f738_0⟩ := hQ738
    have N738 := own_FrE l738 (Fr.app N734 N738q)
    have Sf741 : Safe Z consts_1 T641.vm h734 b646 := Safe.arv hZ641.alike f737 (by decide)
    have z738 : h734.size ≤ T738.heap.size := K738.1
    have R738 : CHr Z consts_1 s.vm h0 T641.vm T738.heap := R734.trans (CHr.keep K738 (sfS Sf741 sf0) R734.1)
    have lt738_0 : @LT.lt Nat _ b646 T738.heap.size := f738_0.lt
    obtain ⟨E3, hE3⟩ : ∃ E : List Int32, E = ((E2 ++ [(47 : Int32)]) ++ own_seg p3 ks) := ⟨_, rfl⟩
    have hLE3 : E3.length = 16 + ka + kr + ks := by
      rw [hE3, List.length_append, own_segl (by omega)]
      simp only [List.length_append, List.length_cons, List.length_nil] <;> omega
    have hBE3 : E3.length ≤ 40 := by omega
    have f742 : Arv Z T738.heap b646 k646 .char (Int32.ofNat (16 + ka + kr + ks)) (E3.map Value.int) (.int (0 : Int32)) := by rw [hE3]; exact f738_0
    refine oG.st st738 ?_
    show oG _ _ _ _ (T738.setTop (mkF m 230 #[.val (.int p1), .val (.int p2), .val (.int p3), .val (.int p4), .val (.int (Int32.ofNat ka)), .val (.int (Int32.ofNat kr)), .val (.int (Int32.ofNat ks)), .val (.ref x_636), .val (.ref x_637), .val (.ref x_639), .val (.ref x_641), .val (.ref b646), .val (.int (Int32.ofNat E2.length))] [(.int (Int32.ofNat ((E2 ++ [(47 : Int32)]) ++ own_seg p3 ks).length))]))
    rw [← hE3]
    refine oG.st (fun _ k => XS.istore X738.here hx rfl (hb hby at_230) rfl (l' := #[.val (.int p1), .val (.int p2), .val (.int p3), .val (.int p4), .val (.int (Int32.ofNat ka)), .val (.int (Int32.ofNat kr)), .val (.int (Int32.ofNat ks)), .val (.ref x_636), .val (.ref x_637), .val (.ref x_639), .val (.ref x_641), .val (.ref b646), .val (.int (Int32.ofNat E3.length))]) rfl (XS.iload X738.here hx rfl (hb hby at_232) rfl (XS.aload X738.here hx rfl (hb hby at_234) rfl rfl k))) ?_
    show oG _ _ _ _ (T738.setTop (mkF m 236 #[.val (.int p1), .val (.int p2), .val (.int p3), .val (.int p4), .val (.int (Int32.ofNat ka)), .val (.int (Int32.ofNat kr)), .val (.int (Int32.ofNat ks)), .val (.ref x_636), .val (.ref x_637), .val (.ref x_639), .val (.ref x_641), .val (.ref b646), .val (.int (Int32.ofNat E3.length))] [(.ref b646), (.int (Int32.ofNat E3.length))]))
    obtain ⟨c743, Ar743, q743, S743, Nn743, H743, G743⟩ := id f742
    refine oG.st (X738.arraylength hx (own_rwE rfl Ar743.1) (State.isArrayOf_alike hZ641.alike Ar743.2.1) (g := (mkF m 236 #[.val (.int p1), .val (.int p2), .val (.int p3), .val (.int p4), .val (.int (Int32.ofNat ka)), .val (.int (Int32.ofNat kr)), .val (.int (Int32.ofNat ks)), .val (.ref x_636), .val (.ref x_637), .val (.ref x_639), .val (.ref x_641), .val (.ref b646), .val (.int (Int32.ofNat E3.length))] [(.ref b646), (.int (Int32.ofNat E3.length))])) rfl rfl (hb hby at_236)) ?_
    rw [len_of S743 Nn743]
    show oG _ _ _ _ (T738.setTop (mkF m 237 #[.val (.int p1), .val (.int p2), .val (.int p3), .val (.int p4), .val (.int (Int32.ofNat ka)), .val (.int (Int32.ofNat kr)), .val (.int (Int32.ofNat ks)), .val (.ref x_636), .val (.ref x_637), .val (.ref x_639), .val (.ref x_641), .val (.ref b646), .val (.int (Int32.ofNat E3.length))] [(.int (Int32.ofNat (16 + ka + kr + ks))), (.int (Int32.ofNat E3.length))]))
    have hc744 : (Int32.ofNat E3.length) = (Int32.ofNat (16 + ka + kr + ks)) := congrArg Int32.ofNat (by omega)
    refine oG.st (fun _ k => XS.icmpNo X738.here hx rfl (hb hby at_237) rfl (teq hc744).2 k) ?_
    refine oG.st (fun _ k => XS.aload X738.here hx rfl (hb hby at_240) rfl rfl k) ?_
    show oG _ _ _ _ (T738.setTop (mkF m 242 #[.val (.int p1), .val (.int p2), .val (.int p3), .val (.int p4), .val (.int (Int32.ofNat ka)), .val (.int (Int32.ofNat kr)), .val (.int (Int32.ofNat ks)), .val (.ref x_636), .val (.ref x_637), .val (.ref x_639), .val (.ref x_641), .val (.ref b646), .val (.int (Int32.ofNat E3.length))] [(.ref x_641)]))
    obtain ⟨T745, h745, X745, e745, E745, A745, D745, U745, st745⟩ := newO X738 hx hZ641 hown641 (own_w hw 8 rfl) (own_w hw 9 rfl) (own_w hw 10 rfl) rfl (g := (mkF m 242 #[.val (.int p1), .val (.int p2), .val (.int p3), .val (.int p4), .val (.int (Int32.ofNat ka)), .val (.int (Int32.ofNat kr)), .val (.int (Int32.ofNat ks)), .val (.ref x_636), .val (.ref x_637), .val (.ref x_639), .val (.ref x_641), .val (.ref b646), .val (.int (Int32.ofNat E3.length))] [(.ref x_641)])) rfl (hb hby at_242) (by decide) (by decide)
    obtain ⟨b745, g745⟩ : ∃ z, z = T738.heap.size := ⟨_, rfl⟩
    rw [← g745] at A745 D745 U745 st745
    refine oG.st st745 ?_
    have z745 : T738.heap.size ≤ h745.size := E745.1
    have lt_b745 : @LT.lt Nat _ b745 h745.size := A745.lt
    have f746 : Fld Z h745 b745 "java/lang/String" "coder" "B" (.int (0 : Int32)) := D745 (Or.inr (own_w hw 34 rfl)) (ty := .byte) (by decide)
    have f747 : Fld Z h745 b745 "java/lang/String" "value" "[B" .null := D745 (Or.inr (own_w hw 36 rfl)) (ty := (.array .byte)) (by decide)
    have R745 : CHr Z consts_1 s.vm h0 T641.vm h745 := R738.trans (CHr.ext E745 R738.1)
    have Sf745 : Safe Z consts_1 T641.vm h745 b745 := (Safe.new (Nat.le_of_eq g745.symm)).ext E745 R738.1
    refine oG.st (fun _ k => XS.dup X745.here hx rfl (hb hby at_245) rfl rfl (XS.aload X745.here hx rfl (hb hby at_246) rfl rfl k)) ?_
    show oG _ _ _ _ (T745.setTop (mkF m 248 #[.val (.int p1), .val (.int p2), .val (.int p3), .val (.int p4), .val (.int (Int32.ofNat ka)), .val (.int (Int32.ofNat kr)), .val (.int (Int32.ofNat ks)), .val (.ref x_636), .val (.ref x_637), .val (.ref x_639), .val (.ref x_641), .val (.ref b646), .val (.int (Int32.ofNat E3.length))] [(.ref b646), (.ref b745), (.ref b745), (.ref x_641)]))
    have f748 : Arv Z h745 b646 k646 .char (Int32.ofNat (16 + ka + kr + ks)) (E3.map Value.int) (.int (0 : Int32)) := f742.ext E745
    have hA3 : own_asm (own_seg p1 ka) (own_seg p2 kr) (own_seg p3 ks) = E3 := by
      rw [hE3, hE2, hE1]
      simp [own_asm, own_role]
    have hl3 : ∀ c ∈ E3, ¬ c < 0 ∧ ¬ (255 : Int32) < c := own_latE hA3 (own_latA (own_latA (own_roleL own_segL own_segL) (by decide)) own_segL)
    have gz750 : Z.heap.size ≤ b745 := by omega
    have f751 : Old Z Z.heap.size T738.heap := f740.keep K738 (allS gz650 all0)
    have f752 : Old Z Z.heap.size h745 := f751.ext E745
    obtain ⟨_, _, ⟨T749, L749, k749, n749⟩, -, X749, ⟨Lc749, hQ749, l749, y749, z749⟩, st749⟩ := X745.specialBack hx (y := mN19) rfl hown641 (own_v hZ641 hw 11 rfl) (own_v hZ641 hw 12 rfl) (own_v hZ641 hw 13 rfl) (by decide) (own_backG (W := 2) (cs := E3) hZ641 hw f752 A745 f747 f746 f748 st_C (congrArg Int32.ofNat hLE3.symm) (own_len0 hLE3) (own_len22 hLE3 hka hkr hks) hl3 gz750 hzc (by decide) (by decide)) (g := (mkF m 248 #[.val (.int p1), .val (.int p2), .val (.int p3), .val (.int p4), .val (.int (Int32.ofNat ka)), .val (.int (Int32.ofNat kr)), .val (.int (Int32.ofNat ks)), .val (.ref x_636), .val (.ref x_637), .val (.ref x_639), .val (.ref x_641), .val (.ref b646), .val (.int (Int32.ofNat E3.length))] [(.ref b646), (.ref b745), (.ref b745), (.ref x_641)])) rfl (by rw [hml]; rfl) (Steps.refl _) (a := b745) (argsL := [(.ref b646)]) (rest := [(.ref b745), (.ref x_641)]) (lenOf pd_396 rfl) rfl (by show 2 * 0 + _ ≤ _; exact Nat.le_of_eq rfl) (hb hby at_248) (fun _ _ => ⟨rfl, e745, (by decide : 56 + 1 ≤ _), (by decide : 756 + 22 ≤ _)⟩)
    dsimp only [Pt.U, Pt.locs, Pt.cells, Pt.slots] at X749 l749 y749 z749 st749 hQ749
    subst y749 z749
    obtain ⟨t_749, rfl, N749q, K749, f749_0, pr749_0⟩ := hQ749
    have N749 := own_FrE l749 (Fr.app N738 N749q)
    have z749 : h745.size ≤ T749.heap.size := K749.1
    have R749 : CHr Z consts_1 s.vm h0 T641.vm T749.heap := R745.trans (CHr.keep K749 (sfS Sf745 sf0) R745.1)
    have Sf753 : Safe Z consts_1 T641.vm T749.heap b745 := Safe.keep K749 (sfS Sf745 sf0) R745.1 Sf745
    have lt749_0 : @LT.lt Nat _ b745 T749.heap.size := f749_0.lt
    have ltv749_0 : @LT.lt Nat _ t_749 T749.heap.size := f749_0.ltv
    refine oG.tr st749 ?_
    show oG _ _ _ _ (T749.setTop (mkF m 251 #[.val (.int p1), .val (.int p2), .val (.int p3), .val (.int p4), .val (.int (Int32.ofNat ka)), .val (.int (Int32.ofNat kr)), .val (.int (Int32.ofNat ks)), .val (.ref x_636), .val (.ref x_637), .val (.ref x_639), .val (.ref x_641), .val (.ref b646), .val (.int (Int32.ofNat E3.length))] [(.ref b745), (.ref x_641)]))
    have f755 : own_Str Z h646 x_641 t2_641 (own_asm (own_seg p1 ka) (own_seg p2 kr) (own_seg p3 ks)) := f641_0.ext E646
    have ne756 : @Ne Nat x_641 b646 := Exa.neArv f755.exa f648 (own_w hw 9 rfl)
    have ne757 : @Ne Nat t2_641 b646 := own_Str.neTy f755 f648 (by decide)
    have f758 : own_Str Z h649 x_641 t2_641 (own_asm (own_seg p1 ka) (own_seg p2 kr) (own_seg p3 ks)) := f755.other W649 ne756 ne757
    have f759 : own_Str Z h654 x_641 t2_641 (own_asm (own_seg p1 ka) (own_seg p2 kr) (own_seg p3 ks)) := f758.other W654 ne756 ne757
    have f760 : own_Str Z h658 x_641 t2_641 (own_asm (own_seg p1 ka) (own_seg p2 kr) (own_seg p3 ks)) := f759.other W658 ne756 ne757
    have f761 : own_Str Z h662 x_641 t2_641 (own_asm (own_seg p1 ka) (own_seg p2 kr) (own_seg p3 ks)) := f760.other W662 ne756 ne757
    have f762 : own_Str Z h666 x_641 t2_641 (own_asm (own_seg p1 ka) (own_seg p2 kr) (own_seg p3 ks)) := f761.other W666 ne756 ne757
    have f763 : own_Str Z h670 x_641 t2_641 (own_asm (own_seg p1 ka) (own_seg p2 kr) (own_seg p3 ks)) := f762.other W670 ne756 ne757
    have f764 : own_Str Z h674 x_641 t2_641 (own_asm (own_seg p1 ka) (own_seg p2 kr) (own_seg p3 ks)) := f763.other W674 ne756 ne757
    have f765 : own_Str Z h678 x_641 t2_641 (own_asm (own_seg p1 ka) (own_seg p2 kr) (own_seg p3 ks)) := f764.other W678 ne756 ne757
    have f766 : own_Str Z h682 x_641 t2_641 (own_asm (own_seg p1 ka) (own_seg p2 kr) (own_seg p3 ks)) := f765.other W682 ne756 ne757
    have f767 : own_Str Z T686.heap x_641 t2_641 (own_asm (own_seg p1 ka) (own_seg p2 kr) (own_seg p3 ks)) := f766.keep K686 (ninS ne756 nin0) (ninS ne757 nin0)
    have f768 : own_Str Z h700 x_641 t2_641 (own_asm (own_seg p1 ka) (own_seg p2 kr) (own_seg p3 ks)) := f767.other W700 ne756 ne757
    have f769 : own_Str Z h704 x_641 t2_641 (own_asm (own_seg p1 ka) (own_seg p2 kr) (own_seg p3 ks)) := f768.other W704 ne756 ne757
    have f770 : own_Str Z h708 x_641 t2_641 (own_asm (own_seg p1 ka) (own_seg p2 kr) (own_seg p3 ks)) := f769.other W708 ne756 ne757
    have f771 : own_Str Z h712 x_641 t2_641 (own_asm (own_seg p1 ka) (own_seg p2 kr) (own_seg p3 ks)) := f770.other W712 ne756 ne757
    have f772 : own_Str Z h716 x_641 t2_641 (own_asm (own_seg p1 ka) (own_seg p2 kr) (own_seg p3 ks)) := f771.other W716 ne756 ne757
    have f773 : own_Str Z h720 x_641 t2_641 (own_asm (own_seg p1 ka) (own_seg p2 kr) (own_seg p3 ks)) := f772.other W720 ne756 ne757
    have f774 : own_Str Z T724.heap x_641 t2_641 (own_asm (own_seg p1 ka) (own_seg p2 kr) (own_seg p3 ks)) := f773.keep K724 (ninS ne756 nin0) (ninS ne757 nin0)
    have f775 : own_Str Z h734 x_641 t2_641 (own_asm (own_seg p1 ka) (own_seg p2 kr) (own_seg p3 ks)) := f774.other W734 ne756 ne757
    have f776 : own_Str Z T738.heap x_641 t2_641 (own_asm (own_seg p1 ka) (own_seg p2 kr) (own_seg p3 ks)) := f775.keep K738 (ninS ne756 nin0) (ninS ne757 nin0)
    have f777 : own_Str Z h745 x_641 t2_641 (own_asm (own_seg p1 ka) (own_seg p2 kr) (own_seg p3 ks)) := f776.ext E745
    have no778 : @Ne Nat x_641 b745 := by omega
    have ne779 : @Ne Nat b745 t2_641 := own_Str.neV f777 A745 (own_w hw 9 rfl)
    have f780 : own_Str Z T749.heap x_641 t2_641 (own_asm (own_seg p1 ka) (own_seg p2 kr) (own_seg p3 ks)) := f777.keep K749 (ninS no778 nin0) (ninS (Ne.symm ne779) nin0)
    obtain ⟨kb781, cd781, N781_, vs781, s1781, s2781, s3781, s4781, s5781, s6781, s7781⟩ := id f780
    obtain ⟨kb782, cd782, N782_, vs782, s1782, s2782, s3782, s4782, s5782, s6782, s7782⟩ := id f749_0
    have f783 : Old Z Z.heap.size T749.heap := f752.keep K749 (allS gz750 all0)
    obtain ⟨cq754, kq754, q754a, q754b, q754c⟩ := isOf hZ641 rfl f780.exa
    obtain ⟨_, _, ⟨T754, L754, k754, n754⟩, -, X754, ⟨Lc754, hQ754, l754, y754, z754⟩, st754⟩ := X749.virtualBack hx (y := mN22) (z := mN22) hown641 (own_v hZ641 hw 189 rfl) (own_v hZ641 hw 190 rfl) (notFace_of_selects (args := #[]) (own_v hZ641 hw 192 rfl)) (own_v hZ641 hw 192 rfl) (own_v hZ641 hw 191 rfl) (by decide) (StrChars.Road.eqW (W := 0) hZ641 (own_heq hw) (kI := 4) (own_w hw 9 rfl) s1781 s2781 s3781 s4781 s5781 s6781 s7781 s1782 s2782 s3782 s4782 s5782 s6782 s7782 (st_C.ext f783.2) hzc (by decide) (by decide)) q754a q754c (g := (mkF m 251 #[.val (.int p1), .val (.int p2), .val (.int p3), .val (.int p4), .val (.int (Int32.ofNat ka)), .val (.int (Int32.ofNat kr)), .val (.int (Int32.ofNat ks)), .val (.ref x_636), .val (.ref x_637), .val (.ref x_639), .val (.ref x_641), .val (.ref b646), .val (.int (Int32.ofNat E3.length))] [(.ref b745), (.ref x_641)])) rfl (by rw [hml]; rfl) (Steps.refl _) (argsL := [(.ref b745)]) (rest := []) (lenOf pd_436 rfl) rfl (by show 2 * 0 + _ ≤ _; exact Nat.le_of_eq rfl) (hb hby at_251) (fun _ _ => ⟨rfl, rfl, (by decide : 57 + 0 ≤ _), (by decide : 778 + 0 ≤ _)⟩)
    dsimp only [Pt.U, Pt.locs, Pt.cells, Pt.slots] at X754 l754 y754 z754 st754 hQ754
    subst y754 z754
    obtain ⟨hv754, rfl, K754⟩ := hQ754
    obtain ⟨r754, rfl, he754⟩ := own_eqv hv754
    have N754 := own_FrE l754 (Fr.app N749 (Fr.nil Z.heap.size))
    refine oG.tr st754 ?_
    show oG _ _ _ _ (T754.setTop (mkF m 254 #[.val (.int p1), .val (.int p2), .val (.int p3), .val (.int p4), .val (.int (Int32.ofNat ka)), .val (.int (Int32.ofNat kr)), .val (.int (Int32.ofNat ks)), .val (.ref x_636), .val (.ref x_637), .val (.ref x_639), .val (.ref x_641), .val (.ref b646), .val (.int (Int32.ofNat E3.length))] [(.int r754)]))
    have hc784 : ¬ (r754 = (0 : Int32)) := fun q => own_zero he754 q hA3
    refine oG.st (fun _ k => XS.ifNo X754.here hx rfl (hb hby at_254) rfl ((if0 _ _).trans (feq hc784).1) k) ?_
    refine oG.st (fun _ k => XS.iconst X754.here hx rfl (hb hby at_257) (XS.goto X754.here hx rfl (pc0 := 258) (pc' := 262) rfl (hb hby at_258) (by decide) (by decide) k)) ?_
    show oG _ _ _ _ (T754.setTop (mkF m 262 #[.val (.int p1), .val (.int p2), .val (.int p3), .val (.int p4), .val (.int (Int32.ofNat ka)), .val (.int (Int32.ofNat kr)), .val (.int (Int32.ofNat ks)), .val (.ref x_636), .val (.ref x_637), .val (.ref x_639), .val (.ref x_641), .val (.ref b646), .val (.int (Int32.ofNat E3.length))] [(.int (1 : Int32))]))
    obtain ⟨fs785, hr785, hrun785, hend785, hret785⟩ := X754.leaveW hS641 (by rw [K754]; exact (by omega)) (v := some (.int (nar .boolean (1 : Int32)))) (fun h => by rw [Bd.returns] at h; cases h)
    have K786 : Keep h0 T636.heap [] := (Keep.refl h0 []).trans K636 all0
    have K787 : Keep h0 T637.heap [] := K786.trans K637 all0
    have K788 : Keep h0 T639.heap [] := K787.trans K639 all0
    have K789 : Keep h0 T641.heap [] := K788.trans K641 all0
    have K790 : Keep h0 h646 [] := K789.ext E646
    have gz791 : h0.size ≤ b646 := by omega
    have K792 : Keep h0 h649 [] := K790.wr W649 (Or.inr gz791)
    have K793 : Keep h0 h654 [] := K792.wr W654 (Or.inr gz791)
    have K794 : Keep h0 h658 [] := K793.wr W658 (Or.inr gz791)
    have K795 : Keep h0 h662 [] := K794.wr W662 (Or.inr gz791)
    have K796 : Keep h0 h666 [] := K795.wr W666 (Or.inr gz791)
    have K797 : Keep h0 h670 [] := K796.wr W670 (Or.inr gz791)
    have K798 : Keep h0 h674 [] := K797.wr W674 (Or.inr gz791)
    have K799 : Keep h0 h678 [] := K798.wr W678 (Or.inr gz791)
    have K800 : Keep h0 h682 [] := K799.wr W682 (Or.inr gz791)
    have K801 : Keep h0 T686.heap [] := K800.trans K686 (allS (Or.inr gz791) all0)
    have K802 : Keep h0 h700 [] := K801.wr W700 (Or.inr gz791)
    have K803 : Keep h0 h704 [] := K802.wr W704 (Or.inr gz791)
    have K804 : Keep h0 h708 [] := K803.wr W708 (Or.inr gz791)
    have K805 : Keep h0 h712 [] := K804.wr W712 (Or.inr gz791)
    have K806 : Keep h0 h716 [] := K805.wr W716 (Or.inr gz791)
    have K807 : Keep h0 h720 [] := K806.wr W720 (Or.inr gz791)
    have K808 : Keep h0 T724.heap [] := K807.trans K724 (allS (Or.inr gz791) all0)
    have K809 : Keep h0 h734 [] := K808.wr W734 (Or.inr gz791)
    have K810 : Keep h0 T738.heap [] := K809.trans K738 (allS (Or.inr gz791) all0)
    have K811 : Keep h0 h745 [] := K810.ext E745
    have gz812 : h0.size ≤ b745 := by omega
    have K813 : Keep h0 T749.heap [] := K811.trans K749 (allS (Or.inr gz812) all0)
    subst hPP
    refine ⟨_, _, retN X754 hx (t := .boolean) Bd.returns (by simp) (hb hby at_262) hr785, hrun785, hend785, _, _, rfl, ?_, ?_, hret785.1, hret785.2.1, hret785.2.2.1, hret785.2.2.2.mono (by decide) (by decide)⟩
    · show Q_law Z _ _ _ _ _ _ h0 _ T754.heap _
      rw [K754]
      exact ⟨rfl, N754, K813⟩
    · have hfin := R749.trans (CHv.at X754 hZ641 hEL R749.1)
      rw [← hh] at hfin
      show CHr Z consts_1 s.vm s.heap T754.vm T754.heap
      rw [K754]
      exact hfin
  refine oG.st (fun _ k => XS.iloadN X0.here hx rfl (hb hby at_0) rfl (XS.iconst X0.here hx rfl (hb hby at_1) (XS.iand X0.here hx rfl (hb hby at_2) rfl (XS.iconst X0.here hx rfl (hb hby at_3) k)))) ?_
  show oG _ _ _ _ (s₁.setTop (mkF m 4 #[.val (.int p1), .val (.int p2), .val (.int p3), .val (.int p4), .unset, .unset, .unset, .unset, .unset, .unset, .unset, .unset, .unset] [(.int (3 : Int32)), (.int (p4 &&& (3 : Int32)))]))
  refine oG.st (fun _ k => iremM (g := (mkF m 4 #[.val (.int p1), .val (.int p2), .val (.int p3), .val (.int p4), .unset, .unset, .unset, .unset, .unset, .unset, .unset, .unset, .unset] [(.int (3 : Int32)), (.int (p4 &&& (3 : Int32)))])) X0 hx rfl (hb hby at_4) rfl (by decide) k) ?_
  refine oG.st (fun _ k => XS.istore X0.here hx rfl (hb hby at_5) rfl (l' := #[.val (.int p1), .val (.int p2), .val (.int p3), .val (.int p4), .val (.int ((p4 &&& (3 : Int32)) % (3 : Int32))), .unset, .unset, .unset, .unset, .unset, .unset, .unset, .unset]) rfl (XS.iloadN X0.here hx rfl (hb hby at_7) rfl (XS.iconst X0.here hx rfl (hb hby at_8) (XS.iushr X0.here hx rfl (hb hby at_9) rfl (XS.iconst X0.here hx rfl (hb hby at_10) k))))) ?_
  show oG _ _ _ _ (s₁.setTop (mkF m 11 #[.val (.int p1), .val (.int p2), .val (.int p3), .val (.int p4), .val (.int ((p4 &&& (3 : Int32)) % (3 : Int32))), .unset, .unset, .unset, .unset, .unset, .unset, .unset, .unset] [(.int (3 : Int32)), (.int ((p4.toUInt32 >>> ((2 : Int32) &&& 31).toUInt32).toInt32))]))
  refine oG.st (fun _ k => XS.iand X0.here hx rfl (hb hby at_11) rfl (XS.iconst X0.here hx rfl (hb hby at_12) k)) ?_
  show oG _ _ _ _ (s₁.setTop (mkF m 13 #[.val (.int p1), .val (.int p2), .val (.int p3), .val (.int p4), .val (.int ((p4 &&& (3 : Int32)) % (3 : Int32))), .unset, .unset, .unset, .unset, .unset, .unset, .unset, .unset] [(.int (3 : Int32)), (.int (((p4.toUInt32 >>> ((2 : Int32) &&& 31).toUInt32).toInt32) &&& (3 : Int32)))]))
  refine oG.st (fun _ k => iremM (g := (mkF m 13 #[.val (.int p1), .val (.int p2), .val (.int p3), .val (.int p4), .val (.int ((p4 &&& (3 : Int32)) % (3 : Int32))), .unset, .unset, .unset, .unset, .unset, .unset, .unset, .unset] [(.int (3 : Int32)), (.int (((p4.toUInt32 >>> ((2 : Int32) &&& 31).toUInt32).toInt32) &&& (3 : Int32)))])) X0 hx rfl (hb hby at_13) rfl (by decide) k) ?_
  refine oG.st (fun _ k => XS.istore X0.here hx rfl (hb hby at_14) rfl (l' := #[.val (.int p1), .val (.int p2), .val (.int p3), .val (.int p4), .val (.int ((p4 &&& (3 : Int32)) % (3 : Int32))), .val (.int ((((p4.toUInt32 >>> ((2 : Int32) &&& 31).toUInt32).toInt32) &&& (3 : Int32)) % (3 : Int32))), .unset, .unset, .unset, .unset, .unset, .unset, .unset]) rfl (XS.iloadN X0.here hx rfl (hb hby at_16) rfl (XS.iconst X0.here hx rfl (hb hby at_17) (XS.iushr X0.here hx rfl (hb hby at_18) rfl (XS.iconst X0.here hx rfl (hb hby at_19) k))))) ?_
  show oG _ _ _ _ (s₁.setTop (mkF m 20 #[.val (.int p1), .val (.int p2), .val (.int p3), .val (.int p4), .val (.int ((p4 &&& (3 : Int32)) % (3 : Int32))), .val (.int ((((p4.toUInt32 >>> ((2 : Int32) &&& 31).toUInt32).toInt32) &&& (3 : Int32)) % (3 : Int32))), .unset, .unset, .unset, .unset, .unset, .unset, .unset] [(.int (3 : Int32)), (.int ((p4.toUInt32 >>> ((4 : Int32) &&& 31).toUInt32).toInt32))]))
  refine oG.st (fun _ k => XS.iand X0.here hx rfl (hb hby at_20) rfl (XS.iconst X0.here hx rfl (hb hby at_21) k)) ?_
  show oG _ _ _ _ (s₁.setTop (mkF m 22 #[.val (.int p1), .val (.int p2), .val (.int p3), .val (.int p4), .val (.int ((p4 &&& (3 : Int32)) % (3 : Int32))), .val (.int ((((p4.toUInt32 >>> ((2 : Int32) &&& 31).toUInt32).toInt32) &&& (3 : Int32)) % (3 : Int32))), .unset, .unset, .unset, .unset, .unset, .unset, .unset] [(.int (3 : Int32)), (.int (((p4.toUInt32 >>> ((4 : Int32) &&& 31).toUInt32).toInt32) &&& (3 : Int32)))]))
  refine oG.st (fun _ k => iremM (g := (mkF m 22 #[.val (.int p1), .val (.int p2), .val (.int p3), .val (.int p4), .val (.int ((p4 &&& (3 : Int32)) % (3 : Int32))), .val (.int ((((p4.toUInt32 >>> ((2 : Int32) &&& 31).toUInt32).toInt32) &&& (3 : Int32)) % (3 : Int32))), .unset, .unset, .unset, .unset, .unset, .unset, .unset] [(.int (3 : Int32)), (.int (((p4.toUInt32 >>> ((4 : Int32) &&& 31).toUInt32).toInt32) &&& (3 : Int32)))])) X0 hx rfl (hb hby at_22) rfl (by decide) k) ?_
  refine oG.st (fun _ k => XS.istore X0.here hx rfl (hb hby at_23) rfl (l' := #[.val (.int p1), .val (.int p2), .val (.int p3), .val (.int p4), .val (.int ((p4 &&& (3 : Int32)) % (3 : Int32))), .val (.int ((((p4.toUInt32 >>> ((2 : Int32) &&& 31).toUInt32).toInt32) &&& (3 : Int32)) % (3 : Int32))), .val (.int ((((p4.toUInt32 >>> ((4 : Int32) &&& 31).toUInt32).toInt32) &&& (3 : Int32)) % (3 : Int32))), .unset, .unset, .unset, .unset, .unset, .unset]) rfl k) ?_
  show oG _ _ _ _ (s₁.setTop (mkF m 25 #[.val (.int p1), .val (.int p2), .val (.int p3), .val (.int p4), .val (.int ((p4 &&& (3 : Int32)) % (3 : Int32))), .val (.int ((((p4.toUInt32 >>> ((2 : Int32) &&& 31).toUInt32).toInt32) &&& (3 : Int32)) % (3 : Int32))), .val (.int ((((p4.toUInt32 >>> ((4 : Int32) &&& 31).toUInt32).toInt32) &&& (3 : Int32)) % (3 : Int32))), .unset, .unset, .unset, .unset, .unset, .unset] []))
  exact J635 ((p4 &&& (3 : Int32)) % (3 : Int32)) ((((p4.toUInt32 >>> ((2 : Int32) &&& 31).toUInt32).toInt32) &&& (3 : Int32)) % (3 : Int32)) ((((p4.toUInt32 >>> ((4 : Int32) &&& 31).toUInt32).toInt32) &&& (3 : Int32)) % (3 : Int32)) ⟨own_n3 _, own_n3 _, own_n3 _⟩
set_option maxRecDepth 65536 in
set_option maxHeartbeats 40000000 in
theorem comes_1 {Post : Tables → Env → Array Value → State → Outcome → State → Prop} (hpost : ∀ tb e args s v u, (limb_1_1.after args s (.returned v) u = true ∧ limb_1_2.after args s (.returned v) u = true ∧ True) → ReturnedEndW s (.returned v) u (Jvm.fieldLocs frame_1_writes args s ++ Jvm.arrayLocs frame_1_arrays args s ++ Jvm.staticLocs frame_1_statics s) 64 4672 → Post tb e args s (.returned v) u) :
    ArmFor flags0 classFile x code maxLocals ret World_1 tables_1 room_1 Calls_1 rest_1 Pre_1 Post := by
  intro l hfl _ _ p e ha hc hk s m args below hf hA hF happ hP
  obtain ⟨hcalls, hrest, hpre⟩ := hP
  obtain ⟨-, -, -, hnamed, -, -, -, hat⟩ := (Spec.applies_iff hf).mp happ
  obtain ⟨hg, hn⟩ := and_e (Cond.before_iff.mp (show (Jvm.Cond.and given_1 narrow_1).before args s = true from hpre))
  obtain ⟨g0, r0⟩ := and_e hg
  obtain ⟨g1, r1⟩ := and_e r0
  obtain ⟨g2, r2⟩ := and_e r1
  obtain ⟨g3, r3⟩ := and_e r2
  obtain ⟨w0, w1, w2, w3, rfl⟩ : ∃ w0 w1 w2 w3 : Value, args = #[w0, w1, w2, w3] := by
    have hs : args.size = 4 := by simpa [Cond.value, given_1] using g0
    obtain ⟨L⟩ := args
    match L, hs with
    | [w0, w1, w2, w3], _ => exact ⟨w0, w1, w2, w3, rfl⟩
  have hw := fun d (hd : d ∈ tables_1) => atoms_spec (ws := Jvm.Cond.code x code maxLocals ret :: tables_1) hat d (List.mem_cons_of_mem _ hd)
  obtain ⟨hsets, hown0⟩ := atoms_of _ (rest_1_c_eq ▸ (show rest_1_c.before _ s = true from hrest))
  have hfit : Fit s := fun {y c} hc i hi => by
    obtain ⟨ha, rfl⟩ := Array.getElem?_eq_some_iff.mp hc
    have q := List.all_eq_true.mp ((Array.all_eq_true_iff_forall_mem.mp hF) _ (Array.getElem_mem ha)) i (List.mem_range.mpr hi)
    simpa [Array.getElem?_eq_getElem hi] using q
  obtain ⟨i0, e0⟩ := is_v g1
  obtain rfl : w0 = (.int i0) := Option.some.inj e0
  obtain ⟨i1, e1⟩ := is_v g2
  obtain rfl : w1 = (.int i1) := Option.some.inj e1
  obtain ⟨i2, e2⟩ := is_v g3
  obtain rfl : w2 = (.int i2) := Option.some.inj e2
  obtain ⟨i3, e3⟩ := is_v r3
  obtain rfl : w3 = (.int i3) := Option.some.inj e3
  obtain ⟨zc, ez⟩ := is_v (Cond.before_iff.mp (hsets _ (List.mem_of_getElem? (i := 1) rfl)))
  have st_zc : Sta s s.heap "java/lang/String" "COMPACT_STRINGS" "Z" (.int zc) := Sta.start ez (Or.inl (hsets _ (List.mem_of_getElem? (i := 0) rfl)))
  have hzc : ¬ (zc = (0 : Int32)) := gotF (Cond.eq_ints ez (Term.int_eval (0))) (not_v (Cond.before_iff.mp (hsets _ (List.mem_of_getElem? (i := 2) rfl))))
  obtain ⟨fm, ef, hfm⟩ := isR_v (Cond.before_iff.mp (hsets _ (List.mem_of_getElem? (i := 8) rfl)))
  have st_fm : Sta s s.heap "jdk/internal/util/Preconditions" "SIOOBE_FORMATTER" "Ljava/util/function/BiFunction;" fm := Sta.start ef (Or.inl (hsets _ (List.mem_of_getElem? (i := 7) rfl)))
  have hEL : EW s _ consts_1 := (EW.cons (own_w hw 65 rfl) (by decide) (EW.cons (own_w hw 113 rfl) (by decide) (EW.cons (own_w hw 157 rfl) (by decide) (EW.cons (own_w hw 37 rfl) (by decide) EW.nil))))
  have hC0 : CHv s consts_1 s.vm s.heap := CHv.start hEL (fun p hp => hcalls.1 p hp) (hsets _ (List.mem_of_getElem? (i := 2) rfl)) (own_w hw 26 rfl) (own_w hw 9 rfl)
  obtain ⟨n, o, h1, h2, h3, _, L, rfl, ⟨rfl, N, -⟩, -, hq⟩ := rm_law l s _ hw tables_1 i0 i1 i2 i3 zc fm s.heap hEL (Old.start s)  st_zc st_fm hzc hfm p e ha hc hk s m _ below hf ((Spec.applies_iff_loose hf).mp happ).1 ⟨rfl, State.Warmed39.refl s, rfl, hC0⟩ trivial
  refine ⟨n, _, h1, h2, h3, hpost _ _ _ _ _ _ ⟨Cond.after_iff.mpr rfl, Cond.after_iff.mpr (eq_i res_at (Term.int_eval (1)) rfl), trivial⟩ ⟨hq.1, hq.2.1, hq.2.2.1, (hq.2.2.2.sift fun y hy => Or.inr (N y hy)).mono (by decide) (by decide)⟩⟩
theorem main_1_1 : Claimed_1_1 := comes_1 fun _ _ _ _ _ _ h hF => ⟨h.1, hF⟩
theorem main_1_2 : Claimed_1_2 := comes_1 fun _ _ _ _ _ _ h hF => ⟨h.2.1, hF⟩
end Jvm.Pilot.@@N@@
namespace Jvm.Pilot.@@N@@
open Jvm Jvm.ClassFile Sem Op Lib Jvm.Free Jvm.Stand Jvm.Pilot.@@N@@.Jvm.D
/-! MADE BY PROGRAM (witnessworld.py) out of the Statement's table words and the real class files: 26 classes; the members and pool entries that the words name. The judged class is class 1, her method 1. -/
namespace start1
open Jvm.ClassFile
def u (s : String) : CpInfo := .utf8 (stringToUtf16 s)
/-- a pool by its gaps: so many unusable entries, then the entry; so many at the end -/
def gap : Nat → List CpInfo → List CpInfo
  | 0, r => r
  | n + 1, r => .unusable :: gap n r
def poolList (es : List (Nat × CpInfo)) (last : Nat) : List CpInfo := es.foldr (fun e r => gap e.1 (e.2 :: r)) (gap last [])
def pool (es : List (Nat × CpInfo)) (last : Nat) : Array CpInfo := ⟨poolList es last⟩
def fileOf (pool : Array CpInfo) (this : Nat) (attrs : Array Attribute := #[]) (ms : Array MethodInfo := #[]) (fl : Nat := 33) (sup : Nat := 0) (ifs : Array Nat := #[]) (fds : Array FieldInfo := #[]) : ClassFile where
  minorVersion := 0
  majorVersion := 65
  constantPool := pool
  accessFlags := fl
  thisClass := this
  superClass := sup
  interfaces := ifs
  fields := fds
  methods := ms
  attributes := attrs
def plain (name : String) (sup : Option ClassId) : Class where
  name := name
  kind := .ordinary
  loader := none
  accessFlags := 33
  super := sup
  interfaces := #[]
  cf := none
  fields := #[]
  methods := #[]
  instanceTypes := #[]
  staticTypes := #[]
  resolved := #[]
  callSites := []
  init := .initialized
  statics := none
  mirror := none

def pool0 : Array CpInfo := pool [(5, u "<init>"), (0, u "()V"), (1, .class_ 10), (1, u "java/lang/Object"), (85, u "clone"), (0, u "()Ljava/lang/Object;")] 26

def k0c0 : Code := { maxStack := 0, maxLocals := 1, code := object_method_1_code, exceptionTable := #[], attributes := #[] }
def k0m0 : Method := { name := "<init>", desc := "()V", sig := { parameters := [], returnType := none }, accessFlags := 1, code := some k0c0 }
def k0m1 : Method := { name := "clone", desc := "()Ljava/lang/Object;", sig := { parameters := [], returnType := some (.object "java/lang/Object") }, accessFlags := 260, code := none }
/-- java/lang/Object -/
def k0 : Class := { plain "java/lang/Object" none with
  accessFlags := 33
  interfaces := #[]
  cf := some (fileOf pool0 8 #[] #[{ accessFlags := 1, nameIndex := 5, descriptorIndex := 6, attributes := #[] }, { accessFlags := 260, nameIndex := 96, descriptorIndex := 97, attributes := #[] }] 33 0 #[] #[])
  fields := #[]
  methods := #[k0m0, k0m1]
  instanceTypes := #[]
  staticTypes := #[]
  resolved := Array.replicate 124 none
  statics := none }

def pool1 : Array CpInfo := pool [(2, .class_ 4), (1, u "java/lang/Object"), (0, u "<init>"), (0, u "()V"), (0, .methodref 8 9), (0, .class_ 10), (0, .nameAndType 11 12), (0, u "com/example/vigilant_gate/vigilantgate/IdentityArnsAssumedRolePinLaw"), (0, u "drawn"), (0, u "(II)Ljava/lang/String;"), (0, .methodref 14 15), (0, .class_ 16), (0, .nameAndType 17 18), (0, u "com/example/vigilant_gate/vigilantgate/IdentityArns"), (0, u "assumedRole"), (0, u "(Ljava/lang/String;Ljava/lang/String;Ljava/lang/String;)Ljava/lang/String;"), (0, .methodref 8 20), (0, .nameAndType 21 22), (0, u "put"), (0, u "([CIII)I"), (0, .class_ 24), (0, u "java/lang/String"), (0, .methodref 23 26), (0, .nameAndType 5 27), (0, u "([C)V"), (0, .methodref 23 29), (0, .nameAndType 30 31), (0, u "equals"), (0, u "(Ljava/lang/Object;)Z"), (0, .methodref 8 33), (0, .nameAndType 34 35), (0, u "c0"), (0, u "(I)C"), (0, .methodref 8 37), (0, .nameAndType 38 35), (0, u "c1"), (2, u "law"), (0, u "(IIII)Z")] 5

def k1m0 : Method := { name := "<init>", desc := "()V", sig := { parameters := [], returnType := none }, accessFlags := 2, code := none }
def k1c1 : Code := { maxStack := 4, maxLocals := 13, code := code, exceptionTable := #[], attributes := #[] }
def k1m1 : Method := { name := "law", desc := "(IIII)Z", sig := { parameters := [.int, .int, .int, .int], returnType := some .boolean }, accessFlags := 9, code := some k1c1 }
def k1c2 : Code := { maxStack := 2, maxLocals := 1, code := method_3_code, exceptionTable := #[], attributes := #[] }
def k1m2 : Method := { name := "c0", desc := "(I)C", sig := { parameters := [.int], returnType := some .char }, accessFlags := 10, code := some k1c2 }
def k1c3 : Code := { maxStack := 2, maxLocals := 1, code := method_4_code, exceptionTable := #[], attributes := #[] }
def k1m3 : Method := { name := "c1", desc := "(I)C", sig := { parameters := [.int], returnType := some .char }, accessFlags := 10, code := some k1c3 }
def k1c4 : Code := { maxStack := 3, maxLocals := 3, code := method_5_code, exceptionTable := #[], attributes := #[] }
def k1m4 : Method := { name := "drawn", desc := "(II)Ljava/lang/String;", sig := { parameters := [.int, .int], returnType := some (.object "java/lang/String") }, accessFlags := 10, code := some k1c4 }
def k1c5 : Code := { maxStack := 3, maxLocals := 4, code := method_6_code, exceptionTable := #[], attributes := #[] }
def k1m5 : Method := { name := "put", desc := "([CIII)I", sig := { parameters := [(.array .char), .int, .int, .int], returnType := some .int }, accessFlags := 10, code := some k1c5 }
/-- com/example/vigilant_gate/vigilantgate/IdentityArnsAssumedRolePinLaw -/
def k1 : Class := { plain "com/example/vigilant_gate/vigilantgate/IdentityArnsAssumedRolePinLaw" (some 0) with
  accessFlags := 49
  interfaces := #[]
  cf := some (fileOf pool1 8 #[] #[{ accessFlags := 2, nameIndex := 5, descriptorIndex := 6, attributes := #[] }, { accessFlags := 9, nameIndex := 41, descriptorIndex := 42, attributes := #[] }, { accessFlags := 10, nameIndex := 34, descriptorIndex := 35, attributes := #[] }, { accessFlags := 10, nameIndex := 38, descriptorIndex := 35, attributes := #[] }, { accessFlags := 10, nameIndex := 11, descriptorIndex := 12, attributes := #[] }, { accessFlags := 10, nameIndex := 21, descriptorIndex := 22, attributes := #[] }] 49 2 #[] #[])
  fields := #[]
  methods := #[k1m0, k1m1, k1m2, k1m3, k1m4, k1m5]
  instanceTypes := #[]
  staticTypes := #[]
  resolved := Array.replicate 48 none
  statics := none }

def pool2 : Array CpInfo := pool [(1, .class_ 2), (0, u "java/io/Serializable"), (0, .class_ 4), (0, u "java/lang/Object")] 2

/-- java/io/Serializable -/
def k2 : Class := { plain "java/io/Serializable" (some 0) with
  accessFlags := 1537
  interfaces := #[]
  cf := some (fileOf pool2 1 #[] #[] 1537 3 #[] #[])
  fields := #[]
  methods := #[]
  instanceTypes := #[]
  staticTypes := #[]
  resolved := Array.replicate 7 none
  statics := none }

def pool3 : Array CpInfo := pool [(1, .class_ 2), (0, u "java/lang/Comparable"), (0, .class_ 4), (0, u "java/lang/Object")] 7

/-- java/lang/Comparable -/
def k3 : Class := { plain "java/lang/Comparable" (some 0) with
  accessFlags := 1537
  interfaces := #[]
  cf := some (fileOf pool3 1 #[] #[] 1537 3 #[] #[])
  fields := #[]
  methods := #[]
  instanceTypes := #[]
  staticTypes := #[]
  resolved := Array.replicate 12 none
  statics := none }

def pool4 : Array CpInfo := pool [(2, .class_ 4), (1, u "java/lang/CharSequence"), (42, .class_ 48), (0, u "java/lang/CharSequence$1CodePointIterator"), (10, .class_ 60), (0, u "java/lang/CharSequence$1CharIterator"), (5, .class_ 67), (0, u "java/lang/Object")] 63

/-- java/lang/CharSequence -/
def k4 : Class := { plain "java/lang/CharSequence" (some 0) with
  accessFlags := 1537
  interfaces := #[]
  cf := some (fileOf pool4 2 #[.nestMembers #[47, 59]] #[] 1537 66 #[] #[])
  fields := #[]
  methods := #[]
  instanceTypes := #[]
  staticTypes := #[]
  resolved := Array.replicate 131 none
  statics := none }

def pool5 : Array CpInfo := pool [(1, .class_ 2), (0, u "java/lang/constant/Constable"), (0, .class_ 4), (0, u "java/lang/Object")] 6

/-- java/lang/constant/Constable -/
def k5 : Class := { plain "java/lang/constant/Constable" (some 0) with
  accessFlags := 1537
  interfaces := #[]
  cf := some (fileOf pool5 1 #[] #[] 1537 3 #[] #[])
  fields := #[]
  methods := #[]
  instanceTypes := #[]
  staticTypes := #[]
  resolved := Array.replicate 11 none
  statics := none }

def pool6 : Array CpInfo := pool [(1, .class_ 2), (0, u "java/lang/constant/ConstantDesc"), (0, .class_ 4), (0, u "java/lang/Object")] 32

/-- java/lang/constant/ConstantDesc -/
def k6 : Class := { plain "java/lang/constant/ConstantDesc" (some 0) with
  accessFlags := 1537
  interfaces := #[]
  cf := some (fileOf pool6 1 #[] #[] 1537 3 #[] #[])
  fields := #[]
  methods := #[]
  instanceTypes := #[]
  staticTypes := #[]
  resolved := Array.replicate 37 none
  statics := none }

def pool7 : Array CpInfo := pool [(1, .methodref 2 3), (0, .class_ 4), (0, .nameAndType 5 6), (0, u "java/lang/Object"), (0, u "<init>"), (0, u "()V"), (0, .string 8), (0, u ""), (0, .fieldref 10 11), (0, .class_ 12), (0, .nameAndType 13 14), (0, u "java/lang/String"), (0, u "value"), (0, u "[B"), (0, .fieldref 10 16), (0, .nameAndType 17 18), (0, u "coder"), (0, u "B"), (2, u "hash"), (0, u "I"), (2, u "hashIsZero"), (0, u "Z"), (0, .methodref 10 28), (0, .nameAndType 5 29), (0, u "([CIILjava/lang/Void;)V"), (8, .fieldref 10 39), (0, .nameAndType 40 26), (0, u "COMPACT_STRINGS"), (1, .class_ 44), (1, u "java/lang/StringUTF16"), (0, u "compress"), (1, .methodref 42 48), (0, .nameAndType 49 50), (0, u "coderFromArrayLen"), (0, u "([BI)B"), (3, .methodref 55 56), (0, .class_ 57), (0, .nameAndType 58 59), (0, u "java/util/Arrays"), (0, u "copyOfRange"), (0, u "([BII)[B"), (47, .class_ 109), (1, u "java/lang/StringLatin1"), (32, u "()Z"), (34, .methodref 42 178), (0, .nameAndType 45 179), (0, u "([CII)[B"), (13, .class_ 195), (1, u "java/lang/System"), (16, .methodref 193 213), (0, .nameAndType 214 215), (0, u "arraycopy"), (0, u "(Ljava/lang/Object;ILjava/lang/Object;II)V"), (118, u "()I"), (0, .methodref 10 336), (0, .nameAndType 17 337), (0, u "()B"), (2, u "()[B"), (148, .methodref 10 490), (0, .nameAndType 5 491), (0, u "(Ljava/lang/AbstractStringBuilder;Ljava/lang/Void;)V"), (1, .nameAndType 494 142), (0, u "isLatin1"), (11, .nameAndType 507 334), (0, u "length"), (24, u "getBytes"), (8, .methodref 107 542), (0, .nameAndType 543 544), (0, u "equals"), (0, u "([B[B)Z"), (4, .methodref 550 506), (0, .class_ 551), (0, u "java/lang/AbstractStringBuilder"), (0, .methodref 550 553), (0, .nameAndType 554 340), (0, u "getValue"), (18, u "(Ljava/lang/Object;)Z"), (1, .class_ 576), (0, u "java/lang/CharSequence"), (22, u "CASE_INSENSITIVE_ORDER"), (0, u "Ljava/util/Comparator;"), (220, u "([BIB)V"), (188, u "([C)V"), (36, .methodref 550 493), (53, u "serialPersistentFields"), (0, u "[Ljava/io/ObjectStreamField;"), (0, .class_ 1104), (0, u "java/lang/String$CaseInsensitiveComparator"), (1, .class_ 1107), (0, u "java/io/Serializable"), (0, .class_ 1109), (0, u "java/lang/Comparable"), (0, .class_ 1111), (0, u "java/lang/constant/Constable"), (0, .class_ 1113), (0, u "java/lang/constant/ConstantDesc"), (2, u "serialVersionUID"), (0, u "J"), (3, u "REPL"), (0, u "C"), (2, u "LATIN1"), (1, u "UTF16"), (105, u "(Ljava/lang/StringBuilder;)V")] 217

def k7m0 : Method := { name := "<init>", desc := "()V", sig := { parameters := [], returnType := none }, accessFlags := 1, code := none }
def k7c1 : Code := { maxStack := 5, maxLocals := 2, code := jdk_42_method_3_code, exceptionTable := #[], attributes := #[] }
def k7m1 : Method := { name := "<init>", desc := "([C)V", sig := { parameters := [(.array .char)], returnType := none }, accessFlags := 1, code := some k7c1 }
def k7c2 : Code := { maxStack := 3, maxLocals := 2, code := jdk_42_method_53_code, exceptionTable := #[], attributes := #[] }
def k7m2 : Method := { name := "<init>", desc := "(Ljava/lang/StringBuilder;)V", sig := { parameters := [(.object "java/lang/StringBuilder")], returnType := none }, accessFlags := 1, code := some k7c2 }
def k7c3 : Code := { maxStack := 2, maxLocals := 1, code := jdk_42_method_54_code, exceptionTable := #[], attributes := #[] }
def k7m3 : Method := { name := "length", desc := "()I", sig := { parameters := [], returnType := some .int }, accessFlags := 1, code := some k7c3 }
def k7c4 : Code := { maxStack := 2, maxLocals := 3, code := jdk_42_method_66_code, exceptionTable := #[], attributes := #[] }
def k7m4 : Method := { name := "equals", desc := "(Ljava/lang/Object;)Z", sig := { parameters := [(.object "java/lang/Object")], returnType := some .boolean }, accessFlags := 1, code := some k7c4 }
def k7c5 : Code := { maxStack := 5, maxLocals := 4, code := jdk_42_method_147_code, exceptionTable := #[], attributes := #[] }
def k7m5 : Method := { name := "getBytes", desc := "([BIB)V", sig := { parameters := [(.array .byte), .int, .byte], returnType := none }, accessFlags := 0, code := some k7c5 }
def k7c6 : Code := { maxStack := 4, maxLocals := 6, code := jdk_42_method_149_code, exceptionTable := #[], attributes := #[] }
def k7m6 : Method := { name := "<init>", desc := "([CIILjava/lang/Void;)V", sig := { parameters := [(.array .char), .int, .int, (.object "java/lang/Void")], returnType := none }, accessFlags := 2, code := some k7c6 }
def k7c7 : Code := { maxStack := 5, maxLocals := 5, code := jdk_42_method_150_code, exceptionTable := #[], attributes := #[] }
def k7m7 : Method := { name := "<init>", desc := "(Ljava/lang/AbstractStringBuilder;Ljava/lang/Void;)V", sig := { parameters := [(.object "java/lang/AbstractStringBuilder"), (.object "java/lang/Void")], returnType := none }, accessFlags := 0, code := some k7c7 }
def k7c8 : Code := { maxStack := 1, maxLocals := 1, code := jdk_42_method_152_code, exceptionTable := #[], attributes := #[] }
def k7m8 : Method := { name := "coder", desc := "()B", sig := { parameters := [], returnType := some .byte }, accessFlags := 0, code := some k7c8 }
/-- java/lang/String -/
def k7 : Class := { plain "java/lang/String" (some 0) with
  accessFlags := 49
  interfaces := #[2, 3, 4, 5, 6]
  cf := some (fileOf pool7 10 #[.nestMembers #[1103]] #[{ accessFlags := 1, nameIndex := 5, descriptorIndex := 6, attributes := #[] }, { accessFlags := 1, nameIndex := 5, descriptorIndex := 1010, attributes := #[] }, { accessFlags := 1, nameIndex := 5, descriptorIndex := 1233, attributes := #[] }, { accessFlags := 1, nameIndex := 507, descriptorIndex := 334, attributes := #[] }, { accessFlags := 1, nameIndex := 543, descriptorIndex := 573, attributes := #[] }, { accessFlags := 0, nameIndex := 532, descriptorIndex := 821, attributes := #[] }, { accessFlags := 2, nameIndex := 5, descriptorIndex := 29, attributes := #[] }, { accessFlags := 0, nameIndex := 5, descriptorIndex := 491, attributes := #[] }, { accessFlags := 0, nameIndex := 17, descriptorIndex := 337, attributes := #[] }] 49 2 #[1106, 1108, 575, 1110, 1112] #[{ accessFlags := 18, nameIndex := 13, descriptorIndex := 14, attributes := #[] }, { accessFlags := 18, nameIndex := 17, descriptorIndex := 18, attributes := #[] }, { accessFlags := 2, nameIndex := 21, descriptorIndex := 22, attributes := #[] }, { accessFlags := 2, nameIndex := 25, descriptorIndex := 26, attributes := #[] }, { accessFlags := 26, nameIndex := 1116, descriptorIndex := 1117, attributes := #[] }, { accessFlags := 24, nameIndex := 40, descriptorIndex := 26, attributes := #[] }, { accessFlags := 26, nameIndex := 1101, descriptorIndex := 1102, attributes := #[] }, { accessFlags := 26, nameIndex := 1121, descriptorIndex := 1122, attributes := #[] }, { accessFlags := 25, nameIndex := 599, descriptorIndex := 600, attributes := #[] }, { accessFlags := 24, nameIndex := 1125, descriptorIndex := 18, attributes := #[] }, { accessFlags := 24, nameIndex := 1127, descriptorIndex := 18, attributes := #[] }])
  fields := #[{ name := "value", type := (.array .byte), accessFlags := 18, slot := 0, constantValue := 0 }, { name := "coder", type := .byte, accessFlags := 18, slot := 1, constantValue := 0 }, { name := "hash", type := .int, accessFlags := 2, slot := 2, constantValue := 0 }, { name := "hashIsZero", type := .boolean, accessFlags := 2, slot := 3, constantValue := 0 }, { name := "serialVersionUID", type := .long, accessFlags := 26, slot := 0, constantValue := 0 }, { name := "COMPACT_STRINGS", type := .boolean, accessFlags := 24, slot := 1, constantValue := 0 }, { name := "serialPersistentFields", type := (.array (.object "java/io/ObjectStreamField")), accessFlags := 26, slot := 2, constantValue := 0 }, { name := "REPL", type := .char, accessFlags := 26, slot := 3, constantValue := 0 }, { name := "CASE_INSENSITIVE_ORDER", type := (.object "java/util/Comparator"), accessFlags := 25, slot := 4, constantValue := 0 }, { name := "LATIN1", type := .byte, accessFlags := 24, slot := 5, constantValue := 0 }, { name := "UTF16", type := .byte, accessFlags := 24, slot := 6, constantValue := 0 }]
  methods := #[k7m0, k7m1, k7m2, k7m3, k7m4, k7m5, k7m6, k7m7, k7m8]
  instanceTypes := #[(.array .byte), .byte, .int, .boolean]
  staticTypes := #[.long, .boolean, (.array (.object "java/io/ObjectStreamField")), .char, (.object "java/util/Comparator"), .byte, .byte]
  resolved := Array.replicate 1451 none
  statics := some 0 }

def pool8 : Array CpInfo := pool [(6, .class_ 8), (1, u "java/lang/Object"), (0, u "<init>"), (0, u "()V"), (1, .class_ 14), (1, u "java/lang/StringUTF16"), (31, u "$assertionsDisabled"), (0, u "Z"), (13, u "HI_BYTE_SHIFT"), (0, u "I"), (2, u "LO_BYTE_SHIFT"), (49, .methodref 12 116), (0, .nameAndType 117 118), (0, u "compress"), (0, u "([CI[BII)I"), (3, u "([CII)[B"), (138, u "coderFromArrayLen"), (0, u "([BI)B"), (106, .class_ 371), (1, u "java/lang/StringUTF16$LinesSpliterator"), (58, u "MAX_LENGTH"), (196, .class_ 628), (0, u "java/lang/StringUTF16$CodePointsSpliterator"), (0, .class_ 630), (0, u "java/lang/StringUTF16$CharsSpliterator")] 4

def k8m0 : Method := { name := "<init>", desc := "()V", sig := { parameters := [], returnType := none }, accessFlags := 0, code := none }
def k8c1 : Code := { maxStack := 2, maxLocals := 2, code := jdk_52_method_15_code, exceptionTable := #[], attributes := #[] }
def k8m1 : Method := { name := "coderFromArrayLen", desc := "([BI)B", sig := { parameters := [(.array .byte), .int], returnType := some .byte }, accessFlags := 8, code := some k8c1 }
def k8c2 : Code := { maxStack := 5, maxLocals := 6, code := jdk_52_method_16_code, exceptionTable := #[], attributes := #[] }
def k8m2 : Method := { name := "compress", desc := "([CII)[B", sig := { parameters := [(.array .char), .int, .int], returnType := some (.array .byte) }, accessFlags := 9, code := some k8c2 }
def k8c3 : Code := { maxStack := 3, maxLocals := 7, code := jdk_52_method_21_code, exceptionTable := #[], attributes := #[] }
def k8m3 : Method := { name := "compress", desc := "([CI[BII)I", sig := { parameters := [(.array .char), .int, (.array .byte), .int, .int], returnType := some .int }, accessFlags := 9, code := some k8c3 }
/-- java/lang/StringUTF16 -/
def k8 : Class := { plain "java/lang/StringUTF16" (some 0) with
  accessFlags := 48
  interfaces := #[]
  cf := some (fileOf pool8 12 #[.nestMembers #[627, 629, 369]] #[{ accessFlags := 0, nameIndex := 9, descriptorIndex := 10, attributes := #[] }, { accessFlags := 8, nameIndex := 261, descriptorIndex := 262, attributes := #[] }, { accessFlags := 9, nameIndex := 117, descriptorIndex := 122, attributes := #[] }, { accessFlags := 9, nameIndex := 117, descriptorIndex := 118, attributes := #[] }] 48 6 #[] #[{ accessFlags := 26, nameIndex := 61, descriptorIndex := 62, attributes := #[] }, { accessFlags := 26, nameIndex := 65, descriptorIndex := 62, attributes := #[] }, { accessFlags := 24, nameIndex := 430, descriptorIndex := 62, attributes := #[] }, { accessFlags := 4120, nameIndex := 46, descriptorIndex := 47, attributes := #[] }])
  fields := #[{ name := "HI_BYTE_SHIFT", type := .int, accessFlags := 26, slot := 0, constantValue := 0 }, { name := "LO_BYTE_SHIFT", type := .int, accessFlags := 26, slot := 1, constantValue := 0 }, { name := "MAX_LENGTH", type := .int, accessFlags := 24, slot := 2, constantValue := 0 }, { name := "$assertionsDisabled", type := .boolean, accessFlags := 4120, slot := 3, constantValue := 0 }]
  methods := #[k8m0, k8m1, k8m2, k8m3]
  instanceTypes := #[]
  staticTypes := #[.int, .int, .int, .boolean]
  resolved := Array.replicate 635 none
  statics := none }

def pool9 : Array CpInfo := pool [(2, .class_ 4), (0, .nameAndType 5 6), (0, u "java/lang/Object"), (0, u "<init>"), (0, u "()V"), (0, .class_ 8), (0, u "java/lang/StringBuilder"), (0, .methodref 7 3), (0, .class_ 11), (0, u "com/example/vigilant_gate/vigilantgate/IdentityArns"), (0, .string 13), (0, u "acs:ram::"), (0, .methodref 7 15), (0, .nameAndType 16 17), (0, u "append"), (0, u "(Ljava/lang/String;)Ljava/lang/StringBuilder;"), (2, .methodref 7 21), (0, .nameAndType 22 23), (0, u "toString"), (0, u "()Ljava/lang/String;"), (2, .string 27), (0, u ":role/"), (0, .methodref 10 29), (0, .nameAndType 30 31), (0, u "role"), (0, u "(Ljava/lang/String;Ljava/lang/String;)Ljava/lang/String;"), (0, .string 33), (0, u "/"), (2, u "ROLE_FORM"), (0, u "Ljava/util/regex/Pattern;"), (18, .class_ 57), (0, u "com/example/vigilant_gate/vigilantgate/IdentityArns$RoleArn"), (23, u "ACCOUNT"), (0, u "Ljava/lang/String;"), (1, u "ROLE"), (4, u "assumedRole"), (0, u "(Ljava/lang/String;Ljava/lang/String;Ljava/lang/String;)Ljava/lang/String;")] 11

def k9m0 : Method := { name := "<init>", desc := "()V", sig := { parameters := [], returnType := none }, accessFlags := 2, code := none }
def k9c1 : Code := { maxStack := 2, maxLocals := 2, code := prog_6_method_4_code, exceptionTable := #[], attributes := #[] }
def k9m1 : Method := { name := "role", desc := "(Ljava/lang/String;Ljava/lang/String;)Ljava/lang/String;", sig := { parameters := [(.object "java/lang/String"), (.object "java/lang/String")], returnType := some (.object "java/lang/String") }, accessFlags := 8, code := some k9c1 }
def k9c2 : Code := { maxStack := 3, maxLocals := 3, code := prog_6_method_5_code, exceptionTable := #[], attributes := #[] }
def k9m2 : Method := { name := "assumedRole", desc := "(Ljava/lang/String;Ljava/lang/String;Ljava/lang/String;)Ljava/lang/String;", sig := { parameters := [(.object "java/lang/String"), (.object "java/lang/String"), (.object "java/lang/String")], returnType := some (.object "java/lang/String") }, accessFlags := 8, code := some k9c2 }
/-- com/example/vigilant_gate/vigilantgate/IdentityArns -/
def k9 : Class := { plain "com/example/vigilant_gate/vigilantgate/IdentityArns" (some 0) with
  accessFlags := 32
  interfaces := #[]
  cf := some (fileOf pool9 10 #[.nestMembers #[56]] #[{ accessFlags := 2, nameIndex := 5, descriptorIndex := 6, attributes := #[] }, { accessFlags := 8, nameIndex := 30, descriptorIndex := 31, attributes := #[] }, { accessFlags := 8, nameIndex := 89, descriptorIndex := 90, attributes := #[] }] 32 2 #[] #[{ accessFlags := 26, nameIndex := 81, descriptorIndex := 82, attributes := #[] }, { accessFlags := 26, nameIndex := 84, descriptorIndex := 82, attributes := #[] }, { accessFlags := 26, nameIndex := 36, descriptorIndex := 37, attributes := #[] }])
  fields := #[{ name := "ACCOUNT", type := (.object "java/lang/String"), accessFlags := 26, slot := 0, constantValue := 0 }, { name := "ROLE", type := (.object "java/lang/String"), accessFlags := 26, slot := 1, constantValue := 0 }, { name := "ROLE_FORM", type := (.object "java/util/regex/Pattern"), accessFlags := 26, slot := 2, constantValue := 0 }]
  methods := #[k9m0, k9m1, k9m2]
  instanceTypes := #[]
  staticTypes := #[(.object "java/lang/String"), (.object "java/lang/String"), (.object "java/util/regex/Pattern")]
  resolved := Array.replicate 102 none
  statics := none }

def pool10 : Array CpInfo := pool [(1, .class_ 2), (0, u "java/lang/Appendable"), (0, .class_ 4), (0, u "java/lang/Object")] 9

/-- java/lang/Appendable -/
def k10 : Class := { plain "java/lang/Appendable" (some 0) with
  accessFlags := 1537
  interfaces := #[]
  cf := some (fileOf pool10 1 #[] #[] 1537 3 #[] #[])
  fields := #[]
  methods := #[]
  instanceTypes := #[]
  staticTypes := #[]
  resolved := Array.replicate 14 none
  statics := none }

def pool11 : Array CpInfo := pool [(1, .class_ 2), (0, u "java/lang/String"), (0, .methodref 4 5), (0, .class_ 6), (0, .nameAndType 7 8), (0, u "java/lang/Object"), (0, u "<init>"), (0, u "()V"), (1, .class_ 12), (1, u "java/lang/AbstractStringBuilder"), (0, u "EMPTYVALUE"), (0, u "[B"), (0, .fieldref 10 16), (0, .nameAndType 17 14), (0, u "value"), (0, .fieldref 1 19), (0, .nameAndType 20 21), (0, u "COMPACT_STRINGS"), (0, u "Z"), (0, .fieldref 10 23), (0, .nameAndType 24 25), (0, u "coder"), (0, u "B"), (6, .methodref 1 33), (0, .nameAndType 34 35), (0, u "length"), (0, u "()I"), (3, .integer 2147483647), (0, .methodref 1 41), (0, .nameAndType 24 42), (0, u "()B"), (2, u "append"), (0, u "(Ljava/lang/String;)Ljava/lang/AbstractStringBuilder;"), (1, .class_ 49), (0, u "java/lang/CharSequence"), (19, u "(Ljava/lang/String;)V"), (5, u "maybeLatin1"), (3, .fieldref 10 80), (0, .nameAndType 81 82), (0, u "count"), (0, u "I"), (2, u "isLatin1"), (0, u "()Z"), (13, .methodref 10 101), (0, .nameAndType 102 103), (0, u "ensureCapacityInternal"), (0, u "(I)V"), (0, .methodref 10 105), (0, .nameAndType 106 107), (0, u "newCapacity"), (0, u "(I)I"), (0, .methodref 109 110), (0, .class_ 111), (0, .nameAndType 112 113), (0, u "java/util/Arrays"), (0, u "copyOf"), (0, u "([BI)[B"), (0, .methodref 115 116), (0, .class_ 117), (0, .nameAndType 118 119), (0, u "jdk/internal/util/ArraysSupport"), (0, u "newLength"), (0, u "(III)I"), (88, .methodref 10 209), (0, .nameAndType 210 211), (0, u "putStringAt"), (0, u "(ILjava/lang/String;)V"), (5, u "inflateIfNeededFor"), (2, .nameAndType 221 222), (0, u "getBytes"), (0, u "([BIB)V"), (174, .methodref 10 398), (0, .nameAndType 217 69), (0, .methodref 1 220), (3, u "()[B"), (40, .class_ 445), (0, u "java/lang/Appendable"), (106, u "getValue")] 56

def k11m0 : Method := { name := "<init>", desc := "()V", sig := { parameters := [], returnType := none }, accessFlags := 0, code := none }
def k11c1 : Code := { maxStack := 2, maxLocals := 2, code := jdk_68_method_2_code, exceptionTable := #[], attributes := #[] }
def k11m1 : Method := { name := "<init>", desc := "(I)V", sig := { parameters := [.int], returnType := none }, accessFlags := 0, code := some k11c1 }
def k11c2 : Code := { maxStack := 1, maxLocals := 1, code := jdk_68_method_6_code, exceptionTable := #[], attributes := #[] }
def k11m2 : Method := { name := "length", desc := "()I", sig := { parameters := [], returnType := some .int }, accessFlags := 1, code := some k11c2 }
def k11c3 : Code := { maxStack := 4, maxLocals := 3, code := jdk_68_method_9_code, exceptionTable := #[], attributes := #[] }
def k11m3 : Method := { name := "ensureCapacityInternal", desc := "(I)V", sig := { parameters := [.int], returnType := none }, accessFlags := 2, code := some k11c3 }
def k11c4 : Code := { maxStack := 5, maxLocals := 6, code := jdk_68_method_10_code, exceptionTable := #[], attributes := #[] }
def k11m4 : Method := { name := "newCapacity", desc := "(I)I", sig := { parameters := [.int], returnType := some .int }, accessFlags := 2, code := some k11c4 }
def k11c5 : Code := { maxStack := 3, maxLocals := 3, code := jdk_68_method_22_code, exceptionTable := #[], attributes := #[] }
def k11m5 : Method := { name := "append", desc := "(Ljava/lang/String;)Ljava/lang/AbstractStringBuilder;", sig := { parameters := [(.object "java/lang/String")], returnType := some (.object "java/lang/AbstractStringBuilder") }, accessFlags := 1, code := some k11c5 }
def k11c6 : Code := { maxStack := 1, maxLocals := 1, code := jdk_68_method_64_code, exceptionTable := #[], attributes := #[] }
def k11m6 : Method := { name := "getValue", desc := "()[B", sig := { parameters := [], returnType := some (.array .byte) }, accessFlags := 16, code := some k11c6 }
def k11c7 : Code := { maxStack := 1, maxLocals := 1, code := jdk_68_method_68_code, exceptionTable := #[], attributes := #[] }
def k11m7 : Method := { name := "isLatin1", desc := "()Z", sig := { parameters := [], returnType := some .boolean }, accessFlags := 16, code := some k11c7 }
def k11c8 : Code := { maxStack := 2, maxLocals := 2, code := jdk_68_method_71_code, exceptionTable := #[], attributes := #[] }
def k11m8 : Method := { name := "inflateIfNeededFor", desc := "(Ljava/lang/String;)V", sig := { parameters := [(.object "java/lang/String")], returnType := none }, accessFlags := 2, code := some k11c8 }
def k11c9 : Code := { maxStack := 4, maxLocals := 3, code := jdk_68_method_73_code, exceptionTable := #[], attributes := #[] }
def k11m9 : Method := { name := "putStringAt", desc := "(ILjava/lang/String;)V", sig := { parameters := [.int, (.object "java/lang/String")], returnType := none }, accessFlags := 2, code := some k11c9 }
/-- java/lang/AbstractStringBuilder -/
def k11 : Class := { plain "java/lang/AbstractStringBuilder" (some 0) with
  accessFlags := 1056
  interfaces := #[10, 4]
  cf := some (fileOf pool11 10 #[] #[{ accessFlags := 0, nameIndex := 7, descriptorIndex := 8, attributes := #[] }, { accessFlags := 0, nameIndex := 7, descriptorIndex := 103, attributes := #[] }, { accessFlags := 1, nameIndex := 34, descriptorIndex := 35, attributes := #[] }, { accessFlags := 2, nameIndex := 102, descriptorIndex := 103, attributes := #[] }, { accessFlags := 2, nameIndex := 106, descriptorIndex := 107, attributes := #[] }, { accessFlags := 1, nameIndex := 45, descriptorIndex := 46, attributes := #[] }, { accessFlags := 16, nameIndex := 552, descriptorIndex := 403, attributes := #[] }, { accessFlags := 16, nameIndex := 85, descriptorIndex := 86, attributes := #[] }, { accessFlags := 2, nameIndex := 217, descriptorIndex := 69, attributes := #[] }, { accessFlags := 2, nameIndex := 210, descriptorIndex := 211, attributes := #[] }] 1056 4 #[444, 48] #[{ accessFlags := 0, nameIndex := 17, descriptorIndex := 14, attributes := #[] }, { accessFlags := 0, nameIndex := 24, descriptorIndex := 25, attributes := #[] }, { accessFlags := 0, nameIndex := 75, descriptorIndex := 21, attributes := #[] }, { accessFlags := 0, nameIndex := 81, descriptorIndex := 82, attributes := #[] }, { accessFlags := 26, nameIndex := 13, descriptorIndex := 14, attributes := #[] }])
  fields := #[{ name := "value", type := (.array .byte), accessFlags := 0, slot := 0, constantValue := 0 }, { name := "coder", type := .byte, accessFlags := 0, slot := 1, constantValue := 0 }, { name := "maybeLatin1", type := .boolean, accessFlags := 0, slot := 2, constantValue := 0 }, { name := "count", type := .int, accessFlags := 0, slot := 3, constantValue := 0 }, { name := "EMPTYVALUE", type := (.array .byte), accessFlags := 26, slot := 0, constantValue := 0 }]
  methods := #[k11m0, k11m1, k11m2, k11m3, k11m4, k11m5, k11m6, k11m7, k11m8, k11m9]
  instanceTypes := #[(.array .byte), .byte, .boolean, .int]
  staticTypes := #[(.array .byte)]
  resolved := Array.replicate 609 none
  statics := none }

def pool12 : Array CpInfo := pool [(1, .methodref 2 3), (0, .class_ 4), (0, .nameAndType 5 6), (0, u "java/lang/AbstractStringBuilder"), (0, u "<init>"), (0, u "(I)V"), (11, .class_ 20), (1, u "java/lang/String"), (3, .class_ 26), (1, u "java/lang/StringBuilder"), (0, u "append"), (0, u "(Ljava/lang/String;)Ljava/lang/StringBuilder;"), (0, .methodref 2 30), (0, .nameAndType 27 31), (0, u "(Ljava/lang/String;)Ljava/lang/AbstractStringBuilder;"), (105, .methodref 18 138), (0, .nameAndType 5 139), (0, u "(Ljava/lang/StringBuilder;)V"), (5, u "()V"), (10, u "()I"), (186, .methodref 2 344), (0, .nameAndType 345 156), (0, u "length"), (3, .class_ 350), (0, u "java/lang/Appendable"), (0, .class_ 352), (0, u "java/io/Serializable"), (0, .class_ 354), (0, u "java/lang/Comparable"), (0, .class_ 356), (0, u "java/lang/CharSequence"), (0, u "serialVersionUID"), (0, u "J"), (40, u "toString"), (0, u "()Ljava/lang/String;")] 21

def k12c0 : Code := { maxStack := 2, maxLocals := 1, code := jdk_67_method_1_code, exceptionTable := #[], attributes := #[] }
def k12m0 : Method := { name := "<init>", desc := "()V", sig := { parameters := [], returnType := none }, accessFlags := 1, code := some k12c0 }
def k12c1 : Code := { maxStack := 2, maxLocals := 2, code := jdk_67_method_7_code, exceptionTable := #[], attributes := #[] }
def k12m1 : Method := { name := "append", desc := "(Ljava/lang/String;)Ljava/lang/StringBuilder;", sig := { parameters := [(.object "java/lang/String")], returnType := some (.object "java/lang/StringBuilder") }, accessFlags := 1, code := some k12c1 }
def k12c2 : Code := { maxStack := 3, maxLocals := 1, code := jdk_67_method_42_code, exceptionTable := #[], attributes := #[] }
def k12m2 : Method := { name := "toString", desc := "()Ljava/lang/String;", sig := { parameters := [], returnType := some (.object "java/lang/String") }, accessFlags := 1, code := some k12c2 }
def k12c3 : Code := { maxStack := 1, maxLocals := 1, code := jdk_67_method_93_code, exceptionTable := #[], attributes := #[] }
def k12m3 : Method := { name := "length", desc := "()I", sig := { parameters := [], returnType := some .int }, accessFlags := 4161, code := some k12c3 }
/-- java/lang/StringBuilder -/
def k12 : Class := { plain "java/lang/StringBuilder" (some 11) with
  accessFlags := 49
  interfaces := #[10, 2, 3, 4]
  cf := some (fileOf pool12 24 #[] #[{ accessFlags := 1, nameIndex := 5, descriptorIndex := 145, attributes := #[] }, { accessFlags := 1, nameIndex := 27, descriptorIndex := 28, attributes := #[] }, { accessFlags := 1, nameIndex := 399, descriptorIndex := 400, attributes := #[] }, { accessFlags := 4161, nameIndex := 345, descriptorIndex := 156, attributes := #[] }] 49 2 #[349, 351, 353, 355] #[{ accessFlags := 24, nameIndex := 357, descriptorIndex := 358, attributes := #[] }])
  fields := #[{ name := "serialVersionUID", type := .long, accessFlags := 24, slot := 0, constantValue := 0 }]
  methods := #[k12m0, k12m1, k12m2, k12m3]
  instanceTypes := #[(.array .byte), .byte, .boolean, .int]
  staticTypes := #[.long]
  resolved := Array.replicate 422 none
  statics := none }

def pool13 : Array CpInfo := pool [(2, .class_ 4), (1, u "java/lang/Object"), (0, u "<init>"), (0, u "()V"), (1, .class_ 10), (1, u "java/lang/System"), (0, u "allowSecurityManager"), (0, u "I"), (16, u "cons"), (0, u "Ljava/io/Console;"), (77, .class_ 110), (1, u "java/lang/System$CallersHolder"), (43, u "initialErrStream"), (0, u "Ljava/io/PrintStream;"), (19, u "security"), (0, u "Ljava/lang/SecurityManager;"), (31, .class_ 209), (0, u "java/lang/System$1"), (7, u "props"), (0, u "Ljava/util/Properties;"), (2, u "lineSeparator"), (0, u "Ljava/lang/String;"), (96, .class_ 321), (1, u "java/lang/System$LoggerFinder"), (5, .class_ 328), (0, u "java/lang/System$Logger"), (67, u "err"), (2, u "out"), (91, u "notSupportedJnuEncoding"), (15, u "in"), (17, u "initialIn"), (0, u "Ljava/io/InputStream;"), (35, u "bootLayer"), (0, u "Ljava/lang/ModuleLayer;"), (99, .class_ 664), (0, u "java/lang/System$2"), (9, u "NEVER"), (2, u "MAYBE"), (49, u "arraycopy"), (0, u "(Ljava/lang/Object;ILjava/lang/Object;II)V"), (72, .class_ 802), (0, u "java/lang/System$Logger$Level")] 31

def k13m0 : Method := { name := "<init>", desc := "()V", sig := { parameters := [], returnType := none }, accessFlags := 2, code := none }
def k13m1 : Method := { name := "arraycopy", desc := "(Ljava/lang/Object;ILjava/lang/Object;II)V", sig := { parameters := [(.object "java/lang/Object"), .int, (.object "java/lang/Object"), .int, .int], returnType := none }, accessFlags := 265, code := none }
/-- java/lang/System -/
def k13 : Class := { plain "java/lang/System" (some 0) with
  accessFlags := 49
  interfaces := #[]
  cf := some (fileOf pool13 8 #[.nestMembers #[319, 327, 801, 108, 663, 208]] #[{ accessFlags := 2, nameIndex := 5, descriptorIndex := 6, attributes := #[] }, { accessFlags := 265, nameIndex := 727, descriptorIndex := 728, attributes := #[] }] 49 2 #[] #[{ accessFlags := 25, nameIndex := 507, descriptorIndex := 526, attributes := #[] }, { accessFlags := 25, nameIndex := 399, descriptorIndex := 155, attributes := #[] }, { accessFlags := 25, nameIndex := 396, descriptorIndex := 155, attributes := #[] }, { accessFlags := 10, nameIndex := 525, descriptorIndex := 526, attributes := #[] }, { accessFlags := 26, nameIndex := 674, descriptorIndex := 12, attributes := #[] }, { accessFlags := 26, nameIndex := 677, descriptorIndex := 12, attributes := #[] }, { accessFlags := 10, nameIndex := 11, descriptorIndex := 12, attributes := #[] }, { accessFlags := 74, nameIndex := 175, descriptorIndex := 176, attributes := #[] }, { accessFlags := 10, nameIndex := 491, descriptorIndex := 222, attributes := #[] }, { accessFlags := 74, nameIndex := 29, descriptorIndex := 30, attributes := #[] }, { accessFlags := 74, nameIndex := 154, descriptorIndex := 155, attributes := #[] }, { accessFlags := 10, nameIndex := 217, descriptorIndex := 218, attributes := #[] }, { accessFlags := 10, nameIndex := 221, descriptorIndex := 222, attributes := #[] }, { accessFlags := 8, nameIndex := 562, descriptorIndex := 563, attributes := #[] }])
  fields := #[{ name := "in", type := (.object "java/io/InputStream"), accessFlags := 25, slot := 0, constantValue := 0 }, { name := "out", type := (.object "java/io/PrintStream"), accessFlags := 25, slot := 1, constantValue := 0 }, { name := "err", type := (.object "java/io/PrintStream"), accessFlags := 25, slot := 2, constantValue := 0 }, { name := "initialIn", type := (.object "java/io/InputStream"), accessFlags := 10, slot := 3, constantValue := 0 }, { name := "NEVER", type := .int, accessFlags := 26, slot := 4, constantValue := 0 }, { name := "MAYBE", type := .int, accessFlags := 26, slot := 5, constantValue := 0 }, { name := "allowSecurityManager", type := .int, accessFlags := 10, slot := 6, constantValue := 0 }, { name := "security", type := (.object "java/lang/SecurityManager"), accessFlags := 74, slot := 7, constantValue := 0 }, { name := "notSupportedJnuEncoding", type := (.object "java/lang/String"), accessFlags := 10, slot := 8, constantValue := 0 }, { name := "cons", type := (.object "java/io/Console"), accessFlags := 74, slot := 9, constantValue := 0 }, { name := "initialErrStream", type := (.object "java/io/PrintStream"), accessFlags := 74, slot := 10, constantValue := 0 }, { name := "props", type := (.object "java/util/Properties"), accessFlags := 10, slot := 11, constantValue := 0 }, { name := "lineSeparator", type := (.object "java/lang/String"), accessFlags := 10, slot := 12, constantValue := 0 }, { name := "bootLayer", type := (.object "java/lang/ModuleLayer"), accessFlags := 8, slot := 13, constantValue := 0 }]
  methods := #[k13m0, k13m1]
  instanceTypes := #[]
  staticTypes := #[(.object "java/io/InputStream"), (.object "java/io/PrintStream"), (.object "java/io/PrintStream"), (.object "java/io/InputStream"), .int, .int, .int, (.object "java/lang/SecurityManager"), (.object "java/lang/String"), (.object "java/io/Console"), (.object "java/io/PrintStream"), (.object "java/util/Properties"), (.object "java/lang/String"), (.object "java/lang/ModuleLayer")]
  resolved := Array.replicate 834 none
  statics := none }

def pool14 : Array CpInfo := pool [(2, .class_ 4), (1, u "java/lang/Object"), (0, u "<init>"), (0, u "()V"), (7, .class_ 16), (1, u "java/util/Arrays"), (57, .class_ 76), (1, u "java/util/Arrays$NaturalOrder"), (32, u "()Ljava/lang/Object;"), (3, .class_ 115), (1, u "java/util/Arrays$LegacyMergeSort"), (1, u "Z"), (10, .nameAndType 129 109), (0, u "clone"), (9, u "copyOfRange"), (10, .methodref 151 152), (0, .class_ 153), (0, .nameAndType 154 155), (0, u "java/lang/System"), (0, u "arraycopy"), (0, u "(Ljava/lang/Object;ILjava/lang/Object;II)V"), (146, u "copyOf"), (1, .methodref 305 306), (0, .class_ 307), (0, .nameAndType 308 309), (0, u "java/lang/Math"), (0, u "min"), (0, u "(II)I"), (0, .methodref 311 128), (0, .class_ 312), (0, u "[B"), (26, .methodref 14 340), (0, .nameAndType 341 342), (0, u "copyOfRangeByte"), (0, u "([BII)[B"), (0, .methodref 14 344), (0, .nameAndType 345 346), (0, u "checkLength"), (0, u "(II)V"), (28, .class_ 376), (0, u "java/util/Arrays$ArrayList"), (68, u "$assertionsDisabled"), (269, u "MIN_ARRAY_SORT_GRAN"), (0, u "I"), (2, u "INSERTIONSORT_THRESHOLD"), (149, u "([BI)[B"), (105, .class_ 976), (0, u "java/util/Arrays$ArrayItr")] 52

def k14m0 : Method := { name := "<init>", desc := "()V", sig := { parameters := [], returnType := none }, accessFlags := 2, code := none }
def k14c1 : Code := { maxStack := 6, maxLocals := 3, code := jdk_65_method_121_code, exceptionTable := #[], attributes := #[] }
def k14m1 : Method := { name := "copyOf", desc := "([BI)[B", sig := { parameters := [(.array .byte), .int], returnType := some (.array .byte) }, accessFlags := 9, code := some k14c1 }
def k14c2 : Code := { maxStack := 4, maxLocals := 2, code := jdk_65_method_131_code, exceptionTable := #[], attributes := #[] }
def k14m2 : Method := { name := "checkLength", desc := "(II)V", sig := { parameters := [.int, .int], returnType := none }, accessFlags := 10, code := some k14c2 }
def k14c3 : Code := { maxStack := 3, maxLocals := 3, code := jdk_65_method_132_code, exceptionTable := #[], attributes := #[] }
def k14m3 : Method := { name := "copyOfRange", desc := "([BII)[B", sig := { parameters := [(.array .byte), .int, .int], returnType := some (.array .byte) }, accessFlags := 9, code := some k14c3 }
def k14c4 : Code := { maxStack := 6, maxLocals := 5, code := jdk_65_method_133_code, exceptionTable := #[], attributes := #[] }
def k14m4 : Method := { name := "copyOfRangeByte", desc := "([BII)[B", sig := { parameters := [(.array .byte), .int, .int], returnType := some (.array .byte) }, accessFlags := 10, code := some k14c4 }
/-- java/util/Arrays -/
def k14 : Class := { plain "java/util/Arrays" (some 0) with
  accessFlags := 49
  interfaces := #[]
  cf := some (fileOf pool14 14 #[.nestMembers #[975, 375, 113, 74]] #[{ accessFlags := 2, nameIndex := 5, descriptorIndex := 6, attributes := #[] }, { accessFlags := 9, nameIndex := 302, descriptorIndex := 869, attributes := #[] }, { accessFlags := 10, nameIndex := 345, descriptorIndex := 346, attributes := #[] }, { accessFlags := 9, nameIndex := 139, descriptorIndex := 342, attributes := #[] }, { accessFlags := 10, nameIndex := 341, descriptorIndex := 342, attributes := #[] }] 49 2 #[] #[{ accessFlags := 26, nameIndex := 715, descriptorIndex := 716, attributes := #[] }, { accessFlags := 26, nameIndex := 719, descriptorIndex := 716, attributes := #[] }, { accessFlags := 4120, nameIndex := 445, descriptorIndex := 117, attributes := #[] }])
  fields := #[{ name := "MIN_ARRAY_SORT_GRAN", type := .int, accessFlags := 26, slot := 0, constantValue := 0 }, { name := "INSERTIONSORT_THRESHOLD", type := .int, accessFlags := 26, slot := 1, constantValue := 0 }, { name := "$assertionsDisabled", type := .boolean, accessFlags := 4120, slot := 2, constantValue := 0 }]
  methods := #[k14m0, k14m1, k14m2, k14m3, k14m4]
  instanceTypes := #[]
  staticTypes := #[.int, .int, .boolean]
  resolved := Array.replicate 1029 none
  statics := none }

def pool15 : Array CpInfo := pool [(1, .class_ 2), (0, u "java/lang/Cloneable"), (0, .class_ 4), (0, u "java/lang/Object")] 2

/-- java/lang/Cloneable -/
def k15 : Class := { plain "java/lang/Cloneable" (some 0) with
  accessFlags := 1537
  interfaces := #[]
  cf := some (fileOf pool15 1 #[] #[] 1537 3 #[] #[])
  fields := #[]
  methods := #[]
  instanceTypes := #[]
  staticTypes := #[]
  resolved := Array.replicate 7 none
  statics := none }

def pool16 : Array CpInfo := pool [(9, u "<init>"), (6, .class_ 18), (1, u "java/lang/Object"), (0, u "()V"), (1, .class_ 23), (1, u "jdk/internal/util/ArraysSupport"), (0, u "LOG2_ARRAY_LONG_INDEX_SCALE"), (0, u "I"), (2, u "U"), (0, u "Ljdk/internal/misc/Unsafe;"), (8, u "BIG_ENDIAN"), (0, u "Z"), (8, u "LOG2_BYTE_BIT_SIZE"), (4, u "LOG2_ARRAY_INT_INDEX_SCALE"), (54, u "JLA"), (0, u "Ljdk/internal/access/JavaLangAccess;"), (11, u "LOG2_ARRAY_BOOLEAN_INDEX_SCALE"), (9, u "LOG2_ARRAY_BYTE_INDEX_SCALE"), (5, u "LOG2_ARRAY_CHAR_INDEX_SCALE"), (5, u "LOG2_ARRAY_SHORT_INDEX_SCALE"), (18, u "LOG2_ARRAY_FLOAT_INDEX_SCALE"), (24, u "LOG2_ARRAY_DOUBLE_INDEX_SCALE"), (6, .methodref 195 196), (0, .class_ 197), (0, .nameAndType 198 199), (0, u "java/lang/Math"), (0, u "max"), (0, u "(II)I"), (0, .integer 2147483639), (76, u "T_BOOLEAN"), (2, u "T_CHAR"), (1, u "T_FLOAT"), (1, u "T_DOUBLE"), (1, u "T_BYTE"), (1, u "T_SHORT"), (1, u "T_INT"), (1, u "T_LONG"), (1, u "SOFT_MAX_ARRAY_LENGTH"), (56, u "newLength"), (0, u "(III)I")] 25

def k16m0 : Method := { name := "<init>", desc := "()V", sig := { parameters := [], returnType := none }, accessFlags := 2, code := none }
def k16c1 : Code := { maxStack := 3, maxLocals := 4, code := jdk_48_method_27_code, exceptionTable := #[], attributes := #[] }
def k16m1 : Method := { name := "newLength", desc := "(III)I", sig := { parameters := [.int, .int, .int], returnType := some .int }, accessFlags := 9, code := some k16c1 }
/-- jdk/internal/util/ArraysSupport -/
def k16 : Class := { plain "jdk/internal/util/ArraysSupport" (some 0) with
  accessFlags := 33
  interfaces := #[]
  cf := some (fileOf pool16 21 #[] #[{ accessFlags := 2, nameIndex := 9, descriptorIndex := 19, attributes := #[] }, { accessFlags := 9, nameIndex := 351, descriptorIndex := 352, attributes := #[] }] 33 16 #[] #[{ accessFlags := 24, nameIndex := 28, descriptorIndex := 29, attributes := #[] }, { accessFlags := 26, nameIndex := 38, descriptorIndex := 39, attributes := #[] }, { accessFlags := 25, nameIndex := 121, descriptorIndex := 25, attributes := #[] }, { accessFlags := 25, nameIndex := 131, descriptorIndex := 25, attributes := #[] }, { accessFlags := 25, nameIndex := 137, descriptorIndex := 25, attributes := #[] }, { accessFlags := 25, nameIndex := 143, descriptorIndex := 25, attributes := #[] }, { accessFlags := 25, nameIndex := 53, descriptorIndex := 25, attributes := #[] }, { accessFlags := 25, nameIndex := 24, descriptorIndex := 25, attributes := #[] }, { accessFlags := 25, nameIndex := 162, descriptorIndex := 25, attributes := #[] }, { accessFlags := 25, nameIndex := 187, descriptorIndex := 25, attributes := #[] }, { accessFlags := 26, nameIndex := 48, descriptorIndex := 25, attributes := #[] }, { accessFlags := 25, nameIndex := 277, descriptorIndex := 25, attributes := #[] }, { accessFlags := 25, nameIndex := 280, descriptorIndex := 25, attributes := #[] }, { accessFlags := 25, nameIndex := 282, descriptorIndex := 25, attributes := #[] }, { accessFlags := 25, nameIndex := 284, descriptorIndex := 25, attributes := #[] }, { accessFlags := 25, nameIndex := 286, descriptorIndex := 25, attributes := #[] }, { accessFlags := 25, nameIndex := 288, descriptorIndex := 25, attributes := #[] }, { accessFlags := 25, nameIndex := 290, descriptorIndex := 25, attributes := #[] }, { accessFlags := 25, nameIndex := 292, descriptorIndex := 25, attributes := #[] }, { accessFlags := 26, nameIndex := 108, descriptorIndex := 109, attributes := #[] }, { accessFlags := 25, nameIndex := 294, descriptorIndex := 25, attributes := #[] }])
  fields := #[{ name := "U", type := (.object "jdk/internal/misc/Unsafe"), accessFlags := 24, slot := 0, constantValue := 0 }, { name := "BIG_ENDIAN", type := .boolean, accessFlags := 26, slot := 1, constantValue := 0 }, { name := "LOG2_ARRAY_BOOLEAN_INDEX_SCALE", type := .int, accessFlags := 25, slot := 2, constantValue := 0 }, { name := "LOG2_ARRAY_BYTE_INDEX_SCALE", type := .int, accessFlags := 25, slot := 3, constantValue := 0 }, { name := "LOG2_ARRAY_CHAR_INDEX_SCALE", type := .int, accessFlags := 25, slot := 4, constantValue := 0 }, { name := "LOG2_ARRAY_SHORT_INDEX_SCALE", type := .int, accessFlags := 25, slot := 5, constantValue := 0 }, { name := "LOG2_ARRAY_INT_INDEX_SCALE", type := .int, accessFlags := 25, slot := 6, constantValue := 0 }, { name := "LOG2_ARRAY_LONG_INDEX_SCALE", type := .int, accessFlags := 25, slot := 7, constantValue := 0 }, { name := "LOG2_ARRAY_FLOAT_INDEX_SCALE", type := .int, accessFlags := 25, slot := 8, constantValue := 0 }, { name := "LOG2_ARRAY_DOUBLE_INDEX_SCALE", type := .int, accessFlags := 25, slot := 9, constantValue := 0 }, { name := "LOG2_BYTE_BIT_SIZE", type := .int, accessFlags := 26, slot := 10, constantValue := 0 }, { name := "T_BOOLEAN", type := .int, accessFlags := 25, slot := 11, constantValue := 0 }, { name := "T_CHAR", type := .int, accessFlags := 25, slot := 12, constantValue := 0 }, { name := "T_FLOAT", type := .int, accessFlags := 25, slot := 13, constantValue := 0 }, { name := "T_DOUBLE", type := .int, accessFlags := 25, slot := 14, constantValue := 0 }, { name := "T_BYTE", type := .int, accessFlags := 25, slot := 15, constantValue := 0 }, { name := "T_SHORT", type := .int, accessFlags := 25, slot := 16, constantValue := 0 }, { name := "T_INT", type := .int, accessFlags := 25, slot := 17, constantValue := 0 }, { name := "T_LONG", type := .int, accessFlags := 25, slot := 18, constantValue := 0 }, { name := "JLA", type := (.object "jdk/internal/access/JavaLangAccess"), accessFlags := 26, slot := 19, constantValue := 0 }, { name := "SOFT_MAX_ARRAY_LENGTH", type := .int, accessFlags := 25, slot := 20, constantValue := 0 }]
  methods := #[k16m0, k16m1]
  instanceTypes := #[]
  staticTypes := #[(.object "jdk/internal/misc/Unsafe"), .boolean, .int, .int, .int, .int, .int, .int, .int, .int, .int, .int, .int, .int, .int, .int, .int, .int, .int, (.object "jdk/internal/access/JavaLangAccess"), .int]
  resolved := Array.replicate 378 none
  statics := none }

def pool17 : Array CpInfo := pool [(1, .class_ 2), (0, u "java/lang/Math"), (1, .class_ 6), (1, u "java/lang/Object"), (0, u "<init>"), (0, u "()V"), (89, .class_ 100), (1, u "java/lang/Math$RandomNumberGeneratorHolder"), (71, u "negativeZeroFloatBits"), (0, u "J"), (2, u "negativeZeroDoubleBits"), (21, u "max"), (2, u "min"), (43, u "$assertionsDisabled"), (0, u "Z"), (88, u "(II)I"), (2, u "twoToTheDoubleScaleDown"), (0, u "D"), (4, u "twoToTheDoubleScaleUp"), (9, u "E"), (3, u "PI"), (2, u "TAU"), (2, u "DEGREES_TO_RADIANS"), (0, u "RADIANS_TO_DEGREES")] 94

def k17m0 : Method := { name := "<init>", desc := "()V", sig := { parameters := [], returnType := none }, accessFlags := 2, code := none }
def k17c1 : Code := { maxStack := 2, maxLocals := 2, code := jdk_29_method_65_code, exceptionTable := #[], attributes := #[] }
def k17m1 : Method := { name := "max", desc := "(II)I", sig := { parameters := [.int, .int], returnType := some .int }, accessFlags := 9, code := some k17c1 }
def k17c2 : Code := { maxStack := 2, maxLocals := 2, code := jdk_29_method_69_code, exceptionTable := #[], attributes := #[] }
def k17m2 : Method := { name := "min", desc := "(II)I", sig := { parameters := [.int, .int], returnType := some .int }, accessFlags := 9, code := some k17c2 }
/-- java/lang/Math -/
def k17 : Class := { plain "java/lang/Math" (some 0) with
  accessFlags := 49
  interfaces := #[]
  cf := some (fileOf pool17 1 #[.nestMembers #[98]] #[{ accessFlags := 2, nameIndex := 7, descriptorIndex := 8, attributes := #[] }, { accessFlags := 9, nameIndex := 198, descriptorIndex := 335, attributes := #[] }, { accessFlags := 9, nameIndex := 201, descriptorIndex := 335, attributes := #[] }] 49 4 #[] #[{ accessFlags := 25, nameIndex := 354, descriptorIndex := 339, attributes := #[] }, { accessFlags := 25, nameIndex := 358, descriptorIndex := 339, attributes := #[] }, { accessFlags := 25, nameIndex := 361, descriptorIndex := 339, attributes := #[] }, { accessFlags := 26, nameIndex := 364, descriptorIndex := 339, attributes := #[] }, { accessFlags := 26, nameIndex := 365, descriptorIndex := 339, attributes := #[] }, { accessFlags := 26, nameIndex := 172, descriptorIndex := 173, attributes := #[] }, { accessFlags := 26, nameIndex := 176, descriptorIndex := 173, attributes := #[] }, { accessFlags := 8, nameIndex := 344, descriptorIndex := 339, attributes := #[] }, { accessFlags := 8, nameIndex := 338, descriptorIndex := 339, attributes := #[] }, { accessFlags := 4120, nameIndex := 245, descriptorIndex := 246, attributes := #[] }])
  fields := #[{ name := "E", type := .double, accessFlags := 25, slot := 0, constantValue := 0 }, { name := "PI", type := .double, accessFlags := 25, slot := 1, constantValue := 0 }, { name := "TAU", type := .double, accessFlags := 25, slot := 2, constantValue := 0 }, { name := "DEGREES_TO_RADIANS", type := .double, accessFlags := 26, slot := 3, constantValue := 0 }, { name := "RADIANS_TO_DEGREES", type := .double, accessFlags := 26, slot := 4, constantValue := 0 }, { name := "negativeZeroFloatBits", type := .long, accessFlags := 26, slot := 5, constantValue := 0 }, { name := "negativeZeroDoubleBits", type := .long, accessFlags := 26, slot := 6, constantValue := 0 }, { name := "twoToTheDoubleScaleUp", type := .double, accessFlags := 8, slot := 7, constantValue := 0 }, { name := "twoToTheDoubleScaleDown", type := .double, accessFlags := 8, slot := 8, constantValue := 0 }, { name := "$assertionsDisabled", type := .boolean, accessFlags := 4120, slot := 9, constantValue := 0 }]
  methods := #[k17m0, k17m1, k17m2]
  instanceTypes := #[]
  staticTypes := #[.double, .double, .double, .double, .double, .long, .long, .double, .double, .boolean]
  resolved := Array.replicate 460 none
  statics := none }

def pool18 : Array CpInfo := pool [(4, .class_ 6), (1, u "java/lang/Object"), (0, u "<init>"), (0, u "()V"), (5, .class_ 16), (1, u "java/lang/StringLatin1"), (104, u "$assertionsDisabled"), (0, u "Z"), (98, .class_ 223), (1, u "java/lang/StringLatin1$LinesSpliterator"), (57, u "equals"), (0, u "([B[B)Z"), (107, .class_ 391), (0, u "java/lang/StringLatin1$CharsSpliterator")] 3

def k18m0 : Method := { name := "<init>", desc := "()V", sig := { parameters := [], returnType := none }, accessFlags := 0, code := none }
def k18c1 : Code := { maxStack := 3, maxLocals := 3, code := jdk_43_method_13_code, exceptionTable := #[], attributes := #[] }
def k18m1 : Method := { name := "equals", desc := "([B[B)Z", sig := { parameters := [(.array .byte), (.array .byte)], returnType := some .boolean }, accessFlags := 9, code := some k18c1 }
/-- java/lang/StringLatin1 -/
def k18 : Class := { plain "java/lang/StringLatin1" (some 0) with
  accessFlags := 48
  interfaces := #[]
  cf := some (fileOf pool18 14 #[.nestMembers #[390, 221]] #[{ accessFlags := 0, nameIndex := 7, descriptorIndex := 8, attributes := #[] }, { accessFlags := 9, nameIndex := 281, descriptorIndex := 282, attributes := #[] }] 48 4 #[] #[{ accessFlags := 4120, nameIndex := 121, descriptorIndex := 122, attributes := #[] }])
  fields := #[{ name := "$assertionsDisabled", type := .boolean, accessFlags := 4120, slot := 0, constantValue := 0 }]
  methods := #[k18m0, k18m1]
  instanceTypes := #[]
  staticTypes := #[.boolean]
  resolved := Array.replicate 395 none
  statics := none }

def pool19 : Array CpInfo := pool [(2, .class_ 4), (1, u "java/lang/Object"), (0, u "<init>"), (0, u "()V"), (17, .class_ 26), (1, u "jdk/internal/util/Preconditions"), (28, .class_ 56), (0, u "jdk/internal/util/Preconditions$4"), (57, .class_ 115), (0, u "jdk/internal/util/Preconditions$1"), (7, u "SIOOBE_FORMATTER"), (0, u "Ljava/util/function/BiFunction;"), (0, .class_ 126), (0, u "jdk/internal/util/Preconditions$2"), (3, u "AIOOBE_FORMATTER"), (0, .class_ 132), (0, u "jdk/internal/util/Preconditions$3"), (3, u "IOOBE_FORMATTER")] 57

def k19m0 : Method := { name := "<init>", desc := "()V", sig := { parameters := [], returnType := none }, accessFlags := 1, code := none }
/-- jdk/internal/util/Preconditions -/
def k19 : Class := { plain "jdk/internal/util/Preconditions" (some 0) with
  accessFlags := 33
  interfaces := #[]
  cf := some (fileOf pool19 24 #[.nestMembers #[55, 131, 125, 114]] #[{ accessFlags := 1, nameIndex := 5, descriptorIndex := 6, attributes := #[] }] 33 2 #[] #[{ accessFlags := 25, nameIndex := 123, descriptorIndex := 124, attributes := #[] }, { accessFlags := 25, nameIndex := 130, descriptorIndex := 124, attributes := #[] }, { accessFlags := 25, nameIndex := 136, descriptorIndex := 124, attributes := #[] }])
  fields := #[{ name := "SIOOBE_FORMATTER", type := (.object "java/util/function/BiFunction"), accessFlags := 25, slot := 0, constantValue := 0 }, { name := "AIOOBE_FORMATTER", type := (.object "java/util/function/BiFunction"), accessFlags := 25, slot := 1, constantValue := 0 }, { name := "IOOBE_FORMATTER", type := (.object "java/util/function/BiFunction"), accessFlags := 25, slot := 2, constantValue := 0 }]
  methods := #[k19m0]
  instanceTypes := #[]
  staticTypes := #[(.object "java/util/function/BiFunction"), (.object "java/util/function/BiFunction"), (.object "java/util/function/BiFunction")]
  resolved := Array.replicate 194 none
  statics := some 1 }

/-- the primitive byte -/
def k20 : Class := { plain "byte" none with kind := .primitive 'B', accessFlags := 0x411 }
/-- [B -/
def k21 : Class := { plain "[B" (some 0) with kind := .array 20 .byte, interfaces := #[15, 2], accessFlags := 1041 }

/-- the primitive char -/
def k22 : Class := { plain "char" none with kind := .primitive 'C', accessFlags := 0x411 }
/-- [C -/
def k23 : Class := { plain "[C" (some 0) with kind := .array 22 .char, interfaces := #[15, 2], accessFlags := 1041 }

/-- the primitive int -/
def k24 : Class := { plain "int" none with kind := .primitive 'I', accessFlags := 0x411 }
/-- [I -/
def k25 : Class := { plain "[I" (some 0) with kind := .array 24 .int, interfaces := #[15, 2], accessFlags := 1041 }

def heap : Heap := #[{ cls := 7, slots := #[.long 0, .int 1, .null, .int 0, .null, .int 0, .int 0], vm := .statics 7 },
  { cls := 19, slots := #[.null, .null, .null], vm := .statics 19 }]
def classes : Array Class := #[k0, k1, k2, k3, k4, k5, k6, k7, k8, k9, k10, k11, k12, k13, k14, k15, k16, k17, k18, k19, k20, k21, k22, k23, k24, k25]
def interned : List (Array UInt16 × Addr) := []
def slotsUsed : Nat := 10
def theMethod : MethodId := ⟨1, 1⟩
def args0 : Array Value := #[.int 65, .int 66, .int 67, .int 21]
def aboutOver (below : List Frame) : State where
  vm := { classes := classes, interned := interned.toArray }
  heap := heap
  slotsUsed := slotsUsed
  threads := #[{ frames := .invoking theMethod args0 :: below }]
def below0 : List Frame := [.native { method := ⟨0, 0⟩, args := #[] }]
def about1 : State := aboutOver below0
def p0 : Program := .bare "" "" ""
def e0 : Env := launch0.env 0 0 0
theorem w_frames : about1.frames = Frame.invoking theMethod args0 :: below0 := rfl
set_option maxRecDepth 65536 in
theorem w_args : argsFit about1.vm theMethod args0 = true := by decide +kernel
set_option maxRecDepth 65536 in
theorem w_heap : heapFits about1 = true := by decide +kernel
set_option maxRecDepth 65536 in
theorem w_runnable : about1.curStatus? = some .runnable := by decide +kernel
set_option maxRecDepth 65536 in
theorem w_alone : about1.alone = true := by decide +kernel
set_option maxRecDepth 65536 in
theorem w_named : about1.methodNamed? x = some theMethod := by decide +kernel
set_option maxRecDepth 65536 in
theorem w_hears : about1.hears theMethod below0 = true := by decide +kernel
set_option maxRecDepth 65536 in
theorem w_ripe : about1.ripe theMethod args0 below0 = true := by decide +kernel
theorem w_running : about1.status = .running := rfl
set_option maxRecDepth 65536 in
theorem w_room : about1.hasRoom e0.platform room_1 = true :=
  launch0.hasRoom_least _ room_1 (by decide +kernel) (by decide +kernel) (by decide +kernel) (by decide +kernel) (by decide +kernel) (by decide +kernel)
theorem allAtoms_all (ts : List Jvm.Cond) (a : Array Jvm.Value) (st : Jvm.State) : (allAtoms ts).before a st = ts.all (fun c => c.before a st) := by
  induction ts with
  | nil => rfl
  | cons c t ih =>
    show (Jvm.Cond.and c (allAtoms t)).before a st = _
    rw [Jvm.Cond.before_and, ih, List.all_cons]
def words1 : List Jvm.Cond := Jvm.Cond.code x code maxLocals ret :: tables_1
/-- a 'code' word, met by the world's own term for the bytes: nothing is compared byte by byte -/
theorem code_word {y : MethodName} {bytes : ByteArray} {mx : Nat} {rt : Option FieldType} {a : Array Value} {s : State} {m : MethodId} {meth : Method} {c : Code} (h1 : s.methodNamed? y = some m) (h2 : s.vm.method? m = some meth) (h3 : meth.code = some c) (h4 : c.code = bytes)
    (h5 : (c.maxLocals == mx && c.exceptionTable.isEmpty && decide (c.maxStack ≤ mostOperands) && decide (meth.sig.returnType = rt) && !meth.locks && decide (parseMethodDescriptor y.desc = some meth.sig)) = true) : (Jvm.Cond.code y bytes mx rt).before a s = true := by
  simp only [Bool.and_eq_true, beq_iff_eq, Bool.not_eq_true', decide_eq_true_eq] at h5
  obtain ⟨⟨⟨⟨⟨g1, g2⟩, g3⟩, g4⟩, g5⟩, g6⟩ := h5
  simp [Cond.before, Cond.holds, Cond.value, h1, h2, h3, h4, g1, g2, g3, g4, g5, g6]
def isCode : Jvm.Cond → Bool
  | .code _ _ _ _ => true
  | _ => false
theorem all_split {L : List Jvm.Cond} {P : Jvm.Cond → Bool} (h1 : L.all (fun c => isCode c || P c) = true) (h2 : ∀ c ∈ L.filter isCode, P c = true) : L.all P = true := by
  refine List.all_eq_true.mpr fun c hc => ?_
  have h := List.all_eq_true.mp h1 c hc
  rcases Bool.eq_false_or_eq_true (isCode c) with hi | hi
  · exact h2 c (List.mem_filter.mpr ⟨hc, hi⟩)
  · simpa [hi] using h
set_option maxRecDepth 65536 in
theorem w_c0 : (Jvm.Cond.code x code maxLocals ret).before args0 about1 = true := code_word (m := ⟨1, 1⟩) (meth := k1m1) (c := k1c1) (by decide +kernel) rfl rfl rfl (by decide +kernel)
set_option maxRecDepth 65536 in
theorem w_c1 : (Jvm.Cond.code ({ cls := "com/example/vigilant_gate/vigilantgate/IdentityArnsAssumedRolePinLaw", name := "drawn", desc := "(II)Ljava/lang/String;" } : Jvm.MethodName) method_5_code (3 : Nat) (Option.some (Jvm.ClassFile.FieldType.object "java/lang/String"))).before args0 about1 = true := code_word (m := ⟨1, 4⟩) (meth := k1m4) (c := k1c4) (by decide +kernel) rfl rfl rfl (by decide +kernel)
set_option maxRecDepth 65536 in
theorem w_c2 : (Jvm.Cond.code ({ cls := "com/example/vigilant_gate/vigilantgate/IdentityArnsAssumedRolePinLaw", name := "c0", desc := "(I)C" } : Jvm.MethodName) method_3_code (1 : Nat) (Option.some Jvm.ClassFile.FieldType.char)).before args0 about1 = true := code_word (m := ⟨1, 2⟩) (meth := k1m2) (c := k1c2) (by decide +kernel) rfl rfl rfl (by decide +kernel)
set_option maxRecDepth 65536 in
theorem w_c3 : (Jvm.Cond.code ({ cls := "java/lang/String", name := "<init>", desc := "([C)V" } : Jvm.MethodName) jdk_42_method_3_code (2 : Nat) (Option.none : Option Jvm.ClassFile.FieldType)).before args0 about1 = true := code_word (m := ⟨7, 1⟩) (meth := k7m1) (c := k7c1) (by decide +kernel) rfl rfl rfl (by decide +kernel)
set_option maxRecDepth 65536 in
theorem w_c4 : (Jvm.Cond.code ({ cls := "java/lang/String", name := "<init>", desc := "([CIILjava/lang/Void;)V" } : Jvm.MethodName) jdk_42_method_149_code (6 : Nat) (Option.none : Option Jvm.ClassFile.FieldType)).before args0 about1 = true := code_word (m := ⟨7, 6⟩) (meth := k7m6) (c := k7c6) (by decide +kernel) rfl rfl rfl (by decide +kernel)
set_option maxRecDepth 65536 in
theorem w_c5 : (Jvm.Cond.code ({ cls := "java/lang/Object", name := "<init>", desc := "()V" } : Jvm.MethodName) object_method_1_code (1 : Nat) (Option.none : Option Jvm.ClassFile.FieldType)).before args0 about1 = true := code_word (m := ⟨0, 0⟩) (meth := k0m0) (c := k0c0) (by decide +kernel) rfl rfl rfl (by decide +kernel)
set_option maxRecDepth 65536 in
theorem w_c6 : (Jvm.Cond.code ({ cls := "java/lang/StringUTF16", name := "compress", desc := "([CII)[B" } : Jvm.MethodName) jdk_52_method_16_code (6 : Nat) (Option.some (Jvm.ClassFile.FieldType.array Jvm.ClassFile.FieldType.byte))).before args0 about1 = true := code_word (m := ⟨8, 2⟩) (meth := k8m2) (c := k8c2) (by decide +kernel) rfl rfl rfl (by decide +kernel)
set_option maxRecDepth 65536 in
theorem w_c7 : (Jvm.Cond.code ({ cls := "java/lang/StringUTF16", name := "compress", desc := "([CI[BII)I" } : Jvm.MethodName) jdk_52_method_21_code (7 : Nat) (Option.some Jvm.ClassFile.FieldType.int)).before args0 about1 = true := code_word (m := ⟨8, 3⟩) (meth := k8m3) (c := k8c3) (by decide +kernel) rfl rfl rfl (by decide +kernel)
set_option maxRecDepth 65536 in
theorem w_c8 : (Jvm.Cond.code ({ cls := "java/lang/StringUTF16", name := "coderFromArrayLen", desc := "([BI)B" } : Jvm.MethodName) jdk_52_method_15_code (2 : Nat) (Option.some Jvm.ClassFile.FieldType.byte)).before args0 about1 = true := code_word (m := ⟨8, 1⟩) (meth := k8m1) (c := k8c1) (by decide +kernel) rfl rfl rfl (by decide +kernel)
set_option maxRecDepth 65536 in
theorem w_c9 : (Jvm.Cond.code ({ cls := "com/example/vigilant_gate/vigilantgate/IdentityArns", name := "assumedRole", desc := "(Ljava/lang/String;Ljava/lang/String;Ljava/lang/String;)Ljava/lang/String;" } : Jvm.MethodName) prog_6_method_5_code (3 : Nat) (Option.some (Jvm.ClassFile.FieldType.object "java/lang/String"))).before args0 about1 = true := code_word (m := ⟨9, 2⟩) (meth := k9m2) (c := k9c2) (by decide +kernel) rfl rfl rfl (by decide +kernel)
set_option maxRecDepth 65536 in
theorem w_c10 : (Jvm.Cond.code ({ cls := "java/lang/StringBuilder", name := "<init>", desc := "()V" } : Jvm.MethodName) jdk_67_method_1_code (1 : Nat) (Option.none : Option Jvm.ClassFile.FieldType)).before args0 about1 = true := code_word (m := ⟨12, 0⟩) (meth := k12m0) (c := k12c0) (by decide +kernel) rfl rfl rfl (by decide +kernel)
set_option maxRecDepth 65536 in
theorem w_c11 : (Jvm.Cond.code ({ cls := "java/lang/AbstractStringBuilder", name := "<init>", desc := "(I)V" } : Jvm.MethodName) jdk_68_method_2_code (2 : Nat) (Option.none : Option Jvm.ClassFile.FieldType)).before args0 about1 = true := code_word (m := ⟨11, 1⟩) (meth := k11m1) (c := k11c1) (by decide +kernel) rfl rfl rfl (by decide +kernel)
set_option maxRecDepth 65536 in
theorem w_c12 : (Jvm.Cond.code ({ cls := "com/example/vigilant_gate/vigilantgate/IdentityArns", name := "role", desc := "(Ljava/lang/String;Ljava/lang/String;)Ljava/lang/String;" } : Jvm.MethodName) prog_6_method_4_code (2 : Nat) (Option.some (Jvm.ClassFile.FieldType.object "java/lang/String"))).before args0 about1 = true := code_word (m := ⟨9, 1⟩) (meth := k9m1) (c := k9c1) (by decide +kernel) rfl rfl rfl (by decide +kernel)
set_option maxRecDepth 65536 in
theorem w_c13 : (Jvm.Cond.code ({ cls := "java/lang/StringBuilder", name := "append", desc := "(Ljava/lang/String;)Ljava/lang/StringBuilder;" } : Jvm.MethodName) jdk_67_method_7_code (2 : Nat) (Option.some (Jvm.ClassFile.FieldType.object "java/lang/StringBuilder"))).before args0 about1 = true := code_word (m := ⟨12, 1⟩) (meth := k12m1) (c := k12c1) (by decide +kernel) rfl rfl rfl (by decide +kernel)
set_option maxRecDepth 65536 in
theorem w_c14 : (Jvm.Cond.code ({ cls := "java/lang/AbstractStringBuilder", name := "append", desc := "(Ljava/lang/String;)Ljava/lang/AbstractStringBuilder;" } : Jvm.MethodName) jdk_68_method_22_code (3 : Nat) (Option.some (Jvm.ClassFile.FieldType.object "java/lang/AbstractStringBuilder"))).before args0 about1 = true := code_word (m := ⟨11, 5⟩) (meth := k11m5) (c := k11c5) (by decide +kernel) rfl rfl rfl (by decide +kernel)
set_option maxRecDepth 65536 in
theorem w_c15 : (Jvm.Cond.code ({ cls := "java/lang/String", name := "length", desc := "()I" } : Jvm.MethodName) jdk_42_method_54_code (1 : Nat) (Option.some Jvm.ClassFile.FieldType.int)).before args0 about1 = true := code_word (m := ⟨7, 3⟩) (meth := k7m3) (c := k7c3) (by decide +kernel) rfl rfl rfl (by decide +kernel)
set_option maxRecDepth 65536 in
theorem w_c16 : (Jvm.Cond.code ({ cls := "java/lang/String", name := "coder", desc := "()B" } : Jvm.MethodName) jdk_42_method_152_code (1 : Nat) (Option.some Jvm.ClassFile.FieldType.byte)).before args0 about1 = true := code_word (m := ⟨7, 8⟩) (meth := k7m8) (c := k7c8) (by decide +kernel) rfl rfl rfl (by decide +kernel)
set_option maxRecDepth 65536 in
theorem w_c17 : (Jvm.Cond.code ({ cls := "java/lang/AbstractStringBuilder", name := "ensureCapacityInternal", desc := "(I)V" } : Jvm.MethodName) jdk_68_method_9_code (3 : Nat) (Option.none : Option Jvm.ClassFile.FieldType)).before args0 about1 = true := code_word (m := ⟨11, 3⟩) (meth := k11m3) (c := k11c3) (by decide +kernel) rfl rfl rfl (by decide +kernel)
set_option maxRecDepth 65536 in
theorem w_c18 : (Jvm.Cond.code ({ cls := "java/lang/AbstractStringBuilder", name := "putStringAt", desc := "(ILjava/lang/String;)V" } : Jvm.MethodName) jdk_68_method_73_code (3 : Nat) (Option.none : Option Jvm.ClassFile.FieldType)).before args0 about1 = true := code_word (m := ⟨11, 9⟩) (meth := k11m9) (c := k11c9) (by decide +kernel) rfl rfl rfl (by decide +kernel)
set_option maxRecDepth 65536 in
theorem w_c19 : (Jvm.Cond.code ({ cls := "java/lang/AbstractStringBuilder", name := "inflateIfNeededFor", desc := "(Ljava/lang/String;)V" } : Jvm.MethodName) jdk_68_method_71_code (2 : Nat) (Option.none : Option Jvm.ClassFile.FieldType)).before args0 about1 = true := code_word (m := ⟨11, 8⟩) (meth := k11m8) (c := k11c8) (by decide +kernel) rfl rfl rfl (by decide +kernel)
set_option maxRecDepth 65536 in
theorem w_c20 : (Jvm.Cond.code ({ cls := "java/lang/String", name := "getBytes", desc := "([BIB)V" } : Jvm.MethodName) jdk_42_method_147_code (4 : Nat) (Option.none : Option Jvm.ClassFile.FieldType)).before args0 about1 = true := code_word (m := ⟨7, 5⟩) (meth := k7m5) (c := k7c5) (by decide +kernel) rfl rfl rfl (by decide +kernel)
set_option maxRecDepth 65536 in
theorem w_c21 : (Jvm.Cond.code ({ cls := "java/lang/StringBuilder", name := "toString", desc := "()Ljava/lang/String;" } : Jvm.MethodName) jdk_67_method_42_code (1 : Nat) (Option.some (Jvm.ClassFile.FieldType.object "java/lang/String"))).before args0 about1 = true := code_word (m := ⟨12, 2⟩) (meth := k12m2) (c := k12c2) (by decide +kernel) rfl rfl rfl (by decide +kernel)
set_option maxRecDepth 65536 in
theorem w_c22 : (Jvm.Cond.code ({ cls := "java/lang/String", name := "<init>", desc := "(Ljava/lang/StringBuilder;)V" } : Jvm.MethodName) jdk_42_method_53_code (2 : Nat) (Option.none : Option Jvm.ClassFile.FieldType)).before args0 about1 = true := code_word (m := ⟨7, 2⟩) (meth := k7m2) (c := k7c2) (by decide +kernel) rfl rfl rfl (by decide +kernel)
set_option maxRecDepth 65536 in
theorem w_c23 : (Jvm.Cond.code ({ cls := "java/lang/String", name := "<init>", desc := "(Ljava/lang/AbstractStringBuilder;Ljava/lang/Void;)V" } : Jvm.MethodName) jdk_42_method_150_code (5 : Nat) (Option.none : Option Jvm.ClassFile.FieldType)).before args0 about1 = true := code_word (m := ⟨7, 7⟩) (meth := k7m7) (c := k7c7) (by decide +kernel) rfl rfl rfl (by decide +kernel)
set_option maxRecDepth 65536 in
theorem w_c24 : (Jvm.Cond.code ({ cls := "java/lang/AbstractStringBuilder", name := "getValue", desc := "()[B" } : Jvm.MethodName) jdk_68_method_64_code (1 : Nat) (Option.some (Jvm.ClassFile.FieldType.array Jvm.ClassFile.FieldType.byte))).before args0 about1 = true := code_word (m := ⟨11, 6⟩) (meth := k11m6) (c := k11c6) (by decide +kernel) rfl rfl rfl (by decide +kernel)
set_option maxRecDepth 65536 in
theorem w_c25 : (Jvm.Cond.code ({ cls := "java/lang/StringBuilder", name := "length", desc := "()I" } : Jvm.MethodName) jdk_67_method_93_code (1 : Nat) (Option.some Jvm.ClassFile.FieldType.int)).before args0 about1 = true := code_word (m := ⟨12, 3⟩) (meth := k12m3) (c := k12c3) (by decide +kernel) rfl rfl rfl (by decide +kernel)
set_option maxRecDepth 65536 in
theorem w_c26 : (Jvm.Cond.code ({ cls := "java/lang/AbstractStringBuilder", name := "length", desc := "()I" } : Jvm.MethodName) jdk_68_method_6_code (1 : Nat) (Option.some Jvm.ClassFile.FieldType.int)).before args0 about1 = true := code_word (m := ⟨11, 2⟩) (meth := k11m2) (c := k11c2) (by decide +kernel) rfl rfl rfl (by decide +kernel)
set_option maxRecDepth 65536 in
theorem w_c27 : (Jvm.Cond.code ({ cls := "java/lang/AbstractStringBuilder", name := "isLatin1", desc := "()Z" } : Jvm.MethodName) jdk_68_method_68_code (1 : Nat) (Option.some Jvm.ClassFile.FieldType.boolean)).before args0 about1 = true := code_word (m := ⟨11, 7⟩) (meth := k11m7) (c := k11c7) (by decide +kernel) rfl rfl rfl (by decide +kernel)
set_option maxRecDepth 65536 in
theorem w_c28 : (Jvm.Cond.code ({ cls := "java/util/Arrays", name := "copyOfRange", desc := "([BII)[B" } : Jvm.MethodName) jdk_65_method_132_code (3 : Nat) (Option.some (Jvm.ClassFile.FieldType.array Jvm.ClassFile.FieldType.byte))).before args0 about1 = true := code_word (m := ⟨14, 3⟩) (meth := k14m3) (c := k14c3) (by decide +kernel) rfl rfl rfl (by decide +kernel)
set_option maxRecDepth 65536 in
theorem w_c29 : (Jvm.Cond.code ({ cls := "java/lang/AbstractStringBuilder", name := "newCapacity", desc := "(I)I" } : Jvm.MethodName) jdk_68_method_10_code (6 : Nat) (Option.some Jvm.ClassFile.FieldType.int)).before args0 about1 = true := code_word (m := ⟨11, 4⟩) (meth := k11m4) (c := k11c4) (by decide +kernel) rfl rfl rfl (by decide +kernel)
set_option maxRecDepth 65536 in
theorem w_c30 : (Jvm.Cond.code ({ cls := "jdk/internal/util/ArraysSupport", name := "newLength", desc := "(III)I" } : Jvm.MethodName) jdk_48_method_27_code (4 : Nat) (Option.some Jvm.ClassFile.FieldType.int)).before args0 about1 = true := code_word (m := ⟨16, 1⟩) (meth := k16m1) (c := k16c1) (by decide +kernel) rfl rfl rfl (by decide +kernel)
set_option maxRecDepth 65536 in
theorem w_c31 : (Jvm.Cond.code ({ cls := "java/lang/Math", name := "max", desc := "(II)I" } : Jvm.MethodName) jdk_29_method_65_code (2 : Nat) (Option.some Jvm.ClassFile.FieldType.int)).before args0 about1 = true := code_word (m := ⟨17, 1⟩) (meth := k17m1) (c := k17c1) (by decide +kernel) rfl rfl rfl (by decide +kernel)
set_option maxRecDepth 65536 in
theorem w_c32 : (Jvm.Cond.code ({ cls := "java/util/Arrays", name := "copyOf", desc := "([BI)[B" } : Jvm.MethodName) jdk_65_method_121_code (3 : Nat) (Option.some (Jvm.ClassFile.FieldType.array Jvm.ClassFile.FieldType.byte))).before args0 about1 = true := code_word (m := ⟨14, 1⟩) (meth := k14m1) (c := k14c1) (by decide +kernel) rfl rfl rfl (by decide +kernel)
set_option maxRecDepth 65536 in
theorem w_c33 : (Jvm.Cond.code ({ cls := "java/lang/Math", name := "min", desc := "(II)I" } : Jvm.MethodName) jdk_29_method_69_code (2 : Nat) (Option.some Jvm.ClassFile.FieldType.int)).before args0 about1 = true := code_word (m := ⟨17, 2⟩) (meth := k17m2) (c := k17c2) (by decide +kernel) rfl rfl rfl (by decide +kernel)
set_option maxRecDepth 65536 in
theorem w_c34 : (Jvm.Cond.code ({ cls := "java/util/Arrays", name := "copyOfRangeByte", desc := "([BII)[B" } : Jvm.MethodName) jdk_65_method_133_code (5 : Nat) (Option.some (Jvm.ClassFile.FieldType.array Jvm.ClassFile.FieldType.byte))).before args0 about1 = true := code_word (m := ⟨14, 4⟩) (meth := k14m4) (c := k14c4) (by decide +kernel) rfl rfl rfl (by decide +kernel)
set_option maxRecDepth 65536 in
theorem w_c35 : (Jvm.Cond.code ({ cls := "java/util/Arrays", name := "checkLength", desc := "(II)V" } : Jvm.MethodName) jdk_65_method_131_code (2 : Nat) (Option.none : Option Jvm.ClassFile.FieldType)).before args0 about1 = true := code_word (m := ⟨14, 2⟩) (meth := k14m2) (c := k14c2) (by decide +kernel) rfl rfl rfl (by decide +kernel)
set_option maxRecDepth 65536 in
theorem w_c36 : (Jvm.Cond.code ({ cls := "com/example/vigilant_gate/vigilantgate/IdentityArnsAssumedRolePinLaw", name := "put", desc := "([CIII)I" } : Jvm.MethodName) method_6_code (4 : Nat) (Option.some Jvm.ClassFile.FieldType.int)).before args0 about1 = true := code_word (m := ⟨1, 5⟩) (meth := k1m5) (c := k1c5) (by decide +kernel) rfl rfl rfl (by decide +kernel)
set_option maxRecDepth 65536 in
theorem w_c37 : (Jvm.Cond.code ({ cls := "java/lang/String", name := "equals", desc := "(Ljava/lang/Object;)Z" } : Jvm.MethodName) jdk_42_method_66_code (3 : Nat) (Option.some Jvm.ClassFile.FieldType.boolean)).before args0 about1 = true := code_word (m := ⟨7, 4⟩) (meth := k7m4) (c := k7c4) (by decide +kernel) rfl rfl rfl (by decide +kernel)
set_option maxRecDepth 65536 in
theorem w_c38 : (Jvm.Cond.code ({ cls := "java/lang/StringLatin1", name := "equals", desc := "([B[B)Z" } : Jvm.MethodName) jdk_43_method_13_code (3 : Nat) (Option.some Jvm.ClassFile.FieldType.boolean)).before args0 about1 = true := code_word (m := ⟨18, 1⟩) (meth := k18m1) (c := k18c1) (by decide +kernel) rfl rfl rfl (by decide +kernel)
set_option maxRecDepth 65536 in
theorem w_c39 : (Jvm.Cond.code ({ cls := "com/example/vigilant_gate/vigilantgate/IdentityArnsAssumedRolePinLaw", name := "c1", desc := "(I)C" } : Jvm.MethodName) method_4_code (1 : Nat) (Option.some Jvm.ClassFile.FieldType.char)).before args0 about1 = true := code_word (m := ⟨1, 3⟩) (meth := k1m3) (c := k1c3) (by decide +kernel) rfl rfl rfl (by decide +kernel)
def codes1 : List Jvm.Cond := [Jvm.Cond.code x code maxLocals ret, Jvm.Cond.code ({ cls := "com/example/vigilant_gate/vigilantgate/IdentityArnsAssumedRolePinLaw", name := "drawn", desc := "(II)Ljava/lang/String;" } : Jvm.MethodName) method_5_code (3 : Nat) (Option.some (Jvm.ClassFile.FieldType.object "java/lang/String")), Jvm.Cond.code ({ cls := "com/example/vigilant_gate/vigilantgate/IdentityArnsAssumedRolePinLaw", name := "c0", desc := "(I)C" } : Jvm.MethodName) method_3_code (1 : Nat) (Option.some Jvm.ClassFile.FieldType.char), Jvm.Cond.code ({ cls := "java/lang/String", name := "<init>", desc := "([C)V" } : Jvm.MethodName) jdk_42_method_3_code (2 : Nat) (Option.none : Option Jvm.ClassFile.FieldType), Jvm.Cond.code ({ cls := "java/lang/String", name := "<init>", desc := "([CIILjava/lang/Void;)V" } : Jvm.MethodName) jdk_42_method_149_code (6 : Nat) (Option.none : Option Jvm.ClassFile.FieldType), Jvm.Cond.code ({ cls := "java/lang/Object", name := "<init>", desc := "()V" } : Jvm.MethodName) object_method_1_code (1 : Nat) (Option.none : Option Jvm.ClassFile.FieldType), Jvm.Cond.code ({ cls := "java/lang/StringUTF16", name := "compress", desc := "([CII)[B" } : Jvm.MethodName) jdk_52_method_16_code (6 : Nat) (Option.some (Jvm.ClassFile.FieldType.array Jvm.ClassFile.FieldType.byte)), Jvm.Cond.code ({ cls := "java/lang/StringUTF16", name := "compress", desc := "([CI[BII)I" } : Jvm.MethodName) jdk_52_method_21_code (7 : Nat) (Option.some Jvm.ClassFile.FieldType.int), Jvm.Cond.code ({ cls := "java/lang/StringUTF16", name := "coderFromArrayLen", desc := "([BI)B" } : Jvm.MethodName) jdk_52_method_15_code (2 : Nat) (Option.some Jvm.ClassFile.FieldType.byte), Jvm.Cond.code ({ cls := "com/example/vigilant_gate/vigilantgate/IdentityArns", name := "assumedRole", desc := "(Ljava/lang/String;Ljava/lang/String;Ljava/lang/String;)Ljava/lang/String;" } : Jvm.MethodName) prog_6_method_5_code (3 : Nat) (Option.some (Jvm.ClassFile.FieldType.object "java/lang/String")), Jvm.Cond.code ({ cls := "java/lang/StringBuilder", name := "<init>", desc := "()V" } : Jvm.MethodName) jdk_67_method_1_code (1 : Nat) (Option.none : Option Jvm.ClassFile.FieldType), Jvm.Cond.code ({ cls := "java/lang/AbstractStringBuilder", name := "<init>", desc := "(I)V" } : Jvm.MethodName) jdk_68_method_2_code (2 : Nat) (Option.none : Option Jvm.ClassFile.FieldType), Jvm.Cond.code ({ cls := "com/example/vigilant_gate/vigilantgate/IdentityArns", name := "role", desc := "(Ljava/lang/String;Ljava/lang/String;)Ljava/lang/String;" } : Jvm.MethodName) prog_6_method_4_code (2 : Nat) (Option.some (Jvm.ClassFile.FieldType.object "java/lang/String")), Jvm.Cond.code ({ cls := "java/lang/StringBuilder", name := "append", desc := "(Ljava/lang/String;)Ljava/lang/StringBuilder;" } : Jvm.MethodName) jdk_67_method_7_code (2 : Nat) (Option.some (Jvm.ClassFile.FieldType.object "java/lang/StringBuilder")), Jvm.Cond.code ({ cls := "java/lang/AbstractStringBuilder", name := "append", desc := "(Ljava/lang/String;)Ljava/lang/AbstractStringBuilder;" } : Jvm.MethodName) jdk_68_method_22_code (3 : Nat) (Option.some (Jvm.ClassFile.FieldType.object "java/lang/AbstractStringBuilder")), Jvm.Cond.code ({ cls := "java/lang/String", name := "length", desc := "()I" } : Jvm.MethodName) jdk_42_method_54_code (1 : Nat) (Option.some Jvm.ClassFile.FieldType.int), Jvm.Cond.code ({ cls := "java/lang/String", name := "coder", desc := "()B" } : Jvm.MethodName) jdk_42_method_152_code (1 : Nat) (Option.some Jvm.ClassFile.FieldType.byte), Jvm.Cond.code ({ cls := "java/lang/AbstractStringBuilder", name := "ensureCapacityInternal", desc := "(I)V" } : Jvm.MethodName) jdk_68_method_9_code (3 : Nat) (Option.none : Option Jvm.ClassFile.FieldType), Jvm.Cond.code ({ cls := "java/lang/AbstractStringBuilder", name := "putStringAt", desc := "(ILjava/lang/String;)V" } : Jvm.MethodName) jdk_68_method_73_code (3 : Nat) (Option.none : Option Jvm.ClassFile.FieldType), Jvm.Cond.code ({ cls := "java/lang/AbstractStringBuilder", name := "inflateIfNeededFor", desc := "(Ljava/lang/String;)V" } : Jvm.MethodName) jdk_68_method_71_code (2 : Nat) (Option.none : Option Jvm.ClassFile.FieldType), Jvm.Cond.code ({ cls := "java/lang/String", name := "getBytes", desc := "([BIB)V" } : Jvm.MethodName) jdk_42_method_147_code (4 : Nat) (Option.none : Option Jvm.ClassFile.FieldType), Jvm.Cond.code ({ cls := "java/lang/StringBuilder", name := "toString", desc := "()Ljava/lang/String;" } : Jvm.MethodName) jdk_67_method_42_code (1 : Nat) (Option.some (Jvm.ClassFile.FieldType.object "java/lang/String")), Jvm.Cond.code ({ cls := "java/lang/String", name := "<init>", desc := "(Ljava/lang/StringBuilder;)V" } : Jvm.MethodName) jdk_42_method_53_code (2 : Nat) (Option.none : Option Jvm.ClassFile.FieldType), Jvm.Cond.code ({ cls := "java/lang/String", name := "<init>", desc := "(Ljava/lang/AbstractStringBuilder;Ljava/lang/Void;)V" } : Jvm.MethodName) jdk_42_method_150_code (5 : Nat) (Option.none : Option Jvm.ClassFile.FieldType), Jvm.Cond.code ({ cls := "java/lang/AbstractStringBuilder", name := "getValue", desc := "()[B" } : Jvm.MethodName) jdk_68_method_64_code (1 : Nat) (Option.some (Jvm.ClassFile.FieldType.array Jvm.ClassFile.FieldType.byte)), Jvm.Cond.code ({ cls := "java/lang/StringBuilder", name := "length", desc := "()I" } : Jvm.MethodName) jdk_67_method_93_code (1 : Nat) (Option.some Jvm.ClassFile.FieldType.int), Jvm.Cond.code ({ cls := "java/lang/AbstractStringBuilder", name := "length", desc := "()I" } : Jvm.MethodName) jdk_68_method_6_code (1 : Nat) (Option.some Jvm.ClassFile.FieldType.int), Jvm.Cond.code ({ cls := "java/lang/AbstractStringBuilder", name := "isLatin1", desc := "()Z" } : Jvm.MethodName) jdk_68_method_68_code (1 : Nat) (Option.some Jvm.ClassFile.FieldType.boolean), Jvm.Cond.code ({ cls := "java/util/Arrays", name := "copyOfRange", desc := "([BII)[B" } : Jvm.MethodName) jdk_65_method_132_code (3 : Nat) (Option.some (Jvm.ClassFile.FieldType.array Jvm.ClassFile.FieldType.byte)), Jvm.Cond.code ({ cls := "java/lang/AbstractStringBuilder", name := "newCapacity", desc := "(I)I" } : Jvm.MethodName) jdk_68_method_10_code (6 : Nat) (Option.some Jvm.ClassFile.FieldType.int), Jvm.Cond.code ({ cls := "jdk/internal/util/ArraysSupport", name := "newLength", desc := "(III)I" } : Jvm.MethodName) jdk_48_method_27_code (4 : Nat) (Option.some Jvm.ClassFile.FieldType.int), Jvm.Cond.code ({ cls := "java/lang/Math", name := "max", desc := "(II)I" } : Jvm.MethodName) jdk_29_method_65_code (2 : Nat) (Option.some Jvm.ClassFile.FieldType.int), Jvm.Cond.code ({ cls := "java/util/Arrays", name := "copyOf", desc := "([BI)[B" } : Jvm.MethodName) jdk_65_method_121_code (3 : Nat) (Option.some (Jvm.ClassFile.FieldType.array Jvm.ClassFile.FieldType.byte)), Jvm.Cond.code ({ cls := "java/lang/Math", name := "min", desc := "(II)I" } : Jvm.MethodName) jdk_29_method_69_code (2 : Nat) (Option.some Jvm.ClassFile.FieldType.int), Jvm.Cond.code ({ cls := "java/util/Arrays", name := "copyOfRangeByte", desc := "([BII)[B" } : Jvm.MethodName) jdk_65_method_133_code (5 : Nat) (Option.some (Jvm.ClassFile.FieldType.array Jvm.ClassFile.FieldType.byte)), Jvm.Cond.code ({ cls := "java/util/Arrays", name := "checkLength", desc := "(II)V" } : Jvm.MethodName) jdk_65_method_131_code (2 : Nat) (Option.none : Option Jvm.ClassFile.FieldType), Jvm.Cond.code ({ cls := "com/example/vigilant_gate/vigilantgate/IdentityArnsAssumedRolePinLaw", name := "put", desc := "([CIII)I" } : Jvm.MethodName) method_6_code (4 : Nat) (Option.some Jvm.ClassFile.FieldType.int), Jvm.Cond.code ({ cls := "java/lang/String", name := "equals", desc := "(Ljava/lang/Object;)Z" } : Jvm.MethodName) jdk_42_method_66_code (3 : Nat) (Option.some Jvm.ClassFile.FieldType.boolean), Jvm.Cond.code ({ cls := "java/lang/StringLatin1", name := "equals", desc := "([B[B)Z" } : Jvm.MethodName) jdk_43_method_13_code (3 : Nat) (Option.some Jvm.ClassFile.FieldType.boolean), Jvm.Cond.code ({ cls := "com/example/vigilant_gate/vigilantgate/IdentityArnsAssumedRolePinLaw", name := "c1", desc := "(I)C" } : Jvm.MethodName) method_4_code (1 : Nat) (Option.some Jvm.ClassFile.FieldType.char)]
set_option maxRecDepth 65536 in
theorem codes_eq : words1.filter isCode = codes1 := rfl
theorem w_codes : ∀ c ∈ words1.filter isCode, c.before args0 about1 = true := by
  rw [codes_eq]
  intro c hc
  simp only [codes1, List.mem_cons, List.not_mem_nil, or_false] at hc
  rcases hc with rfl | rfl | rfl | rfl | rfl | rfl | rfl | rfl | rfl | rfl | rfl | rfl | rfl | rfl | rfl | rfl | rfl | rfl | rfl | rfl | rfl | rfl | rfl | rfl | rfl | rfl | rfl | rfl | rfl | rfl | rfl | rfl | rfl | rfl | rfl | rfl | rfl | rfl | rfl | rfl
  · exact w_c0
  · exact w_c1
  · exact w_c2
  · exact w_c3
  · exact w_c4
  · exact w_c5
  · exact w_c6
  · exact w_c7
  · exact w_c8
  · exact w_c9
  · exact w_c10
  · exact w_c11
  · exact w_c12
  · exact w_c13
  · exact w_c14
  · exact w_c15
  · exact w_c16
  · exact w_c17
  · exact w_c18
  · exact w_c19
  · exact w_c20
  · exact w_c21
  · exact w_c22
  · exact w_c23
  · exact w_c24
  · exact w_c25
  · exact w_c26
  · exact w_c27
  · exact w_c28
  · exact w_c29
  · exact w_c30
  · exact w_c31
  · exact w_c32
  · exact w_c33
  · exact w_c34
  · exact w_c35
  · exact w_c36
  · exact w_c37
  · exact w_c38
  · exact w_c39
set_option maxRecDepth 65536 in
theorem w_t1 : (words1.take 24).all (fun c => isCode c || c.before args0 about1) = true := by decide +kernel
set_option maxRecDepth 65536 in
theorem w_t2 : ((words1.drop 24).take 24).all (fun c => isCode c || c.before args0 about1) = true := by decide +kernel
set_option maxRecDepth 65536 in
theorem w_t3 : (((words1.drop 24).drop 24).take 24).all (fun c => isCode c || c.before args0 about1) = true := by decide +kernel
set_option maxRecDepth 65536 in
theorem w_t4 : ((((words1.drop 24).drop 24).drop 24).take 24).all (fun c => isCode c || c.before args0 about1) = true := by decide +kernel
set_option maxRecDepth 65536 in
theorem w_t5 : (((((words1.drop 24).drop 24).drop 24).drop 24).take 24).all (fun c => isCode c || c.before args0 about1) = true := by decide +kernel
set_option maxRecDepth 65536 in
theorem w_t6 : ((((((words1.drop 24).drop 24).drop 24).drop 24).drop 24).take 24).all (fun c => isCode c || c.before args0 about1) = true := by decide +kernel
set_option maxRecDepth 65536 in
theorem w_t7 : (((((((words1.drop 24).drop 24).drop 24).drop 24).drop 24).drop 24).take 24).all (fun c => isCode c || c.before args0 about1) = true := by decide +kernel
set_option maxRecDepth 65536 in
theorem w_t8 : ((((((((words1.drop 24).drop 24).drop 24).drop 24).drop 24).drop 24).drop 24).take 24).all (fun c => isCode c || c.before args0 about1) = true := by decide +kernel
set_option maxRecDepth 65536 in
theorem w_t9 : ((((((((words1.drop 24).drop 24).drop 24).drop 24).drop 24).drop 24).drop 24).drop 24).all (fun c => isCode c || c.before args0 about1) = true := by decide +kernel
theorem w_tables : (allAtoms (Jvm.Cond.code x code maxLocals ret :: tables_1)).before args0 about1 = true := by
  rw [allAtoms_all]
  show words1.all (fun c => c.before args0 about1) = true
  refine all_split ?_ w_codes
  rw [← List.take_append_drop 24 words1, List.all_append, w_t1, ← List.take_append_drop 24 (words1.drop 24), List.all_append, w_t2, ← List.take_append_drop 24 ((words1.drop 24).drop 24), List.all_append, w_t3, ← List.take_append_drop 24 (((words1.drop 24).drop 24).drop 24), List.all_append, w_t4, ← List.take_append_drop 24 ((((words1.drop 24).drop 24).drop 24).drop 24), List.all_append, w_t5, ← List.take_append_drop 24 (((((words1.drop 24).drop 24).drop 24).drop 24).drop 24), List.all_append, w_t6, ← List.take_append_drop 24 ((((((words1.drop 24).drop 24).drop 24).drop 24).drop 24).drop 24), List.all_append, w_t7, ← List.take_append_drop 24 (((((((words1.drop 24).drop 24).drop 24).drop 24).drop 24).drop 24).drop 24), List.all_append, w_t8, w_t9]
  rfl
set_option maxRecDepth 65536 in
theorem w_rest : rest_1_c.before args0 about1 = true := by decide +kernel
set_option maxRecDepth 65536 in
theorem w_case : (Jvm.Cond.and given_1 narrow_1).before args0 about1 = true := by decide +kernel
set_option maxRecDepth 65536 in
theorem w_consts : constsHeld consts_1 about1 := Jvm.Lit.constsHeldB_iff.mp (by decide +kernel)
theorem w_applies : (headSpec (Jvm.Cond.code x code maxLocals ret :: tables_1) room_1).applies x e0.platform about1 = true :=
  (Spec.applies_iff w_frames).mpr ⟨w_running, w_runnable, w_alone, w_named, w_hears, w_ripe, w_room, w_tables⟩
theorem atStart : AtStart classFile x code maxLocals ret World_1 tables_1 room_1 Calls_1 rest_1 Pre_1 launch0 p0 e0 about1 theMethod args0 below0 :=
  ⟨lists_1, trivial, launch0.admits_env _ _ _, launch0.least_env, fairChoices_fair.cas, fairChoices_fair.clock, w_frames, w_args, w_heap, w_applies, ⟨w_consts, trivial⟩, w_rest, w_case⟩
end start1
theorem witness_1 : WitnessClaimed_1 := ⟨start1.p0, start1.e0, start1.about1, start1.theMethod, start1.args0, start1.below0, start1.atStart⟩
end Jvm.Pilot.@@N@@
