import JvmDerived
import JvmDerived.Pilot.@@N@@Statement
import JvmDerived.Pilot.@@N@@Code
set_option linter.unusedVariables false
set_option linter.unusedSimpArgs false
/- laws to paste: Road.backV, lenW, chN, eqW (cut by pick.py; bodies as the Statement names them) -/
namespace Jvm.Pilot.@@N@@
namespace StrChars
open Jvm Sem ClassFile Op Lib Jvm.Stand Jvm.Free.XT Jvm.Free.ALB Jvm.Free.JM Jvm.Free
open Jvm.Lib.Cold (StaticIs)
/-- a char array whose places are chars -/
def Ch (a : Addr) (A : Cell) (U : State) : Prop := Arr .char a A U ∧ Typed .char A
theorem Ch.mv {a : Addr} {A : Cell} {U U' : State} (h : Ch a A U) (hal : U.vm.Alike U'.vm) (hh : U'.heap = U.heap) : Ch a A U' := ⟨h.1.mv hal hh, h.2⟩
theorem Ch.keep {a : Addr} {A : Cell} {U U' : State} (h : Ch a A U) (hal : U.vm.Alike U'.vm) (hk : U'.heap[a]? = some A) : Ch a A U' := ⟨h.1.keep hal hk, h.2⟩
/-- what place i of a char[]'s cell holds -/
def cv (A : Cell) (i : Nat) : Int32 := match A.slots[i]? with | some (.int x) => x | _ => 0
theorem Ch.get {a : Addr} {A : Cell} {U : State} (h : Ch a A U) {i : Nat} (hi : i < A.slots.size) : A.slots[i]? = some (.int (cv A i)) := by
  have e := Array.getElem?_eq_getElem hi
  have f := h.2 i _ e
  unfold cv; rw [e]
  generalize A.slots[i] = v at f
  cases v <;> simp [fits] at f ⊢
/-- the byte that i2b leaves of a char -/
def lo8 (x : Int32) : Int32 := x.toInt8.toInt32
theorem fits_lo8 (y : Int32) : fits .byte (.int (lo8 y)) = true := by
  have h1 := y.toInt8.le_toInt
  have h2 := y.toInt8.toInt_lt
  simp only [lo8, fits, Bool.and_eq_true, decide_eq_true_eq, Int32.le_iff_toInt_le, Int8.toInt_toInt32, show (-128 : Int32).toInt = -128 from by decide, show (127 : Int32).toInt = 127 from by decide]
  omega
/-- A' is A but that each place j of lo .. hi - 1 holds f j -/
def Laid (A A' : Cell) (lo hi : Nat) (f : Nat → Value) : Prop := A'.cls = A.cls ∧ A'.vm = A.vm ∧ A'.slots.size = A.slots.size ∧ ∀ i, A'.slots[i]? = if lo ≤ i ∧ i < hi then some (f i) else A.slots[i]?
theorem Laid.zero (A : Cell) (lo : Nat) (f : Nat → Value) : Laid A A lo (lo + 0) f := ⟨rfl, rfl, rfl, fun i => by rw [if_neg (by omega)]⟩
theorem Laid.step {A Ak : Cell} {lo k : Nat} {f : Nat → Value} {v : Value} (h : Laid A Ak lo k f) (hlo : lo ≤ k) (hk : k < Ak.slots.size) (hv : v = f k) : Laid A (Ak.setSlot k v) lo (k + 1) f := by
  refine ⟨h.1, h.2.1, by simpa [Cell.setSlot] using h.2.2.1, fun i => ?_⟩
  by_cases e : k = i
  · subst e; rw [Cell.slots_setSlot_self v hk, if_pos (by omega), hv]
  · rw [Cell.slots_setSlot_ne v e, h.2.2.2 i]
    by_cases q : lo ≤ i ∧ i < k
    · rw [if_pos q, if_pos (by omega)]
    · rw [if_neg q, if_neg (by omega)]
def U16 : String := "java/lang/StringUTF16"
namespace Cmp5
def yN : MethodName := ⟨"java/lang/StringUTF16", "compress", "([CI[BII)I"⟩
abbrev yB : ByteArray := jdk_52_method_21_code
theorem d0 : decode yB 0 = .ok (.iconst 0, 1) := by decide +kernel
theorem d1 : decode yB 1 = .ok (.istore 5, 2) := by decide +kernel
theorem d3 : decode yB 3 = .ok (.iload 5, 2) := by decide +kernel
theorem d5 : decode yB 5 = .ok (.iload 4, 2) := by decide +kernel
theorem d7 : decode yB 7 = .ok (.if_icmp (.ge) 37, 3) := by decide +kernel
theorem d10 : decode yB 10 = .ok (.aload_n 0, 1) := by decide +kernel
theorem d11 : decode yB 11 = .ok (.iload_n 1, 1) := by decide +kernel
theorem d12 : decode yB 12 = .ok (.caload, 1) := by decide +kernel
theorem d13 : decode yB 13 = .ok (.istore 6, 2) := by decide +kernel
theorem d15 : decode yB 15 = .ok (.iload 6, 2) := by decide +kernel
theorem d17 : decode yB 17 = .ok (.sipush 255, 3) := by decide +kernel
theorem d20 : decode yB 20 = .ok (.if_icmp (.le) 6, 3) := by decide +kernel
theorem d26 : decode yB 26 = .ok (.aload_n 2, 1) := by decide +kernel
theorem d27 : decode yB 27 = .ok (.iload_n 3, 1) := by decide +kernel
theorem d28 : decode yB 28 = .ok (.iload 6, 2) := by decide +kernel
theorem d30 : decode yB 30 = .ok (.i2b, 1) := by decide +kernel
theorem d31 : decode yB 31 = .ok (.bastore, 1) := by decide +kernel
theorem d32 : decode yB 32 = .ok (.iinc 1 1, 3) := by decide +kernel
theorem d35 : decode yB 35 = .ok (.iinc 3 1, 3) := by decide +kernel
theorem d38 : decode yB 38 = .ok (.iinc 5 1, 3) := by decide +kernel
theorem d41 : decode yB 41 = .ok (.goto (-38), 3) := by decide +kernel
theorem d44 : decode yB 44 = .ok (.iload 4, 2) := by decide +kernel
theorem d46 : decode yB 46 = .ok (.ireturn, 1) := by decide +kernel
def site : List Cond := []
def tab : Cond := tabOf yN yB 7 (some .int) site
def P (b : Addr) (A : Cell) (d : Addr) (B : Cell) (o q len : Nat) (args : Array Value) (s : State) : Prop := args = #[.ref b, .int (Int32.ofNat o), .ref d, .int (Int32.ofNat q), .int (Int32.ofNat len)] ∧ Ch b A s ∧ Arr .byte d B s ∧ b ≠ d ∧ o + len ≤ A.slots.size ∧ q + len ≤ B.slots.size ∧ ∀ i, i < len → ¬ 255 < cv A (o + i)
def E (b : Addr) (A : Cell) (d : Addr) (B : Cell) (o q len : Nat) (r : Option Value) (s u : State) : Prop := r = some (.int (Int32.ofNat len)) ∧ ∃ B', Put d B' s u ∧ Laid B B' q (q + len) (fun j => Value.int (lo8 (cv A (o + (j - q)))))
/-- no char of the range above 255: len; the places written hold each char's low byte -/
theorem law (l : Launch) (b : Addr) (A : Cell) (d : Addr) (B : Cell) (o q len : Nat) : Law l yN 5 5 0 0 yB 7 (some .int) site (P b A d B o q len) (E b A d B o q len) (copyLocs d q len) 0 0 := by
  refine Law.of_walk (plainFor_of_name (by decide +kernel)) (by decide +kernel) (by decide +kernel) (by decide) (fun _ _ h => by rw [h.1]; rfl) (fun _ U U' hal hh h => ⟨h.1, h.2.1.mv hal hh, h.2.2.1.mv hal hh, h.2.2.2⟩) (fun r U U' V V' h1 hal h2 h => ⟨h.1, h.2.elim fun B' q => ⟨B', q.1.mv h1 h2, q.2⟩⟩) ?_
  intro p e s m args below meth c s₁ X0 hexec hbytes hml hret hlk hnm hown hh0 W hP
  obtain ⟨rfl, hA, hB, hne, l1, l2, hp⟩ := hP
  have c1 : Steps p.tables e below (s₁.setTop (entryFrame m #[.ref b, .int (Int32.ofNat o), .ref d, .int (Int32.ofNat q), .int (Int32.ofNat len)] 7)) (s₁.setTop (mkF m 0 #[.val (.ref b), .val (.int (Int32.ofNat o)), .val (.ref d), .val (.int (Int32.ofNat q)), .val (.int (Int32.ofNat len)), .unset, .unset] [])) := entry rfl
  have hA0 := hA.1.mv X0.warmed.alike hh0
  have hB0 := hB.mv X0.warmed.alike hh0
  have a31 := hA.1.2.2.2
  have c2 : Steps p.tables e below (s₁.setTop (entryFrame m #[.ref b, .int (Int32.ofNat o), .ref d, .int (Int32.ofNat q), .int (Int32.ofNat len)] 7)) (s₁.setTop (mkF m 3 #[.val (.ref b), .val (.int (Int32.ofNat o)), .val (.ref d), .val (.int (Int32.ofNat q)), .val (.int (Int32.ofNat len)), .val (.int 0), .unset] [])) := c1.trans (by
    refine iconstV X0.here hexec rfl 0 (hb hbytes d0) (by decide) ?_
    refine XS.istore X0.here hexec rfl (hb hbytes d1) rfl rfl ?_
    exact Steps.refl _)
  have loop : ∀ (r i : Nat), i + r = len → ∀ (z : Slot), (z = .unset ∨ ∃ w, z = .val w ∧ w.category = 1) → ∀ (Tl : State) (Bk : Cell), Stand p l e { frames := 0, locals := 0, cells := 0, slots := 0 } s m #[.ref b, .int (Int32.ofNat o), .ref d, .int (Int32.ofNat q), .int (Int32.ofNat len)] below meth c Tl ([] ++ copyLocs d q i) 0 0 → Put d Bk s₁ Tl → Laid B Bk q (q + i) (fun j => Value.int (lo8 (cv A (o + (j - q))))) →
      Steps p.tables e below (s₁.setTop (entryFrame m #[.ref b, .int (Int32.ofNat o), .ref d, .int (Int32.ofNat q), .int (Int32.ofNat len)] 7)) (Tl.setTop (mkF m 3 #[.val (.ref b), .val (.int (Int32.ofNat (o + i))), .val (.ref d), .val (.int (Int32.ofNat (q + i))), .val (.int (Int32.ofNat len)), .val (.int (Int32.ofNat i)), z] [])) → ∃ (T' : State) (B' : Cell) (z' : Slot), Stand p l e { frames := 0, locals := 0, cells := 0, slots := 0 } s m #[.ref b, .int (Int32.ofNat o), .ref d, .int (Int32.ofNat q), .int (Int32.ofNat len)] below meth c T' ([] ++ copyLocs d q len) 0 0 ∧ Put d B' s₁ T' ∧ Laid B B' q (q + len) (fun j => Value.int (lo8 (cv A (o + (j - q))))) ∧
      Steps p.tables e below (s₁.setTop (entryFrame m #[.ref b, .int (Int32.ofNat o), .ref d, .int (Int32.ofNat q), .int (Int32.ofNat len)] 7)) (T'.setTop (mkF m 3 #[.val (.ref b), .val (.int (Int32.ofNat (o + len))), .val (.ref d), .val (.int (Int32.ofNat (q + len))), .val (.int (Int32.ofNat len)), .val (.int (Int32.ofNat len)), z'] [])) := by
    intro r
    induction r with
    | zero =>
      intro i hi z hz Tl Bk Xl pl fl cl
      have hil : i = len := by omega
      rw [hil] at Xl fl cl
      exact ⟨Tl, Bk, z, Xl, pl, fl, cl⟩
    | succ r ih =>
      intro i hi z hz Tl Bk Xl pl fl cl
      have all := X0.warmed.alike.symm.trans Xl.warmed.alike
      have hAl := hA0.keep all (pl.other hne hA0.1)
      have hBk := hB0.like all pl.1 fl.1 fl.2.1 fl.2.2.1
      have hlt : q + i < Bk.slots.size := by rw [fl.2.2.1]; omega
      have c3 : Steps p.tables e below (s₁.setTop (entryFrame m #[.ref b, .int (Int32.ofNat o), .ref d, .int (Int32.ofNat q), .int (Int32.ofNat len)] 7)) (Tl.setTop (mkF m 12 #[.val (.ref b), .val (.int (Int32.ofNat (o + i))), .val (.ref d), .val (.int (Int32.ofNat (q + i))), .val (.int (Int32.ofNat len)), .val (.int (Int32.ofNat i)), z] [.int (Int32.ofNat (o + i)), .ref b])) := cl.trans (by
        refine XS.iload Xl.here hexec rfl (hb hbytes d3) rfl ?_
        refine XS.iload Xl.here hexec rfl (hb hbytes d5) rfl ?_
        refine XS.icmpNo Xl.here hexec rfl (hb hbytes d7) rfl (ii_ge_f (lt32 (by omega) (by omega))) ?_
        refine XS.aloadN Xl.here hexec rfl (hb hbytes d10) rfl rfl ?_
        refine XS.iloadN Xl.here hexec rfl (hb hbytes d11) rfl ?_
        exact Steps.refl _)
      have c4 : Steps p.tables e below (s₁.setTop (entryFrame m #[.ref b, .int (Int32.ofNat o), .ref d, .int (Int32.ofNat q), .int (Int32.ofNat len)] 7)) (Tl.setTop (mkF m 13 #[.val (.ref b), .val (.int (Int32.ofNat (o + i))), .val (.ref d), .val (.int (Int32.ofNat (q + i))), .val (.int (Int32.ofNat len)), .val (.int (Int32.ofNat i)), z] [.int (cv A (o + i))])) := c3.trans (by
        refine Xl.aget hexec hAl rfl (hA.get (i := o + i) (by omega)) rfl rfl (hb hbytes d12) ?_
        exact Steps.refl _)
      have c5 : Steps p.tables e below (s₁.setTop (entryFrame m #[.ref b, .int (Int32.ofNat o), .ref d, .int (Int32.ofNat q), .int (Int32.ofNat len)] 7)) (Tl.setTop (mkF m 15 #[.val (.ref b), .val (.int (Int32.ofNat (o + i))), .val (.ref d), .val (.int (Int32.ofNat (q + i))), .val (.int (Int32.ofNat len)), .val (.int (Int32.ofNat i)), .val (.int (cv A (o + i)))] [])) := c4.trans (by
        refine XS.istoreS Xl.here hexec rfl (hb hbytes d13) rfl rfl hz ?_
        exact Steps.refl _)
      have c6 : Steps p.tables e below (s₁.setTop (entryFrame m #[.ref b, .int (Int32.ofNat o), .ref d, .int (Int32.ofNat q), .int (Int32.ofNat len)] 7)) (Tl.setTop (mkF m 31 #[.val (.ref b), .val (.int (Int32.ofNat (o + i))), .val (.ref d), .val (.int (Int32.ofNat (q + i))), .val (.int (Int32.ofNat len)), .val (.int (Int32.ofNat i)), .val (.int (cv A (o + i)))] [.int (lo8 (cv A (o + i))), .int (Int32.ofNat (q + i)), .ref d])) := c5.trans (by
        refine XS.iload Xl.here hexec rfl (hb hbytes d15) rfl ?_
        refine sipushV Xl.here hexec rfl 255 (hb hbytes d17) (by decide) ?_
        refine XS.icmpYes Xl.here hexec rfl (pc0 := 20) rfl (hb hbytes d20) rfl (ii_le_t (hp i (by omega))) (by decide) rfl ?_
        refine XS.aloadN Xl.here hexec rfl (hb hbytes d26) rfl rfl ?_
        refine XS.iloadN Xl.here hexec rfl (hb hbytes d27) rfl ?_
        refine XS.iload Xl.here hexec rfl (hb hbytes d28) rfl ?_
        refine i2b Xl.here hexec rfl (hb hbytes d30) rfl ?_
        exact Steps.refl _)
      obtain ⟨T7, X7, p7, st7⟩ := Xl.aput hexec hBk rfl hlt rfl (fits_lo8 (cv A (o + i))) (g := (mkF m 31 #[.val (.ref b), .val (.int (Int32.ofNat (o + i))), .val (.ref d), .val (.int (Int32.ofNat (q + i))), .val (.int (Int32.ofNat len)), .val (.int (Int32.ofNat i)), .val (.int (cv A (o + i)))] [.int (lo8 (cv A (o + i))), .int (Int32.ofNat (q + i)), .ref d])) rfl (rest := []) rfl (hb hbytes d31)
      have c8 : Steps p.tables e below (s₁.setTop (entryFrame m #[.ref b, .int (Int32.ofNat o), .ref d, .int (Int32.ofNat q), .int (Int32.ofNat len)] 7)) (T7.setTop (mkF m 32 #[.val (.ref b), .val (.int (Int32.ofNat (o + i))), .val (.ref d), .val (.int (Int32.ofNat (q + i))), .val (.int (Int32.ofNat len)), .val (.int (Int32.ofNat i)), .val (.int (cv A (o + i)))] [])) := c6.trans (st7 _ (Steps.refl _))
      have c9 : Steps p.tables e below (s₁.setTop (entryFrame m #[.ref b, .int (Int32.ofNat o), .ref d, .int (Int32.ofNat q), .int (Int32.ofNat len)] 7)) (T7.setTop (mkF m 3 #[.val (.ref b), .val (.int (Int32.ofNat (o + i) + 1)), .val (.ref d), .val (.int (Int32.ofNat (q + i) + 1)), .val (.int (Int32.ofNat len)), .val (.int (Int32.ofNat i + 1)), .val (.int (cv A (o + i)))] [])) := c8.trans (by
        refine iincV X7.here hexec rfl 1 (hb hbytes d32) (by decide) rfl rfl ?_
        refine iincV X7.here hexec rfl 1 (hb hbytes d35) (by decide) rfl rfl ?_
        refine iincV X7.here hexec rfl 1 (hb hbytes d38) (by decide) rfl rfl ?_
        refine XS.goto X7.here hexec rfl (pc0 := 41) rfl (hb hbytes d41) (by decide) rfl ?_
        exact Steps.refl _)
      have c10 : Steps p.tables e below (s₁.setTop (entryFrame m #[.ref b, .int (Int32.ofNat o), .ref d, .int (Int32.ofNat q), .int (Int32.ofNat len)] 7)) (T7.setTop (mkF m 3 #[.val (.ref b), .val (.int (Int32.ofNat (o + (i + 1)))), .val (.ref d), .val (.int (Int32.ofNat (q + (i + 1)))), .val (.int (Int32.ofNat len)), .val (.int (Int32.ofNat (i + 1))), .val (.int (cv A (o + i)))] [])) := by
        have := c9
        rw [succ32, succ32, succ32] at this
        exact this
      exact ih (i + 1) (by omega) _ (Or.inr ⟨_, rfl, rfl⟩) T7 _ (by rw [copyLocs_step, ← List.append_assoc]; exact X7) (pl.trans p7) (fl.step (by omega) hlt (by simp)) c10
  obtain ⟨T9, B9, z9, X9, p9, f9, g9⟩ := loop len 0 (by omega) .unset (Or.inl rfl) s₁ B (by simpa [copyLocs] using X0) ⟨hB0.1, fun _ _ => rfl, rfl⟩ (Laid.zero _ _ _) c2
  have c11 : Steps p.tables e below (s₁.setTop (entryFrame m #[.ref b, .int (Int32.ofNat o), .ref d, .int (Int32.ofNat q), .int (Int32.ofNat len)] 7)) (T9.setTop (mkF m 46 #[.val (.ref b), .val (.int (Int32.ofNat (o + len))), .val (.ref d), .val (.int (Int32.ofNat (q + len))), .val (.int (Int32.ofNat len)), .val (.int (Int32.ofNat len)), z9] [.int (Int32.ofNat len)])) := g9.trans (by
    refine XS.iload X9.here hexec rfl (hb hbytes d3) rfl ?_
    refine XS.iload X9.here hexec rfl (hb hbytes d5) rfl ?_
    refine XS.icmpYes X9.here hexec rfl (pc0 := 7) rfl (hb hbytes d7) rfl (ii_ge_t (nlt32 (by omega) (Nat.le_refl _))) (by decide) rfl ?_
    refine XS.iload X9.here hexec rfl (hb hbytes d44) rfl ?_
    exact Steps.refl _)
  exact ⟨T9, some (.int (Int32.ofNat len)), _, _, _, X9, by simp, rfl, rfl, (fun h => by cases h), ⟨rfl, B9, p9.from hh0, f9⟩, fun fs hl => c11.trans (X9.ireturnOut hexec hret rfl (Or.inl rfl) (hb hbytes d46) hl)⟩
end Cmp5
namespace Cmp3
def yN : MethodName := ⟨"java/lang/StringUTF16", "compress", "([CII)[B"⟩
abbrev yB : ByteArray := jdk_52_method_16_code
theorem d0 : decode yB 0 = .ok (.iload_n 2, 1) := by decide +kernel
theorem d1 : decode yB 1 = .ok (.newarray .byte, 2) := by decide +kernel
theorem d3 : decode yB 3 = .ok (.astore_n 3, 1) := by decide +kernel
theorem d4 : decode yB 4 = .ok (.aload_n 0, 1) := by decide +kernel
theorem d5 : decode yB 5 = .ok (.iload_n 1, 1) := by decide +kernel
theorem d6 : decode yB 6 = .ok (.aload_n 3, 1) := by decide +kernel
theorem d7 : decode yB 7 = .ok (.iconst 0, 1) := by decide +kernel
theorem d8 : decode yB 8 = .ok (.iload_n 2, 1) := by decide +kernel
theorem d9 : decode yB 9 = .ok (.invokestatic 115, 3) := by decide +kernel
theorem d12 : decode yB 12 = .ok (.istore 4, 2) := by decide +kernel
theorem d14 : decode yB 14 = .ok (.iload 4, 2) := by decide +kernel
theorem d16 : decode yB 16 = .ok (.iload_n 2, 1) := by decide +kernel
theorem d17 : decode yB 17 = .ok (.if_icmp (.eq) 40, 3) := by decide +kernel
theorem d57 : decode yB 57 = .ok (.aload_n 3, 1) := by decide +kernel
theorem d58 : decode yB 58 = .ok (.areturn, 1) := by decide +kernel
def site : List Cond := [.arrayClass .byte, Cmp5.tab] ++ staticW U16 115 Cmp5.yN
def tab : Cond := tabOf yN yB 6 (some (.array .byte)) site
def P (b : Addr) (A : Cell) (o len : Nat) (args : Array Value) (s : State) : Prop := args = #[.ref b, .int (Int32.ofNat o), .int (Int32.ofNat len)] ∧ Ch b A s ∧ o + len ≤ A.slots.size ∧ len ≤ 536870912 ∧ ∀ i, i < len → ¬ 255 < cv A (o + i)
def E (b : Addr) (A : Cell) (o len : Nat) (r : Option Value) (s u : State) : Prop := NewArr .byte "[B" len (fun j => .int (lo8 (cv A (o + j)))) r s u ∧ u.heap.size = s.heap.size + 1
/-- no char of the range above 255: a new byte[] of their low bytes -/
theorem law (l : Launch) (b : Addr) (A : Cell) (o len : Nat) : Law l yN 3 3 1 18 yB 6 (some (.array .byte)) site (P b A o len) (E b A o len) [] 1 len := by
  refine Law.of_walk (plainFor_of_name (by decide +kernel)) (by decide +kernel) (by decide +kernel) (by decide) (fun _ _ h => by rw [h.1]; rfl) (fun _ U U' hal hh h => ⟨h.1, h.2.1.mv hal hh, h.2.2⟩) (fun r U U' V V' h1 hal h2 h => ⟨NewArr.mv r U U' V V' h1 hal h2 h.1, by rw [h1, h2]; exact h.2⟩) ?_
  intro p e s m args below meth c s₁ X0 hexec hbytes hml hret hlk hnm hown hh0 W hP
  obtain ⟨rfl, hA, l1, l2, hp⟩ := hP
  have a31 := hA.1.2.2.2
  have c1 : Steps p.tables e below (s₁.setTop (entryFrame m #[.ref b, .int (Int32.ofNat o), .int (Int32.ofNat len)] 6)) (s₁.setTop (mkF m 0 #[.val (.ref b), .val (.int (Int32.ofNat o)), .val (.int (Int32.ofNat len)), .unset, .unset, .unset] [])) := entry rfl
  have c2 : Steps p.tables e below (s₁.setTop (entryFrame m #[.ref b, .int (Int32.ofNat o), .int (Int32.ofNat len)] 6)) (s₁.setTop (mkF m 1 #[.val (.ref b), .val (.int (Int32.ofNat o)), .val (.int (Int32.ofNat len)), .unset, .unset, .unset] [.int (Int32.ofNat len)])) := c1.trans (by
    refine XS.iloadN X0.here hexec rfl (hb hbytes d0) rfl ?_
    exact Steps.refl _)
  obtain ⟨T3, B3, X3, ba3, bs3, bv3, bh3, bf3, st3⟩ := X0.anew hexec (atype := .byte) (wk W (.arrayClass .byte)) rfl (by show len * 1 ≤ _; omega) (by omega) (g := (mkF m 1 #[.val (.ref b), .val (.int (Int32.ofNat o)), .val (.int (Int32.ofNat len)), .unset, .unset, .unset] [.int (Int32.ofNat len)])) rfl (hb hbytes d1) (rest := []) rfl (Nat.le_refl _) (by show 0 + len ≤ len; omega)
  rw [hh0] at ba3 st3
  have kp3 : XT.Kept s T3 := (XT.Kept.of_eq hh0).push bh3
  have hA3 := hA.keep X3.warmed.alike (kp3 _ _ hA.1.1)
  have hne : b ≠ s.heap.size := hA.1.ne
  have c4 : Steps p.tables e below (s₁.setTop (entryFrame m #[.ref b, .int (Int32.ofNat o), .int (Int32.ofNat len)] 6)) (T3.setTop (mkF m 3 #[.val (.ref b), .val (.int (Int32.ofNat o)), .val (.int (Int32.ofNat len)), .unset, .unset, .unset] [.ref s.heap.size])) := c2.trans (st3 _ (Steps.refl _))
  have c5 : Steps p.tables e below (s₁.setTop (entryFrame m #[.ref b, .int (Int32.ofNat o), .int (Int32.ofNat len)] 6)) (T3.setTop (mkF m 9 #[.val (.ref b), .val (.int (Int32.ofNat o)), .val (.int (Int32.ofNat len)), .val (.ref s.heap.size), .unset, .unset] [.int (Int32.ofNat len), .int 0, .ref s.heap.size, .int (Int32.ofNat o), .ref b])) := c4.trans (by
    refine XS.astoreN X3.here hexec rfl (hb hbytes d3) rfl rfl rfl ?_
    refine XS.aloadN X3.here hexec rfl (hb hbytes d4) rfl rfl ?_
    refine XS.iloadN X3.here hexec rfl (hb hbytes d5) rfl ?_
    refine XS.aloadN X3.here hexec rfl (hb hbytes d6) rfl rfl ?_
    refine iconstV X3.here hexec rfl 0 (hb hbytes d7) (by decide) ?_
    refine XS.iloadN X3.here hexec rfl (hb hbytes d8) rfl ?_
    exact Steps.refl _)
  obtain ⟨v6, T6, X6, E6, g6⟩ := X3.callS hexec (Cmp5.law l b A s.heap.size B3 o 0 len) hown (wks W (staticW U16 115 Cmp5.yN)) (wk W Cmp5.tab) (W := 0) (Nat.le_of_ble_eq_true rfl) (Nat.le_of_ble_eq_true rfl) (Nat.le_refl _) (by show 0 + len + 0 ≤ len; omega) (g := (mkF m 9 #[.val (.ref b), .val (.int (Int32.ofNat o)), .val (.int (Int32.ofNat len)), .val (.ref s.heap.size), .unset, .unset] [.int (Int32.ofNat len), .int (Int32.ofNat 0), .ref s.heap.size, .int (Int32.ofNat o), .ref b])) rfl (by rw [hml]; rfl) c5 (argsL := [.ref b, .int (Int32.ofNat o), .ref s.heap.size, .int (Int32.ofNat 0), .int (Int32.ofNat len)]) (rest := []) rfl rfl (by show 2 * 0 + 0 ≤ _; decide) (hb hbytes d9) (⟨rfl, hA3, ba3, hne, l1, by rw [bs3]; simp, hp⟩)
  obtain ⟨rfl, B6, p6, f6⟩ := E6
  have c7 : Steps p.tables e below (s₁.setTop (entryFrame m #[.ref b, .int (Int32.ofNat o), .int (Int32.ofNat len)] 6)) (T6.setTop (mkF m 12 #[.val (.ref b), .val (.int (Int32.ofNat o)), .val (.int (Int32.ofNat len)), .val (.ref s.heap.size), .unset, .unset] [.int (Int32.ofNat len)])) := g6
  have c8 : Steps p.tables e below (s₁.setTop (entryFrame m #[.ref b, .int (Int32.ofNat o), .int (Int32.ofNat len)] 6)) (T6.setTop (mkF m 58 #[.val (.ref b), .val (.int (Int32.ofNat o)), .val (.int (Int32.ofNat len)), .val (.ref s.heap.size), .val (.int (Int32.ofNat len)), .unset] [.ref s.heap.size])) := c7.trans (by
    refine XS.istore X6.here hexec rfl (hb hbytes d12) rfl rfl ?_
    refine XS.iload X6.here hexec rfl (hb hbytes d14) rfl ?_
    refine XS.iloadN X6.here hexec rfl (hb hbytes d16) rfl ?_
    refine XS.icmpYes X6.here hexec rfl (pc0 := 17) rfl (hb hbytes d17) rfl (ii_eq_t rfl) (by decide) rfl ?_
    refine XS.aloadN X6.here hexec rfl (hb hbytes d57) rfl rfl ?_
    exact Steps.refl _)
  have X8 := X6.wide (L' := []) (cells' := 1) (slots' := len) (fun x hx hlt => by
    simp only [List.nil_append, copyLocs, List.mem_map, List.mem_range] at hx
    obtain ⟨i, -, rfl⟩ := hx
    exact absurd hlt (Nat.lt_irrefl _)) (Nat.le_refl _) (by omega)
  exact ⟨T6, some (.ref s.heap.size), _, _, _, X8, rfl, rfl, rfl, (fun h => by cases h), ⟨⟨rfl, B6, ba3.like (X3.warmed.alike.symm.trans X6.warmed.alike) p6.1 f6.1 f6.2.1 f6.2.2.1, f6.2.1.trans bv3, by rw [X6.warmed.alike.findClass, f6.1]; exact bf3, by rw [f6.2.2.1, bs3]; simp, fun j hj => by rw [f6.2.2.2 j, if_pos (by omega)]; rfl, kp3.put p6 (Nat.le_refl _)⟩, by rw [p6.2.2, bh3, hh0]; simp⟩, fun fs hl => c8.trans (X8.areturnOut hexec rfl hret rfl (hb hbytes d58) hl)⟩
end Cmp3
namespace CodL
def yN : MethodName := ⟨"java/lang/StringUTF16", "coderFromArrayLen", "([BI)B"⟩
abbrev yB : ByteArray := jdk_52_method_15_code
theorem d0 : decode yB 0 = .ok (.iload_n 1, 1) := by decide +kernel
theorem d1 : decode yB 1 = .ok (.aload_n 0, 1) := by decide +kernel
theorem d2 : decode yB 2 = .ok (.arraylength, 1) := by decide +kernel
theorem d3 : decode yB 3 = .ok (.isub, 1) := by decide +kernel
theorem d4 : decode yB 4 = .ok (.bipush 31, 2) := by decide +kernel
theorem d6 : decode yB 6 = .ok (.iushr, 1) := by decide +kernel
theorem d7 : decode yB 7 = .ok (.i2b, 1) := by decide +kernel
theorem d8 : decode yB 8 = .ok (.ireturn, 1) := by decide +kernel
def site : List Cond := []
def tab : Cond := tabOf yN yB 2 (some .byte) site
def P (d : Addr) (B : Cell) (args : Array Value) (s : State) : Prop := args = #[.ref d, .int (Int32.ofNat B.slots.size)] ∧ Arr .byte d B s
def E (r : Option Value) (s u : State) : Prop := XT.PureE (some (.int 0)) r s u
/-- an array as long as the number of chars: LATIN1 -/
theorem law (l : Launch) (d : Addr) (B : Cell) : Law l yN 2 2 0 0 yB 2 (some .byte) site (P d B) E [] 0 0 := by
  refine Law.of_walk (plainFor_of_name (by decide +kernel)) (by decide +kernel) (by decide +kernel) (by decide) (fun _ _ h => by rw [h.1]; rfl) (fun _ U U' hal hh h => ⟨h.1, h.2.mv hal hh⟩) (fun r U U' V V' h1 hal h2 h => XT.PureE.mv r U U' V V' h1 hal h2 h) ?_
  intro p e s m args below meth c s₁ X0 hexec hbytes hml hret hlk hnm hown hh0 W hP
  obtain ⟨rfl, hB⟩ := hP
  have hB0 := hB.mv X0.warmed.alike hh0
  have c1 : Steps p.tables e below (s₁.setTop (entryFrame m #[.ref d, .int (Int32.ofNat B.slots.size)] 2)) (s₁.setTop (mkF m 0 #[.val (.ref d), .val (.int (Int32.ofNat B.slots.size))] [])) := entry rfl
  have c2 : Steps p.tables e below (s₁.setTop (entryFrame m #[.ref d, .int (Int32.ofNat B.slots.size)] 2)) (s₁.setTop (mkF m 2 #[.val (.ref d), .val (.int (Int32.ofNat B.slots.size))] [.ref d, .int (Int32.ofNat B.slots.size)])) := c1.trans (by
    refine XS.iloadN X0.here hexec rfl (hb hbytes d0) rfl ?_
    refine XS.aloadN X0.here hexec rfl (hb hbytes d1) rfl rfl ?_
    exact Steps.refl _)
  have c3 : Steps p.tables e below (s₁.setTop (entryFrame m #[.ref d, .int (Int32.ofNat B.slots.size)] 2)) (s₁.setTop (mkF m 8 #[.val (.ref d), .val (.int (Int32.ofNat B.slots.size))] [.int (lo8 (ushr (Int32.ofNat B.slots.size - Int32.ofNat B.slots.size) 31))])) := c2.trans (by
    refine X0.alen hexec hB0 rfl rfl (hb hbytes d2) ?_
    refine XS.isub X0.here hexec rfl (hb hbytes d3) rfl ?_
    refine bipushV X0.here hexec rfl 31 (hb hbytes d4) (by decide) ?_
    refine iushr X0.here hexec rfl (hb hbytes d6) rfl ?_
    refine i2b X0.here hexec rfl (hb hbytes d7) rfl ?_
    exact Steps.refl _)
  have e0 : lo8 (ushr (Int32.ofNat B.slots.size - Int32.ofNat B.slots.size) 31) = 0 := by rw [Int32.sub_self]; decide
  rw [e0] at c3
  exact ⟨s₁, some (.int 0), _, _, _, X0, rfl, rfl, rfl, (fun h => by cases h), ⟨rfl, hh0⟩, fun fs hl => c3.trans (X0.ireturnOut hexec hret rfl (Or.inr (Or.inr (Or.inl rfl))) (hb hbytes d8) hl)⟩
end CodL
/-- the String at a is Latin-1 over a new byte[] (the heap's one new cell): the low bytes of the len chars of A from o on; every cell but a is kept -/
def Got (a : Addr) (D : Cell) (fV fC : Field) (A : Cell) (o len : Nat) (r : Option Value) (s u : State) : Prop := r = none ∧ ∃ D' V : Cell, Blank "java/lang/String" a D' u ∧ Same D D' [fV.slot, fC.slot] ∧ D'.slots[fV.slot]? = some (.ref s.heap.size) ∧ D'.slots[fC.slot]? = some (.int 0) ∧ Arr .byte s.heap.size V u ∧ V.vm = .none ∧ u.vm.findClass "[B" = some V.cls ∧ V.slots.size = len ∧ (∀ j, j < len → V.slots[j]? = some (.int (lo8 (cv A (o + j))))) ∧ (∀ (y : Addr) (c : Cell), y ≠ a → s.heap[y]? = some c → u.heap[y]? = some c) ∧ u.heap.size = s.heap.size + 1
theorem Got.mv {a : Addr} {D A : Cell} {fV fC : Field} {o len : Nat} : ∀ r (U U' V V' : State), U'.heap = U.heap → V.vm.Alike V'.vm → V'.heap = V.heap → Got a D fV fC A o len r U V → Got a D fV fC A o len r U' V' :=
  fun r U U' V V' h1 hal h2 ⟨e0, D', X, a1, a2, a3, a4, a5, a6, a7, a8, a9, a10, a11⟩ => ⟨e0, D', X, a1.mv hal h2, a2, by rw [h1]; exact a3, a4, by rw [h1]; exact a5.mv hal h2, a6, by rw [hal.findClass]; exact a7, a8, a9, by rw [h1, h2]; exact a10, by rw [h1, h2]; exact a11⟩
namespace New4
def yN : MethodName := ⟨"java/lang/String", "<init>", "([CIILjava/lang/Void;)V"⟩
abbrev yB : ByteArray := jdk_42_method_149_code
theorem d0 : decode yB 0 = .ok (.aload_n 0, 1) := by decide +kernel
theorem d1 : decode yB 1 = .ok (.invokespecial 1, 3) := by decide +kernel
theorem d4 : decode yB 4 = .ok (.iload_n 3, 1) := by decide +kernel
theorem d5 : decode yB 5 = .ok (.ifCond (.ne) 22, 3) := by decide +kernel
theorem d27 : decode yB 27 = .ok (.getstatic 38, 3) := by decide +kernel
theorem d30 : decode yB 30 = .ok (.ifCond (.eq) 28, 3) := by decide +kernel
theorem d33 : decode yB 33 = .ok (.aload_n 1, 1) := by decide +kernel
theorem d34 : decode yB 34 = .ok (.iload_n 2, 1) := by decide +kernel
theorem d35 : decode yB 35 = .ok (.iload_n 3, 1) := by decide +kernel
theorem d36 : decode yB 36 = .ok (.invokestatic 177, 3) := by decide +kernel
theorem d39 : decode yB 39 = .ok (.astore 5, 2) := by decide +kernel
theorem d41 : decode yB 41 = .ok (.aload_n 0, 1) := by decide +kernel
theorem d42 : decode yB 42 = .ok (.aload 5, 2) := by decide +kernel
theorem d44 : decode yB 44 = .ok (.iload_n 3, 1) := by decide +kernel
theorem d45 : decode yB 45 = .ok (.invokestatic 47, 3) := by decide +kernel
theorem d48 : decode yB 48 = .ok (.putfield 15, 3) := by decide +kernel
theorem d51 : decode yB 51 = .ok (.aload_n 0, 1) := by decide +kernel
theorem d52 : decode yB 52 = .ok (.aload 5, 2) := by decide +kernel
theorem d54 : decode yB 54 = .ok (.putfield 9, 3) := by decide +kernel
theorem d57 : decode yB 57 = .ok (.return_, 1) := by decide +kernel
def site : List Cond := [.fieldLink "java/lang/String" 38 "java/lang/String" "COMPACT_STRINGS" "Z", Cmp3.tab, CodL.tab, .laysFinal "java/lang/String" "java/lang/String" "value" "[B", .fieldLink "java/lang/String" 9 "java/lang/String" "value" "[B", .laysFinal "java/lang/String" "java/lang/String" "coder" "B", .fieldLink "java/lang/String" 15 "java/lang/String" "coder" "B"] ++ objW "java/lang/String" 1 ++ staticW "java/lang/String" 177 Cmp3.yN ++ staticW "java/lang/String" 47 CodL.yN
def tab : Cond := tabOf yN yB 6 none site
def P (a : Addr) (D : Cell) (fV fC : Field) (b : Addr) (A : Cell) (z : Int32) (o len : Nat) (args : Array Value) (s : State) : Prop := args = #[.ref a, .ref b, .int (Int32.ofNat o), .int (Int32.ofNat len), .null] ∧ Blank "java/lang/String" a D s ∧ Found "java/lang/String" "value" "[B" fV s ∧ Found "java/lang/String" "coder" "B" fC s ∧ Ch b A s ∧ StaticIs s "java/lang/String" "COMPACT_STRINGS" "Z" (.int z) ∧ ¬ z = 0 ∧ 0 < len ∧ o + len ≤ A.slots.size ∧ len ≤ 536870912 ∧ ∀ i, i < len → ¬ 255 < cv A (o + i)
def E (a : Addr) (D : Cell) (fV fC : Field) (A : Cell) (o len : Nat) (r : Option Value) (s u : State) : Prop := Got a D fV fC A o len r s u
/-- len > 0, no char of the range above 255: a Latin-1 String of their low bytes -/
theorem law (l : Launch) (a : Addr) (D : Cell) (fV fC : Field) (b : Addr) (A : Cell) (z : Int32) (o len : Nat) : Law l yN 5 4 2 35 yB 6 none site (P a D fV fC b A z o len) (E a D fV fC A o len) [⟨a, fC.slot⟩, ⟨a, fV.slot⟩] 1 len := by
  refine Law.of_walk (plainFor_of_name (by decide +kernel)) (by decide +kernel) (by decide +kernel) (by decide) (fun _ _ h => by rw [h.1]; rfl) (fun _ U U' hal hh h => ⟨h.1, h.2.1.mv hal hh, h.2.2.1.al hal, h.2.2.2.1.al hal, h.2.2.2.2.1.mv hal hh, h.2.2.2.2.2.1.there hal hh, h.2.2.2.2.2.2⟩) (fun r U U' V V' h1 hal h2 h => Got.mv r U U' V V' h1 hal h2 h) ?_
  intro p e s m args below meth c s₁ X0 hexec hbytes hml hret hlk hnm hown hh0 W hP
  obtain ⟨rfl, hB, f1, f2, hA, s1, hz, l0, l1, l2, hp⟩ := hP
  have a31 := hA.1.2.2.2
  have c1 : Steps p.tables e below (s₁.setTop (entryFrame m #[.ref a, .ref b, .int (Int32.ofNat o), .int (Int32.ofNat len), .null] 6)) (s₁.setTop (mkF m 0 #[.val (.ref a), .val (.ref b), .val (.int (Int32.ofNat o)), .val (.int (Int32.ofNat len)), .val .null, .unset] [])) := entry rfl
  have c2 : Steps p.tables e below (s₁.setTop (entryFrame m #[.ref a, .ref b, .int (Int32.ofNat o), .int (Int32.ofNat len), .null] 6)) (s₁.setTop (mkF m 1 #[.val (.ref a), .val (.ref b), .val (.int (Int32.ofNat o)), .val (.int (Int32.ofNat len)), .val .null, .unset] [.ref a])) := c1.trans (by
    refine XS.aloadN X0.here hexec rfl (hb hbytes d0) rfl rfl ?_
    exact Steps.refl _)
  obtain ⟨T3, X3, q3, st3⟩ := X0.oinit hexec hown (wks W (objW "java/lang/String" 1)) (g := (mkF m 1 #[.val (.ref a), .val (.ref b), .val (.int (Int32.ofNat o)), .val (.int (Int32.ofNat len)), .val .null, .unset] [.ref a])) rfl (by rw [hml]; rfl) (rest := []) rfl (hb hbytes d1) (W := 0) (by show 2 * 0 + 0 ≤ _; decide) (Nat.le_of_ble_eq_true rfl) (Nat.le_of_ble_eq_true rfl)
  have hh3 := q3.trans hh0
  have c4 : Steps p.tables e below (s₁.setTop (entryFrame m #[.ref a, .ref b, .int (Int32.ofNat o), .int (Int32.ofNat len), .null] 6)) (T3.setTop (mkF m 27 #[.val (.ref a), .val (.ref b), .val (.int (Int32.ofNat o)), .val (.int (Int32.ofNat len)), .val .null, .unset] [])) := (c2.trans (st3 _ (Steps.refl _))).trans (by
    refine XS.iloadN X3.here hexec rfl (hb hbytes d4) rfl ?_
    refine XS.ifYes X3.here hexec rfl (pc0 := 5) rfl (hb hbytes d5) rfl (i0_ne_t (nz32 (by omega) l0)) (by decide) rfl ?_
    exact Steps.refl _)
  obtain ⟨T5, X5, q5, st5⟩ := X3.sget hexec hown (wk W (.fieldLink "java/lang/String" 38 "java/lang/String" "COMPACT_STRINGS" "Z")) s1 (fun _ _ h => by rw [hh3]; exact h) (g := (mkF m 27 #[.val (.ref a), .val (.ref b), .val (.int (Int32.ofNat o)), .val (.int (Int32.ofNat len)), .val .null, .unset] [])) rfl (hb hbytes d27)
  have hh5 := q5.trans hh3
  have c6 : Steps p.tables e below (s₁.setTop (entryFrame m #[.ref a, .ref b, .int (Int32.ofNat o), .int (Int32.ofNat len), .null] 6)) (T5.setTop (mkF m 30 #[.val (.ref a), .val (.ref b), .val (.int (Int32.ofNat o)), .val (.int (Int32.ofNat len)), .val .null, .unset] [.int z])) := c4.trans (st5 _ (Steps.refl _))
  have c7 : Steps p.tables e below (s₁.setTop (entryFrame m #[.ref a, .ref b, .int (Int32.ofNat o), .int (Int32.ofNat len), .null] 6)) (T5.setTop (mkF m 36 #[.val (.ref a), .val (.ref b), .val (.int (Int32.ofNat o)), .val (.int (Int32.ofNat len)), .val .null, .unset] [.int (Int32.ofNat len), .int (Int32.ofNat o), .ref b])) := c6.trans (by
    refine XS.ifNo X5.here hexec rfl (hb hbytes d30) rfl (i0_eq_f hz) ?_
    refine XS.aloadN X5.here hexec rfl (hb hbytes d33) rfl rfl ?_
    refine XS.iloadN X5.here hexec rfl (hb hbytes d34) rfl ?_
    refine XS.iloadN X5.here hexec rfl (hb hbytes d35) rfl ?_
    exact Steps.refl _)
  obtain ⟨v8, T8, X8, E8, g8⟩ := X5.callS hexec (Cmp3.law l b A o len) hown (wks W (staticW "java/lang/String" 177 Cmp3.yN)) (wk W Cmp3.tab) (W := 0) (Nat.le_of_ble_eq_true rfl) (Nat.le_of_ble_eq_true rfl) (Nat.le_refl _) (by show 0 + len ≤ len; omega) (g := (mkF m 36 #[.val (.ref a), .val (.ref b), .val (.int (Int32.ofNat o)), .val (.int (Int32.ofNat len)), .val .null, .unset] [.int (Int32.ofNat len), .int (Int32.ofNat o), .ref b])) rfl (by rw [hml]; rfl) c7 (argsL := [.ref b, .int (Int32.ofNat o), .int (Int32.ofNat len)]) (rest := []) rfl rfl (by show 2 * 0 + 0 ≤ _; decide) (hb hbytes d36) (⟨rfl, hA.mv X5.warmed.alike hh5, l1, l2, hp⟩)
  obtain ⟨e8, z8⟩ := E8
  obtain ⟨rfl, N, n1, n2, n3, n4, n5, n6⟩ := NewArr.mv _ T5 s _ _ hh5.symm (Vm.Alike.refl _) rfl e8
  rw [hh5] at z8
  have hB1 := hB.keep X8.warmed.alike (n6 _ _ hB.1)
  have hne : s.heap.size ≠ a := (Nat.ne_of_lt (Array.getElem?_eq_some_iff.mp hB.1).1).symm
  have c9 : Steps p.tables e below (s₁.setTop (entryFrame m #[.ref a, .ref b, .int (Int32.ofNat o), .int (Int32.ofNat len), .null] 6)) (T8.setTop (mkF m 39 #[.val (.ref a), .val (.ref b), .val (.int (Int32.ofNat o)), .val (.int (Int32.ofNat len)), .val .null, .unset] [.ref s.heap.size])) := g8
  have c10 : Steps p.tables e below (s₁.setTop (entryFrame m #[.ref a, .ref b, .int (Int32.ofNat o), .int (Int32.ofNat len), .null] 6)) (T8.setTop (mkF m 45 #[.val (.ref a), .val (.ref b), .val (.int (Int32.ofNat o)), .val (.int (Int32.ofNat len)), .val .null, .val (.ref s.heap.size)] [.int (Int32.ofNat N.slots.size), .ref s.heap.size, .ref a])) := by
    have hc : Steps p.tables e below (s₁.setTop (entryFrame m #[.ref a, .ref b, .int (Int32.ofNat o), .int (Int32.ofNat len), .null] 6)) (T8.setTop (mkF m 45 #[.val (.ref a), .val (.ref b), .val (.int (Int32.ofNat o)), .val (.int (Int32.ofNat len)), .val .null, .val (.ref s.heap.size)] [.int (Int32.ofNat len), .ref s.heap.size, .ref a])) := c9.trans (by
      refine XS.astore X8.here hexec rfl (hb hbytes d39) rfl rfl rfl ?_
      refine XS.aloadN X8.here hexec rfl (hb hbytes d41) rfl rfl ?_
      refine XS.aload X8.here hexec rfl (hb hbytes d42) rfl rfl ?_
      refine XS.iloadN X8.here hexec rfl (hb hbytes d44) rfl ?_
      exact Steps.refl _)
    rw [n4]; exact hc
  obtain ⟨v11, T11, X11, E11, g11⟩ := X8.callS hexec (CodL.law l s.heap.size N) hown (wks W (staticW "java/lang/String" 47 CodL.yN)) (wk W CodL.tab) (W := 1) (Nat.le_of_ble_eq_true rfl) (Nat.le_of_ble_eq_true rfl) (Nat.le_refl _) (by show 0 + len + 0 ≤ len; omega) (g := (mkF m 45 #[.val (.ref a), .val (.ref b), .val (.int (Int32.ofNat o)), .val (.int (Int32.ofNat len)), .val .null, .val (.ref s.heap.size)] [.int (Int32.ofNat N.slots.size), .ref s.heap.size, .ref a])) rfl (by rw [hml]; rfl) c10 (argsL := [.ref s.heap.size, .int (Int32.ofNat N.slots.size)]) (rest := [.ref a]) rfl rfl (by show 2 * 0 + (1 + 0) ≤ _; decide) (hb hbytes d45) (⟨rfl, n1⟩)
  obtain ⟨rfl, q11⟩ := E11
  have hB11 := hB1.mv (X8.warmed.alike.symm.trans X11.warmed.alike) q11
  have c12 : Steps p.tables e below (s₁.setTop (entryFrame m #[.ref a, .ref b, .int (Int32.ofNat o), .int (Int32.ofNat len), .null] 6)) (T11.setTop (mkF m 48 #[.val (.ref a), .val (.ref b), .val (.int (Int32.ofNat o)), .val (.int (Int32.ofNat len)), .val .null, .val (.ref s.heap.size)] [.int 0, .ref a])) := g11
  obtain ⟨T13, X13, p13, bl13, sl13, st13⟩ := X11.finit hexec hown (wk W (.fieldLink "java/lang/String" 15 "java/lang/String" "coder" "B")) (Or.inr ⟨_, (wk W (.laysFinal "java/lang/String" "java/lang/String" "coder" "B"))⟩) (Or.inl ⟨rfl, hnm⟩) f2 (Or.inl rfl) hB11 (t := .byte) (by decide +kernel) rfl (g := (mkF m 48 #[.val (.ref a), .val (.ref b), .val (.int (Int32.ofNat o)), .val (.int (Int32.ofNat len)), .val .null, .val (.ref s.heap.size)] [.int 0, .ref a])) rfl (rest := []) rfl (hb hbytes d48)
  have c14 : Steps p.tables e below (s₁.setTop (entryFrame m #[.ref a, .ref b, .int (Int32.ofNat o), .int (Int32.ofNat len), .null] 6)) (T13.setTop (mkF m 54 #[.val (.ref a), .val (.ref b), .val (.int (Int32.ofNat o)), .val (.int (Int32.ofNat len)), .val .null, .val (.ref s.heap.size)] [.ref s.heap.size, .ref a])) := (c12.trans (st13 _ (Steps.refl _))).trans (by
    refine XS.aloadN X13.here hexec rfl (hb hbytes d51) rfl rfl ?_
    refine XS.aload X13.here hexec rfl (hb hbytes d52) rfl rfl ?_
    exact Steps.refl _)
  obtain ⟨T15, X15, p15, bl15, sl15, st15⟩ := X13.finit hexec hown (wk W (.fieldLink "java/lang/String" 9 "java/lang/String" "value" "[B")) (Or.inr ⟨_, (wk W (.laysFinal "java/lang/String" "java/lang/String" "value" "[B"))⟩) (Or.inl ⟨rfl, hnm⟩) f1 (Or.inl rfl) bl13 (t := (.array .byte)) (by decide +kernel) rfl (g := (mkF m 54 #[.val (.ref a), .val (.ref b), .val (.int (Int32.ofNat o)), .val (.int (Int32.ofNat len)), .val .null, .val (.ref s.heap.size)] [.ref s.heap.size, .ref a])) rfl (rest := []) rfl (hb hbytes d54)
  have c16 : Steps p.tables e below (s₁.setTop (entryFrame m #[.ref a, .ref b, .int (Int32.ofNat o), .int (Int32.ofNat len), .null] 6)) (T15.setTop (mkF m 57 #[.val (.ref a), .val (.ref b), .val (.int (Int32.ofNat o)), .val (.int (Int32.ofNat len)), .val .null, .val (.ref s.heap.size)] [])) := c14.trans (st15 _ (Steps.refl _))
  have ap := apart (Or.inr ⟨_, (wk W (.laysFinal "java/lang/String" "java/lang/String" "value" "[B"))⟩) (Or.inr ⟨_, (wk W (.laysFinal "java/lang/String" "java/lang/String" "coder" "B"))⟩) f1 f2 (t₁ := .array .byte) (t₂ := .byte) (by decide +kernel) (by decide +kernel) (by decide)
  have al := X8.warmed.alike.symm.trans X15.warmed.alike
  have n7 : T11.heap[s.heap.size]? = some N := by rw [q11]; exact n1.1
  exact ⟨T15, none, _, _, _, X15, by simp, rfl, by omega, (fun _ => rfl), ⟨rfl, _, N, bl15, ((Same.refl D _).set _ (by simp)).set _ (by simp), sl15, (Cell.slots_setSlot_ne _ ap).trans sl13, n1.keep al (p15.other hne (p13.other hne n7)), n2, by rw [al.findClass]; exact n3, n4, n5, fun y c h1 h2 => p15.other h1 (p13.other h1 (by rw [q11]; exact n6 y c h2)), by rw [p15.2.2, p13.2.2, q11]; exact z8⟩, fun fs hl => c16.trans (X15.returnOut hexec hret (hb hbytes d57) hl)⟩
end New4
namespace New1
def yN : MethodName := ⟨"java/lang/String", "<init>", "([C)V"⟩
abbrev yB : ByteArray := jdk_42_method_3_code
theorem d0 : decode yB 0 = .ok (.aload_n 0, 1) := by decide +kernel
theorem d1 : decode yB 1 = .ok (.aload_n 1, 1) := by decide +kernel
theorem d2 : decode yB 2 = .ok (.iconst 0, 1) := by decide +kernel
theorem d3 : decode yB 3 = .ok (.aload_n 1, 1) := by decide +kernel
theorem d4 : decode yB 4 = .ok (.arraylength, 1) := by decide +kernel
theorem d5 : decode yB 5 = .ok (.aconst_null, 1) := by decide +kernel
theorem d6 : decode yB 6 = .ok (.invokespecial 27, 3) := by decide +kernel
theorem d9 : decode yB 9 = .ok (.return_, 1) := by decide +kernel
def site : List Cond := [New4.tab] ++ initW "java/lang/String" 27 New4.yN
def tab : Cond := tabOf yN yB 2 none site
def P (a : Addr) (D : Cell) (fV fC : Field) (b : Addr) (A : Cell) (z : Int32) (args : Array Value) (s : State) : Prop := args = #[.ref a, .ref b] ∧ Blank "java/lang/String" a D s ∧ Found "java/lang/String" "value" "[B" fV s ∧ Found "java/lang/String" "coder" "B" fC s ∧ Ch b A s ∧ StaticIs s "java/lang/String" "COMPACT_STRINGS" "Z" (.int z) ∧ ¬ z = 0 ∧ 0 < A.slots.size ∧ A.slots.size ≤ 536870912 ∧ ∀ i, i < A.slots.size → ¬ 255 < cv A i
def E (a : Addr) (D : Cell) (fV fC : Field) (A : Cell) (r : Option Value) (s u : State) : Prop := Got a D fV fC A 0 A.slots.size r s u
/-- new String(chars), not empty, no char above 255: a Latin-1 String of their low bytes -/
theorem law (l : Launch) (a : Addr) (D : Cell) (fV fC : Field) (b : Addr) (A : Cell) (z : Int32) : Law l yN 2 1 3 52 yB 2 none site (P a D fV fC b A z) (E a D fV fC A) [⟨a, fC.slot⟩, ⟨a, fV.slot⟩] 1 A.slots.size := by
  refine Law.of_walk (plainFor_of_name (by decide +kernel)) (by decide +kernel) (by decide +kernel) (by decide) (fun _ _ h => by rw [h.1]; rfl) (fun _ U U' hal hh h => ⟨h.1, h.2.1.mv hal hh, h.2.2.1.al hal, h.2.2.2.1.al hal, h.2.2.2.2.1.mv hal hh, h.2.2.2.2.2.1.there hal hh, h.2.2.2.2.2.2⟩) (fun r U U' V V' h1 hal h2 h => Got.mv r U U' V V' h1 hal h2 h) ?_
  intro p e s m args below meth c s₁ X0 hexec hbytes hml hret hlk hnm hown hh0 W hP
  obtain ⟨rfl, hB, f1, f2, hA, s1, hz, l0, l2, hp⟩ := hP
  have c1 : Steps p.tables e below (s₁.setTop (entryFrame m #[.ref a, .ref b] 2)) (s₁.setTop (mkF m 0 #[.val (.ref a), .val (.ref b)] [])) := entry rfl
  have c2 : Steps p.tables e below (s₁.setTop (entryFrame m #[.ref a, .ref b] 2)) (s₁.setTop (mkF m 6 #[.val (.ref a), .val (.ref b)] [.null, .int (Int32.ofNat A.slots.size), .int 0, .ref b, .ref a])) := c1.trans (by
    refine XS.aloadN X0.here hexec rfl (hb hbytes d0) rfl rfl ?_
    refine XS.aloadN X0.here hexec rfl (hb hbytes d1) rfl rfl ?_
    refine iconstV X0.here hexec rfl 0 (hb hbytes d2) (by decide) ?_
    refine XS.aloadN X0.here hexec rfl (hb hbytes d3) rfl rfl ?_
    refine X0.alen hexec (hA.1.mv X0.warmed.alike hh0) rfl rfl (hb hbytes d4) ?_
    refine XS.aconstNull X0.here hexec rfl (hb hbytes d5) ?_
    exact Steps.refl _)
  obtain ⟨v3, T3, X3, E3, g3⟩ := X0.callN hexec (New4.law l a D fV fC b A z 0 A.slots.size) rfl hown (wks W (initW "java/lang/String" 27 New4.yN)) (W New4.tab (by simp only [site, List.mem_cons, List.mem_append, true_or, or_true])) (W := 0) (Nat.le_of_ble_eq_true rfl) (Nat.le_of_ble_eq_true rfl) (Nat.le_refl _) (by show 0 + A.slots.size ≤ A.slots.size; omega) (g := (mkF m 6 #[.val (.ref a), .val (.ref b)] [.null, .int (Int32.ofNat A.slots.size), .int (Int32.ofNat 0), .ref b, .ref a])) rfl (by rw [hml]; rfl) c2 (argsL := [.ref b, .int (Int32.ofNat 0), .int (Int32.ofNat A.slots.size), .null]) (rest := []) rfl rfl (by show 2 * 0 + 0 ≤ _; decide) (hb hbytes d6) (⟨rfl, hB.mv X0.warmed.alike hh0, f1.al X0.warmed.alike, f2.al X0.warmed.alike, hA.mv X0.warmed.alike hh0, s1.there X0.warmed.alike hh0, hz, l0, by omega, l2, fun i hi => by rw [Nat.zero_add]; exact hp i hi⟩)
  have e0 := Got.mv _ s₁ s _ _ hh0.symm (Vm.Alike.refl _) rfl E3
  obtain rfl := e0.1
  have c4 : Steps p.tables e below (s₁.setTop (entryFrame m #[.ref a, .ref b] 2)) (T3.setTop (mkF m 9 #[.val (.ref a), .val (.ref b)] [])) := g3
  exact ⟨T3, none, _, _, _, X3, by simp, rfl, by omega, (fun _ => rfl), e0, fun fs hl => c4.trans (X3.returnOut hexec hret (hb hbytes d9) hl)⟩
theorem pays {l : Launch} {R : Room} {p : Program} {e : Env} {below : List Frame} {s : State} {sargs : Array Value} {len W : Nat} (a : Addr) (D : Cell) (fV fC : Field) (b : Addr) (A : Cell) (z : Int32) (htab : tab.before sargs s = true) (hfr : 4 ≤ R.frames) (hlo : W + 65 ≤ R.locals) :
    Back l R p e below s sargs yN len W (fun A₁ a₁ => A₁.cells + 1 ≤ R.cells ∧ A₁.slots + A.slots.size ≤ R.slots ∧ P a D fV fC b A z a₁ A₁.U) (fun A₁ _ v₁ B₁ => E a D fV fC A v₁ A₁.U B₁.U ∧ B₁.locs = A₁.locs ++ [⟨a, fC.slot⟩, ⟨a, fV.slot⟩] ∧ B₁.cells = A₁.cells + 1 ∧ B₁.slots = A₁.slots + A.slots.size) :=
  (law l a D fV fC b A z).pays htab hfr (by omega)
end New1
/-- the byte, read back as charAt reads it, is the char -/
theorem lo8_mask {x : Int32} (h0 : ¬ x < 0) (h1 : ¬ 255 < x) : lo8 x &&& 255 = x := by
  have t : ∀ k : Fin 256, lo8 (Int32.ofNat k.val) &&& 255 = Int32.ofNat k.val := by decide +kernel
  rw [Int32.lt_iff_toInt_lt] at h0 h1
  have e0 : (0 : Int32).toInt = 0 := rfl
  have e1 : (255 : Int32).toInt = 255 := rfl
  obtain ⟨k, hk⟩ : ∃ k : Nat, x.toInt = k := ⟨x.toInt.toNat, by omega⟩
  have hx : x = Int32.ofNat k := Int32.toInt_inj.mp (by rw [hk, Int32.toInt_ofNat_small (by omega)])
  rw [hx]
  exact t ⟨k, by omega⟩
end StrChars
namespace StrChars.Road
open Jvm Sem ClassFile Op Lib Jvm.Stand Jvm.Free Jvm.Free.XT
open Jvm.Lib.Cold (StaticIs)
abbrev ST : String := "java/lang/String"
/-- every table word that New1's law asks, flat -/
abbrev words : List Jvm.Cond := [.code New1.yN New1.yB 2 none, .initialized ST, .methodLink ST 27 New4.yN, .instanceMethod New4.yN,
  .code New4.yN New4.yB 6 none, .fieldLink ST 38 ST "COMPACT_STRINGS" "Z", .laysFinal ST ST "value" "[B", .fieldLink ST 9 ST "value" "[B", .laysFinal ST ST "coder" "B", .fieldLink ST 15 ST "coder" "B",
  .methodLink ST 1 Lib.objectInit, .instanceMethod Lib.objectInit, .code Lib.objectInit ⟨#[0xb1]⟩ 1 none, .methodLink ST 177 Cmp3.yN, .static Cmp3.yN, .methodLink ST 47 CodL.yN, .static CodL.yN,
  .code Cmp3.yN Cmp3.yB 6 (some (.array .byte)), .initialized U16, .arrayClass .byte, .methodLink U16 115 Cmp5.yN, .static Cmp5.yN, .code Cmp5.yN Cmp5.yB 7 (some .int), .code CodL.yN CodL.yB 2 (some .byte)]
theorem tab_of {a : Array Value} {s : State} (h : ∀ w ∈ words, w.before a s = true) : New1.tab.before a s = true := by
  have h5 : Cmp5.tab.before a s = true := unparts (wk h (.code Cmp5.yN Cmp5.yB 7 (some .int))) (wks h (.initialized Cmp5.yN.cls :: Cmp5.site))
  have hc : CodL.tab.before a s = true := unparts (wk h (.code CodL.yN CodL.yB 2 (some .byte))) (wks h (.initialized CodL.yN.cls :: CodL.site))
  have q5 : ∀ w ∈ Cmp5.tab :: words, w.before a s = true := fun w hw => (List.mem_cons.mp hw).elim (fun e => e ▸ h5) (h w)
  have h3 : Cmp3.tab.before a s = true := unparts (wk q5 (.code Cmp3.yN Cmp3.yB 6 (some (.array .byte)))) (wks q5 (.initialized Cmp3.yN.cls :: Cmp3.site))
  have q3 : ∀ w ∈ Cmp3.tab :: CodL.tab :: words, w.before a s = true := fun w hw => (List.mem_cons.mp hw).elim (fun e => e ▸ h3) fun hw => (List.mem_cons.mp hw).elim (fun e => e ▸ hc) (h w)
  have h4 : New4.tab.before a s = true := unparts (wk q3 (.code New4.yN New4.yB 6 none)) (wks q3 (.initialized New4.yN.cls :: New4.site))
  have q4 : ∀ w ∈ New4.tab :: words, w.before a s = true := fun w hw => (List.mem_cons.mp hw).elim (fun e => e ▸ h4) (h w)
  exact unparts (wk q4 (.code New1.yN New1.yB 2 none)) (wks q4 (.initialized New1.yN.cls :: New1.site))
/-- the words ride from the start Z to the walk's own state -/
theorem moved {Z s : State} {a0 args : Array Value} (hZ : Z.Warmed39 s.vm) (hw : ∀ d ∈ words, d.before a0 Z = true) : ∀ d ∈ words, d.before args s = true := fun d hd => by
  have q := hw d hd
  have t : ∀ d ∈ words, d = .arrayClass .byte ∨ (d.onTables && d.keepsFace) = true := by decide +kernel
  rcases t d hd with rfl | t
  · exact RoadKit.mvA hZ q
  · exact RoadKit.mv hZ q t
/-- WHAT COMES BACK, over the tables of the start Z: h the heap at the call, h' behind it -/
def Q (Z : State) (x : Addr) (A : Cell) (h : Heap) (v : Option Value) (h' : Heap) (L : List Loc) : Prop := v = none ∧ (∀ y ∈ L, y.base = x) ∧ RoadKit.Keep h h' [x] ∧ h'.size = h.size + 1 ∧ RoadKit.Exa Z h' x ST ∧ RoadKit.Fld Z h' x ST "value" "[B" (.ref h.size) ∧ RoadKit.Fld Z h' x ST "coder" "B" (.int 0) ∧
  (∃ V : Cell, RoadKit.Arr Z h' h.size V .byte ∧ V.vm = .none ∧ Z.vm.findClass "[B" = some V.cls ∧ V.slots.size = A.slots.size ∧ ∀ j, j < A.slots.size → V.slots[j]? = some (.int (lo8 (cv A j)))) ∧
  ∀ (O n d : String) (w : Value), RoadKit.Fld Z h x O n d w → RoadKit.slotOf Z O n d ≠ RoadKit.slotOf Z ST "value" "[B" → RoadKit.slotOf Z O n d ≠ RoadKit.slotOf Z ST "coder" "B" → RoadKit.Fld Z h' x O n d w
/-- **new String(chars) AT A CALL, IN THE ROAD'S FORM**: for specialBack behind newO: x the fresh String, b the char[] with the cell A -/
theorem back {p : Program} {l : Launch} {e : Env} {R : Room} {s : State} {args : Array Value} {below : List Frame} {len W : Nat} {Z : State} {a0 : Array Value} {h : Heap} (hZ : Z.Warmed39 s.vm) (hw : ∀ d ∈ words, d.before a0 Z = true) {kI : Nat} (wi : (Jvm.Cond.instantiable ST kI).before a0 Z = true)
    {x b : Addr} {A : Cell} {z : Int32} {v0 c0 : Value} (E : RoadKit.Exa Z h x ST) (V : RoadKit.Fld Z h x ST "value" "[B" v0) (C : RoadKit.Fld Z h x ST "coder" "B" c0) (K : RoadKit.Arr Z h b A .char) (hty : Typed .char A) (S : RoadKit.Sta Z h ST "COMPACT_STRINGS" "Z" (.int z)) (hz : ¬ z = 0)
    (l0 : 0 < A.slots.size) (l2 : A.slots.size ≤ 536870912) (hp : ∀ i, i < A.slots.size → ¬ 255 < cv A i) (hfr : 4 ≤ R.frames) (hlo : W + 65 ≤ R.locals) :
    Back l R p e below s args New1.yN len W (fun P a => a = #[.ref x, .ref b] ∧ P.U.heap = h ∧ P.cells + 1 ≤ R.cells ∧ P.slots + A.slots.size ≤ R.slots)
      (fun P _ v B => ∃ L, Q Z x A h v B.U.heap L ∧ B.locs = P.locs ++ L ∧ B.cells = P.cells + 1 ∧ B.slots = P.slots + A.slots.size) := by
  intro m meth c P g ig mk a X hg hsize hdg hW hn hp'
  obtain ⟨rfl, rfl, r1, r2⟩ := hp'
  have al : Z.vm.Alike P.U.vm := hZ.alike.trans X.warmed.alike
  obtain ⟨D, cfV, kV, iV, fV, hD, gV, stV, knV, obV, asV, slV⟩ := id V
  obtain ⟨D', cfC, kC, iC, fC, hD', gC, stC, -, -, asC, slC⟩ := id C
  cases hD.symm.trans hD'
  obtain ⟨D2, kD, e1, e2, e3, e4, e5⟩ := id E
  cases hD.symm.trans e1
  obtain ⟨c2, k2, i1, i2, i3, -⟩ := Cond.instantiable_spec wi
  cases e2.symm.trans i1
  cases e3.symm.trans i2
  obtain ⟨kU, u1, u2⟩ := al.2.2 _ _ e3
  have hB : Blank ST x D P.U := ⟨hD, ⟨knV, fun q hq => by rw [hq] at obV; cases obV⟩, by rw [al.findClass]; exact e2, kU, u1, by rw [u2]; exact i3, by rw [u2]; exact e5 i3⟩
  have F1 : Found ST "value" "[B" fV P.U := ⟨SBG.found_only al ⟨cfV, kV, iV, gV⟩, stV⟩
  have F2 : Found ST "coder" "B" fC P.U := ⟨SBG.found_only al ⟨cfC, kC, iC, gC⟩, stC⟩
  have hA : Ch b A P.U := ⟨⟨K.1, State.isArrayOf_alike al K.2.1, K.2.2, by omega⟩, hty⟩
  have hS : StaticIs P.U ST "COMPACT_STRINGS" "Z" (.int z) := by
    obtain ⟨cfS, iS, kS, fS, st, cS, t1, t2, t3, t4, t5, t6, t7⟩ := S
    exact StaticIs.there (s := { Z with heap := P.U.heap }) ⟨cfS, iS, kS, fS, st, cS, t1, t2, t3, t4, t5, (fun q => by rw [q] at t6; cases t6), t7⟩ al rfl
  obtain ⟨v, B, X', ⟨⟨hv, E', V', q1, q2, q3, q4, q5, q6, q7, q8, q9, q10, q11⟩, hl, hc, hs⟩, st⟩ := New1.pays x D fV fC b A z (tab_of (moved hZ hw)) hfr hlo m meth c P g ig mk _ X hg hsize hdg hW hn ⟨r1, r2, rfl, hB, F1, F2, hA, hS, hz, l0, l2, hp⟩
  have al' : Z.vm.Alike B.U.vm := hZ.alike.trans X'.warmed.alike
  have hsz : E'.slots.size = D.slots.size := by
    obtain ⟨-, -, -, kB, w1, w2, w3⟩ := q1
    obtain ⟨kB', y1, y2⟩ := al'.2.2 _ _ e3
    rw [q2.2.1] at w1
    cases w1.symm.trans y1
    rw [w3, e5 i3, y2]
  refine ⟨v, B, X', ⟨_, ⟨hv, ?_, ⟨by omega, fun y cy hy hn' => q10 y cy (by simpa using hn') hy, fun y cy hy => ?_⟩, q11, ⟨E', _, q1.1, by rw [q2.2.1]; exact e2, by rw [q2.2.1]; exact e3, by rw [q2.1]; exact obV, fun _ => by rw [hsz]; exact e5 i3⟩,
    ⟨E', cfV, kV, iV, fV, q1.1, gV, stV, by rw [q2.1]; exact knV, by rw [q2.1]; exact obV, by rw [q2.2.1]; exact asV, q3⟩, ⟨E', cfC, kC, iC, fC, q1.1, gC, stC, by rw [q2.1]; exact knV, by rw [q2.1]; exact obV, by rw [q2.2.1]; exact asC, q4⟩,
    ⟨V', ⟨q5.1, State.isArrayOf_alike al'.symm q5.2.1, q5.2.2.1⟩, q6, by rw [← al'.findClass]; exact q7, q8, fun j hj => by have := q9 j hj; rwa [Nat.zero_add] at this⟩, fun O n d w F n1 n2 => ?_⟩, hl, hc, hs⟩, st⟩
  · intro y hy
    simp only [List.mem_cons, List.not_mem_nil, or_false] at hy
    rcases hy with rfl | rfl <;> rfl
  · by_cases q : y = x
    · subst q
      cases hD.symm.trans hy
      exact ⟨E', q1.1, q2.2.1, q2.1, hsz⟩
    · exact ⟨cy, q10 y cy q hy, rfl, rfl, rfl⟩
  · obtain ⟨D3, cf, k, i, f, g1, g2, g3, g4, g5, g6, g7⟩ := F
    cases hD.symm.trans g1
    simp only [RoadKit.slotOf, g2, gV, gC, Option.map_some, Option.getD_some] at n1 n2
    exact ⟨E', cf, k, i, f, q1.1, g2, g3, by rw [q2.1]; exact g4, by rw [q2.1]; exact g5, by rw [q2.2.1]; exact g6, by rw [q2.2.2 f.slot (by simp [n1, n2])]; exact g7⟩
end StrChars.Road
namespace StrChars.Road
open Jvm Sem ClassFile Op Lib Jvm.Stand Jvm.Free Jvm.Free.XT
/-- WHAT COMES BACK, the byte[] as a list of values -/
def QA (Z : State) (x : Addr) (zn : Int32) (cs : List Int32) (h : Heap) (v : Option Value) (h' : Heap) (L : List Loc) : Prop := v = none ∧ (∀ y ∈ L, y.base = x) ∧ RoadKit.Keep h h' [x] ∧ h'.size = h.size + 1 ∧ RoadKit.Exa Z h' x ST ∧ RoadKit.Fld Z h' x ST "value" "[B" (.ref h.size) ∧ RoadKit.Fld Z h' x ST "coder" "B" (.int 0) ∧
  (∃ kb, Z.vm.findClass "[B" = some kb ∧ RoadKit.Arv Z h' h.size kb .byte zn (cs.map fun c => .int (lo8 c)) (.int 0)) ∧
  ∀ (O n d : String) (w : Value), RoadKit.Fld Z h x O n d w → RoadKit.slotOf Z O n d ≠ RoadKit.slotOf Z ST "value" "[B" → RoadKit.slotOf Z O n d ≠ RoadKit.slotOf Z ST "coder" "B" → RoadKit.Fld Z h' x O n d w
/-- **new String(chars) AT A CALL, THE ARRAYS AS LISTS**: the char[] at b holds cs, not empty, no char above 255 -/
theorem backArv {p : Program} {l : Launch} {e : Env} {R : Room} {s : State} {args : Array Value} {below : List Frame} {len W : Nat} {Z : State} {a0 : Array Value} {h : Heap} (hZ : Z.Warmed39 s.vm) (hw : ∀ d ∈ words, d.before a0 Z = true) {kI : Nat} (wi : (Jvm.Cond.instantiable ST kI).before a0 Z = true)
    {x b : Addr} {k : ClassId} {zn z : Int32} {cs : List Int32} {dv v0 c0 : Value} (E : RoadKit.Exa Z h x ST) (V : RoadKit.Fld Z h x ST "value" "[B" v0) (C : RoadKit.Fld Z h x ST "coder" "B" c0) (K : RoadKit.Arv Z h b k .char zn (cs.map Value.int) dv) (S : RoadKit.Sta Z h ST "COMPACT_STRINGS" "Z" (.int z)) (hz : ¬ z = 0)
    (hlen : zn.toNatClampNeg = cs.length) (h0 : 0 < cs.length) (hbig : cs.length ≤ 536870912) (hall : ∀ c ∈ cs, ¬ 255 < c) (hfr : 4 ≤ R.frames) (hlo : W + 65 ≤ R.locals) :
    Back l R p e below s args New1.yN len W (fun P a => a = #[.ref x, .ref b] ∧ P.U.heap = h ∧ P.cells + 1 ≤ R.cells ∧ P.slots + cs.length ≤ R.slots)
      (fun P _ v B => ∃ L, QA Z x zn cs h v B.U.heap L ∧ B.locs = P.locs ++ L ∧ B.cells = P.cells + 1 ∧ B.slots = P.slots + cs.length) := by
  obtain ⟨A, K1, K2, K3, K4, K5, K6⟩ := K
  have e : A.slots.size = cs.length := K3.trans hlen
  have hat : ∀ (i : Nat) (hi : i < cs.length), A.slots[i]? = some (.int cs[i]) := fun i hi => by rw [K5 i (by omega)]; simp [List.getD_eq_getElem?_getD, hi]
  have hcv : ∀ (i : Nat) (hi : i < cs.length), cv A i = cs[i] := fun i hi => by unfold cv; rw [hat i hi]
  have hty : Typed .char A := fun i v hv => by
    have hi : i < A.slots.size := (Array.getElem?_eq_some_iff.mp hv).1
    have q := K5 i hi
    rw [hv] at q
    rw [Option.some.inj q]
    exact K6 i hi
  refine Back.mono (back hZ hw wi E V C K1 hty S hz (by omega) (by omega) (fun i hi => by rw [hcv i (by omega)]; exact hall _ (List.getElem_mem _)) hfr hlo) (fun P a hp => ⟨hp.1, hp.2.1, hp.2.2.1, by rw [e]; exact hp.2.2.2⟩) (fun P a v B hp hq => ?_)
  obtain ⟨L, ⟨q1, q2, q3, q4, q5, q6, q7, ⟨V', v1, v2, v3, v4, v5⟩, q9⟩, hl, hc, hs⟩ := hq
  refine ⟨L, ⟨q1, q2, q3, q4, q5, q6, q7, ⟨V'.cls, v3, V', v1, rfl, by rw [v4, e, hlen], K4, fun i hi => ?_, fun i hi => ?_⟩, q9⟩, hl, hc, by rw [hs, e]⟩
  · have hi' : i < cs.length := by omega
    rw [v5 i (by omega), hcv i hi']; simp [List.getD_eq_getElem?_getD, hi']
  · have hi' : i < cs.length := by omega
    simp only [List.getD_eq_getElem?_getD, List.getElem?_map, List.getElem?_eq_getElem hi', Option.map_some, Option.getD_some]
    exact fits_lo8 _
end StrChars.Road
namespace StrChars.Road
open Jvm Sem ClassFile Op Lib Jvm.Stand Jvm.Free Jvm.Free.XT
/-- WHAT COMES BACK, in the writer's own shape -/
def QV (Z : State) (x : Addr) (N : Int32) (bs : List Int32) (h : Heap) (n0 : Nat) (v : Option Value) (h' : Heap) (L : List Loc) : Prop := v = none ∧ RoadKit.Fr n0 L ∧ RoadKit.Keep h h' [x] ∧ RoadKit.Exa Z h' x ST ∧ RoadKit.Fld Z h' x ST "coder" "B" (.int 0) ∧
  ∃ (t : Addr) (kb : ClassId), n0 ≤ t ∧ h.size ≤ t ∧ ¬ t = x ∧ RoadKit.Fld Z h' x ST "value" "[B" (.ref t) ∧ RoadKit.Arv Z h' t kb .byte N (bs.map Value.int) (.int 0)
/-- **new String(chars) AT A CALL, FOR THE WRITER**: a char[] of n known ints, each 0 to 255 -/
theorem backV {p : Program} {l : Launch} {e : Env} {R : Room} {s : State} {args : Array Value} {below : List Frame} {len W : Nat} {Z : State} {a0 : Array Value} {h : Heap} (hZ : Z.Warmed39 s.vm) (hw : ∀ d ∈ words, d.before a0 Z = true) {kI : Nat} (wi : (Jvm.Cond.instantiable ST kI).before a0 Z = true)
    {x b : Addr} {kC : ClassId} {cs bs : List Int32} {d v0 c0 : Value} {z N : Int32} {n n0 : Nat} (hx0 : n0 ≤ x) (hh0 : n0 ≤ h.size) (E : RoadKit.Exa Z h x ST) (V : RoadKit.Fld Z h x ST "value" "[B" v0) (C : RoadKit.Fld Z h x ST "coder" "B" c0) (K : RoadKit.Arv Z h b kC .char N (cs.map Value.int) d) (S : RoadKit.Sta Z h ST "COMPACT_STRINGS" "Z" (.int z)) (hz : ¬ z = 0)
    (hn : cs.length = n) (hN : N = Int32.ofNat n) (l0 : 0 < n) (l2 : n ≤ 4000) (hp : ∀ c ∈ cs, ¬ c < 0 ∧ ¬ (255 : Int32) < c) (hb : bs = cs.map (fun c => c.toInt8.toInt32)) (hfr : 4 ≤ R.frames) (hlo : W + 65 ≤ R.locals) :
    Back l R p e below s args (⟨"java/lang/String", "<init>", "([C)V"⟩ : MethodName) len W (fun P a => a = #[.ref x, .ref b] ∧ P.U.heap = h ∧ P.cells + 1 ≤ R.cells ∧ P.slots + n ≤ R.slots)
      (fun P _ v B => ∃ L, QV Z x N bs h n0 v B.U.heap L ∧ B.locs = P.locs ++ L ∧ B.cells = P.cells + 1 ∧ B.slots = P.slots + n) := by
  subst hn hN hb
  refine Back.mono (backArv hZ hw wi E V C K S hz (n32 (by omega)) l0 (by omega) (fun c hc => (hp c hc).2) hfr hlo) (fun P a hp => hp) (fun P a v B hp hq => ?_)
  obtain ⟨L, ⟨q1, q2, q3, q4, q5, q6, q7, ⟨kb, v1, v2⟩, q9⟩, hl, hc, hs⟩ := hq
  exact ⟨L, ⟨q1, fun y hy => by rw [q2 y hy]; exact hx0, q3, q5, q7, h.size, kb, hh0, Nat.le_refl _, Nat.ne_of_gt E.lt, q6, by rw [List.map_map]; exact v2⟩, hl, hc, hs⟩
end StrChars.Road
namespace StrChars
open Jvm Sem ClassFile Op Lib Jvm.Stand Jvm.Free.XT Jvm.Free.ALB Jvm.Free.JM Jvm.Free
open Jvm.Lib.Cold (StaticIs)
def hi8 (x : Int32) : Int32 := lo8 (x >>> ((8 : Int32) &&& 31))
/-- what StringUTF16.getChar makes of two bytes -/
def pairCh (u v : Int32) : Int32 := (((u &&& 255) <<< ((0 : Int32) &&& 31)) ||| ((v &&& 255) <<< ((8 : Int32) &&& 31))).toUInt32.toUInt16.toUInt32.toInt32
theorem shr0 (c : Int32) : c >>> ((0 : Int32) &&& 31) = c := by
  have e : ((0 : Int32) &&& 31) = 0 := by decide
  rw [e]
  apply Int32.toBitVec_inj.mp
  rw [Int32.toBitVec_shiftRight]
  have e1 : ((0 : Int32).toBitVec.smod 32) = 0#32 := by decide
  rw [e1, BitVec.sshiftRight_eq']
  exact BitVec.sshiftRight_zero
theorem lo8_and (x : Int32) : (lo8 x &&& 255).toBitVec.toNat = x.toBitVec.toNat % 256 := by
  have h : (lo8 x).toBitVec = (x.toBitVec.signExtend 8).signExtend 32 := by rw [lo8, Int8.toBitVec_toInt32, Int32.toBitVec_toInt8]
  rw [Int32.toBitVec_and, BitVec.toNat_and, h]
  have e : ((x.toBitVec.signExtend 8).signExtend 32).toNat % 256 = x.toBitVec.toNat % 256 := by
    rw [BitVec.toNat_signExtend]
    have hlt := x.toBitVec.isLt
    simp only [BitVec.toNat_setWidth, BitVec.toNat_signExtend]
    split <;> split <;> omega
  rw [← e]
  exact Nat.and_two_pow_sub_one_eq_mod _ 8
theorem pair_says {c : Int32} (h0 : ¬ c < 0) (h1 : ¬ 65535 < c) : pairCh (lo8 c) (hi8 c) = c := by
  rw [Int32.lt_iff_toInt_lt] at h0 h1
  have e0 : (0 : Int32).toInt = 0 := rfl
  have e1 : (65535 : Int32).toInt = 65535 := rfl
  have hc : c.toInt = c.toBitVec.toNat := by
    have := c.toBitVec.isLt
    have e : c.toInt = c.toBitVec.toInt := rfl
    rw [e] at h0 h1
    rw [e]
    rw [BitVec.toInt_eq_toNat_cond] at h0 h1 ⊢
    split at h0 <;> split <;> omega
  have hn : c.toBitVec.toNat < 65536 := by omega
  have a1 := lo8_and c
  have a2 : (hi8 c &&& 255).toBitVec.toNat = c.toBitVec.toNat / 256 := by
    rw [hi8, lo8_and]
    have e : ((8 : Int32) &&& 31) = 8 := by decide
    rw [e, Int32.toBitVec_shiftRight]
    have e2 : ((8 : Int32).toBitVec.smod 32) = 8#32 := by decide
    rw [e2, BitVec.sshiftRight_eq', BitVec.toNat_sshiftRight_of_msb_false (by rw [BitVec.msb_eq_false_iff_two_mul_lt]; omega)]
    show c.toBitVec.toNat >>> 8 % 256 = _
    rw [Nat.shiftRight_eq_div_pow]
    omega
  unfold pairCh
  apply Int32.toBitVec_inj.mp
  apply BitVec.eq_of_toNat_eq
  have f0 : ((0 : Int32) &&& 31) = 0 := by decide
  have f8 : ((8 : Int32) &&& 31) = 8 := by decide
  rw [f0, f8]
  have g : (((lo8 c &&& 255) <<< (0 : Int32)) ||| ((hi8 c &&& 255) <<< (8 : Int32))).toBitVec.toNat = c.toBitVec.toNat := by
    rw [Int32.toBitVec_or, Int32.toBitVec_shiftLeft, Int32.toBitVec_shiftLeft]
    have s0 : ((0 : Int32).toBitVec.smod 32) = 0#32 := by decide
    have s8 : ((8 : Int32).toBitVec.smod 32) = 8#32 := by decide
    rw [s0, s8, BitVec.toNat_or]
    simp only [BitVec.shiftLeft_eq', BitVec.toNat_shiftLeft, a1, a2]
    show (c.toBitVec.toNat % 256) <<< 0 % 2 ^ 32 ||| (c.toBitVec.toNat / 256) <<< 8 % 2 ^ 32 = _
    rw [Nat.shiftLeft_zero, Nat.mod_eq_of_lt (show c.toBitVec.toNat % 256 < 2 ^ 32 by omega), Nat.mod_eq_of_lt (show (c.toBitVec.toNat / 256) <<< 8 < 2 ^ 32 by rw [Nat.shiftLeft_eq]; omega), Nat.or_comm, ← Nat.shiftLeft_add_eq_or_of_lt (by omega), Nat.shiftLeft_eq]
    omega
  show BitVec.toNat (((((lo8 c &&& 255) <<< (0 : Int32)) ||| ((hi8 c &&& 255) <<< (8 : Int32))).toBitVec.setWidth 16).setWidth 32) = _
  rw [BitVec.toNat_setWidth, BitVec.toNat_setWidth, g]
  omega
end StrChars
namespace StrChars
open Jvm Sem ClassFile Op Lib Jvm.Stand Jvm.Free.XT Jvm.Free.ALB Jvm.Free.JM Jvm.Free
open Jvm.Lib.Cold (StaticIs)
theorem shr1 {n : Nat} (h : 2 * n < 2 ^ 31) : Int32.ofNat (2 * n) >>> ((1 : Int32) &&& 31) = Int32.ofNat n := by
  have e : ((1 : Int32) &&& 31) = 1 := by decide
  rw [e]
  apply Int32.toBitVec_inj.mp
  rw [Int32.toBitVec_shiftRight]
  have e1 : ((1 : Int32).toBitVec.smod 32) = 1#32 := by decide
  have hm : (BitVec.ofNat 32 (2 * n)).toNat = 2 * n := by rw [BitVec.toNat_ofNat, Nat.mod_eq_of_lt (by omega)]
  rw [e1, BitVec.sshiftRight_eq']
  apply BitVec.eq_of_toNat_eq
  show ((BitVec.ofNat 32 (2 * n)).sshiftRight 1).toNat = (BitVec.ofNat 32 n).toNat
  rw [BitVec.toNat_sshiftRight_of_msb_false (by rw [BitVec.msb_eq_false_iff_two_mul_lt, hm]; omega), hm, BitVec.toNat_ofNat, Nat.shiftRight_eq_div_pow]
  omega
/-- charAt's cast of a byte read back -/
def chr8 (u : Int32) : Int32 := (u &&& 255).toUInt32.toUInt16.toUInt32.toInt32
theorem chr8_lo8 {c : Int32} (h0 : ¬ c < 0) (h1 : ¬ 255 < c) : chr8 (lo8 c) = c := by
  have t : ∀ k : Fin 256, (Int32.ofNat k.val).toUInt32.toUInt16.toUInt32.toInt32 = Int32.ofNat k.val := by decide +kernel
  unfold chr8
  rw [lo8_mask h0 h1]
  rw [Int32.lt_iff_toInt_lt] at h0 h1
  have e0 : (0 : Int32).toInt = 0 := rfl
  have e1 : (255 : Int32).toInt = 255 := rfl
  obtain ⟨k, hk⟩ : ∃ k : Nat, c.toInt = k := ⟨c.toInt.toNat, by omega⟩
  have hx : c = Int32.ofNat k := Int32.toInt_inj.mp (by rw [hk, Int32.toInt_ofNat_small (by omega)])
  rw [hx]
  exact t ⟨k, by omega⟩
theorem narrow_ch {c : Int32} (h0 : ¬ c < 0) (h1 : ¬ 65535 < c) : narrow .char (.int c) = .int c := by
  have q : narrow .char (.int (pairCh (lo8 c) (hi8 c))) = .int (pairCh (lo8 c) (hi8 c)) := narrow_c _
  rwa [pair_says h0 h1] at q
/-- the array's cell V codes the n chars f 0 .. f (n - 1) by the coder cd, as the JDK does: coder 1 just where some char is above 255 -/
def Cod (cd : Int32) (n : Nat) (f : Nat → Int32) (V : Cell) : Prop := (cd = 0 ∧ V.slots.size = n ∧ ∀ j, j < n → V.slots[j]? = some (.int (lo8 (f j))) ∧ ¬ 255 < f j) ∨ (cd = 1 ∧ V.slots.size = 2 * n ∧ (∀ j, j < n → V.slots[2 * j]? = some (.int (lo8 (f j))) ∧ V.slots[2 * j + 1]? = some (.int (hi8 (f j)))) ∧ ∃ j, j < n ∧ 255 < f j)
theorem Cod.cd {cd : Int32} {n : Nat} {f : Nat → Int32} {V : Cell} (h : Cod cd n f V) : cd = 0 ∨ cd = 1 := h.imp (fun q => q.1) fun q => q.1
theorem Cod.len {cd : Int32} {n : Nat} {f : Nat → Int32} {V : Cell} (h : Cod cd n f V) (hs : V.slots.size < 2 ^ 31) : Int32.ofNat V.slots.size >>> (cd &&& 31) = Int32.ofNat n := by
  rcases h with ⟨rfl, h, -⟩ | ⟨rfl, h, -⟩
  · rw [shr0, h]
  · rw [h, shr1 (by omega)]
/-- **x is a String of the n chars f 0 .. f (n - 1)**, Latin-1 or UTF-16; its array at t has the cell V -/
def Txt (x t : Addr) (V : Cell) (cd : Int32) (n : Nat) (f : Nat → Int32) (U : State) : Prop := Exact "java/lang/String" x U ∧ Has x "java/lang/String" "value" "[B" (.ref t) U ∧ Has x "java/lang/String" "coder" "B" (.int cd) U ∧ XT.Arr .byte t V U ∧ Cod cd n f V ∧ ∀ j, j < n → ¬ f j < 0 ∧ ¬ 65535 < f j
theorem Txt.mv {x t : Addr} {V : Cell} {cd : Int32} {n : Nat} {f : Nat → Int32} {U U' : State} (h : Txt x t V cd n f U) (hal : U.vm.Alike U'.vm) (hh : U'.heap = U.heap) : Txt x t V cd n f U' := ⟨h.1.mv hal hh, h.2.1.mv hal hh, h.2.2.1.mv hal hh, h.2.2.2.1.mv hal hh, h.2.2.2.2⟩
namespace Cdr
def yN : MethodName := ⟨"java/lang/String", "coder", "()B"⟩
abbrev yB : ByteArray := jdk_42_method_152_code
theorem d0 : decode yB 0 = .ok (.getstatic 38, 3) := by decide +kernel
theorem d3 : decode yB 3 = .ok (.ifCond (.eq) 10, 3) := by decide +kernel
theorem d6 : decode yB 6 = .ok (.aload_n 0, 1) := by decide +kernel
theorem d7 : decode yB 7 = .ok (.getfield 15, 3) := by decide +kernel
theorem d10 : decode yB 10 = .ok (.goto 4, 3) := by decide +kernel
theorem d14 : decode yB 14 = .ok (.ireturn, 1) := by decide +kernel
def site : List Cond := [.fieldLink "java/lang/String" 38 "java/lang/String" "COMPACT_STRINGS" "Z", .fieldLink "java/lang/String" 15 "java/lang/String" "coder" "B"]
def tab : Cond := tabOf yN yB 1 (some .byte) site
def P (x : Addr) (cd z : Int32) (args : Array Value) (s : State) : Prop := args = #[.ref x] ∧ Has x "java/lang/String" "coder" "B" (.int cd) s ∧ (cd = 0 ∨ cd = 1) ∧ StaticIs s "java/lang/String" "COMPACT_STRINGS" "Z" (.int z) ∧ ¬ z = 0
def E (cd : Int32) (r : Option Value) (s u : State) : Prop := XT.PureE (some (.int cd)) r s u
theorem law (l : Launch) (x : Addr) (cd z : Int32) : Law l yN 1 0 0 0 yB 1 (some .byte) site (P x cd z) (E cd) [] 0 0 := by
  refine Law.of_walk (plainFor_of_name (by decide +kernel)) (by decide +kernel) (by decide +kernel) (by decide) (fun _ _ h => by rw [h.1]; rfl) (fun _ U U' hal hh h => ⟨h.1, h.2.1.mv hal hh, h.2.2.1, h.2.2.2.1.there hal hh, h.2.2.2.2⟩) (fun r U U' V V' h1 hal h2 h => XT.PureE.mv r U U' V V' h1 hal h2 h) ?_
  intro p e s m args below meth c s₁ X0 hexec hbytes hml hret hlk hnm hown hh0 W hP
  obtain ⟨rfl, hx, hc, s1, hz⟩ := hP
  have c1 : Steps p.tables e below (s₁.setTop (entryFrame m #[.ref x] 1)) (s₁.setTop (mkF m 0 #[.val (.ref x)] [])) := entry rfl
  obtain ⟨T2, X2, q2, st2⟩ := X0.sget hexec hown (wk W (.fieldLink "java/lang/String" 38 "java/lang/String" "COMPACT_STRINGS" "Z")) s1 (fun _ _ h => by rw [hh0]; exact h) (g := (mkF m 0 #[.val (.ref x)] [])) rfl (hb hbytes d0)
  have hh2 := q2.trans hh0
  have c3 : Steps p.tables e below (s₁.setTop (entryFrame m #[.ref x] 1)) (T2.setTop (mkF m 7 #[.val (.ref x)] [.ref x])) := (c1.trans (st2 _ (Steps.refl _))).trans (by
    refine XS.ifNo X2.here hexec rfl (hb hbytes d3) rfl (i0_eq_f hz) ?_
    refine XS.aloadN X2.here hexec rfl (hb hbytes d6) rfl rfl ?_
    exact Steps.refl _)
  obtain ⟨T4, X4, q4, st4⟩ := X2.hget hexec hown (wk W (.fieldLink "java/lang/String" 15 "java/lang/String" "coder" "B")) (hx.mv X2.warmed.alike hh2) (g := (mkF m 7 #[.val (.ref x)] [.ref x])) rfl (rest := []) rfl (hb hbytes d7)
  have c5 : Steps p.tables e below (s₁.setTop (entryFrame m #[.ref x] 1)) (T4.setTop (mkF m 14 #[.val (.ref x)] [.int cd])) := (c3.trans (st4 _ (Steps.refl _))).trans (by
    refine XS.goto X4.here hexec rfl (pc0 := 10) rfl (hb hbytes d10) (by decide) rfl ?_
    exact Steps.refl _)
  exact ⟨T4, some (.int cd), _, _, _, X4, rfl, rfl, rfl, (fun h => by cases h), ⟨rfl, q4.trans hh2⟩, fun fs hl => c5.trans (X4.ireturnOut hexec hret (by rcases hc with rfl | rfl <;> rfl) (Or.inr (Or.inr (Or.inl rfl))) (hb hbytes d14) hl)⟩
end Cdr
namespace Len
def yN : MethodName := ⟨"java/lang/String", "length", "()I"⟩
abbrev yB : ByteArray := jdk_42_method_54_code
theorem d0 : decode yB 0 = .ok (.aload_n 0, 1) := by decide +kernel
theorem d1 : decode yB 1 = .ok (.getfield 9, 3) := by decide +kernel
theorem d4 : decode yB 4 = .ok (.arraylength, 1) := by decide +kernel
theorem d5 : decode yB 5 = .ok (.aload_n 0, 1) := by decide +kernel
theorem d6 : decode yB 6 = .ok (.invokevirtual 335, 3) := by decide +kernel
theorem d9 : decode yB 9 = .ok (.ishr, 1) := by decide +kernel
theorem d10 : decode yB 10 = .ok (.ireturn, 1) := by decide +kernel
def site : List Cond := [.fieldLink "java/lang/String" 9 "java/lang/String" "value" "[B", Cdr.tab] ++ virtW "java/lang/String" 335 "java/lang/String" Cdr.yN Cdr.yN
def tab : Cond := tabOf yN yB 1 (some .int) site
def P (x t : Addr) (V : Cell) (cd : Int32) (n : Nat) (f : Nat → Int32) (z : Int32) (args : Array Value) (s : State) : Prop := args = #[.ref x] ∧ Txt x t V cd n f s ∧ StaticIs s "java/lang/String" "COMPACT_STRINGS" "Z" (.int z) ∧ ¬ z = 0
def E (n : Nat) (r : Option Value) (s u : State) : Prop := XT.PureE (some (.int (Int32.ofNat n))) r s u
/-- length() of a String of n chars, in either coding -/
theorem law (l : Launch) (x t : Addr) (V : Cell) (cd : Int32) (n : Nat) (f : Nat → Int32) (z : Int32) : Law l yN 1 0 1 13 yB 1 (some .int) site (P x t V cd n f z) (E n) [] 0 0 := by
  refine Law.of_walk (plainFor_of_name (by decide +kernel)) (by decide +kernel) (by decide +kernel) (by decide) (fun _ _ h => by rw [h.1]; rfl) (fun _ U U' hal hh h => ⟨h.1, h.2.1.mv hal hh, h.2.2.1.there hal hh, h.2.2.2⟩) (fun r U U' V V' h1 hal h2 h => XT.PureE.mv r U U' V V' h1 hal h2 h) ?_
  intro p e s m args below meth c s₁ X0 hexec hbytes hml hret hlk hnm hown hh0 W hP
  obtain ⟨rfl, hx, s1, hz⟩ := hP
  have v31 := hx.2.2.2.1.2.2.2
  have c1 : Steps p.tables e below (s₁.setTop (entryFrame m #[.ref x] 1)) (s₁.setTop (mkF m 1 #[.val (.ref x)] [.ref x])) := Steps.trans (entry rfl) (by
    show Steps p.tables e below (s₁.setTop (mkF m 0 #[.val (.ref x)] [])) _
    refine XS.aloadN X0.here hexec rfl (hb hbytes d0) rfl rfl ?_
    exact Steps.refl _)
  obtain ⟨T2, X2, q2, st2⟩ := X0.hget hexec hown (wk W (.fieldLink "java/lang/String" 9 "java/lang/String" "value" "[B")) (hx.mv X0.warmed.alike hh0).2.1 (g := (mkF m 1 #[.val (.ref x)] [.ref x])) rfl (rest := []) rfl (hb hbytes d1)
  have hh2 := q2.trans hh0
  have hx2 := hx.mv X2.warmed.alike hh2
  have c3 : Steps p.tables e below (s₁.setTop (entryFrame m #[.ref x] 1)) (T2.setTop (mkF m 6 #[.val (.ref x)] [.ref x, .int (Int32.ofNat V.slots.size)])) := (c1.trans (st2 _ (Steps.refl _))).trans (by
    refine X2.alen hexec hx2.2.2.2.1 rfl rfl (hb hbytes d4) ?_
    refine XS.aloadN X2.here hexec rfl (hb hbytes d5) rfl rfl ?_
    exact Steps.refl _)
  obtain ⟨v4, T4, X4, E4, g4⟩ := X2.callV hexec (Cdr.law l x cd z) hown (wks W (virtW "java/lang/String" 335 "java/lang/String" Cdr.yN Cdr.yN)) rfl (by decide) (wk W Cdr.tab) (W := 1) (Nat.le_of_ble_eq_true rfl) (Nat.le_of_ble_eq_true rfl) (Nat.le_refl _) (Nat.le_refl _) (hx2.1.fc X2.warmed.alike) hx2.1.is (g := (mkF m 6 #[.val (.ref x)] [.ref x, .int (Int32.ofNat V.slots.size)])) rfl (by rw [hml]; rfl) c3 (argsL := []) (rest := [.int (Int32.ofNat V.slots.size)]) rfl rfl (by show 2 * 0 + (1 + 0) ≤ _; decide) (hb hbytes d6) (⟨rfl, hx2.2.2.1, hx.2.2.2.2.1.cd, s1.there X2.warmed.alike hh2, hz⟩)
  obtain ⟨rfl, q4⟩ := E4
  have c5 : Steps p.tables e below (s₁.setTop (entryFrame m #[.ref x] 1)) (T4.setTop (mkF m 10 #[.val (.ref x)] [.int (Int32.ofNat V.slots.size >>> (cd &&& 31))])) := Steps.trans g4 (by
    refine ishr X4.here hexec rfl (hb hbytes d9) rfl ?_
    exact Steps.refl _)
  rw [hx.2.2.2.2.1.len v31] at c5
  exact ⟨T4, some (.int (Int32.ofNat n)), _, _, _, X4, rfl, rfl, rfl, (fun h => by cases h), ⟨rfl, q4.trans hh2⟩, fun fs hl => c5.trans (X4.ireturnOut hexec hret rfl (Or.inl rfl) (hb hbytes d10) hl)⟩
theorem pays {l : Launch} {R : Room} {p : Program} {e : Env} {below : List Frame} {s : State} {sargs : Array Value} {len W : Nat} (x t : Addr) (V : Cell) (cd : Int32) (n : Nat) (f : Nat → Int32) (z : Int32) (htab : tab.before sargs s = true) (hfr : 2 ≤ R.frames) (hlo : W + 25 ≤ R.locals) :
    Back l R p e below s sargs yN len W (fun A₁ a₁ => A₁.cells + 0 ≤ R.cells ∧ A₁.slots + 0 ≤ R.slots ∧ P x t V cd n f z a₁ A₁.U) (fun A₁ _ v₁ B₁ => E n v₁ A₁.U B₁.U ∧ B₁.locs = A₁.locs ++ [] ∧ B₁.cells = A₁.cells + 0 ∧ B₁.slots = A₁.slots + 0) :=
  (law l x t V cd n f z).pays htab hfr (by omega)
end Len
namespace IsL
def yN : MethodName := ⟨"java/lang/String", "isLatin1", "()Z"⟩
abbrev yB : ByteArray := jdk_42_method_154_code
theorem d0 : decode yB 0 = .ok (.getstatic 38, 3) := by decide +kernel
theorem d3 : decode yB 3 = .ok (.ifCond (.eq) 14, 3) := by decide +kernel
theorem d6 : decode yB 6 = .ok (.aload_n 0, 1) := by decide +kernel
theorem d7 : decode yB 7 = .ok (.getfield 15, 3) := by decide +kernel
theorem d10 : decode yB 10 = .ok (.ifCond (.ne) 7, 3) := by decide +kernel
theorem d13 : decode yB 13 = .ok (.iconst 1, 1) := by decide +kernel
theorem d14 : decode yB 14 = .ok (.goto 4, 3) := by decide +kernel
theorem d17 : decode yB 17 = .ok (.iconst 0, 1) := by decide +kernel
theorem d18 : decode yB 18 = .ok (.ireturn, 1) := by decide +kernel
def site : List Cond := [.fieldLink "java/lang/String" 38 "java/lang/String" "COMPACT_STRINGS" "Z", .fieldLink "java/lang/String" 15 "java/lang/String" "coder" "B"]
def tab : Cond := tabOf yN yB 1 (some .boolean) site
def P (x : Addr) (cd z : Int32) (args : Array Value) (s : State) : Prop := args = #[.ref x] ∧ Has x "java/lang/String" "coder" "B" (.int cd) s ∧ (cd = 0 ∨ cd = 1) ∧ StaticIs s "java/lang/String" "COMPACT_STRINGS" "Z" (.int z) ∧ ¬ z = 0
def E (cd : Int32) (r : Option Value) (s u : State) : Prop := XT.PureE (some (.int (1 - cd))) r s u
theorem law (l : Launch) (x : Addr) (cd z : Int32) : Law l yN 1 0 0 0 yB 1 (some .boolean) site (P x cd z) (E cd) [] 0 0 := by
  refine Law.of_walk (plainFor_of_name (by decide +kernel)) (by decide +kernel) (by decide +kernel) (by decide) (fun _ _ h => by rw [h.1]; rfl) (fun _ U U' hal hh h => ⟨h.1, h.2.1.mv hal hh, h.2.2.1, h.2.2.2.1.there hal hh, h.2.2.2.2⟩) (fun r U U' V V' h1 hal h2 h => XT.PureE.mv r U U' V V' h1 hal h2 h) ?_
  intro p e s m args below meth c s₁ X0 hexec hbytes hml hret hlk hnm hown hh0 W hP
  obtain ⟨rfl, hx, hc, s1, hz⟩ := hP
  have c1 : Steps p.tables e below (s₁.setTop (entryFrame m #[.ref x] 1)) (s₁.setTop (mkF m 0 #[.val (.ref x)] [])) := entry rfl
  obtain ⟨T2, X2, q2, st2⟩ := X0.sget hexec hown (wk W (.fieldLink "java/lang/String" 38 "java/lang/String" "COMPACT_STRINGS" "Z")) s1 (fun _ _ h => by rw [hh0]; exact h) (g := (mkF m 0 #[.val (.ref x)] [])) rfl (hb hbytes d0)
  have hh2 := q2.trans hh0
  have c3 : Steps p.tables e below (s₁.setTop (entryFrame m #[.ref x] 1)) (T2.setTop (mkF m 7 #[.val (.ref x)] [.ref x])) := (c1.trans (st2 _ (Steps.refl _))).trans (by
    refine XS.ifNo X2.here hexec rfl (hb hbytes d3) rfl (i0_eq_f hz) ?_
    refine XS.aloadN X2.here hexec rfl (hb hbytes d6) rfl rfl ?_
    exact Steps.refl _)
  obtain ⟨T4, X4, q4, st4⟩ := X2.hget hexec hown (wk W (.fieldLink "java/lang/String" 15 "java/lang/String" "coder" "B")) (hx.mv X2.warmed.alike hh2) (g := (mkF m 7 #[.val (.ref x)] [.ref x])) rfl (rest := []) rfl (hb hbytes d7)
  have c5 : Steps p.tables e below (s₁.setTop (entryFrame m #[.ref x] 1)) (T4.setTop (mkF m 10 #[.val (.ref x)] [.int cd])) := c3.trans (st4 _ (Steps.refl _))
  have c6 : Steps p.tables e below (s₁.setTop (entryFrame m #[.ref x] 1)) (T4.setTop (mkF m 18 #[.val (.ref x)] [.int (1 - cd)])) := by
    rcases hc with rfl | rfl
    · exact c5.trans (by
        refine XS.ifNo X4.here hexec rfl (hb hbytes d10) rfl (i0_ne_f rfl) ?_
        refine iconstV X4.here hexec rfl 1 (hb hbytes d13) (by decide) ?_
        refine XS.goto X4.here hexec rfl (pc0 := 14) rfl (hb hbytes d14) (by decide) rfl ?_
        exact Steps.refl _)
    · exact c5.trans (by
        refine XS.ifYes X4.here hexec rfl (pc0 := 10) rfl (hb hbytes d10) rfl (i0_ne_t (by decide)) (by decide) rfl ?_
        refine iconstV X4.here hexec rfl 0 (hb hbytes d17) (by decide) ?_
        exact Steps.refl _)
  exact ⟨T4, some (.int (1 - cd)), _, _, _, X4, rfl, rfl, rfl, (fun h => by cases h), ⟨rfl, q4.trans hh2⟩, fun fs hl => c6.trans (X4.ireturnOut hexec hret (by rcases hc with rfl | rfl <;> rfl) (Or.inr (Or.inl rfl)) (hb hbytes d18) hl)⟩
end IsL
namespace LChA
def yN : MethodName := ⟨"java/lang/StringLatin1", "charAt", "([BI)C"⟩
abbrev yB : ByteArray := jdk_43_method_2_code
theorem d0 : decode yB 0 = .ok (.iload_n 1, 1) := by decide +kernel
theorem d1 : decode yB 1 = .ok (.aload_n 0, 1) := by decide +kernel
theorem d2 : decode yB 2 = .ok (.arraylength, 1) := by decide +kernel
theorem d3 : decode yB 3 = .ok (.invokestatic 9, 3) := by decide +kernel
theorem d6 : decode yB 6 = .ok (.aload_n 0, 1) := by decide +kernel
theorem d7 : decode yB 7 = .ok (.iload_n 1, 1) := by decide +kernel
theorem d8 : decode yB 8 = .ok (.baload, 1) := by decide +kernel
theorem d9 : decode yB 9 = .ok (.sipush 255, 3) := by decide +kernel
theorem d12 : decode yB 12 = .ok (.iand, 1) := by decide +kernel
theorem d13 : decode yB 13 = .ok (.i2c, 1) := by decide +kernel
theorem d14 : decode yB 14 = .ok (.ireturn, 1) := by decide +kernel
def site : List Cond := [JO.Str_checkIndex.tab] ++ staticW "java/lang/StringLatin1" 9 JO.Str_checkIndex.yN
def tab : Cond := tabOf yN yB 2 (some .char) site
def P (t : Addr) (V : Cell) (i : Nat) (u : Int32) (fm : Value) (args : Array Value) (s : State) : Prop := args = #[.ref t, .int (Int32.ofNat i)] ∧ XT.Arr .byte t V s ∧ V.slots[i]? = some (.int u) ∧ (StaticIs s "jdk/internal/util/Preconditions" "SIOOBE_FORMATTER" "Ljava/util/function/BiFunction;" fm ∧ fm.isRef = true)
def E (u : Int32) (r : Option Value) (s w : State) : Prop := XT.PureE (some (.int (chr8 u))) r s w
theorem law (l : Launch) (t : Addr) (V : Cell) (i : Nat) (u : Int32) (fm : Value) : Law l yN 2 2 2 27 yB 2 (some .char) site (P t V i u fm) (E u) [] 0 0 := by
  refine Law.of_walk (plainFor_of_name (by decide +kernel)) (by decide +kernel) (by decide +kernel) (by decide) (fun _ _ h => by rw [h.1]; rfl) (fun _ U U' hal hh h => ⟨h.1, h.2.1.mv hal hh, h.2.2.1, h.2.2.2.1.there hal hh, h.2.2.2.2⟩) (fun r U U' V V' h1 hal h2 h => XT.PureE.mv r U U' V V' h1 hal h2 h) ?_
  intro p e s m args below meth c s₁ X0 hexec hbytes hml hret hlk hnm hown hh0 W hP
  obtain ⟨rfl, hV, hu, s1, rf⟩ := hP
  have v31 := hV.2.2.2
  have hi : i < V.slots.size := (Array.getElem?_eq_some_iff.mp hu).1
  have c1 : Steps p.tables e below (s₁.setTop (entryFrame m #[.ref t, .int (Int32.ofNat i)] 2)) (s₁.setTop (mkF m 0 #[.val (.ref t), .val (.int (Int32.ofNat i))] [])) := entry rfl
  have c2 : Steps p.tables e below (s₁.setTop (entryFrame m #[.ref t, .int (Int32.ofNat i)] 2)) (s₁.setTop (mkF m 3 #[.val (.ref t), .val (.int (Int32.ofNat i))] [.int (Int32.ofNat V.slots.size), .int (Int32.ofNat i)])) := c1.trans (by
    refine XS.iloadN X0.here hexec rfl (hb hbytes d0) rfl ?_
    refine XS.aloadN X0.here hexec rfl (hb hbytes d1) rfl rfl ?_
    refine X0.alen hexec (hV.mv X0.warmed.alike hh0) rfl rfl (hb hbytes d2) ?_
    exact Steps.refl _)
  obtain ⟨v3, T3, X3, E3, g3⟩ := X0.callS hexec (JO.Str_checkIndex.law l (Int32.ofNat i) (Int32.ofNat V.slots.size) fm) hown (wks W (staticW "java/lang/StringLatin1" 9 JO.Str_checkIndex.yN)) (wk W JO.Str_checkIndex.tab) (W := 0) (Nat.le_of_ble_eq_true rfl) (Nat.le_of_ble_eq_true rfl) (Nat.le_refl _) (Nat.le_refl _) (g := (mkF m 3 #[.val (.ref t), .val (.int (Int32.ofNat i))] [.int (Int32.ofNat V.slots.size), .int (Int32.ofNat i)])) rfl (by rw [hml]; rfl) c2 (argsL := [.int (Int32.ofNat i), .int (Int32.ofNat V.slots.size)]) (rest := []) rfl rfl (by show 2 * 0 + 0 ≤ _; decide) (hb hbytes d3) (⟨rfl, rf, s1.there X0.warmed.alike hh0, Int32.ofNat_not_neg (by omega), lt32 v31 hi⟩)
  obtain ⟨rfl, q3⟩ := E3
  have hh3 := q3.trans hh0
  have c4 : Steps p.tables e below (s₁.setTop (entryFrame m #[.ref t, .int (Int32.ofNat i)] 2)) (T3.setTop (mkF m 14 #[.val (.ref t), .val (.int (Int32.ofNat i))] [.int (chr8 u)])) := Steps.trans g3 (by
    refine XS.aloadN X3.here hexec rfl (hb hbytes d6) rfl rfl ?_
    refine XS.iloadN X3.here hexec rfl (hb hbytes d7) rfl ?_
    refine X3.aget hexec (hV.mv X3.warmed.alike hh3) rfl hu rfl rfl (hb hbytes d8) ?_
    refine sipushV X3.here hexec rfl 255 (hb hbytes d9) (by decide) ?_
    refine XS.iand X3.here hexec rfl (hb hbytes d12) rfl ?_
    refine i2c X3.here hexec rfl (hb hbytes d13) rfl ?_
    exact Steps.refl _)
  exact ⟨T3, some (.int (chr8 u)), _, _, _, X3, rfl, rfl, rfl, (fun h => by cases h), ⟨rfl, hh3⟩, fun fs hl => c4.trans (X3.ireturnOut hexec hret (narrow_c _) (Or.inr (Or.inr (Or.inr (Or.inl rfl)))) (hb hbytes d14) hl)⟩
end LChA
end StrChars
namespace StrChars.Road
open Jvm Sem ClassFile Op Lib Jvm.Stand Jvm.Free Jvm.Free.XT
open Jvm.Lib.Cold (StaticIs)
theorem consq {a : Array Value} {s : State} {c : Jvm.Cond} {L : List Jvm.Cond} (h0 : c.before a s = true) (h : ∀ w ∈ L, w.before a s = true) : ∀ w ∈ c :: L, w.before a s = true := fun w hw => (List.mem_cons.mp hw).elim (fun e => e ▸ h0) (h w)
/-- the words of String.length(), either coding -/
abbrev wordsLen : List Jvm.Cond := [.code Len.yN Len.yB 1 (some .int), .initialized ST, .fieldLink ST 9 ST "value" "[B", .fieldLink ST 38 ST "COMPACT_STRINGS" "Z", .fieldLink ST 15 ST "coder" "B", .code Cdr.yN Cdr.yB 1 (some .byte), .methodLink ST 335 Cdr.yN, .declares Cdr.yN, .selects ST Cdr.yN Cdr.yN, .instanceMethod Cdr.yN]
theorem tabLen_of {a : Array Value} {s : State} (h : ∀ w ∈ wordsLen, w.before a s = true) : Len.tab.before a s = true := by
  have hc : Cdr.tab.before a s = true := unparts (wk h (.code Cdr.yN Cdr.yB 1 (some .byte))) (wks h (.initialized Cdr.yN.cls :: Cdr.site))
  have q := consq hc h
  exact unparts (wk q (.code Len.yN Len.yB 1 (some .int))) (wks q (.initialized Len.yN.cls :: Len.site))
theorem movedLen {Z s : State} {a0 args : Array Value} (hZ : Z.Warmed39 s.vm) (hw : ∀ d ∈ wordsLen, d.before a0 Z = true) : ∀ d ∈ wordsLen, d.before args s = true := fun d hd => by
  have q := hw d hd
  have t : ∀ d ∈ wordsLen, d = .arrayClass .byte ∨ (d.onTables && d.keepsFace) = true := by decide +kernel
  rcases t d hd with rfl | t
  · exact RoadKit.mvA hZ q
  · exact RoadKit.mv hZ q t
/-- the bytes of the chars cs, low before high -/
def wideBytes : List Int32 → List Value
  | [] => []
  | c :: cs => .int (lo8 c) :: .int (hi8 c) :: wideBytes cs
theorem wide_lo (d : Value) : ∀ (cs : List Int32) (j : Nat), j < cs.length → (wideBytes cs).getD (2 * j) d = .int (lo8 (cs.getD j 0))
  | [], j, h => absurd h (Nat.not_lt_zero j)
  | c :: cs, 0, _ => rfl
  | c :: cs, j + 1, h => by
    have q := wide_lo d cs j (by simpa using h)
    rw [show 2 * (j + 1) = 2 * j + 1 + 1 from by omega]
    simpa [wideBytes] using q
theorem wide_hi (d : Value) : ∀ (cs : List Int32) (j : Nat), j < cs.length → (wideBytes cs).getD (2 * j + 1) d = .int (hi8 (cs.getD j 0))
  | [], j, h => absurd h (Nat.not_lt_zero j)
  | c :: cs, 0, _ => rfl
  | c :: cs, j + 1, h => by
    have q := wide_hi d cs j (by simpa using h)
    rw [show 2 * (j + 1) + 1 = 2 * j + 1 + 1 + 1 from by omega]
    simpa [wideBytes] using q
theorem low_at (d : Value) (cs : List Int32) (j : Nat) (h : j < cs.length) : (cs.map fun c => Value.int (lo8 c)).getD j d = .int (lo8 (cs.getD j 0)) := by
  simp [List.getD_eq_getElem?_getD, h]
/-- an array of N2 bytes vs codes the chars cs by the coder cd -/
def CodA (cs : List Int32) (cd N2 : Int32) (vs : List Value) : Prop := (cd = 0 ∧ N2 = Int32.ofNat cs.length ∧ vs = (cs.map fun c => Value.int (lo8 c)) ∧ ∀ c ∈ cs, ¬ 255 < c) ∨ (cd = 1 ∧ N2 = Int32.ofNat (2 * cs.length) ∧ vs = wideBytes cs ∧ ∃ c ∈ cs, 255 < c)
theorem CodA.cod {cs : List Int32} {cd N2 : Int32} {vs : List Value} {V : Cell} (h : CodA cs cd N2 vs) (hn : 2 * cs.length < 2 ^ 31) (hs : V.slots.size = N2.toNatClampNeg) (hv : RoadKit.Has V vs (.int 0)) : Cod cd cs.length (fun j => cs.getD j 0) V := by
  rcases h with ⟨rfl, rfl, rfl, h⟩ | ⟨rfl, rfl, rfl, c, hc, hw⟩
  · rw [n32 (by omega)] at hs
    exact Or.inl ⟨rfl, hs, fun j hj => ⟨by rw [hv j (by omega), low_at _ _ _ hj], by
      have e : cs.getD j 0 = cs[j] := by simp [List.getD_eq_getElem?_getD, hj]
      show ¬ 255 < cs.getD j 0
      rw [e]; exact h _ (List.getElem_mem _)⟩⟩
  · rw [n32 (by omega)] at hs
    obtain ⟨j, hj, rfl⟩ := List.getElem_of_mem hc
    exact Or.inr ⟨rfl, hs, fun j hj => ⟨by rw [hv _ (by omega), wide_lo _ _ _ hj], by rw [hv _ (by omega), wide_hi _ _ _ hj]⟩, j, hj, by
      have e : cs.getD j 0 = cs[j] := by simp [List.getD_eq_getElem?_getD, hj]
      show 255 < cs.getD j 0
      rw [e]; exact hw⟩
/-- an object of exactly java/lang/String, its two fields found: as the laws ask it -/
theorem strObj {Z U : State} {a0 : Array Value} {kI : Nat} (wi : (Jvm.Cond.instantiable ST kI).before a0 Z = true) (al : Z.vm.Alike U.vm) {x : Addr} {v0 c0 : Value} (E : RoadKit.Exa Z U.heap x ST) (V : RoadKit.Fld Z U.heap x ST "value" "[B" v0) (C : RoadKit.Fld Z U.heap x ST "coder" "B" c0) :
    ∃ (D : Cell) (fV fC : Field), Blank ST x D U ∧ Found ST "value" "[B" fV U ∧ Found ST "coder" "B" fC U ∧ D.slots[fV.slot]? = some v0 ∧ D.slots[fC.slot]? = some c0 ∧ RoadKit.slotOf Z ST "value" "[B" = fV.slot ∧ RoadKit.slotOf Z ST "coder" "B" = fC.slot := by
  obtain ⟨D, cfV, kV, iV, fV, hD, gV, stV, knV, obV, asV, slV⟩ := V
  obtain ⟨D', cfC, kC, iC, fC, hD', gC, stC, -, -, asC, slC⟩ := C
  cases hD.symm.trans hD'
  obtain ⟨D2, kD, e1, e2, e3, e4, e5⟩ := E
  cases hD.symm.trans e1
  obtain ⟨c2, k2, i1, i2, i3, -⟩ := Cond.instantiable_spec wi
  cases e2.symm.trans i1
  cases e3.symm.trans i2
  obtain ⟨kU, u1, u2⟩ := al.2.2 _ _ e3
  exact ⟨D, fV, fC, ⟨hD, ⟨knV, fun q hq => by rw [hq] at obV; cases obV⟩, by rw [al.findClass]; exact e2, kU, u1, by rw [u2]; exact i3, by rw [u2]; exact e5 i3⟩, ⟨SBG.found_only al ⟨cfV, kV, iV, gV⟩, stV⟩, ⟨SBG.found_only al ⟨cfC, kC, iC, gC⟩, stC⟩, slV, slC, by simp [RoadKit.slotOf, gV], by simp [RoadKit.slotOf, gC]⟩
theorem sta_is {Z U : State} (al : Z.vm.Alike U.vm) {C n d : String} {v : Value} (S : RoadKit.Sta Z U.heap C n d v) : StaticIs U C n d v := by
  obtain ⟨cfS, iS, kS, fS, st, cS, t1, t2, t3, t4, t5, t6, t7⟩ := S
  exact StaticIs.there (s := { Z with heap := U.heap }) ⟨cfS, iS, kS, fS, st, cS, t1, t2, t3, t4, t5, (fun q => by rw [q] at t6; cases t6), t7⟩ al rfl
/-- **length() OF SUCH A STRING** -/
theorem lenW {p : Program} {l : Launch} {e : Env} {R : Room} {s : State} {args : Array Value} {below : List Frame} {len W : Nat} {Z : State} {a0 : Array Value} {h : Heap} (hZ : Z.Warmed39 s.vm) (hw : ∀ d ∈ wordsLen, d.before a0 Z = true) {kI : Nat} (wi : (Jvm.Cond.instantiable ST kI).before a0 Z = true)
    {x t : Addr} {kb : ClassId} {cs : List Int32} {cd N2 z : Int32} {vs : List Value} (E : RoadKit.Exa Z h x ST) (V : RoadKit.Fld Z h x ST "value" "[B" (.ref t)) (C : RoadKit.Fld Z h x ST "coder" "B" (.int cd)) (K : RoadKit.Arv Z h t kb .byte N2 vs (.int 0)) (hc : CodA cs cd N2 vs) (hb : ∀ c ∈ cs, ¬ c < 0 ∧ ¬ (65535 : Int32) < c)
    (S : RoadKit.Sta Z h ST "COMPACT_STRINGS" "Z" (.int z)) (hz : ¬ z = 0) (l2 : cs.length ≤ 4000) (hfr : 2 ≤ R.frames) (hlo : W + 25 ≤ R.locals) :
    Back l R p e below s args (⟨"java/lang/String", "length", "()I"⟩ : MethodName) len W (fun P a => a = #[.ref x] ∧ P.U.heap = h ∧ P.cells + 0 ≤ R.cells ∧ P.slots + 0 ≤ R.slots)
      (fun P _ v B => ∃ L, (v = some (.int (Int32.ofNat cs.length)) ∧ L = [] ∧ B.U.heap = h) ∧ B.locs = P.locs ++ L ∧ B.cells = P.cells + 0 ∧ B.slots = P.slots + 0) := by
  obtain ⟨A, K1, K2, K3, K4, K5, K6⟩ := K
  have hcod := hc.cod (by omega) K3 K5
  intro m meth c P g ig mk a X hg hsize hdg hW hn hp'
  obtain ⟨rfl, rfl, r1, r2⟩ := hp'
  have al : Z.vm.Alike P.U.vm := hZ.alike.trans X.warmed.alike
  obtain ⟨D, fV, fC, hB, F1, F2, g1, g2, -, -⟩ := strObj wi al E V C
  have hx : Txt x t A cd cs.length (fun j => cs.getD j 0) P.U := ⟨⟨_, hB.2.2.1, D, hB.1, rfl, by cases q : D.vm <;> first | rfl | exact absurd q (hB.2.1.2 _)⟩, Has.of hB F1 g1, Has.of hB F2 g2, ⟨K1.1, State.isArrayOf_alike al K1.2.1, K1.2.2, by rcases hcod with ⟨-, q, -⟩ | ⟨-, q, -⟩ <;> omega⟩, hcod, fun j hj => by
    have e : cs.getD j 0 = cs[j] := by simp [List.getD_eq_getElem?_getD, hj]
    show ¬ cs.getD j 0 < 0 ∧ ¬ 65535 < cs.getD j 0
    rw [e]; exact hb _ (List.getElem_mem _)⟩
  obtain ⟨v, B, X', ⟨⟨hv, hh⟩, hl, hk, hs⟩, st⟩ := Len.pays x t A cd cs.length (fun j => cs.getD j 0) z (tabLen_of (movedLen hZ hw)) hfr hlo m meth c P g ig mk _ X hg hsize hdg hW hn ⟨r1, r2, rfl, hx, sta_is al S, hz⟩
  exact ⟨v, B, X', ⟨[], ⟨hv, rfl, hh⟩, hl, hk, hs⟩, st⟩
end StrChars.Road
namespace StrChars
open Jvm Sem ClassFile Op Lib Jvm.Stand Jvm.Free.XT Jvm.Free.ALB Jvm.Free.JM Jvm.Free
open Jvm.Lib.Cold (StaticIs)
/-- what place i of a byte[]'s cell holds -/
def yv (A : Cell) (i : Nat) : Int32 := match A.slots[i]? with | some (.int x) => x | _ => 0
theorem yv_get {a : Addr} {A : Cell} {U : State} (h : XT.Arr .byte a A U) (ht : Typed .byte A) {i : Nat} (hi : i < A.slots.size) : A.slots[i]? = some (.int (yv A i)) := by
  have e := Array.getElem?_eq_getElem hi
  have f := ht i _ e
  unfold yv; rw [e]
  generalize A.slots[i] = v at f
  cases v <;> simp [fits] at f ⊢
/-- the two arrays are equal, place for place -/
def EqC (A B : Cell) : Prop := A.slots.size = B.slots.size ∧ ∀ i, i < A.slots.size → yv A i = yv B i
/-- a boolean that says whether p -/
def Says01 (q : Prop) (r : Option Value) (s u : State) : Prop := ∃ v : Int32, r = some (.int v) ∧ u.heap = s.heap ∧ ((v = 1 ∧ q) ∨ (v = 0 ∧ ¬ q))
theorem Says01.mv {q : Prop} : ∀ r (U U' V V' : State), U'.heap = U.heap → V.vm.Alike V'.vm → V'.heap = V.heap → Says01 q r U V → Says01 q r U' V' :=
  fun r U U' V V' h1 _ h2 ⟨v, a, b, c⟩ => ⟨v, a, by rw [h1, h2]; exact b, c⟩
namespace LEq
def yN : MethodName := ⟨"java/lang/StringLatin1", "equals", "([B[B)Z"⟩
abbrev yB : ByteArray := jdk_43_method_13_code
theorem d0 : decode yB 0 = .ok (.aload_n 0, 1) := by decide +kernel
theorem d1 : decode yB 1 = .ok (.arraylength, 1) := by decide +kernel
theorem d2 : decode yB 2 = .ok (.aload_n 1, 1) := by decide +kernel
theorem d3 : decode yB 3 = .ok (.arraylength, 1) := by decide +kernel
theorem d4 : decode yB 4 = .ok (.if_icmp (.ne) 30, 3) := by decide +kernel
theorem d7 : decode yB 7 = .ok (.iconst 0, 1) := by decide +kernel
theorem d8 : decode yB 8 = .ok (.istore_n 2, 1) := by decide +kernel
theorem d9 : decode yB 9 = .ok (.iload_n 2, 1) := by decide +kernel
theorem d10 : decode yB 10 = .ok (.aload_n 0, 1) := by decide +kernel
theorem d11 : decode yB 11 = .ok (.arraylength, 1) := by decide +kernel
theorem d12 : decode yB 12 = .ok (.if_icmp (.ge) 20, 3) := by decide +kernel
theorem d15 : decode yB 15 = .ok (.aload_n 0, 1) := by decide +kernel
theorem d16 : decode yB 16 = .ok (.iload_n 2, 1) := by decide +kernel
theorem d17 : decode yB 17 = .ok (.baload, 1) := by decide +kernel
theorem d18 : decode yB 18 = .ok (.aload_n 1, 1) := by decide +kernel
theorem d19 : decode yB 19 = .ok (.iload_n 2, 1) := by decide +kernel
theorem d20 : decode yB 20 = .ok (.baload, 1) := by decide +kernel
theorem d21 : decode yB 21 = .ok (.if_icmp (.eq) 5, 3) := by decide +kernel
theorem d24 : decode yB 24 = .ok (.iconst 0, 1) := by decide +kernel
theorem d25 : decode yB 25 = .ok (.ireturn, 1) := by decide +kernel
theorem d26 : decode yB 26 = .ok (.iinc 2 1, 3) := by decide +kernel
theorem d29 : decode yB 29 = .ok (.goto (-20), 3) := by decide +kernel
theorem d32 : decode yB 32 = .ok (.iconst 1, 1) := by decide +kernel
theorem d33 : decode yB 33 = .ok (.ireturn, 1) := by decide +kernel
theorem d34 : decode yB 34 = .ok (.iconst 0, 1) := by decide +kernel
theorem d35 : decode yB 35 = .ok (.ireturn, 1) := by decide +kernel
def site : List Cond := []
def tab : Cond := tabOf yN yB 3 (some .boolean) site
def P (a : Addr) (A : Cell) (b : Addr) (B : Cell) (args : Array Value) (s : State) : Prop := args = #[.ref a, .ref b] ∧ XT.Arr .byte a A s ∧ Typed .byte A ∧ XT.Arr .byte b B s ∧ Typed .byte B
/-- whether two byte[] are equal, place for place -/
theorem law (l : Launch) (a : Addr) (A : Cell) (b : Addr) (B : Cell) : Law l yN 2 2 0 0 yB 3 (some .boolean) site (P a A b B) (Says01 (EqC A B)) [] 0 0 := by
  refine Law.of_walk (plainFor_of_name (by decide +kernel)) (by decide +kernel) (by decide +kernel) (by decide) (fun _ _ h => by rw [h.1]; rfl) (fun _ U U' hal hh h => ⟨h.1, h.2.1.mv hal hh, h.2.2.1, h.2.2.2.1.mv hal hh, h.2.2.2.2⟩) (fun r U U' V V' h1 hal h2 h => Says01.mv r U U' V V' h1 hal h2 h) ?_
  intro p e s m args below meth c s₁ X0 hexec hbytes hml hret hlk hnm hown hh0 W hP
  obtain ⟨rfl, hA, tA, hB, tB⟩ := hP
  have a31 := hA.2.2.2
  have b31 := hB.2.2.2
  have hA0 := hA.mv X0.warmed.alike hh0
  have hB0 := hB.mv X0.warmed.alike hh0
  have c1 : Steps p.tables e below (s₁.setTop (entryFrame m #[.ref a, .ref b] 3)) (s₁.setTop (mkF m 0 #[.val (.ref a), .val (.ref b), .unset] [])) := entry rfl
  have c2 : Steps p.tables e below (s₁.setTop (entryFrame m #[.ref a, .ref b] 3)) (s₁.setTop (mkF m 4 #[.val (.ref a), .val (.ref b), .unset] [.int (Int32.ofNat B.slots.size), .int (Int32.ofNat A.slots.size)])) := c1.trans (by
    refine XS.aloadN X0.here hexec rfl (hb hbytes d0) rfl rfl ?_
    refine X0.alen hexec hA0 rfl rfl (hb hbytes d1) ?_
    refine XS.aloadN X0.here hexec rfl (hb hbytes d2) rfl rfl ?_
    refine X0.alen hexec hB0 rfl rfl (hb hbytes d3) ?_
    exact Steps.refl _)
  by_cases hs : A.slots.size = B.slots.size
  · have c3 : Steps p.tables e below (s₁.setTop (entryFrame m #[.ref a, .ref b] 3)) (s₁.setTop (mkF m 9 #[.val (.ref a), .val (.ref b), .val (.int 0)] [])) := c2.trans (by
      refine XS.icmpNo X0.here hexec rfl (hb hbytes d4) rfl (ii_ne_f (by rw [hs])) ?_
      refine iconstV X0.here hexec rfl 0 (hb hbytes d7) (by decide) ?_
      refine XS.istoreN X0.here hexec rfl (hb hbytes d8) rfl rfl ?_
      exact Steps.refl _)
    have loop : ∀ (r i : Nat), i + r = A.slots.size → (∀ j, j < i → yv A j = yv B j) → Steps p.tables e below (s₁.setTop (entryFrame m #[.ref a, .ref b] 3)) (s₁.setTop (mkF m 9 #[.val (.ref a), .val (.ref b), .val (.int (Int32.ofNat i))] [])) → ∃ (pc : Nat) (Ls : Array Slot) (v : Int32), (pc = 25 ∨ pc = 33) ∧ ((v = 1 ∧ EqC A B) ∨ (v = 0 ∧ ¬ EqC A B)) ∧ Steps p.tables e below (s₁.setTop (entryFrame m #[.ref a, .ref b] 3)) (s₁.setTop (mkF m pc Ls [.int v])) := by
      intro r
      induction r with
      | zero =>
        intro i hi he cl
        exact ⟨33, _, 1, Or.inr rfl, Or.inl ⟨rfl, hs, fun j hj => he j (by omega)⟩, cl.trans (by
          refine XS.iloadN X0.here hexec rfl (hb hbytes d9) rfl ?_
          refine XS.aloadN X0.here hexec rfl (hb hbytes d10) rfl rfl ?_
          refine X0.alen hexec hA0 rfl rfl (hb hbytes d11) ?_
          refine XS.icmpYes X0.here hexec rfl (pc0 := 12) rfl (hb hbytes d12) rfl (ii_ge_t (nlt32 (by omega) (by omega))) (by decide) rfl ?_
          refine iconstV X0.here hexec rfl 1 (hb hbytes d32) (by decide) ?_
          exact Steps.refl _)⟩
      | succ r ih =>
        intro i hi he cl
        have c4 : Steps p.tables e below (s₁.setTop (entryFrame m #[.ref a, .ref b] 3)) (s₁.setTop (mkF m 21 #[.val (.ref a), .val (.ref b), .val (.int (Int32.ofNat i))] [.int (yv B i), .int (yv A i)])) := cl.trans (by
          refine XS.iloadN X0.here hexec rfl (hb hbytes d9) rfl ?_
          refine XS.aloadN X0.here hexec rfl (hb hbytes d10) rfl rfl ?_
          refine X0.alen hexec hA0 rfl rfl (hb hbytes d11) ?_
          refine XS.icmpNo X0.here hexec rfl (hb hbytes d12) rfl (ii_ge_f (lt32 (by omega) (by omega))) ?_
          refine XS.aloadN X0.here hexec rfl (hb hbytes d15) rfl rfl ?_
          refine XS.iloadN X0.here hexec rfl (hb hbytes d16) rfl ?_
          refine X0.aget hexec hA0 rfl (yv_get hA tA (i := i) (by omega)) rfl rfl (hb hbytes d17) ?_
          refine XS.aloadN X0.here hexec rfl (hb hbytes d18) rfl rfl ?_
          refine XS.iloadN X0.here hexec rfl (hb hbytes d19) rfl ?_
          refine X0.aget hexec hB0 rfl (yv_get hB tB (i := i) (by omega)) rfl rfl (hb hbytes d20) ?_
          exact Steps.refl _)
        by_cases hv : yv A i = yv B i
        · have c5 : Steps p.tables e below (s₁.setTop (entryFrame m #[.ref a, .ref b] 3)) (s₁.setTop (mkF m 9 #[.val (.ref a), .val (.ref b), .val (.int (Int32.ofNat i + 1))] [])) := c4.trans (by
            refine XS.icmpYes X0.here hexec rfl (pc0 := 21) rfl (hb hbytes d21) rfl (ii_eq_t hv) (by decide) rfl ?_
            refine iincV X0.here hexec rfl 1 (hb hbytes d26) (by decide) rfl rfl ?_
            refine XS.goto X0.here hexec rfl (pc0 := 29) rfl (hb hbytes d29) (by decide) rfl ?_
            exact Steps.refl _)
          rw [succ32] at c5
          exact ih (i + 1) (by omega) (fun j hj => by
            by_cases e : j = i
            · rw [e]; exact hv
            · exact he j (by omega)) c5
        · exact ⟨25, _, 0, Or.inl rfl, Or.inr ⟨rfl, fun q => hv (q.2 i (by omega))⟩, c4.trans (by
            refine XS.icmpNo X0.here hexec rfl (hb hbytes d21) rfl (ii_eq_f hv) ?_
            refine iconstV X0.here hexec rfl 0 (hb hbytes d24) (by decide) ?_
            exact Steps.refl _)⟩
    obtain ⟨pc, Ls, v, hpc, hv, cz⟩ := loop A.slots.size 0 (by omega) (fun j hj => absurd hj (Nat.not_lt_zero j)) c3
    have nv : narrow .boolean (.int v) = .int v := by rcases hv with ⟨rfl, -⟩ | ⟨rfl, -⟩ <;> rfl
    rcases hpc with rfl | rfl
    · exact ⟨s₁, some (.int v), _, _, _, X0, rfl, rfl, rfl, (fun h => by cases h), ⟨v, rfl, hh0, hv⟩, fun fs hl => cz.trans (X0.ireturnOut hexec hret nv (Or.inr (Or.inl rfl)) (hb hbytes d25) hl)⟩
    · exact ⟨s₁, some (.int v), _, _, _, X0, rfl, rfl, rfl, (fun h => by cases h), ⟨v, rfl, hh0, hv⟩, fun fs hl => cz.trans (X0.ireturnOut hexec hret nv (Or.inr (Or.inl rfl)) (hb hbytes d33) hl)⟩
  · have c3 : Steps p.tables e below (s₁.setTop (entryFrame m #[.ref a, .ref b] 3)) (s₁.setTop (mkF m 35 #[.val (.ref a), .val (.ref b), .unset] [.int 0])) := c2.trans (by
      refine XS.icmpYes X0.here hexec rfl (pc0 := 4) rfl (hb hbytes d4) rfl (ii_ne_t (ne32 a31 b31 hs)) (by decide) rfl ?_
      refine iconstV X0.here hexec rfl 0 (hb hbytes d34) (by decide) ?_
      exact Steps.refl _)
    exact ⟨s₁, some (.int 0), _, _, _, X0, rfl, rfl, rfl, (fun h => by cases h), ⟨0, rfl, hh0, Or.inr ⟨rfl, fun q => hs q.1⟩⟩, fun fs hl => c3.trans (X0.ireturnOut hexec hret rfl (Or.inr (Or.inl rfl)) (hb hbytes d35) hl)⟩
end LEq
theorem Cod.ty {cd : Int32} {n : Nat} {f : Nat → Int32} {V : Cell} (h : Cod cd n f V) : Typed .byte V := fun i v hv => by
  have hi : i < V.slots.size := (Array.getElem?_eq_some_iff.mp hv).1
  rcases h with ⟨-, k1, k2⟩ | ⟨-, k1, k2, -⟩
  · rw [(k2 i (by omega)).1] at hv; cases hv; exact fits_lo8 _
  · rcases Nat.mod_two_eq_zero_or_one i with e | e
    · obtain ⟨j, rfl⟩ : ∃ j, i = 2 * j := ⟨i / 2, by omega⟩
      rw [(k2 j (by omega)).1] at hv; cases hv; exact fits_lo8 _
    · obtain ⟨j, rfl⟩ : ∃ j, i = 2 * j + 1 := ⟨i / 2, by omega⟩
      rw [(k2 j (by omega)).2] at hv; cases hv; exact fits_lo8 _
/-- the same text -/
def SameT (n : Nat) (f : Nat → Int32) (k : Nat) (g : Nat → Int32) : Prop := n = k ∧ ∀ j, j < n → f j = g j
theorem lo8_inj {x y : Int32} (h0 : ¬ x < 0) (h1 : ¬ 255 < x) (k0 : ¬ y < 0) (k1 : ¬ 255 < y) (h : lo8 x = lo8 y) : x = y := by
  rw [← lo8_mask h0 h1, ← lo8_mask k0 k1, h]
/-- arrays coded by one coder are equal just where the texts are -/
theorem Cod.eqv {cd : Int32} {n k : Nat} {f g : Nat → Int32} {V V' : Cell} (h : Cod cd n f V) (h' : Cod cd k g V') (hf : ∀ j, j < n → ¬ f j < 0 ∧ ¬ 65535 < f j) (hg : ∀ j, j < k → ¬ g j < 0 ∧ ¬ 65535 < g j) : EqC V V' ↔ SameT n f k g := by
  have yvv : ∀ {W : Cell} {i : Nat} {x : Int32}, W.slots[i]? = some (.int x) → yv W i = x := fun q => by unfold yv; rw [q]
  rcases h with ⟨rfl, k1, k2⟩ | ⟨rfl, k1, k2, -⟩
  · rcases h' with ⟨-, m1, m2⟩ | ⟨e, -⟩
    · constructor
      · rintro ⟨e1, e2⟩
        refine ⟨by omega, fun j hj => ?_⟩
        have q := e2 j (by omega)
        rw [yvv (k2 j hj).1, yvv (m2 j (by omega)).1] at q
        exact lo8_inj (hf j hj).1 (k2 j hj).2 (hg j (by omega)).1 (m2 j (by omega)).2 q
      · rintro ⟨rfl, e2⟩
        refine ⟨by omega, fun j hj => ?_⟩
        rw [yvv (k2 j (by omega)).1, yvv (m2 j (by omega)).1, e2 j (by omega)]
    · exact absurd e (by decide)
  · rcases h' with ⟨e, -⟩ | ⟨-, m1, m2, -⟩
    · exact absurd e (by decide)
    · constructor
      · rintro ⟨e1, e2⟩
        refine ⟨by omega, fun j hj => ?_⟩
        have q1 := e2 (2 * j) (by omega)
        have q2 := e2 (2 * j + 1) (by omega)
        rw [yvv (k2 j hj).1, yvv (m2 j (by omega)).1] at q1
        rw [yvv (k2 j hj).2, yvv (m2 j (by omega)).2] at q2
        rw [← pair_says (hf j hj).1 (hf j hj).2, ← pair_says (hg j (by omega)).1 (hg j (by omega)).2, q1, q2]
      · rintro ⟨rfl, e2⟩
        refine ⟨by omega, fun i hi => ?_⟩
        rcases Nat.mod_two_eq_zero_or_one i with e | e
        · obtain ⟨j, rfl⟩ : ∃ j, i = 2 * j := ⟨i / 2, by omega⟩
          rw [yvv (k2 j (by omega)).1, yvv (m2 j (by omega)).1, e2 j (by omega)]
        · obtain ⟨j, rfl⟩ : ∃ j, i = 2 * j + 1 := ⟨i / 2, by omega⟩
          rw [yvv (k2 j (by omega)).2, yvv (m2 j (by omega)).2, e2 j (by omega)]
/-- two codings differ: so do the texts -/
theorem Cod.dif {cd cd' : Int32} {n k : Nat} {f g : Nat → Int32} {V V' : Cell} (h : Cod cd n f V) (h' : Cod cd' k g V') (hne : ¬ cd = cd') : ¬ SameT n f k g := by
  rintro ⟨rfl, e⟩
  rcases h with ⟨rfl, -, k2⟩ | ⟨rfl, -, -, j, hj, hw⟩
  · rcases h' with ⟨rfl, -⟩ | ⟨-, -, -, j, hj, hw⟩
    · exact hne rfl
    · exact (k2 j hj).2 (by rw [e j hj]; exact hw)
  · rcases h' with ⟨-, -, m2⟩ | ⟨rfl, -⟩
    · exact (m2 j hj).2 (by rw [← e j hj]; exact hw)
    · exact hne rfl
/-- an object of exactly C is an instance of C -/
theorem cinst {p : Program} {l : Launch} {e : Env} {R : Room} {s : State} {m : MethodId} {args : Array Value} {below : List Frame} {meth : Method} {c : Code} {T : State} {locs : List Loc} {cells slots : Nat} (X : Stand p l e R s m args below meth c T locs cells slots) (hexec : p.tables.exec = Jvm.exec) {own C : String} {index : Nat} (hown : s.vm.findClass own = some m.cls) (hlink : (Cond.classLink own index C).before args s = true) {a : Addr} (hE : Exact C a T)
    {g : JFrame} (hg : g.method = m) {rest : List Value} (hstack : g.stack = .ref a :: rest) (hdg : decode c.code g.pc = .ok (.instanceof index, 3)) :
    ∃ T', Stand p l e R s m args below meth c T' locs cells slots ∧ T'.heap = T.heap ∧ ∀ target, Steps p.tables e below (T'.setTop { g with pc := g.pc + 3, stack := .int 1 :: rest }) target → Steps p.tables e below (T.setTop g) target := by
  obtain ⟨cB, h1, D, h2, h3, h4⟩ := hE
  have h1' : s.vm.findClass C = some cB := by rw [← X.warmed.alike.findClass]; exact h1
  obtain ⟨vm', X', st⟩ := X.instanceofYes hexec hown hlink h2 h4 h1' (by rw [h3]; exact Jvm.Free.SB.assignable_self _ _) hg hstack hdg
  exact ⟨_, X', rfl, st⟩
theorem cself {p : Program} {l : Launch} {e : Env} {R : Room} {s : State} {m : MethodId} {args : Array Value} {below : List Frame} {meth : Method} {c : Code} {T : State} {locs : List Loc} {cells slots : Nat} (X : Stand p l e R s m args below meth c T locs cells slots) (hexec : p.tables.exec = Jvm.exec) {own C : String} {index : Nat} (hown : s.vm.findClass own = some m.cls) (hlink : (Cond.classLink own index C).before args s = true) {a : Addr} (hE : Exact C a T)
    {g : JFrame} (hg : g.method = m) {rest : List Value} (hstack : g.stack = .ref a :: rest) (hdg : decode c.code g.pc = .ok (.checkcast index, 3)) :
    ∃ T', Stand p l e R s m args below meth c T' locs cells slots ∧ T'.heap = T.heap ∧ ∀ target, Steps p.tables e below (T'.setTop { g with pc := g.pc + 3, stack := .ref a :: rest }) target → Steps p.tables e below (T.setTop g) target := by
  obtain ⟨cB, h1, D, h2, h3, h4⟩ := hE
  have h1' : s.vm.findClass C = some cB := by rw [← X.warmed.alike.findClass]; exact h1
  obtain ⟨vm', X', st⟩ := X.checkcastYes hexec hown hlink h2 h4 h1' (by rw [h3]; exact Jvm.Free.SB.assignable_self _ _) hg hstack hdg
  exact ⟨_, X', rfl, fun t h => st t (by rw [← hstack] at h; exact h)⟩
namespace SEq
def yN : MethodName := ⟨"java/lang/String", "equals", "(Ljava/lang/Object;)Z"⟩
abbrev yB : ByteArray := jdk_42_method_66_code
theorem d0 : decode yB 0 = .ok (.aload_n 0, 1) := by decide +kernel
theorem d1 : decode yB 1 = .ok (.aload_n 1, 1) := by decide +kernel
theorem d2 : decode yB 2 = .ok (.if_acmp (.ne) 5, 3) := by decide +kernel
theorem d5 : decode yB 5 = .ok (.iconst 1, 1) := by decide +kernel
theorem d6 : decode yB 6 = .ok (.ireturn, 1) := by decide +kernel
theorem d7 : decode yB 7 = .ok (.aload_n 1, 1) := by decide +kernel
theorem d8 : decode yB 8 = .ok (.instanceof 10, 3) := by decide +kernel
theorem d11 : decode yB 11 = .ok (.ifCond (.eq) 43, 3) := by decide +kernel
theorem d14 : decode yB 14 = .ok (.aload_n 1, 1) := by decide +kernel
theorem d15 : decode yB 15 = .ok (.checkcast 10, 3) := by decide +kernel
theorem d18 : decode yB 18 = .ok (.astore_n 2, 1) := by decide +kernel
theorem d19 : decode yB 19 = .ok (.getstatic 38, 3) := by decide +kernel
theorem d22 : decode yB 22 = .ok (.ifCond (.eq) 14, 3) := by decide +kernel
theorem d25 : decode yB 25 = .ok (.aload_n 0, 1) := by decide +kernel
theorem d26 : decode yB 26 = .ok (.getfield 15, 3) := by decide +kernel
theorem d29 : decode yB 29 = .ok (.aload_n 2, 1) := by decide +kernel
theorem d30 : decode yB 30 = .ok (.getfield 15, 3) := by decide +kernel
theorem d33 : decode yB 33 = .ok (.if_icmp (.ne) 21, 3) := by decide +kernel
theorem d36 : decode yB 36 = .ok (.aload_n 0, 1) := by decide +kernel
theorem d37 : decode yB 37 = .ok (.getfield 9, 3) := by decide +kernel
theorem d40 : decode yB 40 = .ok (.aload_n 2, 1) := by decide +kernel
theorem d41 : decode yB 41 = .ok (.getfield 9, 3) := by decide +kernel
theorem d44 : decode yB 44 = .ok (.invokestatic 541, 3) := by decide +kernel
theorem d47 : decode yB 47 = .ok (.ifCond (.eq) 7, 3) := by decide +kernel
theorem d50 : decode yB 50 = .ok (.iconst 1, 1) := by decide +kernel
theorem d51 : decode yB 51 = .ok (.goto 4, 3) := by decide +kernel
theorem d54 : decode yB 54 = .ok (.iconst 0, 1) := by decide +kernel
theorem d55 : decode yB 55 = .ok (.ireturn, 1) := by decide +kernel
def site : List Cond := [.classLink "java/lang/String" 10 "java/lang/String", .fieldLink "java/lang/String" 38 "java/lang/String" "COMPACT_STRINGS" "Z", .fieldLink "java/lang/String" 15 "java/lang/String" "coder" "B", .fieldLink "java/lang/String" 9 "java/lang/String" "value" "[B", LEq.tab] ++ staticW "java/lang/String" 541 LEq.yN
def tab : Cond := tabOf yN yB 3 (some .boolean) site
def P (x t : Addr) (V : Cell) (cd : Int32) (n : Nat) (f : Nat → Int32) (y t' : Addr) (V' : Cell) (cd' : Int32) (k : Nat) (g : Nat → Int32) (z : Int32) (args : Array Value) (s : State) : Prop := args = #[.ref x, .ref y] ∧ Txt x t V cd n f s ∧ Txt y t' V' cd' k g s ∧ StaticIs s "java/lang/String" "COMPACT_STRINGS" "Z" (.int z) ∧ ¬ z = 0
/-- equals(Object) of two Strings: whether the texts are the same -/
theorem law (l : Launch) (x t : Addr) (V : Cell) (cd : Int32) (n : Nat) (f : Nat → Int32) (y t' : Addr) (V' : Cell) (cd' : Int32) (k : Nat) (g : Nat → Int32) (z : Int32) : Law l yN 2 1 1 14 yB 3 (some .boolean) site (P x t V cd n f y t' V' cd' k g z) (Says01 (SameT n f k g)) [] 0 0 := by
  refine Law.of_walk (plainFor_of_name (by decide +kernel)) (by decide +kernel) (by decide +kernel) (by decide) (fun _ _ h => by rw [h.1]; rfl) (fun _ U U' hal hh h => ⟨h.1, h.2.1.mv hal hh, h.2.2.1.mv hal hh, h.2.2.2.1.there hal hh, h.2.2.2.2⟩) (fun r U U' V V' h1 hal h2 h => Says01.mv r U U' V V' h1 hal h2 h) ?_
  intro p e s m args below meth c s₁ X0 hexec hbytes hml hret hlk hnm hown hh0 W hP
  obtain ⟨rfl, hx, hy, s1, hz⟩ := hP
  have c1 : Steps p.tables e below (s₁.setTop (entryFrame m #[.ref x, .ref y] 3)) (s₁.setTop (mkF m 2 #[.val (.ref x), .val (.ref y), .unset] [.ref y, .ref x])) := Steps.trans (entry rfl) (by
    show Steps p.tables e below (s₁.setTop (mkF m 0 #[.val (.ref x), .val (.ref y), .unset] [])) _
    refine XS.aloadN X0.here hexec rfl (hb hbytes d0) rfl rfl ?_
    refine XS.aloadN X0.here hexec rfl (hb hbytes d1) rfl rfl ?_
    exact Steps.refl _)
  by_cases hxy : x = y
  · have c2 : Steps p.tables e below (s₁.setTop (entryFrame m #[.ref x, .ref y] 3)) (s₁.setTop (mkF m 6 #[.val (.ref x), .val (.ref y), .unset] [.int 1])) := c1.trans (by
      refine acmpNo X0.here hexec rfl (hb hbytes d2) rfl rfl rfl (by simp [acmp, hxy]) ?_
      refine iconstV X0.here hexec rfl 1 (hb hbytes d5) (by decide) ?_
      exact Steps.refl _)
    subst hxy
    have ec : cd = cd' := by
      obtain ⟨D, fd, a1, a2, a3⟩ := hx.2.2.1
      obtain ⟨D', fd', b1, b2, b3⟩ := hy.2.2.1
      cases a1.symm.trans b1
      obtain ⟨q1, q2, q3, q4⟩ := a2.1
      obtain ⟨r1, r2, r3, r4⟩ := b2.1
      cases q4.symm.trans r4
      cases a3.symm.trans b3; rfl
    have et : t = t' := by
      obtain ⟨D, fd, a1, a2, a3⟩ := hx.2.1
      obtain ⟨D', fd', b1, b2, b3⟩ := hy.2.1
      cases a1.symm.trans b1
      obtain ⟨q1, q2, q3, q4⟩ := a2.1
      obtain ⟨r1, r2, r3, r4⟩ := b2.1
      cases q4.symm.trans r4
      cases a3.symm.trans b3; rfl
    subst ec et
    have ev : V = V' := by cases hx.2.2.2.1.1.symm.trans hy.2.2.2.1.1; rfl
    subst ev
    have hs : SameT n f k g := (Cod.eqv hx.2.2.2.2.1 hy.2.2.2.2.1 hx.2.2.2.2.2 hy.2.2.2.2.2).mp ⟨rfl, fun _ _ => rfl⟩
    exact ⟨s₁, some (.int 1), _, _, _, X0, rfl, rfl, rfl, (fun h => by cases h), ⟨1, rfl, hh0, Or.inl ⟨rfl, hs⟩⟩, fun fs hl => c2.trans (X0.ireturnOut hexec hret rfl (Or.inr (Or.inl rfl)) (hb hbytes d6) hl)⟩
  · have c2 : Steps p.tables e below (s₁.setTop (entryFrame m #[.ref x, .ref y] 3)) (s₁.setTop (mkF m 8 #[.val (.ref x), .val (.ref y), .unset] [.ref y])) := c1.trans (by
      refine acmpYes X0.here hexec rfl (pc0 := 2) rfl (hb hbytes d2) rfl rfl rfl (by simp [acmp, hxy]) (by decide) rfl ?_
      refine XS.aloadN X0.here hexec rfl (hb hbytes d7) rfl rfl ?_
      exact Steps.refl _)
    obtain ⟨T3, X3, q3, st3⟩ := cinst X0 hexec hown (wk W (.classLink "java/lang/String" 10 "java/lang/String")) (hy.mv X0.warmed.alike hh0).1 (g := (mkF m 8 #[.val (.ref x), .val (.ref y), .unset] [.ref y])) rfl (rest := []) rfl (hb hbytes d8)
    have hh3 := q3.trans hh0
    have c4 : Steps p.tables e below (s₁.setTop (entryFrame m #[.ref x, .ref y] 3)) (T3.setTop (mkF m 15 #[.val (.ref x), .val (.ref y), .unset] [.ref y])) := (c2.trans (st3 _ (Steps.refl _))).trans (by
      refine XS.ifNo X3.here hexec rfl (hb hbytes d11) rfl (i0_eq_f (by decide)) ?_
      refine XS.aloadN X3.here hexec rfl (hb hbytes d14) rfl rfl ?_
      exact Steps.refl _)
    obtain ⟨T5, X5, q5, st5⟩ := cself X3 hexec hown (wk W (.classLink "java/lang/String" 10 "java/lang/String")) (hy.mv X3.warmed.alike hh3).1 (g := (mkF m 15 #[.val (.ref x), .val (.ref y), .unset] [.ref y])) rfl (rest := []) rfl (hb hbytes d15)
    have hh5 := q5.trans hh3
    have c6 : Steps p.tables e below (s₁.setTop (entryFrame m #[.ref x, .ref y] 3)) (T5.setTop (mkF m 19 #[.val (.ref x), .val (.ref y), .val (.ref y)] [])) := (c4.trans (st5 _ (Steps.refl _))).trans (by
      refine XS.astoreN X5.here hexec rfl (hb hbytes d18) rfl rfl rfl ?_
      exact Steps.refl _)
    obtain ⟨T7, X7, q7, st7⟩ := X5.sget hexec hown (wk W (.fieldLink "java/lang/String" 38 "java/lang/String" "COMPACT_STRINGS" "Z")) s1 (fun _ _ h => by rw [hh5]; exact h) (g := (mkF m 19 #[.val (.ref x), .val (.ref y), .val (.ref y)] [])) rfl (hb hbytes d19)
    have hh7 := q7.trans hh5
    have c8 : Steps p.tables e below (s₁.setTop (entryFrame m #[.ref x, .ref y] 3)) (T7.setTop (mkF m 26 #[.val (.ref x), .val (.ref y), .val (.ref y)] [.ref x])) := (c6.trans (st7 _ (Steps.refl _))).trans (by
      refine XS.ifNo X7.here hexec rfl (hb hbytes d22) rfl (i0_eq_f hz) ?_
      refine XS.aloadN X7.here hexec rfl (hb hbytes d25) rfl rfl ?_
      exact Steps.refl _)
    obtain ⟨T9, X9, q9, st9⟩ := X7.hget hexec hown (wk W (.fieldLink "java/lang/String" 15 "java/lang/String" "coder" "B")) (hx.mv X7.warmed.alike hh7).2.2.1 (g := (mkF m 26 #[.val (.ref x), .val (.ref y), .val (.ref y)] [.ref x])) rfl (rest := []) rfl (hb hbytes d26)
    have hh9 := q9.trans hh7
    have c10 : Steps p.tables e below (s₁.setTop (entryFrame m #[.ref x, .ref y] 3)) (T9.setTop (mkF m 30 #[.val (.ref x), .val (.ref y), .val (.ref y)] [.ref y, .int cd])) := (c8.trans (st9 _ (Steps.refl _))).trans (by
      refine XS.aloadN X9.here hexec rfl (hb hbytes d29) rfl rfl ?_
      exact Steps.refl _)
    obtain ⟨T11, X11, q11, st11⟩ := X9.hget hexec hown (wk W (.fieldLink "java/lang/String" 15 "java/lang/String" "coder" "B")) (hy.mv X9.warmed.alike hh9).2.2.1 (g := (mkF m 30 #[.val (.ref x), .val (.ref y), .val (.ref y)] [.ref y, .int cd])) rfl (rest := [.int cd]) rfl (hb hbytes d30)
    have hh11 := q11.trans hh9
    have c12 : Steps p.tables e below (s₁.setTop (entryFrame m #[.ref x, .ref y] 3)) (T11.setTop (mkF m 33 #[.val (.ref x), .val (.ref y), .val (.ref y)] [.int cd', .int cd])) := c10.trans (st11 _ (Steps.refl _))
    by_cases hcd : cd = cd'
    · subst hcd
      have c13 : Steps p.tables e below (s₁.setTop (entryFrame m #[.ref x, .ref y] 3)) (T11.setTop (mkF m 37 #[.val (.ref x), .val (.ref y), .val (.ref y)] [.ref x])) := c12.trans (by
        refine XS.icmpNo X11.here hexec rfl (hb hbytes d33) rfl (ii_ne_f rfl) ?_
        refine XS.aloadN X11.here hexec rfl (hb hbytes d36) rfl rfl ?_
        exact Steps.refl _)
      obtain ⟨T14, X14, q14, st14⟩ := X11.hget hexec hown (wk W (.fieldLink "java/lang/String" 9 "java/lang/String" "value" "[B")) (hx.mv X11.warmed.alike hh11).2.1 (g := (mkF m 37 #[.val (.ref x), .val (.ref y), .val (.ref y)] [.ref x])) rfl (rest := []) rfl (hb hbytes d37)
      have hh14 := q14.trans hh11
      have c15 : Steps p.tables e below (s₁.setTop (entryFrame m #[.ref x, .ref y] 3)) (T14.setTop (mkF m 41 #[.val (.ref x), .val (.ref y), .val (.ref y)] [.ref y, .ref t])) := (c13.trans (st14 _ (Steps.refl _))).trans (by
        refine XS.aloadN X14.here hexec rfl (hb hbytes d40) rfl rfl ?_
        exact Steps.refl _)
      obtain ⟨T16, X16, q16, st16⟩ := X14.hget hexec hown (wk W (.fieldLink "java/lang/String" 9 "java/lang/String" "value" "[B")) (hy.mv X14.warmed.alike hh14).2.1 (g := (mkF m 41 #[.val (.ref x), .val (.ref y), .val (.ref y)] [.ref y, .ref t])) rfl (rest := [.ref t]) rfl (hb hbytes d41)
      have hh16 := q16.trans hh14
      have c17 : Steps p.tables e below (s₁.setTop (entryFrame m #[.ref x, .ref y] 3)) (T16.setTop (mkF m 44 #[.val (.ref x), .val (.ref y), .val (.ref y)] [.ref t', .ref t])) := c15.trans (st16 _ (Steps.refl _))
      obtain ⟨v18, T18, X18, E18, g18⟩ := X16.callS hexec (LEq.law l t V t' V') hown (wks W (staticW "java/lang/String" 541 LEq.yN)) (wk W LEq.tab) (W := 0) (Nat.le_of_ble_eq_true rfl) (Nat.le_of_ble_eq_true rfl) (Nat.le_refl _) (Nat.le_refl _) (g := (mkF m 44 #[.val (.ref x), .val (.ref y), .val (.ref y)] [.ref t', .ref t])) rfl (by rw [hml]; rfl) c17 (argsL := [.ref t, .ref t']) (rest := []) rfl rfl (by show 2 * 0 + 0 ≤ _; decide) (hb hbytes d44) (⟨rfl, hx.2.2.2.1.mv X16.warmed.alike hh16, hx.2.2.2.2.1.ty, hy.2.2.2.1.mv X16.warmed.alike hh16, hy.2.2.2.2.1.ty⟩)
      obtain ⟨v, rfl, q18, hv⟩ := E18
      have iff := Cod.eqv hx.2.2.2.2.1 hy.2.2.2.2.1 hx.2.2.2.2.2 hy.2.2.2.2.2
      rcases hv with ⟨rfl, he⟩ | ⟨rfl, he⟩
      · have c19 : Steps p.tables e below (s₁.setTop (entryFrame m #[.ref x, .ref y] 3)) (T18.setTop (mkF m 55 #[.val (.ref x), .val (.ref y), .val (.ref y)] [.int 1])) := Steps.trans g18 (by
          refine XS.ifNo X18.here hexec rfl (hb hbytes d47) rfl (i0_eq_f (by decide)) ?_
          refine iconstV X18.here hexec rfl 1 (hb hbytes d50) (by decide) ?_
          refine XS.goto X18.here hexec rfl (pc0 := 51) rfl (hb hbytes d51) (by decide) rfl ?_
          exact Steps.refl _)
        exact ⟨T18, some (.int 1), _, _, _, X18, rfl, rfl, rfl, (fun h => by cases h), ⟨1, rfl, q18.trans hh16, Or.inl ⟨rfl, iff.mp he⟩⟩, fun fs hl => c19.trans (X18.ireturnOut hexec hret rfl (Or.inr (Or.inl rfl)) (hb hbytes d55) hl)⟩
      · have c19 : Steps p.tables e below (s₁.setTop (entryFrame m #[.ref x, .ref y] 3)) (T18.setTop (mkF m 55 #[.val (.ref x), .val (.ref y), .val (.ref y)] [.int 0])) := Steps.trans g18 (by
          refine XS.ifYes X18.here hexec rfl (pc0 := 47) rfl (hb hbytes d47) rfl (i0_eq_t rfl) (by decide) rfl ?_
          refine iconstV X18.here hexec rfl 0 (hb hbytes d54) (by decide) ?_
          exact Steps.refl _)
        exact ⟨T18, some (.int 0), _, _, _, X18, rfl, rfl, rfl, (fun h => by cases h), ⟨0, rfl, q18.trans hh16, Or.inr ⟨rfl, fun q => he (iff.mpr q)⟩⟩, fun fs hl => c19.trans (X18.ireturnOut hexec hret rfl (Or.inr (Or.inl rfl)) (hb hbytes d55) hl)⟩
    · have c13 : Steps p.tables e below (s₁.setTop (entryFrame m #[.ref x, .ref y] 3)) (T11.setTop (mkF m 55 #[.val (.ref x), .val (.ref y), .val (.ref y)] [.int 0])) := c12.trans (by
        refine XS.icmpYes X11.here hexec rfl (pc0 := 33) rfl (hb hbytes d33) rfl (ii_ne_t hcd) (by decide) rfl ?_
        refine iconstV X11.here hexec rfl 0 (hb hbytes d54) (by decide) ?_
        exact Steps.refl _)
      exact ⟨T11, some (.int 0), _, _, _, X11, rfl, rfl, rfl, (fun h => by cases h), ⟨0, rfl, hh11, Or.inr ⟨rfl, Cod.dif hx.2.2.2.2.1 hy.2.2.2.2.1 hcd⟩⟩, fun fs hl => c13.trans (X11.ireturnOut hexec hret rfl (Or.inr (Or.inl rfl)) (hb hbytes d55) hl)⟩
theorem pays {l : Launch} {R : Room} {p : Program} {e : Env} {below : List Frame} {s : State} {sargs : Array Value} {len W : Nat} (x t : Addr) (V : Cell) (cd : Int32) (n : Nat) (f : Nat → Int32) (y t' : Addr) (V' : Cell) (cd' : Int32) (k : Nat) (g : Nat → Int32) (z : Int32) (htab : tab.before sargs s = true) (hfr : 2 ≤ R.frames) (hlo : W + 28 ≤ R.locals) :
    Back l R p e below s sargs yN len W (fun A₁ a₁ => A₁.cells + 0 ≤ R.cells ∧ A₁.slots + 0 ≤ R.slots ∧ P x t V cd n f y t' V' cd' k g z a₁ A₁.U) (fun A₁ _ v₁ B₁ => Says01 (SameT n f k g) v₁ A₁.U B₁.U ∧ B₁.locs = A₁.locs ++ [] ∧ B₁.cells = A₁.cells + 0 ∧ B₁.slots = A₁.slots + 0) :=
  (law l x t V cd n f y t' V' cd' k g z).pays htab hfr (by omega)
end SEq
end StrChars
namespace StrChars.Road
open Jvm Sem ClassFile Op Lib Jvm.Stand Jvm.Free Jvm.Free.XT
open Jvm.Lib.Cold (StaticIs)
/-- the words of String.equals(Object) -/
abbrev wordsEq : List Jvm.Cond := [.code SEq.yN SEq.yB 3 (some .boolean), .initialized ST, .classLink ST 10 ST, .fieldLink ST 38 ST "COMPACT_STRINGS" "Z", .fieldLink ST 15 ST "coder" "B", .fieldLink ST 9 ST "value" "[B", .methodLink ST 541 LEq.yN, .static LEq.yN, .code LEq.yN LEq.yB 3 (some .boolean), .initialized "java/lang/StringLatin1"]
theorem tabEq_of {a : Array Value} {s : State} (h : ∀ w ∈ wordsEq, w.before a s = true) : SEq.tab.before a s = true := by
  have hl : LEq.tab.before a s = true := unparts (wk h (.code LEq.yN LEq.yB 3 (some .boolean))) (wks h (.initialized LEq.yN.cls :: LEq.site))
  have q := consq hl h
  exact unparts (wk q (.code SEq.yN SEq.yB 3 (some .boolean))) (wks q (.initialized SEq.yN.cls :: SEq.site))
theorem movedEq {Z s : State} {a0 args : Array Value} (hZ : Z.Warmed39 s.vm) (hw : ∀ d ∈ wordsEq, d.before a0 Z = true) : ∀ d ∈ wordsEq, d.before args s = true := fun d hd => by
  have t : ∀ d ∈ wordsEq, (d.onTables && d.keepsFace) = true := by decide +kernel
  exact RoadKit.mv hZ (hw d hd) (t d hd)
/-- the road's facts of a String, as the laws ask it -/
theorem txt_of {Z U : State} {a0 : Array Value} {kI : Nat} (wi : (Jvm.Cond.instantiable ST kI).before a0 Z = true) (al : Z.vm.Alike U.vm) {x t : Addr} {kb : ClassId} {cs : List Int32} {cd N2 : Int32} {vs : List Value} (E : RoadKit.Exa Z U.heap x ST) (V : RoadKit.Fld Z U.heap x ST "value" "[B" (.ref t)) (C : RoadKit.Fld Z U.heap x ST "coder" "B" (.int cd)) (K : RoadKit.Arv Z U.heap t kb .byte N2 vs (.int 0)) (hc : CodA cs cd N2 vs) (hb : ∀ c ∈ cs, ¬ c < 0 ∧ ¬ (65535 : Int32) < c) (l2 : cs.length ≤ 4000) :
    ∃ A, Txt x t A cd cs.length (fun j => cs.getD j 0) U := by
  obtain ⟨A, K1, K2, K3, K4, K5, K6⟩ := K
  have hcod := hc.cod (by omega) K3 K5
  obtain ⟨D, fV, fC, hB, F1, F2, g1, g2, -, -⟩ := strObj wi al E V C
  exact ⟨A, ⟨_, hB.2.2.1, D, hB.1, rfl, by cases q : D.vm <;> first | rfl | exact absurd q (hB.2.1.2 _)⟩, Has.of hB F1 g1, Has.of hB F2 g2, ⟨K1.1, State.isArrayOf_alike al K1.2.1, K1.2.2, by rcases hcod with ⟨-, q, -⟩ | ⟨-, q, -⟩ <;> omega⟩, hcod, fun j hj => by
    have e : cs.getD j 0 = cs[j] := by simp [List.getD_eq_getElem?_getD, hj]
    show ¬ cs.getD j 0 < 0 ∧ ¬ 65535 < cs.getD j 0
    rw [e]; exact hb _ (List.getElem_mem _)⟩
theorem same_list (cs ds : List Int32) : SameT cs.length (fun j => cs.getD j 0) ds.length (fun j => ds.getD j 0) ↔ cs = ds := by
  constructor
  · rintro ⟨e, q⟩
    refine List.ext_getElem e fun j h1 h2 => ?_
    have := q j h1
    simpa [List.getD_eq_getElem?_getD, h1, h2] using this
  · rintro rfl
    exact ⟨rfl, fun _ _ => rfl⟩
/-- **equals(Object) OF TWO SUCH STRINGS**: 1 just where the chars are the same -/
theorem eqW {p : Program} {l : Launch} {e : Env} {R : Room} {s : State} {args : Array Value} {below : List Frame} {len W : Nat} {Z : State} {a0 : Array Value} {h : Heap} (hZ : Z.Warmed39 s.vm) (hw : ∀ d ∈ wordsEq, d.before a0 Z = true) {kI : Nat} (wi : (Jvm.Cond.instantiable ST kI).before a0 Z = true)
    {x t : Addr} {kb : ClassId} {cs : List Int32} {cd N2 : Int32} {vs : List Value} (E : RoadKit.Exa Z h x ST) (V : RoadKit.Fld Z h x ST "value" "[B" (.ref t)) (C : RoadKit.Fld Z h x ST "coder" "B" (.int cd)) (K : RoadKit.Arv Z h t kb .byte N2 vs (.int 0)) (hc : CodA cs cd N2 vs) (hb : ∀ c ∈ cs, ¬ c < 0 ∧ ¬ (65535 : Int32) < c) (l2 : cs.length ≤ 4000)
    {y t' : Addr} {kb' : ClassId} {ds : List Int32} {cd' N2' : Int32} {vs' : List Value} (E' : RoadKit.Exa Z h y ST) (V' : RoadKit.Fld Z h y ST "value" "[B" (.ref t')) (C' : RoadKit.Fld Z h y ST "coder" "B" (.int cd')) (K' : RoadKit.Arv Z h t' kb' .byte N2' vs' (.int 0)) (hc' : CodA ds cd' N2' vs') (hb' : ∀ c ∈ ds, ¬ c < 0 ∧ ¬ (65535 : Int32) < c) (l2' : ds.length ≤ 4000)
    {z : Int32} (S : RoadKit.Sta Z h ST "COMPACT_STRINGS" "Z" (.int z)) (hz : ¬ z = 0) (hfr : 2 ≤ R.frames) (hlo : W + 28 ≤ R.locals) :
    Back l R p e below s args (⟨"java/lang/String", "equals", "(Ljava/lang/Object;)Z"⟩ : MethodName) len W (fun P a => a = #[.ref x, .ref y] ∧ P.U.heap = h ∧ P.cells + 0 ≤ R.cells ∧ P.slots + 0 ≤ R.slots)
      (fun P _ v B => ∃ L, (((v = some (.int 1) ∧ cs = ds) ∨ (v = some (.int 0) ∧ ¬ cs = ds)) ∧ L = [] ∧ B.U.heap = h) ∧ B.locs = P.locs ++ L ∧ B.cells = P.cells + 0 ∧ B.slots = P.slots + 0) := by
  intro m meth c P g ig mk a X hg hsize hdg hW hn hp'
  obtain ⟨rfl, rfl, r1, r2⟩ := hp'
  have al : Z.vm.Alike P.U.vm := hZ.alike.trans X.warmed.alike
  obtain ⟨A, hx⟩ := txt_of wi al E V C K hc hb l2
  obtain ⟨A', hy⟩ := txt_of wi al E' V' C' K' hc' hb' l2'
  obtain ⟨v, B, X', ⟨⟨w, hv, hh, hq⟩, hl, hk, hs⟩, st⟩ := SEq.pays x t A cd cs.length (fun j => cs.getD j 0) y t' A' cd' ds.length (fun j => ds.getD j 0) z (tabEq_of (movedEq hZ hw)) hfr hlo m meth c P g ig mk _ X hg hsize hdg hW hn ⟨r1, r2, rfl, hx, hy, sta_is al S, hz⟩
  refine ⟨v, B, X', ⟨[], ⟨?_, rfl, hh⟩, hl, hk, hs⟩, st⟩
  rcases hq with ⟨rfl, q⟩ | ⟨rfl, q⟩
  · exact Or.inl ⟨hv, (same_list cs ds).mp q⟩
  · exact Or.inr ⟨hv, fun e => q ((same_list cs ds).mpr e)⟩
end StrChars.Road
namespace StrChars
open Jvm Sem ClassFile Op Lib Jvm.Stand Jvm.Free.XT Jvm.Free.ALB Jvm.Free.JM Jvm.Free
open Jvm.Lib.Cold (StaticIs)
namespace ChN
def yN : MethodName := ⟨"java/lang/String", "charAt", "(I)C"⟩
abbrev yB : ByteArray := jdk_42_method_56_code
theorem d0 : decode yB 0 = .ok (.aload_n 0, 1) := by decide +kernel
theorem d1 : decode yB 1 = .ok (.invokevirtual 492, 3) := by decide +kernel
theorem d4 : decode yB 4 = .ok (.ifCond (.eq) 12, 3) := by decide +kernel
theorem d7 : decode yB 7 = .ok (.aload_n 0, 1) := by decide +kernel
theorem d8 : decode yB 8 = .ok (.getfield 9, 3) := by decide +kernel
theorem d11 : decode yB 11 = .ok (.iload_n 1, 1) := by decide +kernel
theorem d12 : decode yB 12 = .ok (.invokestatic 495, 3) := by decide +kernel
theorem d15 : decode yB 15 = .ok (.ireturn, 1) := by decide +kernel
def site : List Cond := [.fieldLink "java/lang/String" 9 "java/lang/String" "value" "[B", IsL.tab, LChA.tab] ++ virtW "java/lang/String" 492 "java/lang/String" IsL.yN IsL.yN ++ staticW "java/lang/String" 495 LChA.yN
def tab : Cond := tabOf yN yB 2 (some .char) site
def P (x t : Addr) (V : Cell) (n : Nat) (f : Nat → Int32) (z : Int32) (fm : Value) (i : Nat) (args : Array Value) (s : State) : Prop := args = #[.ref x, .int (Int32.ofNat i)] ∧ Txt x t V 0 n f s ∧ i < n ∧ StaticIs s "java/lang/String" "COMPACT_STRINGS" "Z" (.int z) ∧ ¬ z = 0 ∧ StaticIs s "jdk/internal/util/Preconditions" "SIOOBE_FORMATTER" "Ljava/util/function/BiFunction;" fm ∧ fm.isRef = true
def E (f : Nat → Int32) (i : Nat) (r : Option Value) (s u : State) : Prop := XT.PureE (some (.int (f i))) r s u
/-- charAt(i) of a Latin-1 String of n chars, i < n: f i -/
theorem law (l : Launch) (x t : Addr) (V : Cell) (n : Nat) (f : Nat → Int32) (z : Int32) (fm : Value) (i : Nat) : Law l yN 2 1 3 40 yB 2 (some .char) site (P x t V n f z fm i) (E f i) [] 0 0 := by
  refine Law.of_walk (plainFor_of_name (by decide +kernel)) (by decide +kernel) (by decide +kernel) (by decide) (fun _ _ h => by rw [h.1]; rfl) (fun _ U U' hal hh h => ⟨h.1, h.2.1.mv hal hh, h.2.2.1, h.2.2.2.1.there hal hh, h.2.2.2.2.1, h.2.2.2.2.2.1.there hal hh, h.2.2.2.2.2.2⟩) (fun r U U' V V' h1 hal h2 h => XT.PureE.mv r U U' V V' h1 hal h2 h) ?_
  intro p e s m args below meth c s₁ X0 hexec hbytes hml hret hlk hnm hown hh0 W hP
  obtain ⟨rfl, hx, hi, s1, hz, s3, rf⟩ := hP
  have v31 := hx.2.2.2.1.2.2.2
  have hr := hx.2.2.2.2.2 i hi
  have hx0 := hx.mv X0.warmed.alike hh0
  have c1 : Steps p.tables e below (s₁.setTop (entryFrame m #[.ref x, .int (Int32.ofNat i)] 2)) (s₁.setTop (mkF m 1 #[.val (.ref x), .val (.int (Int32.ofNat i))] [.ref x])) := Steps.trans (entry rfl) (by
    show Steps p.tables e below (s₁.setTop (mkF m 0 #[.val (.ref x), .val (.int (Int32.ofNat i))] [])) _
    refine XS.aloadN X0.here hexec rfl (hb hbytes d0) rfl rfl ?_
    exact Steps.refl _)
  obtain ⟨v2, T2, X2, E2, g2⟩ := X0.callV hexec (IsL.law l x 0 z) hown (wks W (virtW "java/lang/String" 492 "java/lang/String" IsL.yN IsL.yN)) rfl (by decide) (wk W IsL.tab) (W := 0) (Nat.le_of_ble_eq_true rfl) (Nat.le_of_ble_eq_true rfl) (Nat.le_refl _) (Nat.le_refl _) (hx0.1.fc X0.warmed.alike) hx0.1.is (g := (mkF m 1 #[.val (.ref x), .val (.int (Int32.ofNat i))] [.ref x])) rfl (by rw [hml]; rfl) c1 (argsL := []) (rest := []) rfl rfl (by show 2 * 0 + 0 ≤ _; decide) (hb hbytes d1) (⟨rfl, hx0.2.2.1, hx.2.2.2.2.1.cd, s1.there X0.warmed.alike hh0, hz⟩)
  obtain ⟨rfl, q2⟩ := E2
  have hh2 := q2.trans hh0
  have hx2 := hx.mv X2.warmed.alike hh2
  obtain ⟨-, k1, k2⟩ | ⟨k0, -⟩ := hx.2.2.2.2.1
  · have c3 : Steps p.tables e below (s₁.setTop (entryFrame m #[.ref x, .int (Int32.ofNat i)] 2)) (T2.setTop (mkF m 8 #[.val (.ref x), .val (.int (Int32.ofNat i))] [.ref x])) := Steps.trans g2 (by
      refine XS.ifNo X2.here hexec rfl (hb hbytes d4) rfl (i0_eq_f (by decide)) ?_
      refine XS.aloadN X2.here hexec rfl (hb hbytes d7) rfl rfl ?_
      exact Steps.refl _)
    obtain ⟨T4, X4, q4, st4⟩ := X2.hget hexec hown (wk W (.fieldLink "java/lang/String" 9 "java/lang/String" "value" "[B")) hx2.2.1 (g := (mkF m 8 #[.val (.ref x), .val (.int (Int32.ofNat i))] [.ref x])) rfl (rest := []) rfl (hb hbytes d8)
    have hh4 := q4.trans hh2
    have c5 : Steps p.tables e below (s₁.setTop (entryFrame m #[.ref x, .int (Int32.ofNat i)] 2)) (T4.setTop (mkF m 12 #[.val (.ref x), .val (.int (Int32.ofNat i))] [.int (Int32.ofNat i), .ref t])) := (c3.trans (st4 _ (Steps.refl _))).trans (by
      refine XS.iloadN X4.here hexec rfl (hb hbytes d11) rfl ?_
      exact Steps.refl _)
    obtain ⟨v6, T6, X6, E6, g6⟩ := X4.callS hexec (LChA.law l t V i (lo8 (f i)) fm) hown (wks W (staticW "java/lang/String" 495 LChA.yN)) (wk W LChA.tab) (W := 0) (Nat.le_of_ble_eq_true rfl) (Nat.le_of_ble_eq_true rfl) (Nat.le_refl _) (Nat.le_refl _) (g := (mkF m 12 #[.val (.ref x), .val (.int (Int32.ofNat i))] [.int (Int32.ofNat i), .ref t])) rfl (by rw [hml]; rfl) c5 (argsL := [.ref t, .int (Int32.ofNat i)]) (rest := []) rfl rfl (by show 2 * 0 + 0 ≤ _; decide) (hb hbytes d12) (⟨rfl, hx.2.2.2.1.mv X4.warmed.alike hh4, (k2 i hi).1, s3.there X4.warmed.alike hh4, rf⟩)
    obtain ⟨rfl, q6⟩ := E6
    rw [chr8_lo8 hr.1 (k2 i hi).2] at g6
    exact ⟨T6, some (.int (f i)), _, _, _, X6, rfl, rfl, rfl, (fun h => by cases h), ⟨rfl, q6.trans hh4⟩, fun fs hl => Steps.trans g6 (X6.ireturnOut hexec hret (narrow_ch hr.1 hr.2) (Or.inr (Or.inr (Or.inr (Or.inl rfl)))) (hb hbytes d15) hl)⟩
  · exact absurd k0 (by decide)
theorem pays {l : Launch} {R : Room} {p : Program} {e : Env} {below : List Frame} {s : State} {sargs : Array Value} {len W : Nat} (x t : Addr) (V : Cell) (n : Nat) (f : Nat → Int32) (z : Int32) (fm : Value) (i : Nat) (htab : tab.before sargs s = true) (hfr : 4 ≤ R.frames) (hlo : W + 53 ≤ R.locals) :
    Back l R p e below s sargs yN len W (fun A₁ a₁ => A₁.cells + 0 ≤ R.cells ∧ A₁.slots + 0 ≤ R.slots ∧ P x t V n f z fm i a₁ A₁.U) (fun A₁ _ v₁ B₁ => E f i v₁ A₁.U B₁.U ∧ B₁.locs = A₁.locs ++ [] ∧ B₁.cells = A₁.cells + 0 ∧ B₁.slots = A₁.slots + 0) :=
  (law l x t V n f z fm i).pays htab hfr (by omega)
end ChN
end StrChars
namespace StrChars.Road
open Jvm Sem ClassFile Op Lib Jvm.Stand Jvm.Free Jvm.Free.XT
open Jvm.Lib.Cold (StaticIs)
/-- the words of String.charAt(int), the Latin-1 road alone -/
abbrev wordsChN : List Jvm.Cond := [.code ChN.yN ChN.yB 2 (some .char), .initialized ST, .fieldLink ST 9 ST "value" "[B", .fieldLink ST 38 ST "COMPACT_STRINGS" "Z", .fieldLink ST 15 ST "coder" "B", .code IsL.yN IsL.yB 1 (some .boolean), .methodLink ST 492 IsL.yN, .declares IsL.yN, .selects ST IsL.yN IsL.yN, .instanceMethod IsL.yN,
  .methodLink ST 495 LChA.yN, .static LChA.yN, .code LChA.yN LChA.yB 2 (some .char), .initialized "java/lang/StringLatin1", .methodLink "java/lang/StringLatin1" 9 JO.Str_checkIndex.yN, .static JO.Str_checkIndex.yN, .code JO.Str_checkIndex.yN JO.Str_checkIndex.yB 2 none,
  .fieldLink ST 1053 "jdk/internal/util/Preconditions" "SIOOBE_FORMATTER" "Ljava/util/function/BiFunction;", .methodLink ST 1059 JC.PreCheck.yN, .static JC.PreCheck.yN, .code JC.PreCheck.yN JC.PreCheck.yB 3 (some .int), .initialized "jdk/internal/util/Preconditions"]
theorem tabChN_of {a : Array Value} {s : State} (h : ∀ w ∈ wordsChN, w.before a s = true) : ChN.tab.before a s = true := by
  have hp : JC.PreCheck.tab.before a s = true := unparts (wk h (.code JC.PreCheck.yN JC.PreCheck.yB 3 (some .int))) (wks h (.initialized JC.PreCheck.yN.cls :: JC.PreCheck.site))
  have qk := consq hp h
  have hk : JO.Str_checkIndex.tab.before a s = true := unparts (wk qk (.code JO.Str_checkIndex.yN JO.Str_checkIndex.yB 2 none)) (wks qk (.initialized JO.Str_checkIndex.yN.cls :: JO.Str_checkIndex.site))
  have ql := consq hk h
  have hl : LChA.tab.before a s = true := unparts (wk ql (.code LChA.yN LChA.yB 2 (some .char))) (wks ql (.initialized LChA.yN.cls :: LChA.site))
  have hi : IsL.tab.before a s = true := unparts (wk h (.code IsL.yN IsL.yB 1 (some .boolean))) (wks h (.initialized IsL.yN.cls :: IsL.site))
  have q := consq hi (consq hl h)
  exact unparts (wk q (.code ChN.yN ChN.yB 2 (some .char))) (wks q (.initialized ChN.yN.cls :: ChN.site))
theorem movedChN {Z s : State} {a0 args : Array Value} (hZ : Z.Warmed39 s.vm) (hw : ∀ d ∈ wordsChN, d.before a0 Z = true) : ∀ d ∈ wordsChN, d.before args s = true := fun d hd => by
  have t : ∀ d ∈ wordsChN, (d.onTables && d.keepsFace) = true := by decide +kernel
  exact RoadKit.mv hZ (hw d hd) (t d hd)
/-- **charAt(i) OF A LATIN-1 STRING**, i < n: the char -/
theorem chN {p : Program} {l : Launch} {e : Env} {R : Room} {s : State} {args : Array Value} {below : List Frame} {len W : Nat} {Z : State} {a0 : Array Value} {h : Heap} (hZ : Z.Warmed39 s.vm) (hw : ∀ d ∈ wordsChN, d.before a0 Z = true) {kI : Nat} (wi : (Jvm.Cond.instantiable ST kI).before a0 Z = true)
    {x t : Addr} {kb : ClassId} {cs : List Int32} {N2 z : Int32} {vs : List Value} {fm : Value} {i : Nat} {j : Int32} (E : RoadKit.Exa Z h x ST) (V : RoadKit.Fld Z h x ST "value" "[B" (.ref t)) (C : RoadKit.Fld Z h x ST "coder" "B" (.int 0)) (K : RoadKit.Arv Z h t kb .byte N2 vs (.int 0)) (hc : CodA cs 0 N2 vs) (hb : ∀ c ∈ cs, ¬ c < 0 ∧ ¬ (65535 : Int32) < c)
    (S : RoadKit.Sta Z h ST "COMPACT_STRINGS" "Z" (.int z)) (hz : ¬ z = 0) (F : RoadKit.Sta Z h "jdk/internal/util/Preconditions" "SIOOBE_FORMATTER" "Ljava/util/function/BiFunction;" fm) (rf : fm.isRef = true) (l2 : cs.length ≤ 4000) (hi : i < cs.length) (hj : j = Int32.ofNat i) (hfr : 4 ≤ R.frames) (hlo : W + 53 ≤ R.locals) :
    Back l R p e below s args (⟨"java/lang/String", "charAt", "(I)C"⟩ : MethodName) len W (fun P a => a = #[.ref x, .int j] ∧ P.U.heap = h ∧ P.cells + 0 ≤ R.cells ∧ P.slots + 0 ≤ R.slots)
      (fun P _ v B => ∃ L, (v = some (.int (cs.getD i 0)) ∧ L = [] ∧ B.U.heap = h) ∧ B.locs = P.locs ++ L ∧ B.cells = P.cells + 0 ∧ B.slots = P.slots + 0) := by
  subst hj
  intro m meth c P g ig mk a X hg hsize hdg hW hn hp'
  obtain ⟨rfl, rfl, r1, r2⟩ := hp'
  have al : Z.vm.Alike P.U.vm := hZ.alike.trans X.warmed.alike
  obtain ⟨A, hx⟩ := txt_of wi al E V C K hc hb l2
  obtain ⟨v, B, X', ⟨⟨hv, hh⟩, hl, hk, hs⟩, st⟩ := ChN.pays x t A cs.length (fun j => cs.getD j 0) z fm i (tabChN_of (movedChN hZ hw)) hfr hlo m meth c P g ig mk _ X hg hsize hdg hW hn ⟨r1, r2, rfl, hx, hi, sta_is al S, hz, sta_is al F, rf⟩
  exact ⟨v, B, X', ⟨[], ⟨hv, rfl, hh⟩, hl, hk, hs⟩, st⟩
end StrChars.Road
end Jvm.Pilot.@@N@@

namespace Jvm.Pilot.@@N@@
open Jvm Jvm.ClassFile Sem Op Lib Jvm.Free Jvm.Stand Jvm.LawKit Jvm.RoadKit Bundle Jvm.Pilot.@@N@@.Jvm.D
/-! own_Go: from the state S the run comes to an end of which R holds; a step is taken ahead of it (own_st), so that a walk can fork wherever it likes. -/
def own_Go (tb : Tables) (e : Env) (below : List Frame) (S : State) (R : Outcome → State → Prop) : Prop := ∃ t o, Steps tb e below S t ∧ t.status = .running ∧ Ended t below o ∧ R o t
theorem own_st {tb : Tables} {e : Env} {below : List Frame} {S S' : State} {R : Outcome → State → Prop} (h : ∀ t, Steps tb e below S' t → Steps tb e below S t) (k : own_Go tb e below S' R) : own_Go tb e below S R := by
  obtain ⟨t, o, h1, h2⟩ := k
  exact ⟨t, o, h t h1, h2⟩
abbrev own_R (s : State) (Q : Option Value → Heap → List Loc → Prop) (k n : Nat) (o : Outcome) (t : State) : Prop := ∃ v L, o = .returned v ∧ Q v t.heap L ∧ FrameEnd s o t L k n
abbrev own_Met (l : Launch) (y : MethodName) (bytes : ByteArray) (maxL : Nat) (rt : Option FieldType) (ws : List Jvm.Cond) (rm : Room) (as' : Array Value) (Z : State) (h0 : Heap) (Q : Option Value → Heap → List Loc → Prop) : Prop :=
  MetFree l y (head1 (Jvm.Cond.code y bytes maxL rt :: ws) rm) (fun a U => a = as' ∧ Z.Warmed39 U.vm ∧ U.heap = h0) (fun _ _ _ _ _ => True) (fun _ U o U' => ∃ v L, o = .returned v ∧ Q v U'.heap L ∧ FrameEnd U o U' L rm.cells rm.slots)
theorem own_body {l : Launch} {y : MethodName} {bytes : ByteArray} {maxL : Nat} {rt : Option FieldType} {ws : List Jvm.Cond} {rm : Room} {as' : Array Value} {Z : State} {h0 : Heap} {Q : Option Value → Heap → List Loc → Prop} (hp : plainFor y = true)
    (hb : ∀ (p : Program) (e : Env) (s : State) (m : MethodId) (below : List Frame) (meth : Method) (c : Code) (T : State), Stand p l e rm s m as' below meth c T [] 0 0 → p.tables.exec = Jvm.exec → c.code = bytes → c.maxLocals = maxL → s.vm.findClass y.cls = some m.cls → meth.name = y.name → meth.sig.returnType = rt → meth.locks = false → Z.Warmed39 s.vm → T.heap = h0 →
      own_Go p.tables e below (T.setTop (entryFrame m as' maxL)) (own_R s Q rm.cells rm.slots)) : own_Met l y bytes maxL rt ws rm as' Z h0 Q := by
  refine MetFree.of_bodySF hp hisR ?_
  intro p e s m args below meth c s₁ Bd hml0 hP hK
  obtain ⟨rfl, hZ, hh⟩ := hP
  exact hb p e s m below meth c s₁ (Stand.of_body Bd) Bd.exec Bd.bytes hml0 (findClass_of_methodNamed Bd.named) (name_of_methodNamed Bd.named Bd.method).1 Bd.returns Bd.notSynchronized hZ (by rw [← hh, Bd.state]; rfl)
section Own
variable {p : Program} {l : Launch} {e : Env} {R : Room} {s : State} {m : MethodId} {args : Array Value} {below : List Frame} {meth : Method} {c : Code} {T : State} {locs : List Loc} {cells slots : Nat} {Z : State} {a0 : Array Value} {h : Heap} {Q : Option Value → Heap → List Loc → Prop} {RR : Outcome → State → Prop}
theorem own_cat {v : Value} (q : v.isRef = true) : v.category = 1 := by cases v <;> simp [Value.isRef, Value.category] at q ⊢
theorem own_eqI {first : State} {o : Option Outcome} {idx : List Nat} {a : Term} {k : Int32} (q : (Jvm.Cond.eq a (.int k)).value args first o s idx = some true) : a.eval args first o idx s = some (.int k) := by
  simp only [Cond.value, Term.eval] at q
  cases ht : a.eval args first o idx s with
  | none => simp [ht] at q
  | some x => cases x <;> simp [ht] at q ⊢ <;> exact q
theorem own_Z0 {n0 : Nat} (O : Old Z n0 h) : n0 ≤ h.size := O.1 ▸ O.2.1
theorem own_leave (X : Stand p l e R s m args below meth c T locs cells slots) (hlk : meth.locks = false) {v : Option Value} (hv : meth.sig.returnType = none → v = none) {S : State} {k n : Nat} (hk : cells ≤ k) (hn : slots ≤ n) (hq : Q v T.heap locs)
    (st : ∀ fs : List Frame, (∀ (f : JFrame) (acts : List Action), f.method = m → f.locked = none → f.entered = [] → (doReturn e (T.setTop f) acts v).1 = T.setFrames fs) → Steps p.tables e below S (T.setFrames fs)) : own_Go p.tables e below S (own_R s Q k n) := by
  obtain ⟨fs, hr, hrun, hended, hW, hsame⟩ := X.leave (v := v) hv hlk
  exact ⟨_, _, st fs hr, hrun, hended, v, locs, rfl, hq, ⟨_, rfl⟩, hW, hsame.mono hk hn⟩
theorem own_retI (X : Stand p l e R s m args below meth c T locs cells slots) (hx : p.tables.exec = Jvm.exec) {pc : Nat} {Ls : Array Slot} {z : Int32} {rest : List Value} (hret : meth.sig.returnType = some .int) (hd : decode c.code pc = .ok (.ireturn, 1)) (hlk : meth.locks = false) {k n : Nat} (hk : cells ≤ k) (hn : slots ≤ n) (hq : Q (some (.int z)) T.heap locs) :
    own_Go p.tables e below (T.setTop (mkF m pc Ls (.int z :: rest))) (own_R s Q k n) := by
  refine own_leave X hlk (fun q => by rw [hret] at q; cases q) hk hn hq fun fs hl => ?_
  have hm' : T.vm.method? m = some meth := X.method'
  have hn : narrow .int (.int z) = .int z := rfl
  show Steps p.tables e below (T.setTop { method := m, pc := pc, locals := Ls, stack := _ :: rest, locked := none }) _
  jvm_step X.here [X.here.top, hx, hd, hm', hret, hn]
  first | (intro acts; rw [hl _ acts rfl rfl rfl]) | rw [hl _ _ rfl rfl rfl]
  exact Steps.refl _
theorem own_retZ (X : Stand p l e R s m args below meth c T locs cells slots) (hx : p.tables.exec = Jvm.exec) {pc : Nat} {Ls : Array Slot} {z : Int32} {t : FieldType} {rest : List Value} (hret : meth.sig.returnType = some t) (ht : t = .boolean ∨ t = .byte ∨ t = .char ∨ t = .short) (hd : decode c.code pc = .ok (.ireturn, 1)) (hlk : meth.locks = false) {k n : Nat} (hk : cells ≤ k) (hn : slots ≤ n) (hq : Q (some (.int (nar t z))) T.heap locs) :
    own_Go p.tables e below (T.setTop (mkF m pc Ls (.int z :: rest))) (own_R s Q k n) :=
  own_leave X hlk (fun q => by rw [hret] at q; cases q) hk hn hq fun fs hl => retN X hx hret ht hd hl
theorem own_retA (X : Stand p l e R s m args below meth c T locs cells slots) (hx : p.tables.exec = Jvm.exec) {pc : Nat} {Ls : Array Slot} {z : Value} {t : FieldType} {rest : List Value} (hret : meth.sig.returnType = some t) (ht : t.isReference = true) (hz : z.isRef = true) (hd : decode c.code pc = .ok (.areturn, 1)) (hlk : meth.locks = false) {k n : Nat} (hk : cells ≤ k) (hn : slots ≤ n) (hq : Q (some z) T.heap locs) :
    own_Go p.tables e below (T.setTop (mkF m pc Ls (z :: rest))) (own_R s Q k n) := by
  refine own_leave X hlk (fun q => by rw [hret] at q; cases q) hk hn hq fun fs hl => ?_
  have hm' : T.vm.method? m = some meth := X.method'
  show Steps p.tables e below (T.setTop { method := m, pc := pc, locals := Ls, stack := _ :: rest, locked := none }) _
  jvm_step X.here [X.here.top, hx, hd, hm', hret, ht, hz]
  first | (intro acts; rw [hl _ acts rfl rfl rfl]) | rw [hl _ _ rfl rfl rfl]
  exact Steps.refl _
theorem own_retJ (X : Stand p l e R s m args below meth c T locs cells slots) (hx : p.tables.exec = Jvm.exec) {pc : Nat} {Ls : Array Slot} {z : Int64} {rest : List Value} (hret : meth.sig.returnType = some .long) (hd : decode c.code pc = .ok (.lreturn, 1)) (hlk : meth.locks = false) {k n : Nat} (hk : cells ≤ k) (hn : slots ≤ n) (hq : Q (some (.long z)) T.heap locs) :
    own_Go p.tables e below (T.setTop (mkF m pc Ls (.long z :: rest))) (own_R s Q k n) := by
  refine own_leave X hlk (fun q => by rw [hret] at q; cases q) hk hn hq fun fs hl => ?_
  have hm' : T.vm.method? m = some meth := X.method'
  show Steps p.tables e below (T.setTop { method := m, pc := pc, locals := Ls, stack := _ :: rest, locked := none }) _
  jvm_step X.here [X.here.top, hx, hd, hm', hret, narrow]
  first | (intro acts; rw [hl _ acts rfl rfl rfl]) | rw [hl _ _ rfl rfl rfl]
  exact Steps.refl _
theorem own_retV (X : Stand p l e R s m args below meth c T locs cells slots) (hx : p.tables.exec = Jvm.exec) {pc : Nat} {Ls : Array Slot} (hret : meth.sig.returnType = none) (hd : decode c.code pc = .ok (.return_, 1)) (hlk : meth.locks = false) {k n : Nat} (hk : cells ≤ k) (hn : slots ≤ n) (hq : Q none T.heap locs) :
    own_Go p.tables e below (T.setTop (mkF m pc Ls [])) (own_R s Q k n) :=
  own_leave X hlk (fun _ => rfl) hk hn hq fun fs hl => X.returnOut hx hret hd hl
theorem own_callS (X : Stand p l e R s m args below meth c T locs cells slots) (hx : p.tables.exec = Jvm.exec) (hZ : Z.Warmed39 s.vm) {y : MethodName} {bytes : ByteArray} {maxL : Nat} {rt : Option FieldType} {rm : Room} {as' : Array Value}
    (hM : own_Met l y bytes maxL rt [] rm as' Z h Q) {own : String} {index : Nat} (hown : s.vm.findClass own = some m.cls) (w1 : (Cond.methodLink own index y).before a0 Z = true) (w2 : (Cond.static y).before a0 Z = true) (w3 : (Cond.initialized y.cls).before a0 Z = true) (w4 : (Cond.code y bytes maxL rt).before a0 Z = true)
    (hy : y.cls ≠ "java/lang/invoke/MethodHandle" ∧ y.cls ≠ "java/lang/invoke/VarHandle") {W : Nat} (hf : rm.frames + 1 ≤ R.frames) (hl : W + (maxL + 11) + rm.locals ≤ R.locals) {pc : Nat} {Ls : Array Slot} (hsz : Ls.size = c.maxLocals) {argsL rest st : List Value} (ha : argsL.toArray = as')
    (hlen : ∀ sig, parseMethodDescriptor y.desc = some sig → argsL.length = sig.parameters.length) (hst : st = argsL.reverse ++ rest) (hW : (rest.map fun v => v.category).sum ≤ W) (hd : decode c.code pc = .ok (.invokestatic index, 3)) (eT : T.heap = h) (hc : cells + rm.cells ≤ R.cells) (hs : slots + rm.slots ≤ R.slots)
    (k : ∀ (v : Option Value) (T' : State) (L : List Loc), Stand p l e R s m args below meth c T' (locs ++ L) (cells + rm.cells) (slots + rm.slots) → Q v T'.heap L → own_Go p.tables e below (T'.setTop (mkF m (pc + 3) Ls (v.toList ++ rest))) RR) :
    own_Go p.tables e below (T.setTop (mkF m pc Ls st)) RR := by
  subst ha
  obtain ⟨v, _, ⟨T', L', k', n'⟩, -, X', ⟨Lc, hQ, l', y', z'⟩, stp⟩ := Jvm.LawKit.callS X hx (y := y) hown (mvT hZ w1) (mvT hZ w2) (mvT hZ w3) (mvT hZ w4) hy (backOf (W := W) hM hZ w4 w3 hf hl) (g := mkF m pc Ls st) rfl hsz (argsL := argsL) (rest := rest) hlen hst (by show 2 * 0 + _ ≤ _; omega) hd (fun _ _ => ⟨rfl, eT, hc, hs⟩)
  dsimp only [Pt.U, Pt.locs, Pt.cells, Pt.slots] at X' l' y' z' stp hQ
  subst l' y' z'
  exact own_st stp (k v T' Lc X' hQ)
theorem own_callV (X : Stand p l e R s m args below meth c T locs cells slots) (hx : p.tables.exec = Jvm.exec) (hZ : Z.Warmed39 s.vm) {y : MethodName} {bytes : ByteArray} {maxL : Nat} {rt : Option FieldType} {rm : Room} {as' : Array Value}
    (hM : own_Met l y bytes maxL rt [] rm as' Z h Q) {own C : String} {index : Nat} (hown : s.vm.findClass own = some m.cls) (w1 : (Cond.methodLink own index y).before a0 Z = true) (w2 : (Cond.declares y).before a0 Z = true) (w3 : (Cond.selects C y y).before a0 Z = true) (w4 : (Cond.instanceMethod y).before a0 Z = true) (w5 : (Cond.code y bytes maxL rt).before a0 Z = true) (w6 : (Cond.initialized y.cls).before a0 Z = true)
    (hy : y.cls ≠ "java/lang/invoke/MethodHandle" ∧ y.cls ≠ "java/lang/invoke/VarHandle") {a : Addr} (E : Exa Z h a C) {W : Nat} (hf : rm.frames + 1 ≤ R.frames) (hl : W + (maxL + 11) + rm.locals ≤ R.locals) {pc : Nat} {Ls : Array Slot} (hsz : Ls.size = c.maxLocals) {argsL rest st : List Value} (ha : (Value.ref a :: argsL).toArray = as')
    (hlen : ∀ sig, parseMethodDescriptor y.desc = some sig → argsL.length = sig.parameters.length) (hst : st = argsL.reverse ++ .ref a :: rest) (hW : (rest.map fun v => v.category).sum ≤ W) (hd : decode c.code pc = .ok (.invokevirtual index, 3)) (eT : T.heap = h) (hc : cells + rm.cells ≤ R.cells) (hs : slots + rm.slots ≤ R.slots)
    (k : ∀ (v : Option Value) (T' : State) (L : List Loc), Stand p l e R s m args below meth c T' (locs ++ L) (cells + rm.cells) (slots + rm.slots) → Q v T'.heap L → own_Go p.tables e below (T'.setTop (mkF m (pc + 3) Ls (v.toList ++ rest))) RR) :
    own_Go p.tables e below (T.setTop (mkF m pc Ls st)) RR := by
  subst ha
  obtain ⟨cB, kB, qa, qb, qc⟩ := isOf hZ eT E
  obtain ⟨v, _, ⟨T', L', k', n'⟩, -, X', ⟨Lc, hQ, l', y', z'⟩, stp⟩ := X.virtualBack hx (y := y) (z := y) hown (mvT hZ w1) (mvT hZ w2) (notFace_of_selects (args := #[]) (mvT hZ w3)) (mvT hZ w3) (mvT hZ w4) hy (backOf (W := W) hM hZ w5 w6 hf hl) qa qc (g := mkF m pc Ls st) rfl hsz (Steps.refl _) (argsL := argsL) (rest := rest) hlen hst (by show 2 * 0 + _ ≤ _; omega) hd (fun _ _ => ⟨rfl, eT, hc, hs⟩)
  dsimp only [Pt.U, Pt.locs, Pt.cells, Pt.slots] at X' l' y' z' stp hQ
  subst l' y' z'
  exact own_st (fun t k => stp.trans k) (k v T' Lc X' hQ)
theorem own_callVU (X : Stand p l e R s m args below meth c T locs cells slots) (hx : p.tables.exec = Jvm.exec) (hZ : Z.Warmed39 s.vm) {x y : MethodName} {bytes : ByteArray} {maxL : Nat} {rt : Option FieldType} {rm : Room} {as' : Array Value}
    (hM : own_Met l y bytes maxL rt [] rm as' Z h Q) {own C owner : String} {index : Nat} (hown : s.vm.findClass own = some m.cls) (w1 : (Cond.methodLink own index x).before a0 Z = true) (w1' : (Cond.sameMethod x.cls owner x.name x.desc).before a0 Z = true) (w2 : (Cond.declares ⟨owner, x.name, x.desc⟩).before a0 Z = true) (w3 : (Cond.selects C x y).before a0 Z = true) (w4 : (Cond.instanceMethod y).before a0 Z = true) (w5 : (Cond.code y bytes maxL rt).before a0 Z = true) (w6 : (Cond.initialized y.cls).before a0 Z = true)
    (hy : owner ≠ "java/lang/invoke/MethodHandle" ∧ owner ≠ "java/lang/invoke/VarHandle") {a : Addr} (E : Exa Z h a C) {W : Nat} (hf : rm.frames + 1 ≤ R.frames) (hl : W + (maxL + 11) + rm.locals ≤ R.locals) {pc : Nat} {Ls : Array Slot} (hsz : Ls.size = c.maxLocals) {argsL rest st : List Value} (ha : (Value.ref a :: argsL).toArray = as')
    (hlen : ∀ sig, parseMethodDescriptor x.desc = some sig → argsL.length = sig.parameters.length) (hst : st = argsL.reverse ++ .ref a :: rest) (hW : (rest.map fun v => v.category).sum ≤ W) (hd : decode c.code pc = .ok (.invokevirtual index, 3)) (eT : T.heap = h) (hc : cells + rm.cells ≤ R.cells) (hs : slots + rm.slots ≤ R.slots)
    (k : ∀ (v : Option Value) (T' : State) (L : List Loc), Stand p l e R s m args below meth c T' (locs ++ L) (cells + rm.cells) (slots + rm.slots) → Q v T'.heap L → own_Go p.tables e below (T'.setTop (mkF m (pc + 3) Ls (v.toList ++ rest))) RR) :
    own_Go p.tables e below (T.setTop (mkF m pc Ls st)) RR := by
  subst ha
  obtain ⟨cB, kB, qa, qb, qc⟩ := isOf hZ eT E
  obtain ⟨v, _, ⟨T', L', k', n'⟩, -, X', ⟨Lc, hQ, l', y', z'⟩, stp⟩ := X.virtualBackUp hx hown (mvT hZ w1) (mvT hZ w1') (mvT hZ w2) hy (mvT hZ w3) (mvT hZ w4) (backOf (W := W) hM hZ w5 w6 hf hl) qa qc (g := mkF m pc Ls st) rfl hsz (Steps.refl _) (argsL := argsL) (rest := rest) hlen hst (by show 2 * 0 + _ ≤ _; omega) hd (fun _ _ => ⟨rfl, eT, hc, hs⟩)
  dsimp only [Pt.U, Pt.locs, Pt.cells, Pt.slots] at X' l' y' z' stp hQ
  subst l' y' z'
  exact own_st (fun t k => stp.trans k) (k v T' Lc X' hQ)
theorem own_iload (X : Stand p l e R s m args below meth c T locs cells slots) (hx : p.tables.exec = Jvm.exec) {B : ByteArray} (hby : c.code = B) {pc pc' : Nat} {Ls : Array Slot} {S : List Value} {k : Nat} {v : Int32} (hd : decode B pc = .ok (.iload k, 2)) (hp : pc + 2 = pc') (hl : Ls[k]? = some (.val (.int v))) (g : own_Go p.tables e below (T.setTop (mkF m pc' Ls (.int v :: S))) RR) : own_Go p.tables e below (T.setTop (mkF m pc Ls S)) RR := by
  subst hp
  exact own_st (fun t k => XS.iload X.here hx rfl (hb hby hd) hl k) g
theorem own_iloadN (X : Stand p l e R s m args below meth c T locs cells slots) (hx : p.tables.exec = Jvm.exec) {B : ByteArray} (hby : c.code = B) {pc pc' : Nat} {Ls : Array Slot} {S : List Value} {k : Fin 4} {v : Int32} (hd : decode B pc = .ok (.iload_n k, 1)) (hp : pc + 1 = pc') (hl : Ls[k.val]? = some (.val (.int v))) (g : own_Go p.tables e below (T.setTop (mkF m pc' Ls (.int v :: S))) RR) : own_Go p.tables e below (T.setTop (mkF m pc Ls S)) RR := by
  subst hp
  exact own_st (fun t k => XS.iloadN X.here hx rfl (hb hby hd) hl k) g
theorem own_lload (X : Stand p l e R s m args below meth c T locs cells slots) (hx : p.tables.exec = Jvm.exec) {B : ByteArray} (hby : c.code = B) {pc pc' : Nat} {Ls : Array Slot} {S : List Value} {k : Nat} {v : Int64} (hd : decode B pc = .ok (.lload k, 2)) (hp : pc + 2 = pc') (hl : Ls[k]? = some (.val (.long v))) (g : own_Go p.tables e below (T.setTop (mkF m pc' Ls (.long v :: S))) RR) : own_Go p.tables e below (T.setTop (mkF m pc Ls S)) RR := by
  subst hp
  exact own_st (fun t k => XS.lload X.here hx rfl (hb hby hd) hl k) g
theorem own_lloadN (X : Stand p l e R s m args below meth c T locs cells slots) (hx : p.tables.exec = Jvm.exec) {B : ByteArray} (hby : c.code = B) {pc pc' : Nat} {Ls : Array Slot} {S : List Value} {k : Fin 4} {v : Int64} (hd : decode B pc = .ok (.lload_n k, 1)) (hp : pc + 1 = pc') (hl : Ls[k.val]? = some (.val (.long v))) (g : own_Go p.tables e below (T.setTop (mkF m pc' Ls (.long v :: S))) RR) : own_Go p.tables e below (T.setTop (mkF m pc Ls S)) RR := by
  subst hp
  exact own_st (fun t k => XS.lloadN X.here hx rfl (hb hby hd) hl k) g
theorem own_aload (X : Stand p l e R s m args below meth c T locs cells slots) (hx : p.tables.exec = Jvm.exec) {B : ByteArray} (hby : c.code = B) {pc pc' : Nat} {Ls : Array Slot} {S : List Value} {k : Nat} {v : Value} (hd : decode B pc = .ok (.aload k, 2)) (hp : pc + 2 = pc') (hl : Ls[k]? = some (.val v)) (hv : v.isRef = true) (g : own_Go p.tables e below (T.setTop (mkF m pc' Ls (v :: S))) RR) : own_Go p.tables e below (T.setTop (mkF m pc Ls S)) RR := by
  subst hp
  exact own_st (fun t k => XS.aload X.here hx rfl (hb hby hd) hl hv k) g
theorem own_aloadN (X : Stand p l e R s m args below meth c T locs cells slots) (hx : p.tables.exec = Jvm.exec) {B : ByteArray} (hby : c.code = B) {pc pc' : Nat} {Ls : Array Slot} {S : List Value} {k : Fin 4} {v : Value} (hd : decode B pc = .ok (.aload_n k, 1)) (hp : pc + 1 = pc') (hl : Ls[k.val]? = some (.val v)) (hv : v.isRef = true) (g : own_Go p.tables e below (T.setTop (mkF m pc' Ls (v :: S))) RR) : own_Go p.tables e below (T.setTop (mkF m pc Ls S)) RR := by
  subst hp
  exact own_st (fun t k => XS.aloadN X.here hx rfl (hb hby hd) hl hv k) g
theorem own_istore (X : Stand p l e R s m args below meth c T locs cells slots) (hx : p.tables.exec = Jvm.exec) {B : ByteArray} (hby : c.code = B) {pc pc' : Nat} {Ls : Array Slot} {S : List Value} {k : Nat} {v : Int32} {Ls' : Array Slot} (hd : decode B pc = .ok (.istore k, 2)) (hp : pc + 2 = pc') (hl : storeLocals Ls k (.int v) = some Ls') (g : own_Go p.tables e below (T.setTop (mkF m pc' Ls' S)) RR) : own_Go p.tables e below (T.setTop (mkF m pc Ls (.int v :: S))) RR := by
  subst hp
  exact own_st (fun t k => XS.istore X.here hx rfl (hb hby hd) rfl hl k) g
theorem own_istoreN (X : Stand p l e R s m args below meth c T locs cells slots) (hx : p.tables.exec = Jvm.exec) {B : ByteArray} (hby : c.code = B) {pc pc' : Nat} {Ls : Array Slot} {S : List Value} {k : Fin 4} {v : Int32} {Ls' : Array Slot} (hd : decode B pc = .ok (.istore_n k, 1)) (hp : pc + 1 = pc') (hl : storeLocals Ls k.val (.int v) = some Ls') (g : own_Go p.tables e below (T.setTop (mkF m pc' Ls' S)) RR) : own_Go p.tables e below (T.setTop (mkF m pc Ls (.int v :: S))) RR := by
  subst hp
  exact own_st (fun t k => XS.istoreN X.here hx rfl (hb hby hd) rfl hl k) g
theorem own_lstore (X : Stand p l e R s m args below meth c T locs cells slots) (hx : p.tables.exec = Jvm.exec) {B : ByteArray} (hby : c.code = B) {pc pc' : Nat} {Ls : Array Slot} {S : List Value} {k : Nat} {v : Int64} {Ls' : Array Slot} (hd : decode B pc = .ok (.lstore k, 2)) (hp : pc + 2 = pc') (hl : storeLocals Ls k (.long v) = some Ls') (g : own_Go p.tables e below (T.setTop (mkF m pc' Ls' S)) RR) : own_Go p.tables e below (T.setTop (mkF m pc Ls (.long v :: S))) RR := by
  subst hp
  exact own_st (fun t k => XS.lstore X.here hx rfl (hb hby hd) rfl hl k) g
theorem own_lstoreN (X : Stand p l e R s m args below meth c T locs cells slots) (hx : p.tables.exec = Jvm.exec) {B : ByteArray} (hby : c.code = B) {pc pc' : Nat} {Ls : Array Slot} {S : List Value} {k : Fin 4} {v : Int64} {Ls' : Array Slot} (hd : decode B pc = .ok (.lstore_n k, 1)) (hp : pc + 1 = pc') (hl : storeLocals Ls k.val (.long v) = some Ls') (g : own_Go p.tables e below (T.setTop (mkF m pc' Ls' S)) RR) : own_Go p.tables e below (T.setTop (mkF m pc Ls (.long v :: S))) RR := by
  subst hp
  exact own_st (fun t k => XS.lstoreN X.here hx rfl (hb hby hd) rfl hl k) g
theorem own_astore (X : Stand p l e R s m args below meth c T locs cells slots) (hx : p.tables.exec = Jvm.exec) {B : ByteArray} (hby : c.code = B) {pc pc' : Nat} {Ls : Array Slot} {S : List Value} {k : Nat} {v : Value} {Ls' : Array Slot} (hd : decode B pc = .ok (.astore k, 2)) (hp : pc + 2 = pc') (hv : v.isRef = true) (hl : storeLocals Ls k v = some Ls') (g : own_Go p.tables e below (T.setTop (mkF m pc' Ls' S)) RR) : own_Go p.tables e below (T.setTop (mkF m pc Ls (v :: S))) RR := by
  subst hp
  exact own_st (fun t k => XS.astore X.here hx rfl (hb hby hd) rfl hv hl k) g
theorem own_astoreN (X : Stand p l e R s m args below meth c T locs cells slots) (hx : p.tables.exec = Jvm.exec) {B : ByteArray} (hby : c.code = B) {pc pc' : Nat} {Ls : Array Slot} {S : List Value} {k : Fin 4} {v : Value} {Ls' : Array Slot} (hd : decode B pc = .ok (.astore_n k, 1)) (hp : pc + 1 = pc') (hv : v.isRef = true) (hl : storeLocals Ls k.val v = some Ls') (g : own_Go p.tables e below (T.setTop (mkF m pc' Ls' S)) RR) : own_Go p.tables e below (T.setTop (mkF m pc Ls (v :: S))) RR := by
  subst hp
  exact own_st (fun t k => XS.astoreN X.here hx rfl (hb hby hd) rfl hv hl k) g
theorem own_iconst (X : Stand p l e R s m args below meth c T locs cells slots) (hx : p.tables.exec = Jvm.exec) {B : ByteArray} (hby : c.code = B) {pc pc' : Nat} {Ls : Array Slot} {S : List Value} {i : Int} {z : Int32} (hd : decode B pc = .ok (.iconst i, 1)) (hp : pc + 1 = pc') (hz : Int32.ofInt i = z) (g : own_Go p.tables e below (T.setTop (mkF m pc' Ls (.int z :: S))) RR) : own_Go p.tables e below (T.setTop (mkF m pc Ls S)) RR := by
  subst hp
  subst hz
  exact own_st (fun t k => XS.iconst X.here hx rfl (hb hby hd) k) g
theorem own_bipush (X : Stand p l e R s m args below meth c T locs cells slots) (hx : p.tables.exec = Jvm.exec) {B : ByteArray} (hby : c.code = B) {pc pc' : Nat} {Ls : Array Slot} {S : List Value} {i : Int} {z : Int32} (hd : decode B pc = .ok (.bipush i, 2)) (hp : pc + 2 = pc') (hz : (Int8.ofInt i).toInt32 = z) (g : own_Go p.tables e below (T.setTop (mkF m pc' Ls (.int z :: S))) RR) : own_Go p.tables e below (T.setTop (mkF m pc Ls S)) RR := by
  subst hp
  subst hz
  exact own_st (fun t k => XS.bipush X.here hx rfl (hb hby hd) k) g
theorem own_sipush (X : Stand p l e R s m args below meth c T locs cells slots) (hx : p.tables.exec = Jvm.exec) {B : ByteArray} (hby : c.code = B) {pc pc' : Nat} {Ls : Array Slot} {S : List Value} {i : Int} {z : Int32} (hd : decode B pc = .ok (.sipush i, 3)) (hp : pc + 3 = pc') (hz : (Int16.ofInt i).toInt32 = z) (g : own_Go p.tables e below (T.setTop (mkF m pc' Ls (.int z :: S))) RR) : own_Go p.tables e below (T.setTop (mkF m pc Ls S)) RR := by
  subst hp
  subst hz
  exact own_st (fun t k => XS.sipush X.here hx rfl (hb hby hd) k) g
theorem own_lconst (X : Stand p l e R s m args below meth c T locs cells slots) (hx : p.tables.exec = Jvm.exec) {B : ByteArray} (hby : c.code = B) {pc pc' : Nat} {Ls : Array Slot} {S : List Value} {k : Fin 2} {z : Int64} (hd : decode B pc = .ok (.lconst k, 1)) (hp : pc + 1 = pc') (hz : Int64.ofNat k = z) (g : own_Go p.tables e below (T.setTop (mkF m pc' Ls (.long z :: S))) RR) : own_Go p.tables e below (T.setTop (mkF m pc Ls S)) RR := by
  subst hp
  subst hz
  exact own_st (fun t k => XS.lconst X.here hx rfl (hb hby hd) k) g
theorem own_aconst_null (X : Stand p l e R s m args below meth c T locs cells slots) (hx : p.tables.exec = Jvm.exec) {B : ByteArray} (hby : c.code = B) {pc pc' : Nat} {Ls : Array Slot} {S : List Value}  (hd : decode B pc = .ok (.aconst_null, 1)) (hp : pc + 1 = pc')  (g : own_Go p.tables e below (T.setTop (mkF m pc' Ls (.null :: S))) RR) : own_Go p.tables e below (T.setTop (mkF m pc Ls S)) RR := by
  subst hp
  exact own_st (fun t k => XS.aconstNull X.here hx rfl (hb hby hd) k) g
theorem own_iadd (X : Stand p l e R s m args below meth c T locs cells slots) (hx : p.tables.exec = Jvm.exec) {B : ByteArray} (hby : c.code = B) {pc pc' : Nat} {Ls : Array Slot} {S : List Value} {x y z : Int32} (hd : decode B pc = .ok (.iadd, 1)) (hp : pc + 1 = pc') (hz : x + y = z) (g : own_Go p.tables e below (T.setTop (mkF m pc' Ls (.int z :: S))) RR) : own_Go p.tables e below (T.setTop (mkF m pc Ls (.int y :: .int x :: S))) RR := by
  subst hp
  subst hz
  exact own_st (fun t k => XS.iadd X.here hx rfl (hb hby hd) rfl k) g
theorem own_ladd (X : Stand p l e R s m args below meth c T locs cells slots) (hx : p.tables.exec = Jvm.exec) {B : ByteArray} (hby : c.code = B) {pc pc' : Nat} {Ls : Array Slot} {S : List Value} {x y z : Int64} (hd : decode B pc = .ok (.ladd, 1)) (hp : pc + 1 = pc') (hz : x + y = z) (g : own_Go p.tables e below (T.setTop (mkF m pc' Ls (.long z :: S))) RR) : own_Go p.tables e below (T.setTop (mkF m pc Ls (.long y :: .long x :: S))) RR := by
  subst hp
  subst hz
  exact own_st (fun t k => XS.ladd X.here hx rfl (hb hby hd) rfl k) g
theorem own_isub (X : Stand p l e R s m args below meth c T locs cells slots) (hx : p.tables.exec = Jvm.exec) {B : ByteArray} (hby : c.code = B) {pc pc' : Nat} {Ls : Array Slot} {S : List Value} {x y z : Int32} (hd : decode B pc = .ok (.isub, 1)) (hp : pc + 1 = pc') (hz : x - y = z) (g : own_Go p.tables e below (T.setTop (mkF m pc' Ls (.int z :: S))) RR) : own_Go p.tables e below (T.setTop (mkF m pc Ls (.int y :: .int x :: S))) RR := by
  subst hp
  subst hz
  exact own_st (fun t k => XS.isub X.here hx rfl (hb hby hd) rfl k) g
theorem own_lsub (X : Stand p l e R s m args below meth c T locs cells slots) (hx : p.tables.exec = Jvm.exec) {B : ByteArray} (hby : c.code = B) {pc pc' : Nat} {Ls : Array Slot} {S : List Value} {x y z : Int64} (hd : decode B pc = .ok (.lsub, 1)) (hp : pc + 1 = pc') (hz : x - y = z) (g : own_Go p.tables e below (T.setTop (mkF m pc' Ls (.long z :: S))) RR) : own_Go p.tables e below (T.setTop (mkF m pc Ls (.long y :: .long x :: S))) RR := by
  subst hp
  subst hz
  exact own_st (fun t k => XS.lsub X.here hx rfl (hb hby hd) rfl k) g
theorem own_imul (X : Stand p l e R s m args below meth c T locs cells slots) (hx : p.tables.exec = Jvm.exec) {B : ByteArray} (hby : c.code = B) {pc pc' : Nat} {Ls : Array Slot} {S : List Value} {x y z : Int32} (hd : decode B pc = .ok (.imul, 1)) (hp : pc + 1 = pc') (hz : x * y = z) (g : own_Go p.tables e below (T.setTop (mkF m pc' Ls (.int z :: S))) RR) : own_Go p.tables e below (T.setTop (mkF m pc Ls (.int y :: .int x :: S))) RR := by
  subst hp
  subst hz
  exact own_st (fun t k => XS.imul X.here hx rfl (hb hby hd) rfl k) g
theorem own_lmul (X : Stand p l e R s m args below meth c T locs cells slots) (hx : p.tables.exec = Jvm.exec) {B : ByteArray} (hby : c.code = B) {pc pc' : Nat} {Ls : Array Slot} {S : List Value} {x y z : Int64} (hd : decode B pc = .ok (.lmul, 1)) (hp : pc + 1 = pc') (hz : x * y = z) (g : own_Go p.tables e below (T.setTop (mkF m pc' Ls (.long z :: S))) RR) : own_Go p.tables e below (T.setTop (mkF m pc Ls (.long y :: .long x :: S))) RR := by
  subst hp
  subst hz
  exact own_st (fun t k => XS.lmul X.here hx rfl (hb hby hd) rfl k) g
theorem own_iand (X : Stand p l e R s m args below meth c T locs cells slots) (hx : p.tables.exec = Jvm.exec) {B : ByteArray} (hby : c.code = B) {pc pc' : Nat} {Ls : Array Slot} {S : List Value} {x y z : Int32} (hd : decode B pc = .ok (.iand, 1)) (hp : pc + 1 = pc') (hz : x &&& y = z) (g : own_Go p.tables e below (T.setTop (mkF m pc' Ls (.int z :: S))) RR) : own_Go p.tables e below (T.setTop (mkF m pc Ls (.int y :: .int x :: S))) RR := by
  subst hp
  subst hz
  exact own_st (fun t k => XS.iand X.here hx rfl (hb hby hd) rfl k) g
theorem own_land (X : Stand p l e R s m args below meth c T locs cells slots) (hx : p.tables.exec = Jvm.exec) {B : ByteArray} (hby : c.code = B) {pc pc' : Nat} {Ls : Array Slot} {S : List Value} {x y z : Int64} (hd : decode B pc = .ok (.land, 1)) (hp : pc + 1 = pc') (hz : x &&& y = z) (g : own_Go p.tables e below (T.setTop (mkF m pc' Ls (.long z :: S))) RR) : own_Go p.tables e below (T.setTop (mkF m pc Ls (.long y :: .long x :: S))) RR := by
  subst hp
  subst hz
  exact own_st (fun t k => XS.land X.here hx rfl (hb hby hd) rfl k) g
theorem own_ior (X : Stand p l e R s m args below meth c T locs cells slots) (hx : p.tables.exec = Jvm.exec) {B : ByteArray} (hby : c.code = B) {pc pc' : Nat} {Ls : Array Slot} {S : List Value} {x y z : Int32} (hd : decode B pc = .ok (.ior, 1)) (hp : pc + 1 = pc') (hz : x ||| y = z) (g : own_Go p.tables e below (T.setTop (mkF m pc' Ls (.int z :: S))) RR) : own_Go p.tables e below (T.setTop (mkF m pc Ls (.int y :: .int x :: S))) RR := by
  subst hp
  subst hz
  exact own_st (fun t k => XS.ior X.here hx rfl (hb hby hd) rfl k) g
theorem own_lor (X : Stand p l e R s m args below meth c T locs cells slots) (hx : p.tables.exec = Jvm.exec) {B : ByteArray} (hby : c.code = B) {pc pc' : Nat} {Ls : Array Slot} {S : List Value} {x y z : Int64} (hd : decode B pc = .ok (.lor, 1)) (hp : pc + 1 = pc') (hz : x ||| y = z) (g : own_Go p.tables e below (T.setTop (mkF m pc' Ls (.long z :: S))) RR) : own_Go p.tables e below (T.setTop (mkF m pc Ls (.long y :: .long x :: S))) RR := by
  subst hp
  subst hz
  exact own_st (fun t k => XS.lor X.here hx rfl (hb hby hd) rfl k) g
theorem own_ixor (X : Stand p l e R s m args below meth c T locs cells slots) (hx : p.tables.exec = Jvm.exec) {B : ByteArray} (hby : c.code = B) {pc pc' : Nat} {Ls : Array Slot} {S : List Value} {x y z : Int32} (hd : decode B pc = .ok (.ixor, 1)) (hp : pc + 1 = pc') (hz : x ^^^ y = z) (g : own_Go p.tables e below (T.setTop (mkF m pc' Ls (.int z :: S))) RR) : own_Go p.tables e below (T.setTop (mkF m pc Ls (.int y :: .int x :: S))) RR := by
  subst hp
  subst hz
  exact own_st (fun t k => XS.ixor X.here hx rfl (hb hby hd) rfl k) g
theorem own_lxor (X : Stand p l e R s m args below meth c T locs cells slots) (hx : p.tables.exec = Jvm.exec) {B : ByteArray} (hby : c.code = B) {pc pc' : Nat} {Ls : Array Slot} {S : List Value} {x y z : Int64} (hd : decode B pc = .ok (.lxor, 1)) (hp : pc + 1 = pc') (hz : x ^^^ y = z) (g : own_Go p.tables e below (T.setTop (mkF m pc' Ls (.long z :: S))) RR) : own_Go p.tables e below (T.setTop (mkF m pc Ls (.long y :: .long x :: S))) RR := by
  subst hp
  subst hz
  exact own_st (fun t k => XS.lxor X.here hx rfl (hb hby hd) rfl k) g
theorem own_ishl (X : Stand p l e R s m args below meth c T locs cells slots) (hx : p.tables.exec = Jvm.exec) {B : ByteArray} (hby : c.code = B) {pc pc' : Nat} {Ls : Array Slot} {S : List Value} {x y z : Int32} (hd : decode B pc = .ok (.ishl, 1)) (hp : pc + 1 = pc') (hz : x <<< (y &&& 31) = z) (g : own_Go p.tables e below (T.setTop (mkF m pc' Ls (.int z :: S))) RR) : own_Go p.tables e below (T.setTop (mkF m pc Ls (.int y :: .int x :: S))) RR := by
  subst hp
  subst hz
  exact own_st (fun t k => XS.ishl X.here hx rfl (hb hby hd) rfl k) g
theorem own_ishr (X : Stand p l e R s m args below meth c T locs cells slots) (hx : p.tables.exec = Jvm.exec) {B : ByteArray} (hby : c.code = B) {pc pc' : Nat} {Ls : Array Slot} {S : List Value} {x y z : Int32} (hd : decode B pc = .ok (.ishr, 1)) (hp : pc + 1 = pc') (hz : x >>> (y &&& 31) = z) (g : own_Go p.tables e below (T.setTop (mkF m pc' Ls (.int z :: S))) RR) : own_Go p.tables e below (T.setTop (mkF m pc Ls (.int y :: .int x :: S))) RR := by
  subst hp
  subst hz
  exact own_st (fun t k => XS.ishr X.here hx rfl (hb hby hd) rfl k) g
theorem own_iushr (X : Stand p l e R s m args below meth c T locs cells slots) (hx : p.tables.exec = Jvm.exec) {B : ByteArray} (hby : c.code = B) {pc pc' : Nat} {Ls : Array Slot} {S : List Value} {x y z : Int32} (hd : decode B pc = .ok (.iushr, 1)) (hp : pc + 1 = pc') (hz : (x.toUInt32 >>> (y &&& 31).toUInt32).toInt32 = z) (g : own_Go p.tables e below (T.setTop (mkF m pc' Ls (.int z :: S))) RR) : own_Go p.tables e below (T.setTop (mkF m pc Ls (.int y :: .int x :: S))) RR := by
  subst hp
  subst hz
  exact own_st (fun t k => XS.iushr X.here hx rfl (hb hby hd) rfl k) g
theorem own_lshl (X : Stand p l e R s m args below meth c T locs cells slots) (hx : p.tables.exec = Jvm.exec) {B : ByteArray} (hby : c.code = B) {pc pc' : Nat} {Ls : Array Slot} {S : List Value} {x z : Int64} {y : Int32} (hd : decode B pc = .ok (.lshl, 1)) (hp : pc + 1 = pc') (hz : x <<< (y &&& 0x3f).toInt64 = z) (g : own_Go p.tables e below (T.setTop (mkF m pc' Ls (.long z :: S))) RR) : own_Go p.tables e below (T.setTop (mkF m pc Ls (.int y :: .long x :: S))) RR := by
  subst hp
  subst hz
  exact own_st (fun t k => XS.lshl X.here hx rfl (hb hby hd) rfl k) g
theorem own_lshr (X : Stand p l e R s m args below meth c T locs cells slots) (hx : p.tables.exec = Jvm.exec) {B : ByteArray} (hby : c.code = B) {pc pc' : Nat} {Ls : Array Slot} {S : List Value} {x z : Int64} {y : Int32} (hd : decode B pc = .ok (.lshr, 1)) (hp : pc + 1 = pc') (hz : x >>> (y &&& 0x3f).toInt64 = z) (g : own_Go p.tables e below (T.setTop (mkF m pc' Ls (.long z :: S))) RR) : own_Go p.tables e below (T.setTop (mkF m pc Ls (.int y :: .long x :: S))) RR := by
  subst hp
  subst hz
  exact own_st (fun t k => XS.lshr X.here hx rfl (hb hby hd) rfl k) g
theorem own_lushr (X : Stand p l e R s m args below meth c T locs cells slots) (hx : p.tables.exec = Jvm.exec) {B : ByteArray} (hby : c.code = B) {pc pc' : Nat} {Ls : Array Slot} {S : List Value} {x z : Int64} {y : Int32} (hd : decode B pc = .ok (.lushr, 1)) (hp : pc + 1 = pc') (hz : (x.toUInt64 >>> (y &&& 0x3f).toInt64.toUInt64).toInt64 = z) (g : own_Go p.tables e below (T.setTop (mkF m pc' Ls (.long z :: S))) RR) : own_Go p.tables e below (T.setTop (mkF m pc Ls (.int y :: .long x :: S))) RR := by
  subst hp
  subst hz
  exact own_st (fun t k => XS.lushr X.here hx rfl (hb hby hd) rfl k) g
theorem own_ineg (X : Stand p l e R s m args below meth c T locs cells slots) (hx : p.tables.exec = Jvm.exec) {B : ByteArray} (hby : c.code = B) {pc pc' : Nat} {Ls : Array Slot} {S : List Value} {x : Int32} {z : Int32} (hd : decode B pc = .ok (.ineg, 1)) (hp : pc + 1 = pc') (hz : -x = z) (g : own_Go p.tables e below (T.setTop (mkF m pc' Ls (.int z :: S))) RR) : own_Go p.tables e below (T.setTop (mkF m pc Ls (.int x :: S))) RR := by
  subst hp
  subst hz
  exact own_st (fun t k => XS.ineg X.here hx rfl (hb hby hd) rfl k) g
theorem own_lneg (X : Stand p l e R s m args below meth c T locs cells slots) (hx : p.tables.exec = Jvm.exec) {B : ByteArray} (hby : c.code = B) {pc pc' : Nat} {Ls : Array Slot} {S : List Value} {x : Int64} {z : Int64} (hd : decode B pc = .ok (.lneg, 1)) (hp : pc + 1 = pc') (hz : -x = z) (g : own_Go p.tables e below (T.setTop (mkF m pc' Ls (.long z :: S))) RR) : own_Go p.tables e below (T.setTop (mkF m pc Ls (.long x :: S))) RR := by
  subst hp
  subst hz
  exact own_st (fun t k => XS.lneg X.here hx rfl (hb hby hd) rfl k) g
theorem own_i2l (X : Stand p l e R s m args below meth c T locs cells slots) (hx : p.tables.exec = Jvm.exec) {B : ByteArray} (hby : c.code = B) {pc pc' : Nat} {Ls : Array Slot} {S : List Value} {x : Int32} {z : Int64} (hd : decode B pc = .ok (.i2l, 1)) (hp : pc + 1 = pc') (hz : x.toInt64 = z) (g : own_Go p.tables e below (T.setTop (mkF m pc' Ls (.long z :: S))) RR) : own_Go p.tables e below (T.setTop (mkF m pc Ls (.int x :: S))) RR := by
  subst hp
  subst hz
  exact own_st (fun t k => XS.i2l X.here hx rfl (hb hby hd) rfl k) g
theorem own_l2i (X : Stand p l e R s m args below meth c T locs cells slots) (hx : p.tables.exec = Jvm.exec) {B : ByteArray} (hby : c.code = B) {pc pc' : Nat} {Ls : Array Slot} {S : List Value} {x : Int64} {z : Int32} (hd : decode B pc = .ok (.l2i, 1)) (hp : pc + 1 = pc') (hz : x.toInt32 = z) (g : own_Go p.tables e below (T.setTop (mkF m pc' Ls (.int z :: S))) RR) : own_Go p.tables e below (T.setTop (mkF m pc Ls (.long x :: S))) RR := by
  subst hp
  subst hz
  exact own_st (fun t k => XS.l2i X.here hx rfl (hb hby hd) rfl k) g
theorem own_i2b (X : Stand p l e R s m args below meth c T locs cells slots) (hx : p.tables.exec = Jvm.exec) {B : ByteArray} (hby : c.code = B) {pc pc' : Nat} {Ls : Array Slot} {S : List Value} {x : Int32} {z : Int32} (hd : decode B pc = .ok (.i2b, 1)) (hp : pc + 1 = pc') (hz : x.toInt8.toInt32 = z) (g : own_Go p.tables e below (T.setTop (mkF m pc' Ls (.int z :: S))) RR) : own_Go p.tables e below (T.setTop (mkF m pc Ls (.int x :: S))) RR := by
  subst hp
  subst hz
  exact own_st (fun t k => XS.i2b X.here hx rfl (hb hby hd) rfl k) g
theorem own_i2s (X : Stand p l e R s m args below meth c T locs cells slots) (hx : p.tables.exec = Jvm.exec) {B : ByteArray} (hby : c.code = B) {pc pc' : Nat} {Ls : Array Slot} {S : List Value} {x : Int32} {z : Int32} (hd : decode B pc = .ok (.i2s, 1)) (hp : pc + 1 = pc') (hz : x.toInt16.toInt32 = z) (g : own_Go p.tables e below (T.setTop (mkF m pc' Ls (.int z :: S))) RR) : own_Go p.tables e below (T.setTop (mkF m pc Ls (.int x :: S))) RR := by
  subst hp
  subst hz
  exact own_st (fun t k => XS.i2s X.here hx rfl (hb hby hd) rfl k) g
theorem own_i2c (X : Stand p l e R s m args below meth c T locs cells slots) (hx : p.tables.exec = Jvm.exec) {B : ByteArray} (hby : c.code = B) {pc pc' : Nat} {Ls : Array Slot} {S : List Value} {x : Int32} {z : Int32} (hd : decode B pc = .ok (.i2c, 1)) (hp : pc + 1 = pc') (hz : x.toUInt32.toUInt16.toUInt32.toInt32 = z) (g : own_Go p.tables e below (T.setTop (mkF m pc' Ls (.int z :: S))) RR) : own_Go p.tables e below (T.setTop (mkF m pc Ls (.int x :: S))) RR := by
  subst hp
  subst hz
  exact own_st (fun t k => XS.i2c X.here hx rfl (hb hby hd) rfl k) g
theorem own_idiv (X : Stand p l e R s m args below meth c T locs cells slots) (hx : p.tables.exec = Jvm.exec) {B : ByteArray} (hby : c.code = B) {pc pc' : Nat} {Ls : Array Slot} {S : List Value} {x y z : Int32} (hd : decode B pc = .ok (.idiv, 1)) (hp : pc + 1 = pc') (hy : y ≠ 0) (hz : x / y = z) (g : own_Go p.tables e below (T.setTop (mkF m pc' Ls (.int z :: S))) RR) : own_Go p.tables e below (T.setTop (mkF m pc Ls (.int y :: .int x :: S))) RR := by
  subst hp
  subst hz
  exact own_st (fun t k => XS.idiv X.here hx rfl (hb hby hd) rfl hy k) g
theorem own_ldiv (X : Stand p l e R s m args below meth c T locs cells slots) (hx : p.tables.exec = Jvm.exec) {B : ByteArray} (hby : c.code = B) {pc pc' : Nat} {Ls : Array Slot} {S : List Value} {x y z : Int64} (hd : decode B pc = .ok (.ldiv, 1)) (hp : pc + 1 = pc') (hy : y ≠ 0) (hz : x / y = z) (g : own_Go p.tables e below (T.setTop (mkF m pc' Ls (.long z :: S))) RR) : own_Go p.tables e below (T.setTop (mkF m pc Ls (.long y :: .long x :: S))) RR := by
  subst hp
  subst hz
  exact own_st (fun t k => XS.ldiv X.here hx rfl (hb hby hd) rfl hy k) g
theorem own_irem (X : Stand p l e R s m args below meth c T locs cells slots) (hx : p.tables.exec = Jvm.exec) {B : ByteArray} (hby : c.code = B) {pc pc' : Nat} {Ls : Array Slot} {S : List Value} {x y z : Int32} (hd : decode B pc = .ok (.irem, 1)) (hp : pc + 1 = pc') (hy : y ≠ 0) (hz : x - (x / y) * y = z) (g : own_Go p.tables e below (T.setTop (mkF m pc' Ls (.int z :: S))) RR) : own_Go p.tables e below (T.setTop (mkF m pc Ls (.int y :: .int x :: S))) RR := by
  subst hp
  subst hz
  exact own_st (fun t k => XS.irem X.here hx rfl (hb hby hd) rfl hy k) g
theorem own_lrem (X : Stand p l e R s m args below meth c T locs cells slots) (hx : p.tables.exec = Jvm.exec) {B : ByteArray} (hby : c.code = B) {pc pc' : Nat} {Ls : Array Slot} {S : List Value} {x y z : Int64} (hd : decode B pc = .ok (.lrem, 1)) (hp : pc + 1 = pc') (hy : y ≠ 0) (hz : x - (x / y) * y = z) (g : own_Go p.tables e below (T.setTop (mkF m pc' Ls (.long z :: S))) RR) : own_Go p.tables e below (T.setTop (mkF m pc Ls (.long y :: .long x :: S))) RR := by
  subst hp
  subst hz
  exact own_st (fun t k => XS.lrem X.here hx rfl (hb hby hd) rfl hy k) g
theorem own_lcmp (X : Stand p l e R s m args below meth c T locs cells slots) (hx : p.tables.exec = Jvm.exec) {B : ByteArray} (hby : c.code = B) {pc pc' : Nat} {Ls : Array Slot} {S : List Value} {x y : Int64} (hd : decode B pc = .ok (.lcmp, 1)) (hp : pc + 1 = pc')  (g : own_Go p.tables e below (T.setTop (mkF m pc' Ls (.int (lcmpW x y) :: S))) RR) : own_Go p.tables e below (T.setTop (mkF m pc Ls (.long y :: .long x :: S))) RR := by
  subst hp
  exact own_st (fun t k => XS.lcmp X.here hx rfl (hb hby hd) rfl k) g
theorem own_iinc (X : Stand p l e R s m args below meth c T locs cells slots) (hx : p.tables.exec = Jvm.exec) {B : ByteArray} (hby : c.code = B) {pc pc' : Nat} {Ls : Array Slot} {S : List Value} {k : Nat} {cst : Int} {x z : Int32} {Ls' : Array Slot} (hd : decode B pc = .ok (.iinc k cst, 3)) (hp : pc + 3 = pc') (hl : Ls[k]? = some (.val (.int x))) (hz : x + Int32.ofInt cst = z) (hl' : storeLocals Ls k (.int z) = some Ls') (g : own_Go p.tables e below (T.setTop (mkF m pc' Ls' S)) RR) : own_Go p.tables e below (T.setTop (mkF m pc Ls S)) RR := by
  subst hp
  subst hz
  exact own_st (fun t k => XS.iinc X.here hx rfl (hb hby hd) hl hl' k) g
theorem own_dup (X : Stand p l e R s m args below meth c T locs cells slots) (hx : p.tables.exec = Jvm.exec) {B : ByteArray} (hby : c.code = B) {pc pc' : Nat} {Ls : Array Slot} {S : List Value} {x : Value} (hd : decode B pc = .ok (.dup, 1)) (hp : pc + 1 = pc') (hc : x.category = 1) (g : own_Go p.tables e below (T.setTop (mkF m pc' Ls (x :: x :: S))) RR) : own_Go p.tables e below (T.setTop (mkF m pc Ls (x :: S))) RR := by
  subst hp
  exact own_st (fun t k => XS.dup X.here hx rfl (hb hby hd) rfl hc k) g
theorem own_dup_x1 (X : Stand p l e R s m args below meth c T locs cells slots) (hx : p.tables.exec = Jvm.exec) {B : ByteArray} (hby : c.code = B) {pc pc' : Nat} {Ls : Array Slot} {S : List Value} {x y : Value} (hd : decode B pc = .ok (.dup_x1, 1)) (hp : pc + 1 = pc') (hc : x.category = 1) (hc' : y.category = 1) (g : own_Go p.tables e below (T.setTop (mkF m pc' Ls (x :: y :: x :: S))) RR) : own_Go p.tables e below (T.setTop (mkF m pc Ls (x :: y :: S))) RR := by
  subst hp
  exact own_st (fun t k => XS.dupX1 X.here hx rfl (hb hby hd) rfl hc hc' k) g
theorem own_dup2 (X : Stand p l e R s m args below meth c T locs cells slots) (hx : p.tables.exec = Jvm.exec) {B : ByteArray} (hby : c.code = B) {pc pc' : Nat} {Ls : Array Slot} {S : List Value} {x y : Value} (hd : decode B pc = .ok (.dup2, 1)) (hp : pc + 1 = pc') (hc : x.category = 1) (hc' : y.category = 1) (g : own_Go p.tables e below (T.setTop (mkF m pc' Ls (x :: y :: x :: y :: S))) RR) : own_Go p.tables e below (T.setTop (mkF m pc Ls (x :: y :: S))) RR := by
  subst hp
  exact own_st (fun t k => Jvm.Free.XT.dup2 X.here hx rfl (hb hby hd) rfl hc hc' k) g
theorem own_dup2L (X : Stand p l e R s m args below meth c T locs cells slots) (hx : p.tables.exec = Jvm.exec) {B : ByteArray} (hby : c.code = B) {pc pc' : Nat} {Ls : Array Slot} {S : List Value} {x : Int64} (hd : decode B pc = .ok (.dup2, 1)) (hp : pc + 1 = pc')  (g : own_Go p.tables e below (T.setTop (mkF m pc' Ls (.long x :: .long x :: S))) RR) : own_Go p.tables e below (T.setTop (mkF m pc Ls (.long x :: S))) RR := by
  subst hp
  exact own_st (fun t k => Jvm.Free.XT.dup2L X.here hx rfl (hb hby hd) rfl k) g
theorem own_pop (X : Stand p l e R s m args below meth c T locs cells slots) (hx : p.tables.exec = Jvm.exec) {B : ByteArray} (hby : c.code = B) {pc pc' : Nat} {Ls : Array Slot} {S : List Value} {x : Value} (hd : decode B pc = .ok (.pop, 1)) (hp : pc + 1 = pc') (hc : x.category = 1) (g : own_Go p.tables e below (T.setTop (mkF m pc' Ls S)) RR) : own_Go p.tables e below (T.setTop (mkF m pc Ls (x :: S))) RR := by
  subst hp
  exact own_st (fun t k => XS.pop X.here hx rfl (hb hby hd) rfl hc k) g
theorem own_goto (X : Stand p l e R s m args below meth c T locs cells slots) (hx : p.tables.exec = Jvm.exec) {B : ByteArray} (hby : c.code = B) {pc pc' : Nat} {Ls : Array Slot} {S : List Value}  {o : Int} (hd : decode B pc = .ok (.goto o, 3)) (hp : 0 ≤ (pc : Int) + o ∧ ((pc : Int) + o).toNat = pc')  (g : own_Go p.tables e below (T.setTop (mkF m pc' Ls S)) RR) : own_Go p.tables e below (T.setTop (mkF m pc Ls S)) RR :=
  own_st (fun t k => XS.goto X.here hx rfl rfl (hb hby hd) hp.1 hp.2 k) g
theorem own_ifYes (X : Stand p l e R s m args below meth c T locs cells slots) (hx : p.tables.exec = Jvm.exec) {B : ByteArray} (hby : c.code = B) {pc pc' : Nat} {Ls : Array Slot} {S : List Value} {cd : ClassFile.Cond} {x : Int32} {o : Int} (hd : decode B pc = .ok (.ifCond cd o, 3)) (hp : 0 ≤ (pc : Int) + o ∧ ((pc : Int) + o).toNat = pc') (hc : if_icmp.holds cd x 0 = true) (g : own_Go p.tables e below (T.setTop (mkF m pc' Ls S)) RR) : own_Go p.tables e below (T.setTop (mkF m pc Ls (.int x :: S))) RR :=
  own_st (fun t k => XS.ifYes X.here hx rfl rfl (hb hby hd) rfl ((if0 _ _).trans hc) hp.1 hp.2 k) g
theorem own_icmpYes (X : Stand p l e R s m args below meth c T locs cells slots) (hx : p.tables.exec = Jvm.exec) {B : ByteArray} (hby : c.code = B) {pc pc' : Nat} {Ls : Array Slot} {S : List Value} {cd : ClassFile.Cond} {x y : Int32} {o : Int} (hd : decode B pc = .ok (.if_icmp cd o, 3)) (hp : 0 ≤ (pc : Int) + o ∧ ((pc : Int) + o).toNat = pc') (hc : if_icmp.holds cd x y = true) (g : own_Go p.tables e below (T.setTop (mkF m pc' Ls S)) RR) : own_Go p.tables e below (T.setTop (mkF m pc Ls (.int y :: .int x :: S))) RR :=
  own_st (fun t k => XS.icmpYes X.here hx rfl rfl (hb hby hd) rfl hc hp.1 hp.2 k) g
theorem own_ifnullYes (X : Stand p l e R s m args below meth c T locs cells slots) (hx : p.tables.exec = Jvm.exec) {B : ByteArray} (hby : c.code = B) {pc pc' : Nat} {Ls : Array Slot} {S : List Value}  {o : Int} (hd : decode B pc = .ok (.ifnull o, 3)) (hp : 0 ≤ (pc : Int) + o ∧ ((pc : Int) + o).toNat = pc')  (g : own_Go p.tables e below (T.setTop (mkF m pc' Ls S)) RR) : own_Go p.tables e below (T.setTop (mkF m pc Ls (.null :: S))) RR :=
  own_st (fun t k => XS.ifnullYes X.here hx rfl rfl (hb hby hd) rfl hp.1 hp.2 k) g
theorem own_ifnonnullYes (X : Stand p l e R s m args below meth c T locs cells slots) (hx : p.tables.exec = Jvm.exec) {B : ByteArray} (hby : c.code = B) {pc pc' : Nat} {Ls : Array Slot} {S : List Value} {b : Addr} {o : Int} (hd : decode B pc = .ok (.ifnonnull o, 3)) (hp : 0 ≤ (pc : Int) + o ∧ ((pc : Int) + o).toNat = pc')  (g : own_Go p.tables e below (T.setTop (mkF m pc' Ls S)) RR) : own_Go p.tables e below (T.setTop (mkF m pc Ls (.ref b :: S))) RR :=
  own_st (fun t k => XS.ifnonnullYes X.here hx rfl rfl (hb hby hd) rfl hp.1 hp.2 k) g
theorem own_ifNo (X : Stand p l e R s m args below meth c T locs cells slots) (hx : p.tables.exec = Jvm.exec) {B : ByteArray} (hby : c.code = B) {pc pc' : Nat} {Ls : Array Slot} {S : List Value} {cd : ClassFile.Cond} {o : Int} {x : Int32} (hd : decode B pc = .ok (.ifCond cd o, 3)) (hp : pc + 3 = pc') (hc : if_icmp.holds cd x 0 = false) (g : own_Go p.tables e below (T.setTop (mkF m pc' Ls S)) RR) : own_Go p.tables e below (T.setTop (mkF m pc Ls (.int x :: S))) RR := by
  subst hp
  exact own_st (fun t k => XS.ifNo X.here hx rfl (hb hby hd) rfl ((if0 _ _).trans hc) k) g
theorem own_icmpNo (X : Stand p l e R s m args below meth c T locs cells slots) (hx : p.tables.exec = Jvm.exec) {B : ByteArray} (hby : c.code = B) {pc pc' : Nat} {Ls : Array Slot} {S : List Value} {cd : ClassFile.Cond} {o : Int} {x y : Int32} (hd : decode B pc = .ok (.if_icmp cd o, 3)) (hp : pc + 3 = pc') (hc : if_icmp.holds cd x y = false) (g : own_Go p.tables e below (T.setTop (mkF m pc' Ls S)) RR) : own_Go p.tables e below (T.setTop (mkF m pc Ls (.int y :: .int x :: S))) RR := by
  subst hp
  exact own_st (fun t k => XS.icmpNo X.here hx rfl (hb hby hd) rfl hc k) g
theorem own_ifnullNo (X : Stand p l e R s m args below meth c T locs cells slots) (hx : p.tables.exec = Jvm.exec) {B : ByteArray} (hby : c.code = B) {pc pc' : Nat} {Ls : Array Slot} {S : List Value} {o : Int} {b : Addr} (hd : decode B pc = .ok (.ifnull o, 3)) (hp : pc + 3 = pc')  (g : own_Go p.tables e below (T.setTop (mkF m pc' Ls S)) RR) : own_Go p.tables e below (T.setTop (mkF m pc Ls (.ref b :: S))) RR := by
  subst hp
  exact own_st (fun t k => XS.ifnullNo X.here hx rfl (hb hby hd) rfl k) g
theorem own_ifnonnullNo (X : Stand p l e R s m args below meth c T locs cells slots) (hx : p.tables.exec = Jvm.exec) {B : ByteArray} (hby : c.code = B) {pc pc' : Nat} {Ls : Array Slot} {S : List Value} {o : Int} (hd : decode B pc = .ok (.ifnonnull o, 3)) (hp : pc + 3 = pc')  (g : own_Go p.tables e below (T.setTop (mkF m pc' Ls S)) RR) : own_Go p.tables e below (T.setTop (mkF m pc Ls (.null :: S))) RR := by
  subst hp
  exact own_st (fun t k => XS.ifnonnullNo X.here hx rfl (hb hby hd) rfl k) g
theorem own_acmp (X : Stand p l e R s m args below meth c T locs cells slots) (hx : p.tables.exec = Jvm.exec) {B : ByteArray} (hby : c.code = B) {pc pc' : Nat} {Ls : Array Slot} {S : List Value} {cd : ACond} {o : Int} {x y : Value} {same : Bool} (hd : decode B pc = .ok (.if_acmp cd o, 3)) (h1 : x.isRef = true) (h2 : y.isRef = true) (hq : decide (x = y) = same) (hp : 0 ≤ (pc : Int) + o ∧ pc' = if acV cd same = true then ((pc : Int) + o).toNat else pc + 3) (g : own_Go p.tables e below (T.setTop (mkF m pc' Ls S)) RR) : own_Go p.tables e below (T.setTop (mkF m pc Ls (y :: x :: S))) RR :=
  own_st (fun t k => Jvm.RoadKit.acmp X hx rfl h1 h2 rfl (hb hby hd) rfl hq hp.1 hp.2 k) g
theorem own_tsw (X : Stand p l e R s m args below meth c T locs cells slots) (hx : p.tables.exec = Jvm.exec) {B : ByteArray} (hby : c.code = B) {pc pc' : Nat} {Ls : Array Slot} {S : List Value} {dflt low high : Int} {offs : Array Int} {len : Nat} {o : Int} {i : Int32} (hd : decode B pc = .ok (.tableswitch dflt low high offs, len)) (hin : ¬ (i.toInt < low ∨ i.toInt > high)) (hoff : offs[(i.toInt - low).toNat]? = some o) (hp : 0 ≤ (pc : Int) + o ∧ ((pc : Int) + o).toNat = pc') (g : own_Go p.tables e below (T.setTop (mkF m pc' Ls S)) RR) : own_Go p.tables e below (T.setTop (mkF m pc Ls (.int i :: S))) RR :=
  own_st (fun t k => XS.tswIn X.here hx rfl rfl (hb hby hd) rfl hin hoff hp.1 hp.2 k) g
theorem own_ldc (X : Stand p l e R s m args below meth c T locs cells slots) (hx : p.tables.exec = Jvm.exec) {B : ByteArray} (hby : c.code = B) {pc pc' : Nat} {Ls : Array Slot} {S : List Value} {own : String} {index : Nat} {v : Int32} (hd : decode B pc = .ok (.ldc index, 2)) (hp : pc + 2 = pc') (hZ : Z.Warmed39 s.vm) (hown : s.vm.findClass own = some m.cls) (w : (Cond.constant own index v).before a0 Z = true) (g : own_Go p.tables e below (T.setTop (mkF m pc' Ls (.int v :: S))) RR) : own_Go p.tables e below (T.setTop (mkF m pc Ls S)) RR := by
  subst hp
  exact own_st (X.ldcInt hx hown (mvT hZ w) (g := mkF m pc Ls S) rfl (hb hby hd)) g
theorem own_ldc2 (X : Stand p l e R s m args below meth c T locs cells slots) (hx : p.tables.exec = Jvm.exec) {B : ByteArray} (hby : c.code = B) {pc pc' : Nat} {Ls : Array Slot} {S : List Value} {own : String} {index : Nat} {v : Int64} (hd : decode B pc = .ok (.ldc2_w index, 3)) (hp : pc + 3 = pc') (hZ : Z.Warmed39 s.vm) (hown : s.vm.findClass own = some m.cls) (w : (Cond.constantLong own index v).before a0 Z = true) (g : own_Go p.tables e below (T.setTop (mkF m pc' Ls (.long v :: S))) RR) : own_Go p.tables e below (T.setTop (mkF m pc Ls S)) RR := by
  subst hp
  exact own_st (X.ldc2Long hx hown (mvT hZ w) (g := mkF m pc Ls S) rfl (hb hby hd)) g
theorem own_getS (X : Stand p l e R s m args below meth c T locs cells slots) (hx : p.tables.exec = Jvm.exec) {B : ByteArray} (hby : c.code = B) {pc pc' : Nat} {Ls : Array Slot} {S : List Value} {own R0 O n d host : String} {index : Nat} {v : Value} (hd : decode B pc = .ok (.getstatic index, 3)) (hp : pc + 3 = pc') (hZ : Z.Warmed39 s.vm) (hown : s.vm.findClass own = some m.cls) (w : (Cond.fieldLink own index R0 n d).before a0 Z = true ∨ (Cond.fieldLinkNest own index R0 n d host).before a0 Z = true) (via : Via Z R0 O n d) (eT : T.heap = h) (F : Sta Z h O n d v) (g : ∀ T' : State, Stand p l e R s m args below meth c T' locs cells slots → T'.heap = h → own_Go p.tables e below (T'.setTop (mkF m pc' Ls (v :: S))) RR) : own_Go p.tables e below (T.setTop (mkF m pc Ls S)) RR := by
  subst hp
  obtain ⟨T', X', e', st⟩ := getS2 X hx hZ hown w via eT F (g := mkF m pc Ls S) rfl (hb hby hd)
  exact own_st st (g T' X' e')
theorem own_getF (X : Stand p l e R s m args below meth c T locs cells slots) (hx : p.tables.exec = Jvm.exec) {B : ByteArray} (hby : c.code = B) {pc pc' : Nat} {Ls : Array Slot} {S : List Value} {own R0 O n d host : String} {index : Nat} {v : Value} {a : Addr} (hd : decode B pc = .ok (.getfield index, 3)) (hp : pc + 3 = pc') (hZ : Z.Warmed39 s.vm) (hown : s.vm.findClass own = some m.cls) (w : (Cond.fieldLink own index R0 n d).before a0 Z = true ∨ (Cond.fieldLinkNest own index R0 n d host).before a0 Z = true) (via : Via Z R0 O n d) (eT : T.heap = h) (F : Fld Z h a O n d v) (g : ∀ T' : State, Stand p l e R s m args below meth c T' locs cells slots → T'.heap = h → own_Go p.tables e below (T'.setTop (mkF m pc' Ls (v :: S))) RR) : own_Go p.tables e below (T.setTop (mkF m pc Ls (.ref a :: S))) RR := by
  subst hp
  obtain ⟨T', X', e', st⟩ := getF X hx hZ hown w via eT F (g := mkF m pc Ls (.ref a :: S)) rfl rfl (hb hby hd)
  exact own_st st (g T' X' e')
theorem own_new (X : Stand p l e R s m args below meth c T locs cells slots) (hx : p.tables.exec = Jvm.exec) {B : ByteArray} (hby : c.code = B) {pc pc' : Nat} {Ls : Array Slot} {S : List Value} {own C : String} {index n : Nat} (hd : decode B pc = .ok (.new index, 3)) (hp : pc + 3 = pc') (hZ : Z.Warmed39 s.vm) (hown : s.vm.findClass own = some m.cls) (w : (Cond.classLink own index C).before a0 Z = true) (wi : (Cond.instantiable C n).before a0 Z = true) (wz : (Cond.initialized C).before a0 Z = true) (eT : T.heap = h) (hc : cells + 1 ≤ R.cells) (hl : slots + n ≤ R.slots) (g : ∀ (T' : State) (h' : Heap) (a : Addr), Stand p l e R s m args below meth c T' locs (cells + 1) (slots + n) → T'.heap = h' → a = h.size → Ext h h' → Exa Z h' a C → (∀ {O nm d : String} {ty : FieldType}, Laid Z a0 C O nm d → parseFieldDescriptor d = some ty → Fld Z h' a O nm d (defaultValue ty)) → own_Go p.tables e below (T'.setTop (mkF m pc' Ls (.ref a :: S))) RR) : own_Go p.tables e below (T.setTop (mkF m pc Ls S)) RR := by
  subst hp
  obtain ⟨T', h', X', e', E', A', D', -, st⟩ := newO X hx hZ hown w wi wz eT (g := mkF m pc Ls S) rfl (hb hby hd) hc hl
  exact own_st st (g T' h' _ X' e' rfl E' A' D')
theorem own_put (X : Stand p l e R s m args below meth c T locs cells slots) (hx : p.tables.exec = Jvm.exec) {B : ByteArray} (hby : c.code = B) {pc pc' : Nat} {Ls : Array Slot} {S : List Value} {own R0 O n d host C : String} {index kk : Nat} {ty : FieldType} {a : Addr} {v old : Value} (hd : decode B pc = .ok (.putfield index, 3)) (hp : pc + 3 = pc') (hZ : Z.Warmed39 s.vm) (hown : s.vm.findClass own = some m.cls) (w : (Cond.fieldLink own index R0 n d).before a0 Z = true ∨ (Cond.fieldLinkNest own index R0 n d host).before a0 Z = true) (via : Via Z R0 O n d) (eT : T.heap = h) (F : Fld Z h a O n d old) (E : Exa Z h a C) (L : (Cond.lays C O n d).before a0 Z = true ∨ ((Cond.laysFinal C O n d).before a0 Z = true ∧ own = O ∧ meth.name = "<init>")) (wi : (Cond.instantiable C kk).before a0 Z = true) (hty : parseFieldDescriptor d = some ty) (hn : narrow ty v = v) (hf : fits ty v = true) (g : ∀ (T' : State) (h' : Heap), Stand p l e R s m args below meth c T' (locs ++ [⟨a, Jvm.RoadKit.slotOf Z O n d⟩]) cells slots → T'.heap = h' → Wr h h' a (Jvm.RoadKit.slotOf Z O n d) v → own_Go p.tables e below (T'.setTop (mkF m pc' Ls S)) RR) : own_Go p.tables e below (T.setTop (mkF m pc Ls (v :: .ref a :: S))) RR := by
  subst hp
  obtain ⟨T', h', X', e', W', st⟩ := putF X hx hZ hown w via eT F E L wi hty hn hf (g := mkF m pc Ls (v :: .ref a :: S)) rfl rfl (hb hby hd)
  exact own_st st (g T' h' X' e' W')
theorem own_putN (X : Stand p l e R s m args below meth c T locs cells slots) (hx : p.tables.exec = Jvm.exec) {B : ByteArray} (hby : c.code = B) {pc pc' : Nat} {Ls : Array Slot} {S : List Value} {own R0 O n d C : String} {index kk : Nat} {ty : FieldType} {a : Addr} {v v' old : Value} (hd : decode B pc = .ok (.putfield index, 3)) (hp : pc + 3 = pc') (hZ : Z.Warmed39 s.vm) (hown : s.vm.findClass own = some m.cls) (w : (Cond.fieldLink own index R0 n d).before a0 Z = true) (via : Via Z R0 O n d) (eT : T.heap = h) (F : Fld Z h a O n d old) (E : Exa Z h a C) (L : (Cond.lays C O n d).before a0 Z = true ∨ ((Cond.laysFinal C O n d).before a0 Z = true ∧ own = O ∧ meth.name = "<init>")) (wi : (Cond.instantiable C kk).before a0 Z = true) (hty : parseFieldDescriptor d = some ty) (hn : narrow ty v = v') (hf : fits ty v' = true) (g : ∀ (T' : State) (h' : Heap), Stand p l e R s m args below meth c T' (locs ++ [⟨a, Jvm.RoadKit.slotOf Z O n d⟩]) cells slots → T'.heap = h' → Wr h h' a (Jvm.RoadKit.slotOf Z O n d) v' → own_Go p.tables e below (T'.setTop (mkF m pc' Ls S)) RR) : own_Go p.tables e below (T.setTop (mkF m pc Ls (v :: .ref a :: S))) RR := by
  subst hp
  obtain ⟨T', h', X', e', W', st⟩ := putFN X hx hZ hown w via eT F E L wi hty hn hf (g := mkF m pc Ls (v :: .ref a :: S)) rfl rfl (hb hby hd)
  exact own_st st (g T' h' X' e' W')
theorem own_initO (X : Stand p l e R s m args below meth c T locs cells slots) (hx : p.tables.exec = Jvm.exec) {B : ByteArray} (hby : c.code = B) {pc pc' : Nat} {Ls : Array Slot} {S : List Value} {own : String} {index : Nat} {a : Addr} (hd : decode B pc = .ok (.invokespecial index, 3)) (hp : pc + 3 = pc') (hZ : Z.Warmed39 s.vm) (hown : s.vm.findClass own = some m.cls) (w1 : (Cond.methodLink own index Lib.objectInit).before a0 Z = true) (w2 : (Cond.instanceMethod Lib.objectInit).before a0 Z = true) (w3 : (Cond.code Lib.objectInit ⟨#[0xb1]⟩ 1 none).before a0 Z = true) (eT : T.heap = h) (hsz : Ls.size = c.maxLocals) (hf : 1 ≤ R.frames) {W : Nat} (hW : (S.map fun v => v.category).sum ≤ W) (hl : W + 12 ≤ R.locals) (g : ∀ (T' : State), Stand p l e R s m args below meth c T' locs cells slots → T'.heap = h → own_Go p.tables e below (T'.setTop (mkF m pc' Ls S)) RR) : own_Go p.tables e below (T.setTop (mkF m pc Ls (.ref a :: S))) RR := by
  subst hp
  obtain ⟨T', X', e', st⟩ := initO X hx hZ hown w1 w2 w3 eT (g := mkF m pc Ls (.ref a :: S)) rfl hsz rfl (hb hby hd) hf (W := W) (by show 2 * 0 + _ ≤ _; omega) hl
  exact own_st st (g T' X' e')
theorem own_castY (X : Stand p l e R s m args below meth c T locs cells slots) (hx : p.tables.exec = Jvm.exec) {B : ByteArray} (hby : c.code = B) {pc pc' : Nat} {Ls : Array Slot} {S : List Value} {own K : String} {index : Nat} {a : Addr} (hd : decode B pc = .ok (.checkcast index, 3)) (hp : pc + 3 = pc') (hZ : Z.Warmed39 s.vm) (hown : s.vm.findClass own = some m.cls) (w : (Cond.classLink own index K).before a0 Z = true) (eT : T.heap = h) (F : Ins Z h a K true) (g : ∀ (T' : State), Stand p l e R s m args below meth c T' locs cells slots → T'.heap = h → own_Go p.tables e below (T'.setTop (mkF m pc' Ls (.ref a :: S))) RR) : own_Go p.tables e below (T.setTop (mkF m pc Ls (.ref a :: S))) RR := by
  subst hp
  obtain ⟨T', X', e', st⟩ := castY X hx hZ hown w eT F (g := mkF m pc Ls (.ref a :: S)) rfl rfl (hb hby hd)
  exact own_st st (g T' X' e')
theorem own_instY (X : Stand p l e R s m args below meth c T locs cells slots) (hx : p.tables.exec = Jvm.exec) {B : ByteArray} (hby : c.code = B) {pc pc' : Nat} {Ls : Array Slot} {S : List Value} {own K : String} {index : Nat} {a : Addr} (hd : decode B pc = .ok (.instanceof index, 3)) (hp : pc + 3 = pc') (hZ : Z.Warmed39 s.vm) (hown : s.vm.findClass own = some m.cls) (w : (Cond.classLink own index K).before a0 Z = true) (eT : T.heap = h) (F : Ins Z h a K true) (g : ∀ (T' : State), Stand p l e R s m args below meth c T' locs cells slots → T'.heap = h → own_Go p.tables e below (T'.setTop (mkF m pc' Ls (.int 1 :: S))) RR) : own_Go p.tables e below (T.setTop (mkF m pc Ls (.ref a :: S))) RR := by
  subst hp
  obtain ⟨T', X', e', st⟩ := instY X hx hZ hown w eT F (g := mkF m pc Ls (.ref a :: S)) rfl rfl (hb hby hd)
  exact own_st st (g T' X' e')
theorem own_castN (X : Stand p l e R s m args below meth c T locs cells slots) (hx : p.tables.exec = Jvm.exec) {B : ByteArray} (hby : c.code = B) {pc pc' : Nat} {Ls : Array Slot} {S : List Value} {index : Nat} (hd : decode B pc = .ok (.checkcast index, 3)) (hp : pc + 3 = pc') (g : own_Go p.tables e below (T.setTop (mkF m pc' Ls (.null :: S))) RR) : own_Go p.tables e below (T.setTop (mkF m pc Ls (.null :: S))) RR := by
  subst hp
  exact own_st (X.checkcastNull hx (g := mkF m pc Ls (.null :: S)) rfl rfl (hb hby hd)) g
theorem own_instN (X : Stand p l e R s m args below meth c T locs cells slots) (hx : p.tables.exec = Jvm.exec) {B : ByteArray} (hby : c.code = B) {pc pc' : Nat} {Ls : Array Slot} {S : List Value} {index : Nat} (hd : decode B pc = .ok (.instanceof index, 3)) (hp : pc + 3 = pc') (g : own_Go p.tables e below (T.setTop (mkF m pc' Ls (.int 0 :: S))) RR) : own_Go p.tables e below (T.setTop (mkF m pc Ls (.null :: S))) RR := by
  subst hp
  exact own_st (X.instanceofNull hx (g := mkF m pc Ls (.null :: S)) rfl rfl (hb hby hd)) g
theorem own_callSp (X : Stand p l e R s m args below meth c T locs cells slots) (hx : p.tables.exec = Jvm.exec) (hZ : Z.Warmed39 s.vm) {y : MethodName} {bytes : ByteArray} {maxL : Nat} {rm : Room} {as' : Array Value}
    (hM : own_Met l y bytes maxL none [] rm as' Z h Q) (hin : y.name = "<init>") {own : String} {index : Nat} (hown : s.vm.findClass own = some m.cls) (w1 : (Cond.methodLink own index y).before a0 Z = true) (w4 : (Cond.instanceMethod y).before a0 Z = true) (w5 : (Cond.code y bytes maxL none).before a0 Z = true) (w6 : (Cond.initialized y.cls).before a0 Z = true)
    (hy : y.cls ≠ "java/lang/invoke/MethodHandle" ∧ y.cls ≠ "java/lang/invoke/VarHandle") {a : Addr} {W : Nat} (hf : rm.frames + 1 ≤ R.frames) (hl : W + (maxL + 11) + rm.locals ≤ R.locals) {pc : Nat} {Ls : Array Slot} (hsz : Ls.size = c.maxLocals) {argsL rest st : List Value} (ha : (Value.ref a :: argsL).toArray = as')
    (hlen : ∀ sig, parseMethodDescriptor y.desc = some sig → argsL.length = sig.parameters.length) (hst : st = argsL.reverse ++ .ref a :: rest) (hW : (rest.map fun v => v.category).sum ≤ W) (hd : decode c.code pc = .ok (.invokespecial index, 3)) (eT : T.heap = h) (hc : cells + rm.cells ≤ R.cells) (hs : slots + rm.slots ≤ R.slots)
    (k : ∀ (v : Option Value) (T' : State) (L : List Loc), Stand p l e R s m args below meth c T' (locs ++ L) (cells + rm.cells) (slots + rm.slots) → Q v T'.heap L → own_Go p.tables e below (T'.setTop (mkF m (pc + 3) Ls (v.toList ++ rest))) RR) :
    own_Go p.tables e below (T.setTop (mkF m pc Ls st)) RR := by
  subst ha
  obtain ⟨v, _, ⟨T', L', k', n'⟩, -, X', ⟨Lc, hQ, l', y', z'⟩, stp⟩ := X.specialBack hx (y := y) hin hown (mvT hZ w1) (mvT hZ w4) (mvT hZ w5) hy (backOf (W := W) hM hZ w5 w6 hf hl) (g := mkF m pc Ls st) rfl hsz (Steps.refl _) (a := a) (argsL := argsL) (rest := rest) hlen hst (by show 2 * 0 + _ ≤ _; omega) hd (fun _ _ => ⟨rfl, eT, hc, hs⟩)
  dsimp only [Pt.U, Pt.locs, Pt.cells, Pt.slots] at X' l' y' z' stp hQ
  subst l' y' z'
  exact own_st (fun t k => stp.trans k) (k v T' Lc X' hQ)
/-! arrays: own_Ar says all that an array holds, by a list -/
def own_Ar (Z : State) (h : Heap) (a : Addr) (ty : FieldType) (vs : List Value) : Prop := ∃ c : Cell, Arr Z h a c ty ∧ c.slots.toList = vs
theorem own_Ar.lt {a : Addr} {ty : FieldType} {vs : List Value} (F : own_Ar Z h a ty vs) : a < h.size := by obtain ⟨c, A, -⟩ := F; exact A.lt
theorem own_Ar.ext {h' : Heap} {a : Addr} {ty : FieldType} {vs : List Value} (F : own_Ar Z h a ty vs) (E : Ext h h') : own_Ar Z h' a ty vs := by obtain ⟨c, A, q⟩ := F; exact ⟨c, A.ext E, q⟩
theorem own_Ar.other {h' : Heap} {a b : Addr} {sl : Nat} {v : Value} {ty : FieldType} {vs : List Value} (F : own_Ar Z h b ty vs) (W : Wr h h' a sl v) (q : b ≠ a) : own_Ar Z h' b ty vs := by obtain ⟨c, A, r⟩ := F; exact ⟨c, A.other W q, r⟩
theorem own_Ar.keep {h' : Heap} {a : Addr} {ws : List Addr} {ty : FieldType} {vs : List Value} (F : own_Ar Z h a ty vs) (K : Keep h h' ws) (q : a ∉ ws) : own_Ar Z h' a ty vs := by obtain ⟨c, A, r⟩ := F; exact ⟨c, ⟨K.2.1 a c A.1 q, A.2⟩, r⟩
theorem own_Ar.same {h' : Heap} {a : Addr} {sl : Nat} {v : Value} {ty : FieldType} {vs : List Value} (F : own_Ar Z h a ty vs) (W : Wr h h' a sl v) : own_Ar Z h' a ty (vs.set sl v) := by
  obtain ⟨c, A, r⟩ := F
  refine ⟨_, A.same W, ?_⟩
  rw [← r]
  show (c.slots.setIfInBounds sl v).toList = _
  exact Array.toList_setIfInBounds
theorem own_Ar.at {a : Addr} {ty : FieldType} {vs : List Value} (F : own_Ar Z h a ty vs) {j : Int32} (hj : ¬ j < 0) {v : Value} (hv : vs[j.toNatClampNeg]? = some v) : ∃ c : Cell, Arr Z h a c ty ∧ c.slots.toList = vs ∧ ¬ (j < 0 ∨ c.slots.size ≤ j.toNatClampNeg) ∧ c.slots[j.toNatClampNeg]? = some v := by
  obtain ⟨c, A, r⟩ := F
  subst r
  have q : c.slots[j.toNatClampNeg]? = some v := by rw [← Array.getElem?_toList]; exact hv
  refine ⟨c, A, rfl, ?_, q⟩
  rintro (u | u)
  · exact hj u
  · rw [Array.getElem?_eq_none u] at q; cases q
theorem own_newA (X : Stand p l e R s m args below meth c T locs cells slots) (hx : p.tables.exec = Jvm.exec) {B : ByteArray} (hby : c.code = B) {pc pc' : Nat} {Ls : Array Slot} {S : List Value} {aty : ArrayType} {n : Int32} {vs : List Value} (hd : decode B pc = .ok (.newarray aty, 2)) (hp : pc + 2 = pc') (hZ : Z.Warmed39 s.vm) (w : (Cond.arrayClass (newarray.typeOf aty)).before a0 Z = true) (eT : T.heap = h) (hn : ¬ n < 0) {cap : Nat} (hcap : n.toNatClampNeg ≤ cap) (hbig : cap * 8 ≤ 536870912) (hc : cells + 1 ≤ R.cells) (hl : slots + cap ≤ R.slots) (hvs : List.replicate n.toNatClampNeg (defaultValue (newarray.typeOf aty)) = vs) (g : ∀ (T' : State) (h' : Heap) (a : Addr), Stand p l e R s m args below meth c T' locs (cells + 1) (slots + cap) → T'.heap = h' → a = h.size → Ext h h' → own_Ar Z h' a (newarray.typeOf aty) vs → own_Go p.tables e below (T'.setTop (mkF m pc' Ls (.ref a :: S))) RR) : own_Go p.tables e below (T.setTop (mkF m pc Ls (.int n :: S))) RR := by
  subst hp
  obtain ⟨T', h', cA, X', e', E', A', st⟩ := newP X hx hZ w eT (g := mkF m pc Ls (.int n :: S)) rfl (hb hby hd) rfl hn hcap hbig hc hl
  exact own_st st (g T' h' _ X' e' rfl E' ⟨_, A', by rw [← hvs]; exact Array.toList_replicate⟩)
theorem own_iaload (X : Stand p l e R s m args below meth c T locs cells slots) (hx : p.tables.exec = Jvm.exec) {B : ByteArray} (hby : c.code = B) {pc pc' : Nat} {Ls : Array Slot} {S : List Value} {a : Addr} {j : Int32} {v : Value} {vs : List Value} (hd : decode B pc = .ok (.iaload, 1)) (hp : pc + 1 = pc') (hZ : Z.Warmed39 s.vm) (eT : T.heap = h) (A : own_Ar Z h a .int vs) (hj : ¬ j < 0) (hv : vs[j.toNatClampNeg]? = some v) (g : own_Go p.tables e below (T.setTop (mkF m pc' Ls (v :: S))) RR) : own_Go p.tables e below (T.setTop (mkF m pc Ls (.int j :: .ref a :: S))) RR := by
  subst hp
  obtain ⟨cl, Ar, -, hin, hat⟩ := A.at hj hv
  exact own_st (fun t k => X.iaload hx (j := j) (v := v) (by rw [eT]; exact Ar.1) (State.isArrayOf_alike hZ.alike Ar.2.1) Ar.2.2 hin hat (g := mkF m pc Ls (.int j :: .ref a :: S)) rfl rfl (hb hby hd) t k) g
theorem own_laload (X : Stand p l e R s m args below meth c T locs cells slots) (hx : p.tables.exec = Jvm.exec) {B : ByteArray} (hby : c.code = B) {pc pc' : Nat} {Ls : Array Slot} {S : List Value} {a : Addr} {j : Int32} {v : Value} {vs : List Value} (hd : decode B pc = .ok (.laload, 1)) (hp : pc + 1 = pc') (hZ : Z.Warmed39 s.vm) (eT : T.heap = h) (A : own_Ar Z h a .long vs) (hj : ¬ j < 0) (hv : vs[j.toNatClampNeg]? = some v) (g : own_Go p.tables e below (T.setTop (mkF m pc' Ls (v :: S))) RR) : own_Go p.tables e below (T.setTop (mkF m pc Ls (.int j :: .ref a :: S))) RR := by
  subst hp
  obtain ⟨cl, Ar, -, hin, hat⟩ := A.at hj hv
  exact own_st (fun t k => X.laload hx (j := j) (v := v) (by rw [eT]; exact Ar.1) (State.isArrayOf_alike hZ.alike Ar.2.1) Ar.2.2 hin hat (g := mkF m pc Ls (.int j :: .ref a :: S)) rfl rfl (hb hby hd) t k) g
theorem own_caload (X : Stand p l e R s m args below meth c T locs cells slots) (hx : p.tables.exec = Jvm.exec) {B : ByteArray} (hby : c.code = B) {pc pc' : Nat} {Ls : Array Slot} {S : List Value} {a : Addr} {j : Int32} {v : Value} {vs : List Value} (hd : decode B pc = .ok (.caload, 1)) (hp : pc + 1 = pc') (hZ : Z.Warmed39 s.vm) (eT : T.heap = h) (A : own_Ar Z h a .char vs) (hj : ¬ j < 0) (hv : vs[j.toNatClampNeg]? = some v) (g : own_Go p.tables e below (T.setTop (mkF m pc' Ls (v :: S))) RR) : own_Go p.tables e below (T.setTop (mkF m pc Ls (.int j :: .ref a :: S))) RR := by
  subst hp
  obtain ⟨cl, Ar, -, hin, hat⟩ := A.at hj hv
  exact own_st (fun t k => X.caload hx (j := j) (v := v) (by rw [eT]; exact Ar.1) (State.isArrayOf_alike hZ.alike Ar.2.1) Ar.2.2 hin hat (g := mkF m pc Ls (.int j :: .ref a :: S)) rfl rfl (hb hby hd) t k) g
theorem own_saload (X : Stand p l e R s m args below meth c T locs cells slots) (hx : p.tables.exec = Jvm.exec) {B : ByteArray} (hby : c.code = B) {pc pc' : Nat} {Ls : Array Slot} {S : List Value} {a : Addr} {j : Int32} {v : Value} {vs : List Value} (hd : decode B pc = .ok (.saload, 1)) (hp : pc + 1 = pc') (hZ : Z.Warmed39 s.vm) (eT : T.heap = h) (A : own_Ar Z h a .short vs) (hj : ¬ j < 0) (hv : vs[j.toNatClampNeg]? = some v) (g : own_Go p.tables e below (T.setTop (mkF m pc' Ls (v :: S))) RR) : own_Go p.tables e below (T.setTop (mkF m pc Ls (.int j :: .ref a :: S))) RR := by
  subst hp
  obtain ⟨cl, Ar, -, hin, hat⟩ := A.at hj hv
  exact own_st (fun t k => X.saload hx (j := j) (v := v) (by rw [eT]; exact Ar.1) (State.isArrayOf_alike hZ.alike Ar.2.1) Ar.2.2 hin hat (g := mkF m pc Ls (.int j :: .ref a :: S)) rfl rfl (hb hby hd) t k) g
theorem own_baload (X : Stand p l e R s m args below meth c T locs cells slots) (hx : p.tables.exec = Jvm.exec) {B : ByteArray} (hby : c.code = B) {pc pc' : Nat} {Ls : Array Slot} {S : List Value} {a : Addr} {j : Int32} {v : Value} {vs : List Value} (hd : decode B pc = .ok (.baload, 1)) (hp : pc + 1 = pc') (hZ : Z.Warmed39 s.vm) (eT : T.heap = h) (A : own_Ar Z h a .byte vs) (hj : ¬ j < 0) (hv : vs[j.toNatClampNeg]? = some v) (g : own_Go p.tables e below (T.setTop (mkF m pc' Ls (v :: S))) RR) : own_Go p.tables e below (T.setTop (mkF m pc Ls (.int j :: .ref a :: S))) RR := by
  subst hp
  obtain ⟨cl, Ar, -, hin, hat⟩ := A.at hj hv
  exact own_st (fun t k => X.baloadBytes hx (j := j) (v := v) (by rw [eT]; exact Ar.1) (State.isArrayOf_alike hZ.alike Ar.2.1) Ar.2.2 hin hat (g := mkF m pc Ls (.int j :: .ref a :: S)) rfl rfl (hb hby hd) t k) g
theorem own_aaload (X : Stand p l e R s m args below meth c T locs cells slots) (hx : p.tables.exec = Jvm.exec) {B : ByteArray} (hby : c.code = B) {pc pc' : Nat} {Ls : Array Slot} {S : List Value} {a : Addr} {j : Int32} {v : Value} {vs : List Value} {ty : FieldType} (hty : ty.isReference = true) (hd : decode B pc = .ok (.aaload, 1)) (hp : pc + 1 = pc') (hZ : Z.Warmed39 s.vm) (eT : T.heap = h) (A : own_Ar Z h a ty vs) (hj : ¬ j < 0) (hv : vs[j.toNatClampNeg]? = some v) (g : own_Go p.tables e below (T.setTop (mkF m pc' Ls (v :: S))) RR) : own_Go p.tables e below (T.setTop (mkF m pc Ls (.int j :: .ref a :: S))) RR := by
  subst hp
  obtain ⟨cl, Ar, -, hin, hat⟩ := A.at hj hv
  exact own_st (fun t k => X.aaload hx (j := j) (v := v) (by rw [eT]; exact Ar.1) (State.isArrayOf_alike hZ.alike Ar.2.1) hty Ar.2.2 hin hat (g := mkF m pc Ls (.int j :: .ref a :: S)) rfl rfl (hb hby hd) t k) g
theorem own_iastore (X : Stand p l e R s m args below meth c T locs cells slots) (hx : p.tables.exec = Jvm.exec) {B : ByteArray} (hby : c.code = B) {pc pc' : Nat} {Ls : Array Slot} {S : List Value} {a : Addr} {j : Int32} {x : Int32} {v : Value} {vs : List Value} (hd : decode B pc = .ok (.iastore, 1)) (hp : pc + 1 = pc') (hZ : Z.Warmed39 s.vm) (eT : T.heap = h) (A : own_Ar Z h a .int vs) (hj : ¬ j < 0) (hv : vs[j.toNatClampNeg]? = some v) (g : ∀ (T' : State) (h' : Heap), Stand p l e R s m args below meth c T' (locs ++ [⟨a, j.toNatClampNeg⟩]) cells slots → T'.heap = h' → Wr h h' a j.toNatClampNeg (.int x) → own_Ar Z h' a .int (vs.set j.toNatClampNeg (.int x)) → own_Go p.tables e below (T'.setTop (mkF m pc' Ls S)) RR) : own_Go p.tables e below (T.setTop (mkF m pc Ls ((.int x) :: .int j :: .ref a :: S))) RR := by
  subst hp
  obtain ⟨cl, Ar, r, hin, hat⟩ := A.at hj hv
  obtain ⟨T', h', X', e', W', st⟩ := stI X hx hZ eT Ar (j := j) (x := x) hin (g := mkF m pc Ls ((.int x) :: .int j :: .ref a :: S)) rfl rfl (hb hby hd)
  exact own_st st (g T' h' X' e' W' (A.same W'))
theorem own_lastore (X : Stand p l e R s m args below meth c T locs cells slots) (hx : p.tables.exec = Jvm.exec) {B : ByteArray} (hby : c.code = B) {pc pc' : Nat} {Ls : Array Slot} {S : List Value} {a : Addr} {j : Int32} {x : Int64} {v : Value} {vs : List Value} (hd : decode B pc = .ok (.lastore, 1)) (hp : pc + 1 = pc') (hZ : Z.Warmed39 s.vm) (eT : T.heap = h) (A : own_Ar Z h a .long vs) (hj : ¬ j < 0) (hv : vs[j.toNatClampNeg]? = some v) (g : ∀ (T' : State) (h' : Heap), Stand p l e R s m args below meth c T' (locs ++ [⟨a, j.toNatClampNeg⟩]) cells slots → T'.heap = h' → Wr h h' a j.toNatClampNeg (.long x) → own_Ar Z h' a .long (vs.set j.toNatClampNeg (.long x)) → own_Go p.tables e below (T'.setTop (mkF m pc' Ls S)) RR) : own_Go p.tables e below (T.setTop (mkF m pc Ls ((.long x) :: .int j :: .ref a :: S))) RR := by
  subst hp
  obtain ⟨cl, Ar, r, hin, hat⟩ := A.at hj hv
  obtain ⟨T', h', X', e', W', st⟩ := stJ X hx hZ eT Ar (j := j) (x := x) hin (g := mkF m pc Ls ((.long x) :: .int j :: .ref a :: S)) rfl rfl (hb hby hd)
  exact own_st st (g T' h' X' e' W' (A.same W'))
theorem own_castore (X : Stand p l e R s m args below meth c T locs cells slots) (hx : p.tables.exec = Jvm.exec) {B : ByteArray} (hby : c.code = B) {pc pc' : Nat} {Ls : Array Slot} {S : List Value} {a : Addr} {j : Int32} {x : Int32} {v : Value} {vs : List Value} (hd : decode B pc = .ok (.castore, 1)) (hp : pc + 1 = pc') (hZ : Z.Warmed39 s.vm) (eT : T.heap = h) (A : own_Ar Z h a .char vs) (hj : ¬ j < 0) (hv : vs[j.toNatClampNeg]? = some v) (g : ∀ (T' : State) (h' : Heap), Stand p l e R s m args below meth c T' (locs ++ [⟨a, j.toNatClampNeg⟩]) cells slots → T'.heap = h' → Wr h h' a j.toNatClampNeg (.int (nar .char x)) → own_Ar Z h' a .char (vs.set j.toNatClampNeg (.int (nar .char x))) → own_Go p.tables e below (T'.setTop (mkF m pc' Ls S)) RR) : own_Go p.tables e below (T.setTop (mkF m pc Ls ((.int x) :: .int j :: .ref a :: S))) RR := by
  subst hp
  obtain ⟨cl, Ar, r, hin, hat⟩ := A.at hj hv
  obtain ⟨T', h', X', e', W', st⟩ := stC X hx hZ eT Ar (j := j) (x := x) hin (g := mkF m pc Ls ((.int x) :: .int j :: .ref a :: S)) rfl rfl (hb hby hd)
  exact own_st st (g T' h' X' e' W' (A.same W'))
theorem own_bastore (X : Stand p l e R s m args below meth c T locs cells slots) (hx : p.tables.exec = Jvm.exec) {B : ByteArray} (hby : c.code = B) {pc pc' : Nat} {Ls : Array Slot} {S : List Value} {a : Addr} {j : Int32} {x : Int32} {v : Value} {vs : List Value} (hd : decode B pc = .ok (.bastore, 1)) (hp : pc + 1 = pc') (hZ : Z.Warmed39 s.vm) (eT : T.heap = h) (A : own_Ar Z h a .byte vs) (hj : ¬ j < 0) (hv : vs[j.toNatClampNeg]? = some v) (g : ∀ (T' : State) (h' : Heap), Stand p l e R s m args below meth c T' (locs ++ [⟨a, j.toNatClampNeg⟩]) cells slots → T'.heap = h' → Wr h h' a j.toNatClampNeg (.int x.toInt8.toInt32) → own_Ar Z h' a .byte (vs.set j.toNatClampNeg (.int x.toInt8.toInt32)) → own_Go p.tables e below (T'.setTop (mkF m pc' Ls S)) RR) : own_Go p.tables e below (T.setTop (mkF m pc Ls ((.int x) :: .int j :: .ref a :: S))) RR := by
  subst hp
  obtain ⟨cl, Ar, r, hin, hat⟩ := A.at hj hv
  obtain ⟨T', h', X', e', W', st⟩ := stB X hx hZ eT Ar (j := j) (x := x) hin (g := mkF m pc Ls ((.int x) :: .int j :: .ref a :: S)) rfl rfl (hb hby hd)
  exact own_st st (g T' h' X' e' W' (A.same W'))
theorem own_len (X : Stand p l e R s m args below meth c T locs cells slots) (hx : p.tables.exec = Jvm.exec) {B : ByteArray} (hby : c.code = B) {pc pc' : Nat} {Ls : Array Slot} {S : List Value} {a : Addr} {ty : FieldType} {n : Int32} {vs : List Value} (hd : decode B pc = .ok (.arraylength, 1)) (hp : pc + 1 = pc') (hZ : Z.Warmed39 s.vm) (eT : T.heap = h) (A : own_Ar Z h a ty vs) (hn : vs.length.toInt32 = n) (g : own_Go p.tables e below (T.setTop (mkF m pc' Ls (.int n :: S))) RR) : own_Go p.tables e below (T.setTop (mkF m pc Ls (.ref a :: S))) RR := by
  subst hp hn
  obtain ⟨cl, Ar, r⟩ := A
  subst r
  exact own_st (fun t k => X.arraylength hx (by rw [eT]; exact Ar.1) (State.isArrayOf_alike hZ.alike Ar.2.1) (g := mkF m pc Ls (.ref a :: S)) rfl rfl (hb hby hd) t (by rw [← Array.length_toList]; exact k)) g
theorem own_clone (X : Stand p l e R s m args below meth c T locs cells slots) (hx : p.tables.exec = Jvm.exec) {B : ByteArray} (hby : c.code = B) {pc pc' : Nat} {Ls : Array Slot} {S : List Value} {own ad : String} {index : Nat} {a : Addr} {cl : Cell} {ty : FieldType} (hd : decode B pc = .ok (.invokevirtual index, 3)) (hp : pc + 3 = pc') (hZ : Z.Warmed39 s.vm) (hown : s.vm.findClass own = some m.cls) (w1 : (Cond.methodLink own index ⟨ad, "clone", "()Ljava/lang/Object;"⟩).before a0 Z = true) (w2 : (Cond.sameMethod ad "java/lang/Object" "clone" "()Ljava/lang/Object;").before a0 Z = true) (w3 : (Cond.native ⟨"java/lang/Object", "clone", "()Ljava/lang/Object;"⟩).before a0 Z = true) (w4 : (Cond.instanceMethod ⟨"java/lang/Object", "clone", "()Ljava/lang/Object;"⟩).before a0 Z = true) (w5 : (Cond.selects ad ⟨ad, "clone", "()Ljava/lang/Object;"⟩ ⟨"java/lang/Object", "clone", "()Ljava/lang/Object;"⟩).before a0 Z = true) (w6 : (Cond.castable ad "java/lang/Cloneable").before a0 Z = true) (eT : T.heap = h) (A : Arr Z h a cl ty) (E : Exa Z h a ad) (F : FitC Z cl) (hsz : Ls.size = c.maxLocals) (hf : 1 ≤ R.frames) {W cap : Nat} (hW : (S.map fun v => v.category).sum ≤ W) (hl : W + 14 ≤ R.locals) (hcap : cl.slots.size ≤ cap) (hc : cells + 1 ≤ R.cells) (hsl : slots + cap ≤ R.slots) (g : ∀ (T' : State) (h' : Heap) (b : Addr), Stand p l e R s m args below meth c T' locs (cells + 1) (slots + cap) → T'.heap = h' → b = h.size → Ext h h' → Arr Z h' b (cloneOf cl) ty → Exa Z h' b ad → own_Go p.tables e below (T'.setTop (mkF m pc' Ls (.ref b :: S))) RR) : own_Go p.tables e below (T.setTop (mkF m pc Ls (.ref a :: S))) RR := by
  subst hp
  obtain ⟨T', h', X', e', E', A', F', st⟩ := cloneA X hx hZ hown w1 w2 w3 w4 w5 w6 eT A E F (g := mkF m pc Ls (.ref a :: S)) rfl hsz rfl (hb hby hd) hf (W := W) (by show 2 * 0 + _ ≤ _; omega) hl hcap hc hsl
  exact own_st st (g T' h' _ X' e' rfl E' A' F')
theorem own_Ar.arv {a : Addr} {ty : FieldType} {vs : List Value} {dv : Value} (F : own_Ar Z h a ty vs) (hl : vs.length < 2 ^ 31) (hf : ∀ v ∈ vs, fits ty v = true) : ∃ k, vs.length.toInt32.toNatClampNeg = vs.length ∧ Arv Z h a k ty vs.length.toInt32 vs dv := by
  obtain ⟨c, A, r⟩ := F
  subst r
  have e : c.slots.toList.length = c.slots.size := Array.length_toList
  have i : c.slots.size.toInt32.toInt = (c.slots.size : Int) := len_toInt (by rw [← e]; exact hl)
  have z : c.slots.size.toInt32.toNatClampNeg = c.slots.size := by simp only [Int32.toNatClampNeg, i]; rfl
  have g : ∀ k, k < c.slots.size → c.slots[k]? = some (c.slots.toList.getD k dv) := fun k hk => by
    rw [List.getD_eq_getElem?_getD, Array.getElem?_toList, Array.getElem?_eq_getElem hk]; rfl
  rw [e]
  refine ⟨c.cls, z, c, A, rfl, z.symm, ?_, g, fun k hk => ?_⟩
  · intro q
    have q' := Int32.lt_iff_toInt_lt.mp q
    rw [i] at q'
    have z0 : (0 : Int32).toInt = 0 := rfl
    omega
  · have q := g k hk
    refine hf _ ?_
    rw [← Array.getElem?_toList] at q
    exact List.mem_of_getElem? q
theorem own_Ar.of_arv {a : Addr} {k : ClassId} {z : Int32} {ty : FieldType} {vs : List Value} {dv : Value} (F : Arv Z h a k ty z vs dv) (hl : vs.length = z.toNatClampNeg) : own_Ar Z h a ty vs := by
  obtain ⟨c, A, -, S, -, H, -⟩ := F
  refine ⟨c, A, ?_⟩
  apply List.ext_getElem?
  intro i
  rw [Array.getElem?_toList]
  by_cases q : i < c.slots.size
  · rw [H i q, List.getD_eq_getElem?_getD, List.getElem?_eq_getElem (by omega)]; rfl
  · rw [Array.getElem?_eq_none (by omega), List.getElem?_eq_none (by omega)]
theorem own_range {vs : List Value} {dv : Value} : ∀ (n sp : Nat), sp + n ≤ vs.length → ((List.range n).map fun i => vs.getD (sp + i) dv) = (vs.drop sp).take n := by
  intro n sp hle
  apply List.ext_getElem?
  intro i
  by_cases q : i < n
  · rw [List.getElem?_map, List.getElem?_range q, List.getElem?_take_of_lt q, List.getElem?_drop, List.getElem?_eq_getElem (by omega)]
    simp only [Option.map_some]
    rw [List.getD_eq_getElem?_getD, List.getElem?_eq_getElem (by omega)]; rfl
  · rw [List.getElem?_eq_none (by simp; omega), List.getElem?_eq_none (by simp; omega)]
theorem own_cp (X : Stand p l e R s m args below meth c T locs cells slots) (hx : p.tables.exec = Jvm.exec) {B : ByteArray} (hby : c.code = B) {pc pc' : Nat} {Ls : Array Slot} {S : List Value} {own : String} {index : Nat} {a b : Addr} {sp dp nn : Int32} {vs vd us : List Value} (hd : decode B pc = .ok (.invokestatic index, 3)) (hp : pc + 3 = pc') (hZ : Z.Warmed39 s.vm) (hown : s.vm.findClass own = some m.cls) (w1 : (Cond.methodLink own index Jvm.Stand.acN).before a0 Z = true) (w2 : (Cond.native Jvm.Stand.acN).before a0 Z = true) (w3 : (Cond.static Jvm.Stand.acN).before a0 Z = true) (w4 : (Cond.initialized "java/lang/System").before a0 Z = true) (eT : T.heap = h) {ty : FieldType} (hty : refKind ty = false) (A : own_Ar Z h a ty vs) (D : own_Ar Z h b ty vd) (hA : ∀ v ∈ vs, fits ty v = true) (hD : ∀ v ∈ vd, fits ty v = true) (h1 : ¬ sp < 0) (h2 : ¬ dp < 0) (h3 : ¬ nn < 0) (h4 : sp.toNatClampNeg + nn.toNatClampNeg ≤ vs.length) (h5 : dp.toNatClampNeg + nn.toNatClampNeg ≤ vd.length) (lA : vs.length < 2 ^ 31) (lD : vd.length < 2 ^ 31) (hus : vd.take dp.toNatClampNeg ++ (vs.drop sp.toNatClampNeg).take nn.toNatClampNeg ++ vd.drop (dp.toNatClampNeg + nn.toNatClampNeg) = us) {n0 : Nat} (N : Fr n0 locs) (ge : n0 ≤ b) (hsz : Ls.size = c.maxLocals) (hf : 1 ≤ R.frames) {W : Nat} (hW : (S.map fun v => v.category).sum ≤ W) (hlo : W + (nativeFrameWords "java/lang/System" "arraycopy" 5 + 11) ≤ R.locals) (g : ∀ (T' : State) (h' : Heap) (L : List Loc), Stand p l e R s m args below meth c T' L cells slots → T'.heap = h' → Fr n0 L → Keep h h' [b] → own_Ar Z h' b ty us → own_Go p.tables e below (T'.setTop (mkF m pc' Ls S)) RR) : own_Go p.tables e below (T.setTop (mkF m pc Ls (.int nn :: .int dp :: .ref b :: .int sp :: .ref a :: S))) RR := by
  subst hp
  obtain ⟨k, q1, A'⟩ := A.arv (dv := .null) lA hA
  obtain ⟨k', q2, D'⟩ := D.arv (dv := .null) lD hD
  obtain ⟨T', h', L, X', e', N', K', B', st⟩ := cpA X hx hZ hown w1 w2 w3 w4 eT A' D' (Or.inl ⟨rfl, hty⟩) h1 h2 h3 (by rw [q1]; exact h4) (by rw [q2]; exact h5) rfl h5 N ge (g := mkF m pc Ls (.int nn :: .int dp :: .ref b :: .int sp :: .ref a :: S)) rfl hsz rfl (hb hby hd) hf (W := W) (by show 2 * 0 + _ ≤ _; omega) hlo
  rw [own_range _ _ h4, hus] at B'
  refine own_st st (g T' h' L X' e' N' K' (own_Ar.of_arv B' ?_))
  rw [q2, ← hus]
  simp only [List.length_append, List.length_take, List.length_drop]
  omega
theorem own_callSpB (X : Stand p l e R s m args below meth c T locs cells slots) (hx : p.tables.exec = Jvm.exec) (hZ : Z.Warmed39 s.vm) {y : MethodName} {rc rs : Nat} {W : Nat} {as' : Array Value} (hK : Back l R p e below s args y 3 W (fun A a => a = as' ∧ A.U.heap = h ∧ A.cells + rc ≤ R.cells ∧ A.slots + rs ≤ R.slots) (fun A _ v B => ∃ L, Q v B.U.heap L ∧ B.locs = A.locs ++ L ∧ B.cells = A.cells + rc ∧ B.slots = A.slots + rs)) (hin : y.name = "<init>") {own : String} {index : Nat} (hown : s.vm.findClass own = some m.cls) (w1 : (Cond.methodLink own index y).before a0 Z = true) (w4 : (Cond.instanceMethod y).before a0 Z = true) {bytes : ByteArray} {maxL : Nat} (w5 : (Cond.code y bytes maxL none).before a0 Z = true) (hy : y.cls ≠ "java/lang/invoke/MethodHandle" ∧ y.cls ≠ "java/lang/invoke/VarHandle") {a : Addr} {pc : Nat} {Ls : Array Slot} (hsz : Ls.size = c.maxLocals) {argsL rest st : List Value} (ha : (Value.ref a :: argsL).toArray = as') (hlen : ∀ sig, parseMethodDescriptor y.desc = some sig → argsL.length = sig.parameters.length) (hst : st = argsL.reverse ++ .ref a :: rest) (hW : (rest.map fun v => v.category).sum ≤ W) (hd : decode c.code pc = .ok (.invokespecial index, 3)) (eT : T.heap = h) (hc : cells + rc ≤ R.cells) (hs : slots + rs ≤ R.slots) (k : ∀ (v : Option Value) (T' : State) (L : List Loc), Stand p l e R s m args below meth c T' (locs ++ L) (cells + rc) (slots + rs) → Q v T'.heap L → own_Go p.tables e below (T'.setTop (mkF m (pc + 3) Ls (v.toList ++ rest))) RR) :
    own_Go p.tables e below (T.setTop (mkF m pc Ls st)) RR := by
  subst ha
  obtain ⟨v, _, ⟨T', L', k', n'⟩, -, X', ⟨Lc, hQ, l', y', z'⟩, stp⟩ := X.specialBack hx (y := y) hin hown (mvT hZ w1) (mvT hZ w4) (mvT hZ w5) hy hK (g := mkF m pc Ls st) rfl hsz (Steps.refl _) (a := a) (argsL := argsL) (rest := rest) hlen hst (by show 2 * 0 + _ ≤ _; omega) hd (fun _ _ => ⟨rfl, eT, hc, hs⟩)
  dsimp only [Pt.U, Pt.locs, Pt.cells, Pt.slots] at X' l' y' z' stp hQ
  subst l' y' z'
  exact own_st (fun t k => stp.trans k) (k v T' Lc X' hQ)
theorem own_callVB (X : Stand p l e R s m args below meth c T locs cells slots) (hx : p.tables.exec = Jvm.exec) (hZ : Z.Warmed39 s.vm) {y : MethodName} {rc rs : Nat} {W : Nat} {as' : Array Value} (hK : Back l R p e below s args y 3 W (fun A a => a = as' ∧ A.U.heap = h ∧ A.cells + rc ≤ R.cells ∧ A.slots + rs ≤ R.slots) (fun A _ v B => ∃ L, Q v B.U.heap L ∧ B.locs = A.locs ++ L ∧ B.cells = A.cells + rc ∧ B.slots = A.slots + rs)) {own C : String} {index : Nat} (hown : s.vm.findClass own = some m.cls) (w1 : (Cond.methodLink own index y).before a0 Z = true) (w2 : (Cond.declares y).before a0 Z = true) (w3 : (Cond.selects C y y).before a0 Z = true) (w4 : (Cond.instanceMethod y).before a0 Z = true) (hy : y.cls ≠ "java/lang/invoke/MethodHandle" ∧ y.cls ≠ "java/lang/invoke/VarHandle") {a : Addr} (E : Exa Z h a C) {pc : Nat} {Ls : Array Slot} (hsz : Ls.size = c.maxLocals) {argsL rest st : List Value} (ha : (Value.ref a :: argsL).toArray = as') (hlen : ∀ sig, parseMethodDescriptor y.desc = some sig → argsL.length = sig.parameters.length) (hst : st = argsL.reverse ++ .ref a :: rest) (hW : (rest.map fun v => v.category).sum ≤ W) (hd : decode c.code pc = .ok (.invokevirtual index, 3)) (eT : T.heap = h) (hc : cells + rc ≤ R.cells) (hs : slots + rs ≤ R.slots) (k : ∀ (v : Option Value) (T' : State) (L : List Loc), Stand p l e R s m args below meth c T' (locs ++ L) (cells + rc) (slots + rs) → Q v T'.heap L → own_Go p.tables e below (T'.setTop (mkF m (pc + 3) Ls (v.toList ++ rest))) RR) :
    own_Go p.tables e below (T.setTop (mkF m pc Ls st)) RR := by
  subst ha
  obtain ⟨cB, kB, qa, qb, qc⟩ := isOf hZ eT E
  obtain ⟨v, _, ⟨T', L', k', n'⟩, -, X', ⟨Lc, hQ, l', y', z'⟩, stp⟩ := X.virtualBack hx (y := y) (z := y) hown (mvT hZ w1) (mvT hZ w2) (notFace_of_selects (args := #[]) (mvT hZ w3)) (mvT hZ w3) (mvT hZ w4) hy hK qa qc (g := mkF m pc Ls st) rfl hsz (Steps.refl _) (argsL := argsL) (rest := rest) hlen hst (by show 2 * 0 + _ ≤ _; omega) hd (fun _ _ => ⟨rfl, eT, hc, hs⟩)
  dsimp only [Pt.U, Pt.locs, Pt.cells, Pt.slots] at X' l' y' z' stp hQ
  subst l' y' z'
  exact own_st (fun t k => stp.trans k) (k v T' Lc X' hQ)
theorem own_callSB (X : Stand p l e R s m args below meth c T locs cells slots) (hx : p.tables.exec = Jvm.exec) (hZ : Z.Warmed39 s.vm) {y : MethodName} {rc rs : Nat} {W : Nat} {as' : Array Value} (hK : Back l R p e below s args y 3 W (fun A a => a = as' ∧ A.U.heap = h ∧ A.cells + rc ≤ R.cells ∧ A.slots + rs ≤ R.slots) (fun A _ v B => ∃ L, Q v B.U.heap L ∧ B.locs = A.locs ++ L ∧ B.cells = A.cells + rc ∧ B.slots = A.slots + rs)) {own : String} {index : Nat} (hown : s.vm.findClass own = some m.cls) (w1 : (Cond.methodLink own index y).before a0 Z = true) (w2 : (Cond.static y).before a0 Z = true) (w3 : (Cond.initialized y.cls).before a0 Z = true) {bytes : ByteArray} {maxL : Nat} {rt : Option FieldType} (w4 : (Cond.code y bytes maxL rt).before a0 Z = true) (hy : y.cls ≠ "java/lang/invoke/MethodHandle" ∧ y.cls ≠ "java/lang/invoke/VarHandle") {pc : Nat} {Ls : Array Slot} (hsz : Ls.size = c.maxLocals) {argsL rest st : List Value} (ha : argsL.toArray = as') (hlen : ∀ sig, parseMethodDescriptor y.desc = some sig → argsL.length = sig.parameters.length) (hst : st = argsL.reverse ++ rest) (hW : (rest.map fun v => v.category).sum ≤ W) (hd : decode c.code pc = .ok (.invokestatic index, 3)) (eT : T.heap = h) (hc : cells + rc ≤ R.cells) (hs : slots + rs ≤ R.slots) (k : ∀ (v : Option Value) (T' : State) (L : List Loc), Stand p l e R s m args below meth c T' (locs ++ L) (cells + rc) (slots + rs) → Q v T'.heap L → own_Go p.tables e below (T'.setTop (mkF m (pc + 3) Ls (v.toList ++ rest))) RR) :
    own_Go p.tables e below (T.setTop (mkF m pc Ls st)) RR := by
  subst ha
  obtain ⟨v, _, ⟨T', L', k', n'⟩, -, X', ⟨Lc, hQ, l', y', z'⟩, stp⟩ := Jvm.LawKit.callS X hx (y := y) hown (mvT hZ w1) (mvT hZ w2) (mvT hZ w3) (mvT hZ w4) hy hK (g := mkF m pc Ls st) rfl hsz (argsL := argsL) (rest := rest) hlen hst (by show 2 * 0 + _ ≤ _; omega) hd (fun _ _ => ⟨rfl, eT, hc, hs⟩)
  dsimp only [Pt.U, Pt.locs, Pt.cells, Pt.slots] at X' l' y' z' stp hQ
  subst l' y' z'
  exact own_st stp (k v T' Lc X' hQ)
end Own
/-! the wide walks: a String constant may have been loaded: the Stand is over (s.setVm vm0); own_Wd: what such a walk bears besides -/
section OwnWide
variable {p : Program} {l : Launch} {e : Env} {R : Room} {s : State} {m : MethodId} {args : Array Value} {below : List Frame} {meth : Method} {c : Code} {T : State} {locs : List Loc} {cells slots : Nat} {Z : State} {a0 : Array Value} {h h' : Heap} {Q : Option Value → Heap → List Loc → Prop} {RR : Outcome → State → Prop} {vm0 : Vm} {EL : List (String × Nat)} {own : String}
abbrev own_RH (Z : State) (EL : List (String × Nat)) (s : State) (Q : Option Value → Heap → List Loc → Prop) (k n : Nat) (o : Outcome) (t : State) : Prop := ∃ v L, o = .returned v ∧ Q v t.heap L ∧ CHr Z EL s.vm s.heap t.vm t.heap ∧ ReturnedEndW s o t L k n
abbrev own_MetW (l : Launch) (y : MethodName) (bytes : ByteArray) (maxL : Nat) (rt : Option FieldType) (ws : List Jvm.Cond) (rm : Room) (as' : Array Value) (Z : State) (EL : List (String × Nat)) (h0 : Heap) (Q : Option Value → Heap → List Loc → Prop) : Prop :=
  MetFree l y (head1 (Jvm.Cond.code y bytes maxL rt :: ws) rm) (fun a U => a = as' ∧ Z.Warmed39 U.vm ∧ U.heap = h0 ∧ CHv Z EL U.vm h0) (fun _ _ _ _ _ => True) (fun _ U o U' => ∃ v L, o = .returned v ∧ Q v U'.heap L ∧ CHr Z EL U.vm U.heap U'.vm U'.heap ∧ ReturnedEndW U o U' L rm.cells rm.slots)
def own_Wd (Z : State) (EL : List (String × Nat)) (s : State) (vm : Vm) (m : MethodId) (own : String) (h : Heap) : Prop := Z.Warmed39 vm ∧ vm.findClass own = some m.cls ∧ (∃ k, s.Since vm k ∧ k ≤ h.size) ∧ CHr Z EL s.vm s.heap vm h
theorem own_Wd.ch (D : own_Wd Z EL s vm0 m own h) : CHv Z EL vm0 h := D.2.2.2.1
theorem own_Wd.ext (D : own_Wd Z EL s vm0 m own h) (E : Ext h h') : own_Wd Z EL s vm0 m own h' := by
  obtain ⟨h1, h2, ⟨k, h3, h4⟩, h5⟩ := D
  exact ⟨h1, h2, ⟨k, h3, Nat.le_trans h4 E.1⟩, h5.trans (CHr.ext E h5.1)⟩
theorem own_Wd.wr {a : Addr} {sl : Nat} {v : Value} (D : own_Wd Z EL s vm0 m own h) (W : Wr h h' a sl v) (S : Safe Z EL vm0 h a) : own_Wd Z EL s vm0 m own h' := by
  obtain ⟨h1, h2, ⟨k, h3, h4⟩, h5⟩ := D
  exact ⟨h1, h2, ⟨k, h3, by rw [W.size]; exact h4⟩, h5.trans (CHr.wr W S h5.1)⟩
theorem own_Wd.keep {ws : List Addr} (D : own_Wd Z EL s vm0 m own h) (K : Keep h h' ws) (S : ∀ x ∈ ws, Safe Z EL vm0 h x) : own_Wd Z EL s vm0 m own h' := by
  obtain ⟨h1, h2, ⟨k, h3, h4⟩, h5⟩ := D
  exact ⟨h1, h2, ⟨k, h3, Nat.le_trans h4 K.1⟩, h5.trans (CHr.keep K S h5.1)⟩
theorem own_Ar.safe {a : Addr} {ty : FieldType} {vs : List Value} (A : own_Ar Z h a ty vs) (hal : Z.vm.Alike vm0) (ht : ty ≠ .byte) : Safe Z EL vm0 h a := by
  obtain ⟨cl, Ar, -⟩ := A
  exact Safe.arr hal Ar ht
theorem own_safeN {x : Addr} (hal : Z.vm.Alike vm0) (E : Exa Z h x "java/lang/String") (V : Fld Z h x "java/lang/String" "value" "[B" .null) : Safe Z EL vm0 h x := fun B => by
  obtain ⟨p, -, u, a, -, q, -, F, rfl | rfl⟩ := B
  · obtain ⟨cell, cf, k, i, f, h1, h2, -, -, -, -, h7⟩ := V
    cases (show h[q.sa]? = some q.sC from F.ha).symm.trans h1
    obtain ⟨cS, ⟨⟨-, -, -, ⟨c1, k1, i1, f1, -⟩, -, -, -, v1, -⟩, -⟩, -⟩ := F
    obtain ⟨k3, e3, -⟩ := State.fieldFound?_setVm (s := Z) hal h2
    have e4 := (show (Wst Z vm0 h).fieldFound? _ _ _ = _ from e3).symm.trans f1
    simp only [Option.some.injEq, Prod.mk.injEq] at e4
    rw [← e4.2.2.2, h7] at v1
    cases v1
  · obtain ⟨cell, k, e1, e2, -⟩ := E
    cases (show h[q.sd]? = some q.SA from F.hd).symm.trans e1
    obtain ⟨cS, -, -, f, -⟩ := F
    have f' : vm0.findClass "[B" = some q.SA.cls := f
    rw [hal.findClass] at f'
    obtain ⟨k1, q1, q2⟩ := Vm.findClass_spec f'
    obtain ⟨k2, q3, q4⟩ := Vm.findClass_spec e2
    cases q1.symm.trans q3
    exact absurd (q2.symm.trans q4) (by decide)
theorem own_bodyW {y : MethodName} {bytes : ByteArray} {maxL : Nat} {rt : Option FieldType} {ws : List Jvm.Cond} {rm : Room} {as' : Array Value} {h0 : Heap} (hp : plainFor y = true)
    (hb : ∀ (p : Program) (e : Env) (s : State) (m : MethodId) (below : List Frame) (meth : Method) (c : Code) (T : State), Stand p l e rm (s.setVm s.vm) m as' below meth c T [] 0 0 → p.tables.exec = Jvm.exec → c.code = bytes → c.maxLocals = maxL → meth.name = y.name → meth.sig.returnType = rt → meth.locks = false → own_Wd Z EL s s.vm m y.cls h0 → T.heap = h0 →
      own_Go p.tables e below (T.setTop (entryFrame m as' maxL)) (own_RH Z EL s Q rm.cells rm.slots)) : own_MetW l y bytes maxL rt ws rm as' Z EL h0 Q := by
  refine MetFree.of_bodySF hp hisR ?_
  intro p e s m args below meth c s₁ Bd hml0 hP hK
  obtain ⟨rfl, hZ, hh, hC⟩ := hP
  have e0 : s₁.heap = h0 := by rw [← hh, Bd.state]; rfl
  refine hb p e s m below meth c s₁ (Stand.of_body Bd) Bd.exec Bd.bytes hml0 (name_of_methodNamed Bd.named Bd.method).1 Bd.returns Bd.notSynchronized ⟨hZ, findClass_of_methodNamed Bd.named, ⟨0, (State.WarmedH.refl s).since 0, Nat.zero_le _⟩, ?_⟩ e0
  rw [hh]
  exact CHr.refl hC
theorem own_leaveW (X : Stand p l e R (s.setVm vm0) m args below meth c T locs cells slots) (hlk : meth.locks = false) (hEL : EW Z a0 EL) (D : own_Wd Z EL s vm0 m own h) (eT : T.heap = h) {v : Option Value} (hv : meth.sig.returnType = none → v = none) {S : State} {k n : Nat} (hk : cells ≤ k) (hn : slots ≤ n) (hq : Q v T.heap locs)
    (st : ∀ fs : List Frame, (∀ (f : JFrame) (acts : List Action), f.method = m → f.locked = none → f.entered = [] → (doReturn e (T.setTop f) acts v).1 = T.setFrames fs) → Steps p.tables e below S (T.setFrames fs)) : own_Go p.tables e below S (own_RH Z EL s Q k n) := by
  subst eT
  obtain ⟨h1, h2, ⟨k0, h3, h4⟩, h5⟩ := D
  obtain ⟨fs, hr, hrun, hended, q1, q2, q3, q4⟩ := X.leaveW h3 h4 (v := v) hv hlk
  exact ⟨_, _, st fs hr, hrun, hended, v, locs, rfl, hq, (show CHr Z EL _ _ T.vm T.heap from h5.trans (CHv.at X h1 hEL h5.1)), q1, q2, q3, q4.mono hk hn⟩
theorem own_retZW (X : Stand p l e R (s.setVm vm0) m args below meth c T locs cells slots) (hx : p.tables.exec = Jvm.exec) (hEL : EW Z a0 EL) (D : own_Wd Z EL s vm0 m own h) (eT : T.heap = h) {pc : Nat} {Ls : Array Slot} {z : Int32} {t : FieldType} {rest : List Value} (hret : meth.sig.returnType = some t) (ht : t = .boolean ∨ t = .byte ∨ t = .char ∨ t = .short) (hd : decode c.code pc = .ok (.ireturn, 1)) (hlk : meth.locks = false) {k n : Nat} (hk : cells ≤ k) (hn : slots ≤ n) (hq : Q (some (.int (nar t z))) T.heap locs) :
    own_Go p.tables e below (T.setTop (mkF m pc Ls (.int z :: rest))) (own_RH Z EL s Q k n) :=
  own_leaveW X hlk hEL D eT (fun q => by rw [hret] at q; cases q) hk hn hq fun fs hl => retN X hx hret ht hd hl
theorem own_retVW (X : Stand p l e R (s.setVm vm0) m args below meth c T locs cells slots) (hx : p.tables.exec = Jvm.exec) (hEL : EW Z a0 EL) (D : own_Wd Z EL s vm0 m own h) (eT : T.heap = h) {pc : Nat} {Ls : Array Slot} (hret : meth.sig.returnType = none) (hd : decode c.code pc = .ok (.return_, 1)) (hlk : meth.locks = false) {k n : Nat} (hk : cells ≤ k) (hn : slots ≤ n) (hq : Q none T.heap locs) :
    own_Go p.tables e below (T.setTop (mkF m pc Ls [])) (own_RH Z EL s Q k n) :=
  own_leaveW X hlk hEL D eT (fun _ => rfl) hk hn hq fun fs hl => X.returnOut hx hret hd hl
theorem own_retAW (X : Stand p l e R (s.setVm vm0) m args below meth c T locs cells slots) (hx : p.tables.exec = Jvm.exec) (hEL : EW Z a0 EL) (D : own_Wd Z EL s vm0 m own h) (eT : T.heap = h) {pc : Nat} {Ls : Array Slot} {z : Value} {t : FieldType} {rest : List Value} (hret : meth.sig.returnType = some t) (ht : t.isReference = true) (hz : z.isRef = true) (hd : decode c.code pc = .ok (.areturn, 1)) (hlk : meth.locks = false) {k n : Nat} (hk : cells ≤ k) (hn : slots ≤ n) (hq : Q (some z) T.heap locs) :
    own_Go p.tables e below (T.setTop (mkF m pc Ls (z :: rest))) (own_RH Z EL s Q k n) := by
  refine own_leaveW X hlk hEL D eT (fun q => by rw [hret] at q; cases q) hk hn hq fun fs hl => ?_
  have hm' : T.vm.method? m = some meth := X.method'
  show Steps p.tables e below (T.setTop { method := m, pc := pc, locals := Ls, stack := _ :: rest, locked := none }) _
  jvm_step X.here [X.here.top, hx, hd, hm', hret, ht, hz]
  first | (intro acts; rw [hl _ acts rfl rfl rfl]) | rw [hl _ _ rfl rfl rfl]
  exact Steps.refl _
theorem own_ldcS (X : Stand p l e R (s.setVm vm0) m args below meth c T locs cells slots) (hx : p.tables.exec = Jvm.exec) {B : ByteArray} (hby : c.code = B) {pc pc' : Nat} {Ls : Array Slot} {S : List Value} {text : String} {index : Nat} (hd : decode B pc = .ok (.ldc index, 2)) (hp : pc + 2 = pc') (w : (Cond.stringLink own index text).before a0 Z = true) (wS : ∀ a ∈ Bundle.stringAtoms, a.before a0 Z = true) (eT : T.heap = h) (hEL : EW Z a0 EL) (hmem : (own, index) ∈ EL) (D : own_Wd Z EL s vm0 m own h)
    {vs : List Value} {z : Int32} (ht : (∀ c ∈ text.toList, c.toNat < 256) ∧ text.toList.map (fun c => Value.int (Jvm.Lit.byteI c.toNat.toUInt16)) = vs) (hz : ¬ z < 0) (hl : z.toNatClampNeg = vs.length) {n : Nat} (hn : 4 * text.toList.length ≤ n) (hbig : n ≤ 536870912) (hc : cells + 2 ≤ R.cells) (hl' : slots + (n + 4) ≤ R.slots)
    (g : ∀ (T' : State) (h' : Heap) (a b : Addr) (k : ClassId) (vm1 : Vm), Stand p l e R (s.setVm vm1) m args below meth c T' locs (cells + 2) (slots + (n + 4)) → T'.heap = h' → Ext h h' → own_Wd Z EL s vm1 m own h' → CHr Z EL vm0 h vm1 h' → Exa Z h' a "java/lang/String" → Fld Z h' a "java/lang/String" "coder" "B" (.int 0) → Fld Z h' a "java/lang/String" "value" "[B" (.ref b) → Arv Z h' b k .byte z vs (.int 0) → (∀ x, Safe Z EL vm1 h' x → x ≠ a ∧ x ≠ b) → own_Go p.tables e below (T'.setTop (mkF m pc' Ls (.ref a :: S))) RR) :
    own_Go p.tables e below (T.setTop (mkF m pc Ls S)) RR := by
  subst hp
  obtain ⟨h1, h2, ⟨k0, h3, h4⟩, h5⟩ := D
  obtain ⟨a, T', h', k1, b, k, X', e', E', hS', hk', hZ', hown', q1, q2, q3, q4, -, -, q7, -, q9, st⟩ := ldcCH X hx h1 h2 w wS eT h3 h4 hEL hmem h5.1 ht hz hl (g := mkF m pc Ls S) rfl (hb hby hd) hn hbig hc hl'
  exact own_st st (g T' h' a b k T'.vm X' e' E' ⟨hZ', hown', ⟨k1, hS', hk'⟩, h5.trans q7⟩ q7 q1 q2 q3 q4 q9)
theorem own_callSpW (X : Stand p l e R (s.setVm vm0) m args below meth c T locs cells slots) (hx : p.tables.exec = Jvm.exec) (hEL : EW Z a0 EL) (D : own_Wd Z EL s vm0 m own h) {y : MethodName} {bytes : ByteArray} {maxL : Nat} {rm : Room} {as' : Array Value}
    (hM : own_MetW l y bytes maxL none [] rm as' Z EL h Q) (hin : y.name = "<init>") {index : Nat} (w1 : (Cond.methodLink own index y).before a0 Z = true) (w4 : (Cond.instanceMethod y).before a0 Z = true) (w5 : (Cond.code y bytes maxL none).before a0 Z = true) (w6 : (Cond.initialized y.cls).before a0 Z = true)
    (hy : y.cls ≠ "java/lang/invoke/MethodHandle" ∧ y.cls ≠ "java/lang/invoke/VarHandle") {a : Addr} {W : Nat} (hf : rm.frames + 1 ≤ R.frames) (hl : W + (maxL + 11) + rm.locals ≤ R.locals) {pc : Nat} {Ls : Array Slot} (hsz : Ls.size = c.maxLocals) {argsL rest st : List Value} (ha : (Value.ref a :: argsL).toArray = as')
    (hlen : ∀ sig, parseMethodDescriptor y.desc = some sig → argsL.length = sig.parameters.length) (hst : st = argsL.reverse ++ .ref a :: rest) (hW : (rest.map fun v => v.category).sum ≤ W) (hd : decode c.code pc = .ok (.invokespecial index, 3)) (eT : T.heap = h) (hc : cells + rm.cells ≤ R.cells) (hs : slots + rm.slots ≤ R.slots)
    (k : ∀ (v : Option Value) (T' : State) (L : List Loc) (vm1 : Vm), Stand p l e R (s.setVm vm1) m args below meth c T' (locs ++ L) (cells + rm.cells) (slots + rm.slots) → Q v T'.heap L → own_Wd Z EL s vm1 m own T'.heap → CHr Z EL vm0 h vm1 T'.heap → own_Go p.tables e below (T'.setTop (mkF m (pc + 3) Ls (v.toList ++ rest))) RR) :
    own_Go p.tables e below (T.setTop (mkF m pc Ls st)) RR := by
  subst ha
  obtain ⟨h1, h2, ⟨k0, h3, h4⟩, h5⟩ := D
  have hZ : Z.Warmed39 (s.setVm vm0).vm := h1
  obtain ⟨v, _, ⟨T', L', k', n'⟩, -, X', hS', hgrow, ⟨Lc, hQ, l', y', z', hC⟩, stp⟩ := X.specialBackS hx (y := y) hin h2 (mvT hZ w1) (mvT hZ w4) (mvT hZ w5) hy (backOfSH (W := W) hM h1 w5 w6 hf hl hEL h5.1) (g := mkF m pc Ls st) rfl hsz (Steps.refl _) (a := a) (argsL := argsL) (rest := rest) hlen hst (by show 2 * 0 + _ ≤ _; omega) hd (fun _ _ => ⟨rfl, eT, hc, hs⟩)
  dsimp only [Pt.U, Pt.locs, Pt.cells, Pt.slots] at X' l' y' z' stp hQ hS' hgrow hC
  subst l' y' z'
  rw [eT] at hgrow
  obtain ⟨r1, r2, r3, r4⟩ := rebS h3 h4 X' hS' hgrow hZ h2
  exact own_st (fun t k => stp.trans k) (k v T' Lc T'.vm r1 hQ ⟨r3, r4, ⟨_, r2, Nat.le_refl _⟩, h5.trans hC⟩ hC)
theorem own_callSW (X : Stand p l e R (s.setVm vm0) m args below meth c T locs cells slots) (hx : p.tables.exec = Jvm.exec) (hEL : EW Z a0 EL) (D : own_Wd Z EL s vm0 m own h) {y : MethodName} {bytes : ByteArray} {maxL : Nat} {rt : Option FieldType} {rm : Room} {as' : Array Value}
    (hM : own_MetW l y bytes maxL rt [] rm as' Z EL h Q) {index : Nat} (w1 : (Cond.methodLink own index y).before a0 Z = true) (w2 : (Cond.static y).before a0 Z = true) (w3 : (Cond.initialized y.cls).before a0 Z = true) (w4 : (Cond.code y bytes maxL rt).before a0 Z = true)
    (hy : y.cls ≠ "java/lang/invoke/MethodHandle" ∧ y.cls ≠ "java/lang/invoke/VarHandle") {W : Nat} (hf : rm.frames + 1 ≤ R.frames) (hl : W + (maxL + 11) + rm.locals ≤ R.locals) {pc : Nat} {Ls : Array Slot} (hsz : Ls.size = c.maxLocals) {argsL rest st : List Value} (ha : argsL.toArray = as')
    (hlen : ∀ sig, parseMethodDescriptor y.desc = some sig → argsL.length = sig.parameters.length) (hst : st = argsL.reverse ++ rest) (hW : (rest.map fun v => v.category).sum ≤ W) (hd : decode c.code pc = .ok (.invokestatic index, 3)) (eT : T.heap = h) (hc : cells + rm.cells ≤ R.cells) (hs : slots + rm.slots ≤ R.slots)
    (k : ∀ (v : Option Value) (T' : State) (L : List Loc) (vm1 : Vm), Stand p l e R (s.setVm vm1) m args below meth c T' (locs ++ L) (cells + rm.cells) (slots + rm.slots) → Q v T'.heap L → own_Wd Z EL s vm1 m own T'.heap → CHr Z EL vm0 h vm1 T'.heap → own_Go p.tables e below (T'.setTop (mkF m (pc + 3) Ls (v.toList ++ rest))) RR) :
    own_Go p.tables e below (T.setTop (mkF m pc Ls st)) RR := by
  subst ha
  obtain ⟨h1, h2, ⟨k0, h3, h4⟩, h5⟩ := D
  have hZ : Z.Warmed39 (s.setVm vm0).vm := h1
  obtain ⟨v, _, ⟨T', L', k', n'⟩, -, X', hS', hgrow, ⟨Lc, hQ, l', y', z', hC⟩, stp⟩ := callSS X hx (y := y) h2 (mvT hZ w1) (mvT hZ w2) (mvT hZ w3) (mvT hZ w4) hy (backOfSH (W := W) hM h1 w4 w3 hf hl hEL h5.1) (g := mkF m pc Ls st) rfl hsz (argsL := argsL) (rest := rest) hlen hst (by show 2 * 0 + _ ≤ _; omega) hd (fun _ _ => ⟨rfl, eT, hc, hs⟩)
  dsimp only [Pt.U, Pt.locs, Pt.cells, Pt.slots] at X' l' y' z' stp hQ hS' hgrow hC
  subst l' y' z'
  rw [eT] at hgrow
  obtain ⟨r1, r2, r3, r4⟩ := rebS h3 h4 X' hS' hgrow hZ h2
  exact own_st (fun t k => stp.trans k) (k v T' Lc T'.vm r1 hQ ⟨r3, r4, ⟨_, r2, Nat.le_refl _⟩, h5.trans hC⟩ hC)
end OwnWide
theorem own_nar0 : nar .boolean (0 : Int32) = 0 := by decide
theorem own_nar1 : nar .boolean (1 : Int32) = 1 := by decide
/-! Strings by the list of their chars (each 0 to 255); char[]s whose list isn't told -/
section OwnStr
variable {p : Program} {l : Launch} {e : Env} {R : Room} {s : State} {m : MethodId} {args : Array Value} {below : List Frame} {meth : Method} {c : Code} {T : State} {locs : List Loc} {cells slots : Nat} {Z : State} {a0 : Array Value} {h h' : Heap} {RR : Outcome → State → Prop} {vm0 : Vm} {EL : List (String × Nat)} {own : String} {len W k k' n n0 : Nat} {a x y : Addr} {cs ds : List Int32} {ws : List Addr}
abbrev own_B (c : Int32) : Prop := ¬ c < 0 ∧ ¬ (255 : Int32) < c
def own_Str (Z : State) (h : Heap) (k : Nat) (x : Addr) (cs : List Int32) : Prop := ∃ (t : Addr) (kb : ClassId) (N : Int32) (vs : List Value), x < k ∧ t < k ∧ Exa Z h x "java/lang/String" ∧ Fld Z h x "java/lang/String" "value" "[B" (.ref t) ∧ Fld Z h x "java/lang/String" "coder" "B" (.int 0) ∧ Arv Z h t kb .byte N vs (.int 0) ∧ StrChars.Road.CodA cs 0 N vs ∧ (∀ c ∈ cs, ¬ c < 0 ∧ ¬ (65535 : Int32) < c) ∧ cs.length ≤ 4000
theorem own_B.wide {c : Int32} (h : own_B c) : ¬ c < 0 ∧ ¬ (65535 : Int32) < c := by
  refine ⟨h.1, fun q => h.2 ?_⟩
  have e1 : (65535 : Int32).toInt = 65535 := by decide
  have e2 : (255 : Int32).toInt = 255 := by decide
  rw [Int32.lt_iff_toInt_lt] at q ⊢
  omega
theorem own_Str.exa (F : own_Str Z h k x cs) : Exa Z h x "java/lang/String" := by obtain ⟨t, kb, N, vs, q1, q2, q3, -⟩ := F; exact q3
theorem own_Str.lt (F : own_Str Z h k x cs) : x < h.size := F.exa.lt
theorem own_Str.ext (F : own_Str Z h k x cs) (E : Ext h h') : own_Str Z h' k x cs := by
  obtain ⟨t, kb, N, vs, q1, q2, q3, q4, q5, q6, q7⟩ := F
  exact ⟨t, kb, N, vs, q1, q2, q3.ext E, q4.ext E, q5.ext E, q6.ext E, q7⟩
theorem own_Str.keep (F : own_Str Z h k x cs) (K : Keep h h' ws) (q : ∀ w ∈ ws, k ≤ w) : own_Str Z h' k x cs := by
  obtain ⟨t, kb, N, vs, q1, q2, q3, q4, q5, q6, q7⟩ := F
  have n1 : x ∉ ws := fun z => absurd q1 (Nat.not_lt.mpr (q x z))
  have n2 : t ∉ ws := fun z => absurd q2 (Nat.not_lt.mpr (q t z))
  exact ⟨t, kb, N, vs, q1, q2, q3.keep K, q4.keep K n1, q5.keep K n1, q6.keep K n2, q7⟩
theorem own_Str.wr {sl : Nat} {v : Value} (F : own_Str Z h k x cs) (Wt : Wr h h' a sl v) (q : k ≤ a) : own_Str Z h' k x cs := F.keep (Keep.of_wr Wt) (allS q all0)
theorem own_Str.up (F : own_Str Z h k x cs) (q : k ≤ k') : own_Str Z h k' x cs := by
  obtain ⟨t, kb, N, vs, q1, q2, q3⟩ := F
  exact ⟨t, kb, N, vs, Nat.lt_of_lt_of_le q1 q, Nat.lt_of_lt_of_le q2 q, q3⟩
theorem own_Str.mk {t : Addr} {kb : ClassId} {N : Int32} (q3 : Exa Z h x "java/lang/String") (q5 : Fld Z h x "java/lang/String" "coder" "B" (.int 0)) (q4 : Fld Z h x "java/lang/String" "value" "[B" (.ref t)) {vs : List Value} (q6 : Arv Z h t kb .byte N vs (.int 0)) (cs : List Int32) (hb : ∀ c ∈ cs, own_B c) (hl : cs.length ≤ 4000) (hN : N = Int32.ofNat cs.length) (hv : vs = cs.map fun c => Value.int (StrChars.lo8 c)) : own_Str Z h h.size x cs :=
  ⟨t, kb, N, vs, q3.lt, q6.lt, q3, q4, q5, q6, Or.inl ⟨rfl, hN, hv, fun c hc => (hb c hc).2⟩, fun c hc => (hb c hc).wide, hl⟩
def own_QE (cs ds : List Int32) (h : Heap) (v : Option Value) (h' : Heap) (L : List Loc) : Prop := ((v = some (.int 1) ∧ cs = ds) ∨ (v = some (.int 0) ∧ ¬ cs = ds)) ∧ L = [] ∧ h' = h
theorem own_eqB (hZ : Z.Warmed39 s.vm) (hw : ∀ d ∈ StrChars.Road.wordsEq, d.before a0 Z = true) {kI : Nat} (wi : (Jvm.Cond.instantiable "java/lang/String" kI).before a0 Z = true) (F : own_Str Z h k x cs) (G : own_Str Z h k' y ds) {z : Int32} (S : Sta Z h "java/lang/String" "COMPACT_STRINGS" "Z" (.int z)) (hz : ¬ z = 0) (hfr : 2 ≤ R.frames) (hlo : W + 28 ≤ R.locals) :
    Back l R p e below s args (⟨"java/lang/String", "equals", "(Ljava/lang/Object;)Z"⟩ : MethodName) len W (fun P a => a = #[.ref x, .ref y] ∧ P.U.heap = h ∧ P.cells + 0 ≤ R.cells ∧ P.slots + 0 ≤ R.slots)
      (fun P _ v B => ∃ L, own_QE cs ds h v B.U.heap L ∧ B.locs = P.locs ++ L ∧ B.cells = P.cells + 0 ∧ B.slots = P.slots + 0) := by
  obtain ⟨t, kb, N, vs, -, -, q3, q4, q5, q6, q7, q8, q9⟩ := F
  obtain ⟨t', kb', N', vs', -, -, r3, r4, r5, r6, r7, r8, r9⟩ := G
  exact StrChars.Road.eqW hZ hw wi q3 q4 q5 q6 q7 q8 q9 r3 r4 r5 r6 r7 r8 r9 S hz hfr hlo
def own_Ch (Z : State) (h : Heap) (a : Addr) (n : Nat) : Prop := ∃ cs : List Int32, cs.length = n ∧ (∀ c ∈ cs, own_B c) ∧ own_Ar Z h a .char (cs.map Value.int)
theorem own_Ch.lt (F : own_Ch Z h a n) : a < h.size := by obtain ⟨cs, -, -, A⟩ := F; exact A.lt
theorem own_Ch.ext (F : own_Ch Z h a n) (E : Ext h h') : own_Ch Z h' a n := by obtain ⟨cs, q, r, A⟩ := F; exact ⟨cs, q, r, A.ext E⟩
theorem own_Ch.other {b : Addr} {sl : Nat} {v : Value} (F : own_Ch Z h a n) (Wt : Wr h h' b sl v) (ne : a ≠ b) : own_Ch Z h' a n := by obtain ⟨cs, q, r, A⟩ := F; exact ⟨cs, q, r, A.other Wt ne⟩
theorem own_Ch.keep (F : own_Ch Z h a n) (K : Keep h h' ws) (ne : a ∉ ws) : own_Ch Z h' a n := by obtain ⟨cs, q, r, A⟩ := F; exact ⟨cs, q, r, A.keep K ne⟩
theorem own_Ch.safe (F : own_Ch Z h a n) (hal : Z.vm.Alike vm0) : Safe Z EL vm0 h a := by obtain ⟨cs, -, -, A⟩ := F; exact A.safe hal (by simp)
theorem own_Ch.new (A : own_Ar Z h a .char (List.replicate n (.int 0))) : own_Ch Z h a n := by
  refine ⟨List.replicate n 0, List.length_replicate, fun c hc => ?_, by rw [List.map_replicate]; exact A⟩
  rw [(List.mem_replicate.mp hc).2]
  exact ⟨by decide, by decide⟩
theorem own_caloadC (X : Stand p l e R s m args below meth c T locs cells slots) (hx : p.tables.exec = Jvm.exec) {B : ByteArray} (hby : c.code = B) {pc pc' : Nat} {Ls : Array Slot} {S : List Value} {j : Int32} (hd : decode B pc = .ok (.caload, 1)) (hp : pc + 1 = pc') (hZ : Z.Warmed39 s.vm) (eT : T.heap = h) (A : own_Ch Z h a n) (hj : ¬ j < 0) (hn : j.toNatClampNeg < n) (g : ∀ z : Int32, own_B z → own_Go p.tables e below (T.setTop (mkF m pc' Ls (.int z :: S))) RR) : own_Go p.tables e below (T.setTop (mkF m pc Ls (.int j :: .ref a :: S))) RR := by
  obtain ⟨cs, rfl, hb, A'⟩ := A
  exact own_caload X hx hby hd hp hZ eT A' hj (v := .int cs[j.toNatClampNeg]) (by rw [List.getElem?_map, List.getElem?_eq_getElem hn]; rfl) (g _ (hb _ (List.getElem_mem hn)))
theorem own_castoreC (X : Stand p l e R s m args below meth c T locs cells slots) (hx : p.tables.exec = Jvm.exec) {B : ByteArray} (hby : c.code = B) {pc pc' : Nat} {Ls : Array Slot} {S : List Value} {j z : Int32} (hd : decode B pc = .ok (.castore, 1)) (hp : pc + 1 = pc') (hZ : Z.Warmed39 s.vm) (eT : T.heap = h) (A : own_Ch Z h a n) (hj : ¬ j < 0) (hn : j.toNatClampNeg < n) (hz : own_B (nar .char z))
    (g : ∀ (T' : State) (h' : Heap), Stand p l e R s m args below meth c T' (locs ++ [⟨a, j.toNatClampNeg⟩]) cells slots → T'.heap = h' → Wr h h' a j.toNatClampNeg (.int (nar .char z)) → own_Ch Z h' a n → own_Go p.tables e below (T'.setTop (mkF m pc' Ls S)) RR) : own_Go p.tables e below (T.setTop (mkF m pc Ls (.int z :: .int j :: .ref a :: S))) RR := by
  obtain ⟨cs, rfl, hb, A'⟩ := A
  refine own_castore X hx hby hd hp hZ eT A' hj (v := .int cs[j.toNatClampNeg]) (by rw [List.getElem?_map, List.getElem?_eq_getElem hn]; rfl) fun T' h' X' e' W' A'' => g T' h' X' e' W' ⟨cs.set j.toNatClampNeg (nar .char z), List.length_set, fun c hc => ?_, by rw [List.map_set]; exact A''⟩
  rcases List.mem_or_eq_of_mem_set hc with q | rfl
  · exact hb _ q
  · exact hz
theorem own_lenC (X : Stand p l e R s m args below meth c T locs cells slots) (hx : p.tables.exec = Jvm.exec) {B : ByteArray} (hby : c.code = B) {pc pc' : Nat} {Ls : Array Slot} {S : List Value} {z : Int32} (hd : decode B pc = .ok (.arraylength, 1)) (hp : pc + 1 = pc') (hZ : Z.Warmed39 s.vm) (eT : T.heap = h) (A : own_Ch Z h a n) (hz : n.toInt32 = z) (g : own_Go p.tables e below (T.setTop (mkF m pc' Ls (.int z :: S))) RR) : own_Go p.tables e below (T.setTop (mkF m pc Ls (.ref a :: S))) RR := by
  obtain ⟨cs, rfl, hb, A'⟩ := A
  exact own_len X hx hby hd hp hZ eT A' (by rw [List.length_map]; exact hz) g
theorem own_narB {z : Int32} (h : own_B z) : nar .char z = z := by
  have e1 : (255 : Int32).toInt = 255 := by decide
  have e0 : (0 : Int32).toInt = 0 := by decide
  obtain ⟨h1, h2⟩ := h
  rw [Int32.lt_iff_toInt_lt] at h1 h2
  show z.toUInt32.toUInt16.toUInt32.toInt32 = z
  apply Int32.toInt_inj.mp
  have q : z.toInt = (z.toInt.toNat : Int) := by omega
  have t : ∀ k : Fin 256, (Int32.ofNat k.val).toUInt32.toUInt16.toUInt32.toInt32 = Int32.ofNat k.val := by decide +kernel
  have e : z = Int32.ofNat z.toInt.toNat := by
    apply Int32.toInt_inj.mp
    rw [Int32.toInt_ofNat_of_lt (by omega)]
    exact q
  have w := t ⟨z.toInt.toNat, by omega⟩
  simp only at w
  rw [← e] at w
  rw [w]
def own_QS (Z : State) (h : Heap) (x : Addr) (n0 : Nat) (v : Option Value) (h' : Heap) (L : List Loc) : Prop := v = none ∧ Fr n0 L ∧ Keep h h' [x] ∧ ∃ cs, own_Str Z h' h'.size x cs
theorem own_strB (hZ : Z.Warmed39 s.vm) (hw : ∀ d ∈ StrChars.Road.words, d.before a0 Z = true) {kI : Nat} (wi : (Jvm.Cond.instantiable "java/lang/String" kI).before a0 Z = true) {v0 c0 : Value} {b : Addr} (hx0 : n0 ≤ x) (hh0 : n0 ≤ h.size) (E : Exa Z h x "java/lang/String") (V : Fld Z h x "java/lang/String" "value" "[B" v0) (C : Fld Z h x "java/lang/String" "coder" "B" c0) (A : own_Ch Z h b n) {z : Int32} (S : Sta Z h "java/lang/String" "COMPACT_STRINGS" "Z" (.int z)) (hz : ¬ z = 0) (l0 : 0 < n) (l2 : n ≤ 4000) (hfr : 4 ≤ R.frames) (hlo : W + 65 ≤ R.locals) :
    Back l R p e below s args (⟨"java/lang/String", "<init>", "([C)V"⟩ : MethodName) len W (fun P a => a = #[.ref x, .ref b] ∧ P.U.heap = h ∧ P.cells + 1 ≤ R.cells ∧ P.slots + n ≤ R.slots)
      (fun P _ v B => ∃ L, own_QS Z h x n0 v B.U.heap L ∧ B.locs = P.locs ++ L ∧ B.cells = P.cells + 1 ∧ B.slots = P.slots + n) := by
  obtain ⟨cs, rfl, hb, A'⟩ := A
  obtain ⟨kc, qc, ar⟩ := A'.arv (dv := .int 0) (by rw [List.length_map]; omega) (fun v hv => by
    obtain ⟨c, hc, rfl⟩ := List.mem_map.mp hv
    rw [← own_narB (hb c hc)]
    exact fits_nar_char _)
  refine Back.mono (StrChars.Road.backV hZ hw wi (cs := cs) (bs := cs.map (fun c => c.toInt8.toInt32)) (n := cs.length) hx0 hh0 E V C ar S hz rfl (by rw [List.length_map]) l0 l2 hb rfl hfr hlo) (fun P a hp => hp) fun P a v B hp hq => ?_
  obtain ⟨L, ⟨hv, N, K, E', C', t, kb, -, -, -, V', A2⟩, hl, hk, hs⟩ := hq
  exact ⟨L, ⟨hv, N, K, cs, own_Str.mk E' C' V' A2 cs hb l2 (by rw [List.length_map]) (by rw [List.map_map]; rfl)⟩, hl, hk, hs⟩
theorem own_more (X : Stand p l e R s m args below meth c T locs cells slots) (h1 : cells ≤ k) (h2 : slots ≤ n) : Stand p l e R s m args below meth c T locs k n := ⟨X.admits, X.cas, X.clock, X.frames, X.room, X.hears, X.method, X.code, X.here, X.tail, X.warmed, X.limits, X.bytes, X.same.mono h1 h2⟩
theorem own_lenN {t : Term} {cl : Cell} {ty : FieldType} {N : Int32} (ev : t.eval args s none [] s = some (.ref a)) (A : Arr s s.heap a cl ty) (q : (Term.length t).eval args s none [] s = some (.int N)) : cl.slots.size < 2 ^ 31 ∧ cl.slots.size.toInt32 = N := by
  have ha : s.arrayAt? a = some cl := A.fin (Vm.Alike.refl _)
  simp only [Term.eval, ev, ha, Option.bind_eq_bind, Option.bind_some] at q
  split at q
  · rename_i hlt
    exact ⟨hlt, Value.int.inj (Option.some.inj q)⟩
  · cases q
theorem own_Str.start (hf : Fit s) {t : Term} {b : Addr} {cl : Cell} {N : Int32} {vs : List Value} (ev : t.eval args s none [] s = some (.ref x)) (hx : (Jvm.Cond.exactly t "java/lang/String").value args s none s [] = some true) (hc : (Term.field t "java/lang/String" "coder" "B").eval args s none [] s = some (.int 0)) (evb : (Term.field t "java/lang/String" "value" "[B").eval args s none [] s = some (.ref b)) (A : Arr s s.heap b cl .byte) (hl : (Term.length (Term.field t "java/lang/String" "value" "[B")).eval args s none [] s = some (.int N)) (H : HasL cl 0 vs)
    (cs : List Int32) (hz : ¬ N < 0) (hlN : N.toNatClampNeg = vs.length) (hb : ∀ c ∈ cs, own_B c) (hlen : cs.length ≤ 4000) (hN : N = Int32.ofNat cs.length) (hv : vs = cs.map fun c => Value.int (StrChars.lo8 c)) : own_Str s s.heap s.heap.size x cs := by
  obtain ⟨h1, h2⟩ := own_lenN evb A hl
  exact own_Str.mk (Exa.start ev hx) (Fld.start ((fld_at ev).symm.trans hc)) (Fld.start ((fld_at ev).symm.trans evb)) (Arv.start hf A h1 h2 hz hlN H) cs hb hlen hN hv
end OwnStr

section OwnStr2
variable {p : Program} {l : Launch} {e : Env} {R : Room} {s : State} {m : MethodId} {args : Array Value} {below : List Frame} {Z : State} {a0 : Array Value} {h h' : Heap} {len W k n : Nat} {a x y : Addr} {cs ds : List Int32}
def own_QL (z : Int32) (h : Heap) (v : Option Value) (h' : Heap) (L : List Loc) : Prop := v = some (.int z) ∧ L = [] ∧ h' = h
theorem own_lenB (hZ : Z.Warmed39 s.vm) (hw : ∀ d ∈ StrChars.Road.wordsLen, d.before a0 Z = true) {kI : Nat} (wi : (Jvm.Cond.instantiable "java/lang/String" kI).before a0 Z = true) (F : own_Str Z h k x cs) {r : Int32} (hr : Int32.ofNat cs.length = r) {z : Int32} (S : Sta Z h "java/lang/String" "COMPACT_STRINGS" "Z" (.int z)) (hz : ¬ z = 0) (hfr : 2 ≤ R.frames) (hlo : W + 25 ≤ R.locals) :
    Back l R p e below s args (⟨"java/lang/String", "length", "()I"⟩ : MethodName) len W (fun P a => a = #[.ref x] ∧ P.U.heap = h ∧ P.cells + 0 ≤ R.cells ∧ P.slots + 0 ≤ R.slots)
      (fun P _ v B => ∃ L, own_QL r h v B.U.heap L ∧ B.locs = P.locs ++ L ∧ B.cells = P.cells + 0 ∧ B.slots = P.slots + 0) := by
  subst hr
  obtain ⟨t, kb, N, vs, -, -, q3, q4, q5, q6, q7, q8, q9⟩ := F
  exact StrChars.Road.lenW hZ hw wi q3 q4 q5 q6 q7 q8 S hz q9 hfr hlo
theorem own_chB (hZ : Z.Warmed39 s.vm) (hw : ∀ d ∈ StrChars.Road.wordsChN, d.before a0 Z = true) {kI : Nat} (wi : (Jvm.Cond.instantiable "java/lang/String" kI).before a0 Z = true) (F : own_Str Z h k x cs) {j : Int32} (hj : ¬ j < 0) (hl : j.toNatClampNeg < cs.length) {z : Int32} (S : Sta Z h "java/lang/String" "COMPACT_STRINGS" "Z" (.int z)) (hz : ¬ z = 0) {fm : Value} (SF : Sta Z h "jdk/internal/util/Preconditions" "SIOOBE_FORMATTER" "Ljava/util/function/BiFunction;" fm) (rf : fm.isRef = true) (hfr : 4 ≤ R.frames) (hlo : W + 53 ≤ R.locals) :
    Back l R p e below s args (⟨"java/lang/String", "charAt", "(I)C"⟩ : MethodName) len W (fun P a => a = #[.ref x, .int j] ∧ P.U.heap = h ∧ P.cells + 0 ≤ R.cells ∧ P.slots + 0 ≤ R.slots)
      (fun P _ v B => ∃ L, own_QL (cs.getD j.toNatClampNeg 0) h v B.U.heap L ∧ B.locs = P.locs ++ L ∧ B.cells = P.cells + 0 ∧ B.slots = P.slots + 0) := by
  obtain ⟨t, kb, N, vs, -, -, q3, q4, q5, q6, q7, q8, q9⟩ := F
  exact StrChars.Road.chN hZ hw wi q3 q4 q5 q6 q7 q8 S hz SF rf q9 hl (back32 hj).1.symm hfr hlo
theorem own_Str.bnd (F : own_Str Z h k x cs) {i : Nat} (hi : i < cs.length) : own_B (cs.getD i 0) := by
  obtain ⟨t, kb, N, vs, -, -, -, -, -, -, q7, q8, -⟩ := F
  have e : cs.getD i 0 = cs[i] := by rw [List.getD_eq_getElem?_getD, List.getElem?_eq_getElem hi]; rfl
  rw [e]
  rcases q7 with ⟨-, -, -, q⟩ | ⟨q, -⟩
  · exact ⟨(q8 _ (List.getElem_mem hi)).1, q _ (List.getElem_mem hi)⟩
  · exact absurd q (by decide)
theorem own_Str.short (F : own_Str Z h k x cs) : cs.length ≤ 4000 := by obtain ⟨t, kb, N, vs, -, -, -, -, -, -, -, -, q⟩ := F; exact q
theorem own_ltn {j : Int32} (hn : n ≤ 4000) (hj : ¬ j < 0) (h : j < n.toInt32) : j.toNatClampNeg < n := by
  have k := len_toInt (show n < 2 ^ 31 by omega)
  have e0 : (0 : Int32).toInt = 0 := by decide
  rw [Int32.lt_iff_toInt_lt] at h hj
  simp only [Int32.toNatClampNeg]
  omega
theorem own_c255 (y : Int32) : own_B ((y &&& (255 : Int32)).toUInt32.toUInt16.toUInt32.toInt32) := by
  rw [i2c_mask]
  have h := c_and y 255 (by decide)
  have e2 : (255 : Int32).toInt = 255 := by decide
  have e0 : (0 : Int32).toInt = 0 := by decide
  refine ⟨?_, ?_⟩ <;> rw [Int32.lt_iff_toInt_lt] <;> omega
theorem own_rem {q d : Int32} {k : Nat} (hd : d.toInt = k) (h1 : 1 < k) (h2 : k ≤ 100) (hne : d ≠ -1) : ¬ ((q &&& (2147483647 : Int32)) - ((q &&& (2147483647 : Int32)) / d) * d) < 0 ∧ ((q &&& (2147483647 : Int32)) - ((q &&& (2147483647 : Int32)) / d) * d).toNatClampNeg < k := by
  have hx := c_and q 2147483647 (by decide)
  have e1 : (2147483647 : Int32).toInt = 2147483647 := by decide
  generalize (q &&& (2147483647 : Int32)) = x at hx ⊢
  have hq := (c_idiv x d k hd hne).1 (by omega)
  have hm := c_imul (x / d) d
  have hs := c_isub x ((x / d) * d)
  have r1 := rng32 ((x / d) * d)
  have r2 := rng32 (x - (x / d) * d)
  have e0 : (0 : Int32).toInt = 0 := by decide
  have a1 : x.toInt / (k : Int) * (k : Int) ≤ x.toInt := Int.ediv_mul_le _ (by omega)
  have a2 : x.toInt < x.toInt / (k : Int) * (k : Int) + k := by
    have h := Int.lt_ediv_add_one_mul_self x.toInt (show (0 : Int) < k by omega)
    rw [Int.add_mul, Int.one_mul] at h
    exact h
  have a3 : 0 ≤ x.toInt / (k : Int) * (k : Int) := Int.mul_nonneg (Int.ediv_nonneg (by omega) (by omega)) (by omega)
  rw [hq, hd] at hm
  generalize x.toInt / (k : Int) * (k : Int) = w at *
  have b1 : ((x / d) * d).toInt = w := by omega
  rw [Int32.lt_iff_toInt_lt]
  simp only [Int32.toNatClampNeg]
  omega
end OwnStr2

def own_EL : List (String × Nat) := [("com/example/inbound_throttle/inboundthrottle/rules/AlgorithmNamedPinLaw", 17), ("com/example/inbound_throttle/inboundthrottle/rules/AlgorithmNamedPinLaw", 19), ("com/example/inbound_throttle/inboundthrottle/rules/AlgorithmNamedPinLaw", 21), ("java/lang/String", 7)]
abbrev own_FW : List Int32 := ([102, 105, 120, 101, 100, 45, 119, 105, 110, 100, 111, 119] : List Int32)
abbrev own_SL : List Int32 := ([115, 108, 105, 100, 105, 110, 103, 45, 108, 111, 103] : List Int32)
def own_alg (cs : List Int32) (r0 r1 : Addr) : Value := if cs = own_FW then .ref r0 else if cs = own_SL then .ref r1 else .null
theorem own_pn0 : plainFor x = true := plainFor_of_name (by first | (simp [x, plainName, overriddenIn]; done) | decide +kernel)
theorem own_pn1 : plainFor (⟨"java/lang/String", "length", "()I"⟩ : MethodName) = true := plainFor_of_name (by first | (simp [plainName, overriddenIn]; done) | decide +kernel)
theorem own_pn2 : plainFor (⟨"java/lang/String", "coder", "()B"⟩ : MethodName) = true := plainFor_of_name (by first | (simp [plainName, overriddenIn]; done) | decide +kernel)
theorem own_pn3 : plainFor (⟨"com/example/inbound_throttle/inboundthrottle/rules/AlgorithmNamedPinLaw", "put", "([CLjava/lang/String;IC)V"⟩ : MethodName) = true := plainFor_of_name (by first | (simp [plainName, overriddenIn]; done) | decide +kernel)
theorem own_pn4 : plainFor (⟨"java/lang/String", "<init>", "([C)V"⟩ : MethodName) = true := plainFor_of_name (by first | (simp [plainName, overriddenIn]; done) | decide +kernel)
theorem own_pn5 : plainFor (⟨"java/lang/String", "<init>", "([CIILjava/lang/Void;)V"⟩ : MethodName) = true := plainFor_of_name (by first | (simp [plainName, overriddenIn]; done) | decide +kernel)
theorem own_pn7 : plainFor (⟨"java/lang/String", "equals", "(Ljava/lang/Object;)Z"⟩ : MethodName) = true := plainFor_of_name (by first | (simp [plainName, overriddenIn]; done) | decide +kernel)
theorem own_pn8 : plainFor (⟨"java/lang/StringLatin1", "equals", "([B[B)Z"⟩ : MethodName) = true := plainFor_of_name (by first | (simp [plainName, overriddenIn]; done) | decide +kernel)
theorem own_pn9 : plainFor (⟨"com/example/inbound_throttle/inboundthrottle/rules/Algorithm", "named", "(Ljava/lang/String;)Ljava/util/Optional;"⟩ : MethodName) = true := plainFor_of_name (by first | (simp [plainName, overriddenIn]; done) | decide +kernel)
theorem own_pn10 : plainFor (⟨"com/example/inbound_throttle/inboundthrottle/rules/Algorithm", "values", "()[Lcom/example/inbound_throttle/inboundthrottle/rules/Algorithm;"⟩ : MethodName) = true := plainFor_of_name (by first | (simp [plainName, overriddenIn]; done) | decide +kernel)
theorem own_pn11 : plainFor (⟨"java/util/Optional", "empty", "()Ljava/util/Optional;"⟩ : MethodName) = true := plainFor_of_name (by first | (simp [plainName, overriddenIn]; done) | decide +kernel)
theorem own_pn12 : plainFor (⟨"java/util/Optional", "isPresent", "()Z"⟩ : MethodName) = true := plainFor_of_name (by first | (simp [plainName, overriddenIn]; done) | decide +kernel)
theorem own_pn13 : plainFor (⟨"java/lang/String", "charAt", "(I)C"⟩ : MethodName) = true := plainFor_of_name (by first | (simp [plainName, overriddenIn]; done) | decide +kernel)
theorem own_pn14 : plainFor (⟨"java/lang/String", "isLatin1", "()Z"⟩ : MethodName) = true := plainFor_of_name (by first | (simp [plainName, overriddenIn]; done) | decide +kernel)
theorem own_pn15 : plainFor (⟨"java/lang/StringLatin1", "charAt", "([BI)C"⟩ : MethodName) = true := plainFor_of_name (by first | (simp [plainName, overriddenIn]; done) | decide +kernel)
theorem own_pn16 : plainFor (⟨"java/lang/String", "checkIndex", "(II)V"⟩ : MethodName) = true := plainFor_of_name (by first | (simp [plainName, overriddenIn]; done) | decide +kernel)
theorem own_pn21 : plainFor (⟨"java/util/Optional", "of", "(Ljava/lang/Object;)Ljava/util/Optional;"⟩ : MethodName) = true := plainFor_of_name (by first | (simp [plainName, overriddenIn]; done) | decide +kernel)
theorem own_pn22 : plainFor (⟨"java/util/Objects", "requireNonNull", "(Ljava/lang/Object;)Ljava/lang/Object;"⟩ : MethodName) = true := plainFor_of_name (by first | (simp [plainName, overriddenIn]; done) | decide +kernel)
theorem own_pn23 : plainFor (⟨"java/util/Optional", "<init>", "(Ljava/lang/Object;)V"⟩ : MethodName) = true := plainFor_of_name (by first | (simp [plainName, overriddenIn]; done) | decide +kernel)
theorem own_pn24 : plainFor (⟨"java/util/Optional", "get", "()Ljava/lang/Object;"⟩ : MethodName) = true := plainFor_of_name (by first | (simp [plainName, overriddenIn]; done) | decide +kernel)
theorem own_d5_0 : decode jdk_42_method_149_code 0 = .ok (.aload_n 0, 1) := by decide +kernel
theorem own_d5_1 : decode jdk_42_method_149_code 1 = .ok (.invokespecial 1, 3) := by decide +kernel
theorem own_d5_4 : decode jdk_42_method_149_code 4 = .ok (.iload_n 3, 1) := by decide +kernel
theorem own_d5_5 : decode jdk_42_method_149_code 5 = .ok (.ifCond .ne 22, 3) := by decide +kernel
theorem own_d5_8 : decode jdk_42_method_149_code 8 = .ok (.aload_n 0, 1) := by decide +kernel
theorem own_d5_9 : decode jdk_42_method_149_code 9 = .ok (.ldc 7, 2) := by decide +kernel
theorem own_d5_11 : decode jdk_42_method_149_code 11 = .ok (.getfield 9, 3) := by decide +kernel
theorem own_d5_14 : decode jdk_42_method_149_code 14 = .ok (.putfield 9, 3) := by decide +kernel
theorem own_d5_17 : decode jdk_42_method_149_code 17 = .ok (.aload_n 0, 1) := by decide +kernel
theorem own_d5_18 : decode jdk_42_method_149_code 18 = .ok (.ldc 7, 2) := by decide +kernel
theorem own_d5_20 : decode jdk_42_method_149_code 20 = .ok (.getfield 15, 3) := by decide +kernel
theorem own_d5_23 : decode jdk_42_method_149_code 23 = .ok (.putfield 15, 3) := by decide +kernel
theorem own_d5_26 : decode jdk_42_method_149_code 26 = .ok (.return_, 1) := by decide +kernel
theorem own_ef_rm_e4 (m : MethodId) (a1 : Addr) (a2 : Addr) : entryFrame m #[(.ref a1), (.ref a2), (.int (0 : Int32)), (.int (0 : Int32)), .null] 6 = mkF m 0 #[.val (.ref a1), .val (.ref a2), .val (.int (0 : Int32)), .val (.int (0 : Int32)), .val .null, .unset] [] := by first | (simp [entryFrame, mkF, argsToLocals, Value.category]; done) | rfl
def Qrm_e4 (Z : State) (a1 : Addr) (a2 : Addr) (h0 : Heap) (n0 : Nat) (v : Option Value) (h : Heap) (L : List Loc) : Prop := v = none ∧ Fr n0 L ∧ Keep h0 h [a1] ∧ own_Str Z h h.size a1 []
set_option maxRecDepth 65536 in
set_option maxHeartbeats 40000000 in
theorem rm_e4 (l : Launch) (Z : State) (a0 : Array Value) (hw : ∀ d ∈ tables_1, d.before a0 Z = true) (ws : List Jvm.Cond) (a1 : Addr) (a2 : Addr) (h0 : Heap) (n0 : Nat) (hEL : EW Z a0 own_EL) (E_1 : Exa Z h0 a1 "java/lang/String") (F_v : Fld Z h0 a1 "java/lang/String" "value" "[B" .null) (F_c : Fld Z h0 a1 "java/lang/String" "coder" "B" (.int (0 : Int32))) (G_1 : n0 ≤ a1) :
    own_MetW l (⟨"java/lang/String", "<init>", "([CIILjava/lang/Void;)V"⟩ : MethodName) jdk_42_method_149_code 6 none ws ({ frames := 1, cells := 4, slots := 8, locals := 12 } : Room) #[(.ref a1), (.ref a2), (.int (0 : Int32)), (.int (0 : Int32)), .null] Z own_EL h0 (Qrm_e4 Z a1 a2 h0 n0) := by
  refine own_bodyW own_pn5 ?_
  intro p e s m below meth c T0 X0 hx hby hml hnm hret hlk W0 e0
  have hZ := W0.1
  have hown := W0.2.1
  have N0 := Fr.nil n0
  refine own_st (fun t k => castTop (own_ef_rm_e4 m a1 a2) k) ?_
  show own_Go p.tables e below (T0.setTop (mkF m 0 #[.val (.ref a1), .val (.ref a2), .val (.int (0 : Int32)), .val (.int (0 : Int32)), .val .null, .unset] [])) _
  have wS : ∀ d ∈ Bundle.stringAtoms, d.before a0 Z = true := fun d hd => hw d ((by decide +kernel : ∀ d ∈ Bundle.stringAtoms, d ∈ tables_1) d hd)
  have Sf := own_safeN (EL := own_EL) W0.1.alike E_1 F_v
  refine own_aloadN X0 hx hby own_d5_0 (pc' := 1) rfl rfl rfl ?_
  refine own_initO X0 hx hby own_d5_1 (pc' := 4) rfl hZ hown (hw _ (List.mem_of_getElem? (i := 34) rfl)) (hw _ (List.mem_of_getElem? (i := 35) rfl)) (hw _ (List.mem_of_getElem? (i := 36) rfl)) e0 (by rw [hml]; rfl) (by decide) (W := 0) (Nat.le_of_eq rfl) (by decide) ?_
  intro T1 X1 e1
  show own_Go p.tables e below (T1.setTop (mkF m 4 #[.val (.ref a1), .val (.ref a2), .val (.int (0 : Int32)), .val (.int (0 : Int32)), .val .null, .unset] [])) _
  refine own_iloadN X1 hx hby own_d5_4 (pc' := 5) rfl rfl ?_
  refine own_ifNo X1 hx hby own_d5_5 (pc' := 8) rfl (by decide) ?_
  refine own_aloadN X1 hx hby own_d5_8 (pc' := 9) rfl rfl rfl ?_
  refine own_ldcS X1 hx hby own_d5_9 (pc' := 11) rfl (hw _ (List.mem_of_getElem? (i := 37) rfl)) wS e1 hEL (by decide) (W0) (vs := []) (z := (0 : Int32)) ⟨by decide, by rfl⟩ (by decide) (by rfl) (n := 0) (by decide) (by decide) (by decide) (by decide) ?_
  intro T2 h2 a2 b2 k2 vm2 X2 e2 E2 W2 C2 G2 Gc2 Gv2 Gb2 S2
  have hZ := W2.1
  have hown := W2.2.1
  have F2 := own_Str.mk G2 Gc2 Gv2 Gb2 ([] : List Int32) (by decide) (by decide) rfl (by first | rfl | decide +kernel)
  refine own_getF X2 hx hby own_d5_11 (pc' := 14) rfl hZ hown (host := "") (Or.inl (hw _ (List.mem_of_getElem? (i := 13) rfl))) Via.refl e2 Gv2 ?_
  intro T3 X3 e3
  refine own_put X3 hx hby own_d5_14 (pc' := 17) rfl hZ hown (host := "") (Or.inl (hw _ (List.mem_of_getElem? (i := 13) rfl))) Via.refl e3 (F_v.ext E2) (E_1.ext E2) (Or.inr ⟨(hw _ (List.mem_of_getElem? (i := 4) rfl)), rfl, hnm⟩) (hw _ (List.mem_of_getElem? (i := 2) rfl)) (ty := (.array .byte)) (by decide) rfl rfl ?_
  intro T4 h4 X4 e4 W4
  have F4 := ((F_v.ext E2)).same W4
  have N4 := Fr.snoc X4 N0 G_1
  refine own_aloadN X4 hx hby own_d5_17 (pc' := 18) rfl rfl rfl ?_
  refine own_ldcS X4 hx hby own_d5_18 (pc' := 20) rfl (hw _ (List.mem_of_getElem? (i := 37) rfl)) wS e4 hEL (by decide) ((W2.wr W4 (C2.safe (E_1).lt Sf))) (vs := []) (z := (0 : Int32)) ⟨by decide, by rfl⟩ (by decide) (by rfl) (n := 0) (by decide) (by decide) (by decide) (by decide) ?_
  intro T5 h5 a5 b5 k5 vm5 X5 e5 E5 W5 C5 G5 Gc5 Gv5 Gb5 S5
  have hZ := W5.1
  have hown := W5.2.1
  have F5 := own_Str.mk G5 Gc5 Gv5 Gb5 ([] : List Int32) (by decide) (by decide) rfl (by first | rfl | decide +kernel)
  refine own_getF X5 hx hby own_d5_20 (pc' := 23) rfl hZ hown (host := "") (Or.inl (hw _ (List.mem_of_getElem? (i := 20) rfl))) Via.refl e5 Gc5 ?_
  intro T6 X6 e6
  refine own_putN X6 hx hby own_d5_23 (pc' := 26) rfl hZ hown (hw _ (List.mem_of_getElem? (i := 20) rfl)) Via.refl e6 (((F_c.ext E2).other W4 (Or.inr (slot_ne (Or.inr (hw _ (List.mem_of_getElem? (i := 5) rfl))) (Or.inr (hw _ (List.mem_of_getElem? (i := 4) rfl))) (by decide) (t := .byte) (t' := (.array .byte)) (by decide) (by decide)))).ext E5) (((E_1.ext E2).wr W4).ext E5) (Or.inr ⟨(hw _ (List.mem_of_getElem? (i := 5) rfl)), rfl, hnm⟩) (hw _ (List.mem_of_getElem? (i := 2) rfl)) (ty := .byte) (v' := (.int (0 : Int32))) (by decide) rfl rfl ?_
  intro T7 h7 X7 e7 W7
  have F7 := ((((F_c.ext E2).other W4 (Or.inr (slot_ne (Or.inr (hw _ (List.mem_of_getElem? (i := 5) rfl))) (Or.inr (hw _ (List.mem_of_getElem? (i := 4) rfl))) (by decide) (t := .byte) (t' := (.array .byte)) (by decide) (by decide)))).ext E5)).same W7
  have N7 := Fr.snoc X7 N4 G_1
  exact own_retVW X7 hx hEL ((W5.wr W7 (C5.safe (Nat.lt_of_lt_of_le (Nat.lt_of_lt_of_le (E_1).lt E2.1) (Nat.le_of_eq (Wr.size W4).symm)) (Safe.wr W4 (C2.safe (E_1).lt Sf) (W2).ch (C2.safe (E_1).lt Sf))))) e7 hret (hb hby own_d5_26) hlk (by decide) (by decide) ⟨rfl, N7, by rw [e7]; exact ⟨(((((Keep.refl h0 [a1]).ext E2).wr W4 (Or.inl (List.mem_of_getElem? (i := 0) rfl))).ext E5).wr W7 (Or.inl (List.mem_of_getElem? (i := 0) rfl))), own_Str.mk (((((E_1.ext E2).wr W4).ext E5).wr W7)) (F7) (((F4.ext E5).other W7 (Or.inr (slot_ne (Or.inr (hw _ (List.mem_of_getElem? (i := 4) rfl))) (Or.inr (hw _ (List.mem_of_getElem? (i := 5) rfl))) (by decide) (t := (.array .byte)) (t' := .byte) (by decide) (by decide))))) ((((Gb2.other W4 (Ne.symm (S2 _ (C2.safe (E_1).lt Sf)).2)).ext E5).other W7 (Ne.symm (S2 _ (C2.safe (E_1).lt Sf)).2))) [] (by simp) (by decide) rfl rfl⟩⟩
theorem own_pd0 : parseMethodDescriptor "([CIILjava/lang/Void;)V" = some ⟨[(.array .char), .int, .int, (.object "java/lang/Void")], none⟩ := by decide +kernel
theorem own_d4_0 : decode jdk_42_method_3_code 0 = .ok (.aload_n 0, 1) := by decide +kernel
theorem own_d4_1 : decode jdk_42_method_3_code 1 = .ok (.aload_n 1, 1) := by decide +kernel
theorem own_d4_2 : decode jdk_42_method_3_code 2 = .ok (.iconst 0, 1) := by decide +kernel
theorem own_d4_3 : decode jdk_42_method_3_code 3 = .ok (.aload_n 1, 1) := by decide +kernel
theorem own_d4_4 : decode jdk_42_method_3_code 4 = .ok (.arraylength, 1) := by decide +kernel
theorem own_d4_5 : decode jdk_42_method_3_code 5 = .ok (.aconst_null, 1) := by decide +kernel
theorem own_d4_6 : decode jdk_42_method_3_code 6 = .ok (.invokespecial 27, 3) := by decide +kernel
theorem own_d4_9 : decode jdk_42_method_3_code 9 = .ok (.return_, 1) := by decide +kernel
theorem own_ef_rm_e1 (m : MethodId) (a1 : Addr) (a2 : Addr) : entryFrame m #[(.ref a1), (.ref a2)] 2 = mkF m 0 #[.val (.ref a1), .val (.ref a2)] [] := by first | (simp [entryFrame, mkF, argsToLocals, Value.category]; done) | rfl
def Qrm_e1 (Z : State) (a1 : Addr) (a2 : Addr) (h0 : Heap) (n0 : Nat) (v : Option Value) (h : Heap) (L : List Loc) : Prop := v = none ∧ Fr n0 L ∧ Keep h0 h [a1] ∧ own_Str Z h h.size a1 []
set_option maxRecDepth 65536 in
set_option maxHeartbeats 40000000 in
theorem rm_e1 (l : Launch) (Z : State) (a0 : Array Value) (hw : ∀ d ∈ tables_1, d.before a0 Z = true) (ws : List Jvm.Cond) (a1 : Addr) (a2 : Addr) (h0 : Heap) (n0 : Nat) (hEL : EW Z a0 own_EL) (E_1 : Exa Z h0 a1 "java/lang/String") (F_v : Fld Z h0 a1 "java/lang/String" "value" "[B" .null) (F_c : Fld Z h0 a1 "java/lang/String" "coder" "B" (.int (0 : Int32))) (G_1 : n0 ≤ a1) (C_2 : own_Ch Z h0 a2 0) :
    own_MetW l (⟨"java/lang/String", "<init>", "([C)V"⟩ : MethodName) jdk_42_method_3_code 2 none ws ({ frames := 2, cells := 4, slots := 8, locals := 29 } : Room) #[(.ref a1), (.ref a2)] Z own_EL h0 (Qrm_e1 Z a1 a2 h0 n0) := by
  refine own_bodyW own_pn4 ?_
  intro p e s m below meth c T0 X0 hx hby hml hnm hret hlk W0 e0
  have hZ := W0.1
  have hown := W0.2.1
  have N0 := Fr.nil n0
  refine own_st (fun t k => castTop (own_ef_rm_e1 m a1 a2) k) ?_
  show own_Go p.tables e below (T0.setTop (mkF m 0 #[.val (.ref a1), .val (.ref a2)] [])) _
  have wS : ∀ d ∈ Bundle.stringAtoms, d.before a0 Z = true := fun d hd => hw d ((by decide +kernel : ∀ d ∈ Bundle.stringAtoms, d ∈ tables_1) d hd)
  have Sf := own_safeN (EL := own_EL) W0.1.alike E_1 F_v
  refine own_aloadN X0 hx hby own_d4_0 (pc' := 1) rfl rfl rfl ?_
  refine own_aloadN X0 hx hby own_d4_1 (pc' := 2) rfl rfl rfl ?_
  refine own_iconst X0 hx hby own_d4_2 (pc' := 3) rfl (z := (0 : Int32)) (by decide) ?_
  refine own_aloadN X0 hx hby own_d4_3 (pc' := 4) rfl rfl rfl ?_
  refine own_lenC X0 hx hby own_d4_4 (pc' := 5) rfl hZ e0 (C_2) (z := (0 : Int32)) (by rfl) ?_
  refine own_aconst_null X0 hx hby own_d4_5 (pc' := 6) rfl ?_
  refine own_callSpW X0 hx hEL (W0) (rm_e4 l Z a0 hw [] a1 a2 h0 n0 hEL (E_1) (F_v) (F_c) G_1) rfl (hw _ (List.mem_of_getElem? (i := 30) rfl)) (hw _ (List.mem_of_getElem? (i := 31) rfl)) (hw _ (List.mem_of_getElem? (i := 33) rfl)) (hw _ (List.mem_of_getElem? (i := 1) rfl)) (by decide) (W := 0) (by decide) (by decide) (by rw [hml]; rfl) (argsL := [(.ref a2), (.int (0 : Int32)), (.int (0 : Int32)), .null]) (rest := []) rfl (lenOf own_pd0 rfl) rfl (Nat.le_of_eq rfl) (hb hby own_d4_6) e0 (by decide) (by decide) ?_
  intro v8 T8 L8 vm8 X8 hQ8 W8 C8
  obtain ⟨hv8, N8q, K8, F8⟩ := hQ8
  subst hv8
  have N8 := Fr.app N0 N8q
  have hZ := W8.1
  have hown := W8.2.1
  show own_Go p.tables e below (T8.setTop (mkF m 9 #[.val (.ref a1), .val (.ref a2)] [])) _
  exact own_retVW X8 hx hEL (W8) rfl hret (hb hby own_d4_9) hlk (by decide) (by decide) ⟨rfl, N8, ((Keep.refl h0 [a1]).trans K8 (allS (Or.inl (List.mem_of_getElem? (i := 0) rfl)) all0)), F8⟩
theorem own_pd1 : parseMethodDescriptor "()I" = some ⟨[], some .int⟩ := by decide +kernel
theorem own_pd2 : parseMethodDescriptor "(I)C" = some ⟨[.int], some .char⟩ := by decide +kernel
theorem own_d3_0 : decode method_2_code 0 = .ok (.iload_n 2, 1) := by decide +kernel
theorem own_d3_1 : decode method_2_code 1 = .ok (.aload_n 0, 1) := by decide +kernel
theorem own_d3_2 : decode method_2_code 2 = .ok (.arraylength, 1) := by decide +kernel
theorem own_d3_3 : decode method_2_code 3 = .ok (.if_icmp .ge 23, 3) := by decide +kernel
theorem own_d3_6 : decode method_2_code 6 = .ok (.aload_n 0, 1) := by decide +kernel
theorem own_d3_7 : decode method_2_code 7 = .ok (.iload_n 2, 1) := by decide +kernel
theorem own_d3_8 : decode method_2_code 8 = .ok (.iload_n 2, 1) := by decide +kernel
theorem own_d3_9 : decode method_2_code 9 = .ok (.aload_n 1, 1) := by decide +kernel
theorem own_d3_10 : decode method_2_code 10 = .ok (.invokevirtual 7, 3) := by decide +kernel
theorem own_d3_13 : decode method_2_code 13 = .ok (.if_icmp .ge 11, 3) := by decide +kernel
theorem own_d3_16 : decode method_2_code 16 = .ok (.aload_n 1, 1) := by decide +kernel
theorem own_d3_17 : decode method_2_code 17 = .ok (.iload_n 2, 1) := by decide +kernel
theorem own_d3_18 : decode method_2_code 18 = .ok (.invokevirtual 13, 3) := by decide +kernel
theorem own_d3_21 : decode method_2_code 21 = .ok (.goto 4, 3) := by decide +kernel
theorem own_d3_24 : decode method_2_code 24 = .ok (.iload_n 3, 1) := by decide +kernel
theorem own_d3_25 : decode method_2_code 25 = .ok (.castore, 1) := by decide +kernel
theorem own_d3_26 : decode method_2_code 26 = .ok (.return_, 1) := by decide +kernel
theorem own_ef_rm_put (m : MethodId) (a1 : Addr) (a2 : Addr) (p1 : Int32) (p2 : Int32) : entryFrame m #[(.ref a1), (.ref a2), (.int p1), (.int p2)] 4 = mkF m 0 #[.val (.ref a1), .val (.ref a2), .val (.int p1), .val (.int p2)] [] := by first | (simp [entryFrame, mkF, argsToLocals, Value.category]; done) | rfl
def Qrm_put (Z : State) (a1 : Addr) (a2 : Addr) (p1 : Int32) (p2 : Int32) (n : Nat) (k0 : Nat) (ds : List Int32) (gS : Int32) (fm : Value) (h0 : Heap) (n0 : Nat) (v : Option Value) (h : Heap) (L : List Loc) : Prop := v = none ∧ Fr n0 L ∧ Keep h0 h [a1] ∧ own_Ch Z h a1 n
set_option maxRecDepth 65536 in
set_option maxHeartbeats 40000000 in
theorem rm_put (l : Launch) (Z : State) (a0 : Array Value) (hw : ∀ d ∈ tables_1, d.before a0 Z = true) (ws : List Jvm.Cond) (a1 : Addr) (a2 : Addr) (p1 : Int32) (p2 : Int32) (n : Nat) (k0 : Nat) (ds : List Int32) (gS : Int32) (fm : Value) (h0 : Heap) (n0 : Nat) (O_0 : Old Z n0 h0) (S_S : Sta Z Z.heap "java/lang/String" "COMPACT_STRINGS" "Z" (.int gS)) (hS : ¬ gS = 0) (S_F : Sta Z Z.heap "jdk/internal/util/Preconditions" "SIOOBE_FORMATTER" "Ljava/util/function/BiFunction;" fm) (hfm : fm.isRef = true) (C_1 : own_Ch Z h0 a1 n) (T_2 : own_Str Z h0 k0 a2 ds) (hn : n ≤ 4000) (hp : ¬ p1 < 0) (hpad : own_B p2) (G_1 : n0 ≤ a1) :
    own_Met l (⟨"com/example/inbound_throttle/inboundthrottle/rules/AlgorithmNamedPinLaw", "put", "([CLjava/lang/String;IC)V"⟩ : MethodName) method_2_code 4 none ws ({ frames := 5, cells := 0, slots := 0, locals := 60 } : Room) #[(.ref a1), (.ref a2), (.int p1), (.int p2)] Z h0 (Qrm_put Z a1 a2 p1 p2 n k0 ds gS fm h0 n0) := by
  refine own_body own_pn3 ?_
  intro p e s m below meth c T0 X0 hx hby hml hown hnm hret hlk hZ e0
  have N0 := Fr.nil n0
  refine own_st (fun t k => castTop (own_ef_rm_put m a1 a2 p1 p2) k) ?_
  show own_Go p.tables e below (T0.setTop (mkF m 0 #[.val (.ref a1), .val (.ref a2), .val (.int p1), .val (.int p2)] [])) _
  have hwL : ∀ d ∈ StrChars.Road.wordsLen, d.before a0 Z = true := fun d hd => hw d ((by decide +kernel : ∀ d ∈ StrChars.Road.wordsLen, d ∈ tables_1) d hd)
  have hwC : ∀ d ∈ StrChars.Road.wordsChN, d.before a0 Z = true := fun d hd => hw d ((by decide +kernel : ∀ d ∈ StrChars.Road.wordsChN, d ∈ tables_1) d hd)
  refine own_iloadN X0 hx hby own_d3_0 (pc' := 1) rfl rfl ?_
  refine own_aloadN X0 hx hby own_d3_1 (pc' := 2) rfl rfl rfl ?_
  refine own_lenC X0 hx hby own_d3_2 (pc' := 3) rfl hZ e0 (C_1) rfl ?_
  by_cases hc3 : p1 < (n.toInt32)
  · skip
    refine own_icmpNo X0 hx hby own_d3_3 (pc' := 6) rfl (tlt hc3).2.1 ?_
    refine own_aloadN X0 hx hby own_d3_6 (pc' := 7) rfl rfl rfl ?_
    refine own_iloadN X0 hx hby own_d3_7 (pc' := 8) rfl rfl ?_
    refine own_iloadN X0 hx hby own_d3_8 (pc' := 9) rfl rfl ?_
    refine own_aloadN X0 hx hby own_d3_9 (pc' := 10) rfl rfl rfl ?_
    refine own_callVB X0 hx hZ (own_lenB (W := 3) hZ hwL (hw _ (List.mem_of_getElem? (i := 2) rfl)) (T_2) rfl (S_S.ext (O_0).2) hS (by decide) (by decide)) hown (hw _ (List.mem_of_getElem? (i := 8) rfl)) (hw _ (List.mem_of_getElem? (i := 9) rfl)) (hw _ (List.mem_of_getElem? (i := 11) rfl)) (hw _ (List.mem_of_getElem? (i := 10) rfl)) (by decide) ((T_2).exa) (by rw [hml]; rfl) (argsL := []) (rest := [(.int p1), (.int p1), (.ref a1)]) rfl (lenOf own_pd1 rfl) rfl (Nat.le_of_eq rfl) (hb hby own_d3_10) e0 (by decide) (by decide) ?_
    intro v9 T9 L9 X9 hQ9
    obtain ⟨hv9, hL9, e9⟩ := hQ9
    subst hL9 hv9
    have N9 := Fr.app N0 (Fr.nil n0)
    show own_Go p.tables e below (T9.setTop (mkF m 13 #[.val (.ref a1), .val (.ref a2), .val (.int p1), .val (.int p2)] [(.int (Int32.ofNat ds.length)), (.int p1), (.int p1), (.ref a1)])) _
    by_cases hc13 : p1 < (Int32.ofNat ds.length)
    · skip
      refine own_icmpNo X9 hx hby own_d3_13 (pc' := 16) rfl (tlt hc13).2.1 ?_
      refine own_aloadN X9 hx hby own_d3_16 (pc' := 17) rfl rfl rfl ?_
      refine own_iloadN X9 hx hby own_d3_17 (pc' := 18) rfl rfl ?_
      refine own_callVB X9 hx hZ (own_chB (W := 2) hZ hwC (hw _ (List.mem_of_getElem? (i := 2) rfl)) (T_2) hp (own_ltn T_2.short hp hc13) (S_S.ext (O_0).2) hS (S_F.ext (O_0).2) hfm (by decide) (by decide)) hown (hw _ (List.mem_of_getElem? (i := 86) rfl)) (hw _ (List.mem_of_getElem? (i := 87) rfl)) (hw _ (List.mem_of_getElem? (i := 89) rfl)) (hw _ (List.mem_of_getElem? (i := 88) rfl)) (by decide) ((T_2).exa) (by rw [hml]; rfl) (argsL := [(.int p1)]) (rest := [(.int p1), (.ref a1)]) rfl (lenOf own_pd2 rfl) rfl (Nat.le_of_eq rfl) (hb hby own_d3_18) e9 (by decide) (by decide) ?_
      intro v10 T10 L10 X10 hQ10
      obtain ⟨hv10, hL10, e10⟩ := hQ10
      subst hL10 hv10
      have N10 := Fr.app N9 (Fr.nil n0)
      show own_Go p.tables e below (T10.setTop (mkF m 21 #[.val (.ref a1), .val (.ref a2), .val (.int p1), .val (.int p2)] [(.int (ds.getD p1.toNatClampNeg 0)), (.int p1), (.ref a1)])) _
      refine own_goto X10 hx hby own_d3_21 (pc' := 25) (by decide) ?_
      refine own_castoreC X10 hx hby own_d3_25 (pc' := 26) rfl hZ e10 (C_1) hp (own_ltn hn hp hc3) ((own_narB (T_2.bnd (own_ltn T_2.short hp hc13))).symm ▸ (T_2.bnd (own_ltn T_2.short hp hc13))) ?_
      intro T11 h11 X11 e11 W11 C11
      have N11 := Fr.snoc X11 N10 G_1
      have c12 := (O_0.wr W11 G_1)
      exact own_retV X11 hx hret (hb hby own_d3_26) hlk (by decide) (by decide) ⟨rfl, N11, by rw [e11]; exact ⟨((Keep.refl h0 [a1]).wr W11 (Or.inl (List.mem_of_getElem? (i := 0) rfl))), C11⟩⟩
    · skip
      refine own_icmpYes X9 hx hby own_d3_13 (pc' := 24) (by decide) (flt hc13).2.1 ?_
      refine own_iloadN X9 hx hby own_d3_24 (pc' := 25) rfl rfl ?_
      refine own_castoreC X9 hx hby own_d3_25 (pc' := 26) rfl hZ e9 (C_1) hp (own_ltn hn hp hc3) ((own_narB hpad).symm ▸ hpad) ?_
      intro T13 h13 X13 e13 W13 C13
      have N13 := Fr.snoc X13 N9 G_1
      have c14 := (O_0.wr W13 G_1)
      exact own_retV X13 hx hret (hb hby own_d3_26) hlk (by decide) (by decide) ⟨rfl, N13, by rw [e13]; exact ⟨((Keep.refl h0 [a1]).wr W13 (Or.inl (List.mem_of_getElem? (i := 0) rfl))), C13⟩⟩
  · skip
    refine own_icmpYes X0 hx hby own_d3_3 (pc' := 26) (by decide) (flt hc3).2.1 ?_
    exact own_retV X0 hx hret (hb hby own_d3_26) hlk (by decide) (by decide) ⟨rfl, N0, by rw [e0]; exact ⟨(Keep.refl h0 [a1]), C_1⟩⟩
theorem own_d10_0 : decode prog_4_method_1_code 0 = .ok (.getstatic 10, 3) := by decide +kernel
theorem own_d10_3 : decode prog_4_method_1_code 3 = .ok (.invokevirtual 14, 3) := by decide +kernel
theorem own_d10_6 : decode prog_4_method_1_code 6 = .ok (.checkcast 15, 3) := by decide +kernel
theorem own_d10_9 : decode prog_4_method_1_code 9 = .ok (.areturn, 1) := by decide +kernel
theorem own_ef_rm_va (m : MethodId)  : entryFrame m #[] 0 = mkF m 0 #[] [] := by first | (simp [entryFrame, mkF, argsToLocals, Value.category]; done) | rfl
def Qrm_va (Z : State) (aV : Addr) (kV : Cell) (r0 : Addr) (r1 : Addr) (h0 : Heap) (n0 : Nat) (v : Option Value) (h : Heap) (L : List Loc) : Prop := ∃ b, v = some (.ref b) ∧ Fr n0 L ∧ Keep h0 h [] ∧ h0.size ≤ b ∧ own_Ar Z h b (.object "com/example/inbound_throttle/inboundthrottle/rules/Algorithm") [.ref r0, .ref r1]
set_option maxRecDepth 65536 in
set_option maxHeartbeats 40000000 in
theorem rm_va (l : Launch) (Z : State) (a0 : Array Value) (hw : ∀ d ∈ tables_1, d.before a0 Z = true) (ws : List Jvm.Cond) (aV : Addr) (kV : Cell) (r0 : Addr) (r1 : Addr) (h0 : Heap) (n0 : Nat) (O_0 : Old Z n0 h0) (S_V : Sta Z Z.heap "com/example/inbound_throttle/inboundthrottle/rules/Algorithm" "$VALUES" "[Lcom/example/inbound_throttle/inboundthrottle/rules/Algorithm;" (.ref aV)) (A_V : Arr Z Z.heap aV kV (.object "com/example/inbound_throttle/inboundthrottle/rules/Algorithm")) (E_V : Exa Z Z.heap aV "[Lcom/example/inbound_throttle/inboundthrottle/rules/Algorithm;") (FC : FitC Z kV) (hs : kV.slots.toList = [.ref r0, .ref r1]) :
    own_Met l (⟨"com/example/inbound_throttle/inboundthrottle/rules/Algorithm", "values", "()[Lcom/example/inbound_throttle/inboundthrottle/rules/Algorithm;"⟩ : MethodName) prog_4_method_1_code 0 (some (.array (.object "com/example/inbound_throttle/inboundthrottle/rules/Algorithm"))) ws ({ frames := 1, cells := 1, slots := 8, locals := 14 } : Room) #[] Z h0 (Qrm_va Z aV kV r0 r1 h0 n0) := by
  refine own_body own_pn10 ?_
  intro p e s m below meth c T0 X0 hx hby hml hown hnm hret hlk hZ e0
  have N0 := Fr.nil n0
  refine own_st (fun t k => castTop (own_ef_rm_va m ) k) ?_
  show own_Go p.tables e below (T0.setTop (mkF m 0 #[] [])) _
  have Z0 := own_Z0 O_0
  have hcap : kV.slots.size ≤ 8 := by rw [← Array.length_toList, hs]; exact (by decide : 2 ≤ 8)
  refine own_getS X0 hx hby own_d10_0 (pc' := 3) rfl hZ hown (host := "") (Or.inl (hw _ (List.mem_of_getElem? (i := 56) rfl))) Via.refl e0 (S_V.ext (O_0).2) ?_
  intro T15 X15 e15
  refine own_clone X15 hx hby own_d10_3 (pc' := 6) rfl hZ hown (hw _ (List.mem_of_getElem? (i := 58) rfl)) (hw _ (List.mem_of_getElem? (i := 59) rfl)) (hw _ (List.mem_of_getElem? (i := 63) rfl)) (hw _ (List.mem_of_getElem? (i := 61) rfl)) (hw _ (List.mem_of_getElem? (i := 62) rfl)) (hw _ (List.mem_of_getElem? (i := 64) rfl)) e15 (A_V.ext (O_0).2) (E_V.ext (O_0).2) FC (by rw [hml]; rfl) (by decide) (W := 0) (cap := 8) (Nat.le_of_eq rfl) (by decide) hcap (by decide) (by decide) ?_
  intro T16 h16 b16 X16 e16 g16 E16 A16 C16
  show own_Go p.tables e below (T16.setTop (mkF m 6 #[] [(.ref b16)])) _
  refine own_castY X16 hx hby own_d10_6 (pc' := 9) rfl hZ hown (hw _ (List.mem_of_getElem? (i := 68) rfl)) e16 (Ins.self C16) ?_
  intro T17 X17 e17
  exact own_retA X17 hx hret rfl rfl (hb hby own_d10_9) hlk (by decide) (by decide) ⟨b16, rfl, N0, by rw [e17]; exact ⟨((Keep.refl h0 []).ext E16), (Nat.le_of_eq g16.symm), (⟨_, A16, hs⟩ : own_Ar Z h16 b16 (.object "com/example/inbound_throttle/inboundthrottle/rules/Algorithm") [.ref r0, .ref r1])⟩⟩
theorem own_d7_0 : decode jdk_42_method_66_code 0 = .ok (.aload_n 0, 1) := by decide +kernel
theorem own_d7_1 : decode jdk_42_method_66_code 1 = .ok (.aload_n 1, 1) := by decide +kernel
theorem own_d7_2 : decode jdk_42_method_66_code 2 = .ok (.if_acmp .ne 5, 3) := by decide +kernel
theorem own_d7_7 : decode jdk_42_method_66_code 7 = .ok (.aload_n 1, 1) := by decide +kernel
theorem own_d7_8 : decode jdk_42_method_66_code 8 = .ok (.instanceof 10, 3) := by decide +kernel
theorem own_d7_11 : decode jdk_42_method_66_code 11 = .ok (.ifCond .eq 43, 3) := by decide +kernel
theorem own_d7_54 : decode jdk_42_method_66_code 54 = .ok (.iconst 0, 1) := by decide +kernel
theorem own_d7_55 : decode jdk_42_method_66_code 55 = .ok (.ireturn, 1) := by decide +kernel
theorem own_ef_rm_eqn (m : MethodId) (a1 : Addr) : entryFrame m #[(.ref a1), .null] 3 = mkF m 0 #[.val (.ref a1), .val .null, .unset] [] := by first | (simp [entryFrame, mkF, argsToLocals, Value.category]; done) | rfl
def Qrm_eqn (Z : State) (a1 : Addr) (h0 : Heap) (n0 : Nat) (v : Option Value) (h : Heap) (L : List Loc) : Prop := v = some (.int (0 : Int32)) ∧ Fr n0 L ∧ h = h0
set_option maxRecDepth 65536 in
set_option maxHeartbeats 40000000 in
theorem rm_eqn (l : Launch) (Z : State) (a0 : Array Value) (hw : ∀ d ∈ tables_1, d.before a0 Z = true) (ws : List Jvm.Cond) (a1 : Addr) (h0 : Heap) (n0 : Nat) :
    own_Met l (⟨"java/lang/String", "equals", "(Ljava/lang/Object;)Z"⟩ : MethodName) jdk_42_method_66_code 3 (some .boolean) ws ({ frames := 0, cells := 0, slots := 0, locals := 0 } : Room) #[(.ref a1), .null] Z h0 (Qrm_eqn Z a1 h0 n0) := by
  refine own_body own_pn7 ?_
  intro p e s m below meth c T0 X0 hx hby hml hown hnm hret hlk hZ e0
  have N0 := Fr.nil n0
  refine own_st (fun t k => castTop (own_ef_rm_eqn m a1) k) ?_
  show own_Go p.tables e below (T0.setTop (mkF m 0 #[.val (.ref a1), .val .null, .unset] [])) _
  refine own_aloadN X0 hx hby own_d7_0 (pc' := 1) rfl rfl rfl ?_
  refine own_aloadN X0 hx hby own_d7_1 (pc' := 2) rfl rfl rfl ?_
  refine own_acmp X0 hx hby own_d7_2 (pc' := 7) (same := false) rfl rfl (decide_eq_false nofun) (by decide) ?_
  refine own_aloadN X0 hx hby own_d7_7 (pc' := 8) rfl rfl rfl ?_
  refine own_instN X0 hx hby own_d7_8 (pc' := 11) rfl ?_
  refine own_ifYes X0 hx hby own_d7_11 (pc' := 54) (by decide) (by decide) ?_
  refine own_iconst X0 hx hby own_d7_54 (pc' := 55) rfl (z := (0 : Int32)) (by decide) ?_
  exact own_retZ (t := .boolean) X0 hx hret (by simp) (hb hby own_d7_55) hlk (by decide) (by decide) ⟨congrArg (fun z => some (Value.int z)) (own_nar0), N0, e0⟩
theorem own_d23_0 : decode jdk_32_method_2_code 0 = .ok (.aload_n 0, 1) := by decide +kernel
theorem own_d23_1 : decode jdk_32_method_2_code 1 = .ok (.invokespecial 7, 3) := by decide +kernel
theorem own_d23_4 : decode jdk_32_method_2_code 4 = .ok (.aload_n 0, 1) := by decide +kernel
theorem own_d23_5 : decode jdk_32_method_2_code 5 = .ok (.aload_n 1, 1) := by decide +kernel
theorem own_d23_6 : decode jdk_32_method_2_code 6 = .ok (.putfield 13, 3) := by decide +kernel
theorem own_d23_9 : decode jdk_32_method_2_code 9 = .ok (.return_, 1) := by decide +kernel
theorem own_ef_rm_oi (m : MethodId) (a1 : Addr) (a2 : Addr) : entryFrame m #[(.ref a1), (.ref a2)] 2 = mkF m 0 #[.val (.ref a1), .val (.ref a2)] [] := by first | (simp [entryFrame, mkF, argsToLocals, Value.category]; done) | rfl
def Qrm_oi (Z : State) (a1 : Addr) (a2 : Addr) (h0 : Heap) (n0 : Nat) (v : Option Value) (h : Heap) (L : List Loc) : Prop := v = none ∧ Fr n0 L ∧ Keep h0 h [a1] ∧ Exa Z h a1 "java/util/Optional" ∧ Fld Z h a1 "java/util/Optional" "value" "Ljava/lang/Object;" (.ref a2)
set_option maxRecDepth 65536 in
set_option maxHeartbeats 40000000 in
theorem rm_oi (l : Launch) (Z : State) (a0 : Array Value) (hw : ∀ d ∈ tables_1, d.before a0 Z = true) (ws : List Jvm.Cond) (a1 : Addr) (a2 : Addr) (h0 : Heap) (n0 : Nat) (E_1 : Exa Z h0 a1 "java/util/Optional") (F_1 : Fld Z h0 a1 "java/util/Optional" "value" "Ljava/lang/Object;" .null) (G_1 : n0 ≤ a1) :
    own_Met l (⟨"java/util/Optional", "<init>", "(Ljava/lang/Object;)V"⟩ : MethodName) jdk_32_method_2_code 2 none ws ({ frames := 1, cells := 0, slots := 0, locals := 12 } : Room) #[(.ref a1), (.ref a2)] Z h0 (Qrm_oi Z a1 a2 h0 n0) := by
  refine own_body own_pn23 ?_
  intro p e s m below meth c T0 X0 hx hby hml hown hnm hret hlk hZ e0
  have N0 := Fr.nil n0
  refine own_st (fun t k => castTop (own_ef_rm_oi m a1 a2) k) ?_
  show own_Go p.tables e below (T0.setTop (mkF m 0 #[.val (.ref a1), .val (.ref a2)] [])) _
  refine own_aloadN X0 hx hby own_d23_0 (pc' := 1) rfl rfl rfl ?_
  refine own_initO X0 hx hby own_d23_1 (pc' := 4) rfl hZ hown (hw _ (List.mem_of_getElem? (i := 132) rfl)) (hw _ (List.mem_of_getElem? (i := 35) rfl)) (hw _ (List.mem_of_getElem? (i := 36) rfl)) e0 (by rw [hml]; rfl) (by decide) (W := 0) (Nat.le_of_eq rfl) (by decide) ?_
  intro T18 X18 e18
  show own_Go p.tables e below (T18.setTop (mkF m 4 #[.val (.ref a1), .val (.ref a2)] [])) _
  refine own_aloadN X18 hx hby own_d23_4 (pc' := 5) rfl rfl rfl ?_
  refine own_aloadN X18 hx hby own_d23_5 (pc' := 6) rfl rfl rfl ?_
  refine own_put X18 hx hby own_d23_6 (pc' := 9) rfl hZ hown (host := "") (Or.inl (hw _ (List.mem_of_getElem? (i := 83) rfl))) Via.refl e18 F_1 E_1 (Or.inr ⟨(hw _ (List.mem_of_getElem? (i := 84) rfl)), rfl, hnm⟩) (hw _ (List.mem_of_getElem? (i := 123) rfl)) (ty := (.object "java/lang/Object")) (by decide) rfl rfl ?_
  intro T19 h19 X19 e19 W19
  have F19 := (F_1).same W19
  have N19 := Fr.snoc X19 N0 G_1
  exact own_retV X19 hx hret (hb hby own_d23_9) hlk (by decide) (by decide) ⟨rfl, N19, by rw [e19]; exact ⟨((Keep.refl h0 [a1]).wr W19 (Or.inl (List.mem_of_getElem? (i := 0) rfl))), (E_1.wr W19), F19⟩⟩
theorem own_d22_0 : decode jdk_31_method_10_code 0 = .ok (.aload_n 0, 1) := by decide +kernel
theorem own_d22_1 : decode jdk_31_method_10_code 1 = .ok (.ifnonnull 11, 3) := by decide +kernel
theorem own_d22_12 : decode jdk_31_method_10_code 12 = .ok (.aload_n 0, 1) := by decide +kernel
theorem own_d22_13 : decode jdk_31_method_10_code 13 = .ok (.areturn, 1) := by decide +kernel
theorem own_ef_rm_rn (m : MethodId) (a1 : Addr) : entryFrame m #[(.ref a1)] 1 = mkF m 0 #[.val (.ref a1)] [] := by first | (simp [entryFrame, mkF, argsToLocals, Value.category]; done) | rfl
def Qrm_rn (Z : State) (a1 : Addr) (h0 : Heap) (n0 : Nat) (v : Option Value) (h : Heap) (L : List Loc) : Prop := v = some (.ref a1) ∧ Fr n0 L ∧ h = h0
set_option maxRecDepth 65536 in
set_option maxHeartbeats 40000000 in
theorem rm_rn (l : Launch) (Z : State) (a0 : Array Value) (hw : ∀ d ∈ tables_1, d.before a0 Z = true) (ws : List Jvm.Cond) (a1 : Addr) (h0 : Heap) (n0 : Nat) :
    own_Met l (⟨"java/util/Objects", "requireNonNull", "(Ljava/lang/Object;)Ljava/lang/Object;"⟩ : MethodName) jdk_31_method_10_code 1 (some (.object "java/lang/Object")) ws ({ frames := 0, cells := 0, slots := 0, locals := 0 } : Room) #[(.ref a1)] Z h0 (Qrm_rn Z a1 h0 n0) := by
  refine own_body own_pn22 ?_
  intro p e s m below meth c T0 X0 hx hby hml hown hnm hret hlk hZ e0
  have N0 := Fr.nil n0
  refine own_st (fun t k => castTop (own_ef_rm_rn m a1) k) ?_
  show own_Go p.tables e below (T0.setTop (mkF m 0 #[.val (.ref a1)] [])) _
  refine own_aloadN X0 hx hby own_d22_0 (pc' := 1) rfl rfl rfl ?_
  refine own_ifnonnullYes X0 hx hby own_d22_1 (pc' := 12) (by decide) ?_
  refine own_aloadN X0 hx hby own_d22_12 (pc' := 13) rfl rfl rfl ?_
  exact own_retA X0 hx hret rfl rfl (hb hby own_d22_13) hlk (by decide) (by decide) ⟨rfl, N0, e0⟩
theorem own_pd3 : parseMethodDescriptor "(Ljava/lang/Object;)Ljava/lang/Object;" = some ⟨[(.object "java/lang/Object")], some (.object "java/lang/Object")⟩ := by decide +kernel
theorem own_pd4 : parseMethodDescriptor "(Ljava/lang/Object;)V" = some ⟨[(.object "java/lang/Object")], none⟩ := by decide +kernel
theorem own_d21_0 : decode jdk_32_method_3_code 0 = .ok (.new 2, 3) := by decide +kernel
theorem own_d21_3 : decode jdk_32_method_3_code 3 = .ok (.dup, 1) := by decide +kernel
theorem own_d21_4 : decode jdk_32_method_3_code 4 = .ok (.aload_n 0, 1) := by decide +kernel
theorem own_d21_5 : decode jdk_32_method_3_code 5 = .ok (.invokestatic 17, 3) := by decide +kernel
theorem own_d21_8 : decode jdk_32_method_3_code 8 = .ok (.invokespecial 23, 3) := by decide +kernel
theorem own_d21_11 : decode jdk_32_method_3_code 11 = .ok (.areturn, 1) := by decide +kernel
theorem own_ef_rm_of (m : MethodId) (a1 : Addr) : entryFrame m #[(.ref a1)] 1 = mkF m 0 #[.val (.ref a1)] [] := by first | (simp [entryFrame, mkF, argsToLocals, Value.category]; done) | rfl
def Qrm_of (Z : State) (a1 : Addr) (h0 : Heap) (n0 : Nat) (v : Option Value) (h : Heap) (L : List Loc) : Prop := ∃ b, v = some (.ref b) ∧ Fr n0 L ∧ Keep h0 h [] ∧ Exa Z h b "java/util/Optional" ∧ Fld Z h b "java/util/Optional" "value" "Ljava/lang/Object;" (.ref a1)
set_option maxRecDepth 65536 in
set_option maxHeartbeats 40000000 in
theorem rm_of (l : Launch) (Z : State) (a0 : Array Value) (hw : ∀ d ∈ tables_1, d.before a0 Z = true) (ws : List Jvm.Cond) (a1 : Addr) (h0 : Heap) (n0 : Nat) (O_0 : Old Z n0 h0) :
    own_Met l (⟨"java/util/Optional", "of", "(Ljava/lang/Object;)Ljava/util/Optional;"⟩ : MethodName) jdk_32_method_3_code 1 (some (.object "java/util/Optional")) ws ({ frames := 2, cells := 1, slots := 1, locals := 40 } : Room) #[(.ref a1)] Z h0 (Qrm_of Z a1 h0 n0) := by
  refine own_body own_pn21 ?_
  intro p e s m below meth c T0 X0 hx hby hml hown hnm hret hlk hZ e0
  have N0 := Fr.nil n0
  refine own_st (fun t k => castTop (own_ef_rm_of m a1) k) ?_
  show own_Go p.tables e below (T0.setTop (mkF m 0 #[.val (.ref a1)] [])) _
  have Z0 := own_Z0 O_0
  refine own_new X0 hx hby own_d21_0 (pc' := 3) rfl hZ hown (hw _ (List.mem_of_getElem? (i := 122) rfl)) (hw _ (List.mem_of_getElem? (i := 123) rfl)) (hw _ (List.mem_of_getElem? (i := 75) rfl)) e0 (by decide) (by decide) ?_
  intro T20 h20 b20 X20 e20 g20 E20 A20 D20
  have F20_value : Fld Z h20 b20 "java/util/Optional" "value" "Ljava/lang/Object;" .null := D20 (Or.inr (hw _ (List.mem_of_getElem? (i := 84) rfl))) (ty := (.object "java/lang/Object")) (by decide)
  have l20 : n0 ≤ b20 := (Nat.le_trans Z0 (Nat.le_trans (Nat.le_refl _) (Nat.le_of_eq g20.symm)))
  refine own_dup X20 hx hby own_d21_3 (pc' := 4) rfl rfl ?_
  refine own_aloadN X20 hx hby own_d21_4 (pc' := 5) rfl rfl rfl ?_
  refine own_callS X20 hx hZ (rm_rn l Z a0 hw [] a1 h20 n0) hown (hw _ (List.mem_of_getElem? (i := 124) rfl)) (hw _ (List.mem_of_getElem? (i := 125) rfl)) (hw _ (List.mem_of_getElem? (i := 126) rfl)) (hw _ (List.mem_of_getElem? (i := 127) rfl)) (by decide) (W := 2) (by decide) (by decide) (by rw [hml]; rfl) (argsL := [(.ref a1)]) (rest := [(.ref b20), (.ref b20)]) rfl (lenOf own_pd3 rfl) rfl (Nat.le_of_eq rfl) (hb hby own_d21_5) e20 (by decide) (by decide) ?_
  intro v21 T21 L21 X21 hQ21
  obtain ⟨hv21, N21q, e21⟩ := hQ21
  subst hv21
  have N21 := Fr.app N0 N21q
  show own_Go p.tables e below (T21.setTop (mkF m 8 #[.val (.ref a1)] [(.ref a1), (.ref b20), (.ref b20)])) _
  refine own_callSp X21 hx hZ (rm_oi l Z a0 hw [] b20 a1 h20 n0 (A20) (F20_value) l20) rfl hown (hw _ (List.mem_of_getElem? (i := 128) rfl)) (hw _ (List.mem_of_getElem? (i := 129) rfl)) (hw _ (List.mem_of_getElem? (i := 131) rfl)) (hw _ (List.mem_of_getElem? (i := 75) rfl)) (by decide) (W := 1) (by decide) (by decide) (by rw [hml]; rfl) (argsL := [(.ref a1)]) (rest := [(.ref b20)]) rfl (lenOf own_pd4 rfl) rfl (Nat.le_of_eq rfl) (hb hby own_d21_8) e21 (by decide) (by decide) ?_
  intro v22 T22 L22 X22 hQ22
  obtain ⟨hv22, N22q, K22, E22, F22⟩ := hQ22
  subst hv22
  have N22 := Fr.app N21 N22q
  show own_Go p.tables e below (T22.setTop (mkF m 11 #[.val (.ref a1)] [(.ref b20)])) _
  exact own_retA X22 hx hret rfl rfl (hb hby own_d21_11) hlk (by decide) (by decide) ⟨b20, rfl, N22, (((Keep.refl h0 []).ext E20).trans K22 (allS (Or.inr (Nat.le_trans (Nat.le_refl _) (Nat.le_of_eq g20.symm))) all0)), E22, F22⟩
theorem own_d11_0 : decode jdk_32_method_1_code 0 = .ok (.getstatic 1, 3) := by decide +kernel
theorem own_d11_3 : decode jdk_32_method_1_code 3 = .ok (.astore_n 0, 1) := by decide +kernel
theorem own_d11_4 : decode jdk_32_method_1_code 4 = .ok (.aload_n 0, 1) := by decide +kernel
theorem own_d11_5 : decode jdk_32_method_1_code 5 = .ok (.areturn, 1) := by decide +kernel
theorem own_ef_rm_em (m : MethodId)  : entryFrame m #[] 1 = mkF m 0 #[.unset] [] := by first | (simp [entryFrame, mkF, argsToLocals, Value.category]; done) | rfl
def Qrm_em (Z : State) (aE : Addr) (h0 : Heap) (n0 : Nat) (v : Option Value) (h : Heap) (L : List Loc) : Prop := v = some (.ref aE) ∧ Fr n0 L ∧ h = h0
set_option maxRecDepth 65536 in
set_option maxHeartbeats 40000000 in
theorem rm_em (l : Launch) (Z : State) (a0 : Array Value) (hw : ∀ d ∈ tables_1, d.before a0 Z = true) (ws : List Jvm.Cond) (aE : Addr) (h0 : Heap) (n0 : Nat) (O_0 : Old Z n0 h0) (S_E : Sta Z Z.heap "java/util/Optional" "EMPTY" "Ljava/util/Optional;" (.ref aE)) :
    own_Met l (⟨"java/util/Optional", "empty", "()Ljava/util/Optional;"⟩ : MethodName) jdk_32_method_1_code 1 (some (.object "java/util/Optional")) ws ({ frames := 0, cells := 0, slots := 0, locals := 0 } : Room) #[] Z h0 (Qrm_em Z aE h0 n0) := by
  refine own_body own_pn11 ?_
  intro p e s m below meth c T0 X0 hx hby hml hown hnm hret hlk hZ e0
  have N0 := Fr.nil n0
  refine own_st (fun t k => castTop (own_ef_rm_em m ) k) ?_
  show own_Go p.tables e below (T0.setTop (mkF m 0 #[.unset] [])) _
  refine own_getS X0 hx hby own_d11_0 (pc' := 3) rfl hZ hown (host := "") (Or.inl (hw _ (List.mem_of_getElem? (i := 77) rfl))) Via.refl e0 (S_E.ext O_0.2) ?_
  intro T23 X23 e23
  refine own_astoreN X23 hx hby own_d11_3 (pc' := 4) rfl rfl (Ls' := #[.val (.ref aE)]) rfl ?_
  refine own_aloadN X23 hx hby own_d11_4 (pc' := 5) rfl rfl rfl ?_
  exact own_retA X23 hx hret rfl rfl (hb hby own_d11_5) hlk (by decide) (by decide) ⟨rfl, N0, e23⟩
theorem own_d12_0 : decode jdk_32_method_6_code 0 = .ok (.aload_n 0, 1) := by decide +kernel
theorem own_d12_1 : decode jdk_32_method_6_code 1 = .ok (.getfield 13, 3) := by decide +kernel
theorem own_d12_4 : decode jdk_32_method_6_code 4 = .ok (.ifnull 7, 3) := by decide +kernel
theorem own_d12_11 : decode jdk_32_method_6_code 11 = .ok (.iconst 0, 1) := by decide +kernel
theorem own_d12_12 : decode jdk_32_method_6_code 12 = .ok (.ireturn, 1) := by decide +kernel
theorem own_ef_rm_ipn (m : MethodId) (a1 : Addr) : entryFrame m #[(.ref a1)] 1 = mkF m 0 #[.val (.ref a1)] [] := by first | (simp [entryFrame, mkF, argsToLocals, Value.category]; done) | rfl
def Qrm_ipn (Z : State) (a1 : Addr) (h0 : Heap) (n0 : Nat) (v : Option Value) (h : Heap) (L : List Loc) : Prop := v = some (.int 0) ∧ Fr n0 L ∧ h = h0
set_option maxRecDepth 65536 in
set_option maxHeartbeats 40000000 in
theorem rm_ipn (l : Launch) (Z : State) (a0 : Array Value) (hw : ∀ d ∈ tables_1, d.before a0 Z = true) (ws : List Jvm.Cond) (a1 : Addr) (h0 : Heap) (n0 : Nat) (F_1 : Fld Z h0 a1 "java/util/Optional" "value" "Ljava/lang/Object;" .null) :
    own_Met l (⟨"java/util/Optional", "isPresent", "()Z"⟩ : MethodName) jdk_32_method_6_code 1 (some .boolean) ws ({ frames := 0, cells := 0, slots := 0, locals := 0 } : Room) #[(.ref a1)] Z h0 (Qrm_ipn Z a1 h0 n0) := by
  refine own_body own_pn12 ?_
  intro p e s m below meth c T0 X0 hx hby hml hown hnm hret hlk hZ e0
  have N0 := Fr.nil n0
  refine own_st (fun t k => castTop (own_ef_rm_ipn m a1) k) ?_
  show own_Go p.tables e below (T0.setTop (mkF m 0 #[.val (.ref a1)] [])) _
  refine own_aloadN X0 hx hby own_d12_0 (pc' := 1) rfl rfl rfl ?_
  refine own_getF X0 hx hby own_d12_1 (pc' := 4) rfl hZ hown (host := "") (Or.inl (hw _ (List.mem_of_getElem? (i := 83) rfl))) Via.refl e0 F_1 ?_
  intro T24 X24 e24
  refine own_ifnullYes X24 hx hby own_d12_4 (pc' := 11) (by decide) ?_
  refine own_iconst X24 hx hby own_d12_11 (pc' := 12) rfl (z := (0 : Int32)) (by decide) ?_
  exact own_retZ (t := .boolean) X24 hx hret (by simp) (hb hby own_d12_12) hlk (by decide) (by decide) ⟨congrArg (fun z => some (Value.int z)) (own_nar0), N0, e24⟩
theorem own_d12_7 : decode jdk_32_method_6_code 7 = .ok (.iconst 1, 1) := by decide +kernel
theorem own_d12_8 : decode jdk_32_method_6_code 8 = .ok (.goto 4, 3) := by decide +kernel
theorem own_ef_rm_ipr (m : MethodId) (a1 : Addr) : entryFrame m #[(.ref a1)] 1 = mkF m 0 #[.val (.ref a1)] [] := by first | (simp [entryFrame, mkF, argsToLocals, Value.category]; done) | rfl
def Qrm_ipr (Z : State) (a1 : Addr) (a3 : Addr) (h0 : Heap) (n0 : Nat) (v : Option Value) (h : Heap) (L : List Loc) : Prop := v = some (.int 1) ∧ Fr n0 L ∧ h = h0
set_option maxRecDepth 65536 in
set_option maxHeartbeats 40000000 in
theorem rm_ipr (l : Launch) (Z : State) (a0 : Array Value) (hw : ∀ d ∈ tables_1, d.before a0 Z = true) (ws : List Jvm.Cond) (a1 : Addr) (a3 : Addr) (h0 : Heap) (n0 : Nat) (F_1 : Fld Z h0 a1 "java/util/Optional" "value" "Ljava/lang/Object;" (.ref a3)) :
    own_Met l (⟨"java/util/Optional", "isPresent", "()Z"⟩ : MethodName) jdk_32_method_6_code 1 (some .boolean) ws ({ frames := 0, cells := 0, slots := 0, locals := 0 } : Room) #[(.ref a1)] Z h0 (Qrm_ipr Z a1 a3 h0 n0) := by
  refine own_body own_pn12 ?_
  intro p e s m below meth c T0 X0 hx hby hml hown hnm hret hlk hZ e0
  have N0 := Fr.nil n0
  refine own_st (fun t k => castTop (own_ef_rm_ipr m a1) k) ?_
  show own_Go p.tables e below (T0.setTop (mkF m 0 #[.val (.ref a1)] [])) _
  refine own_aloadN X0 hx hby own_d12_0 (pc' := 1) rfl rfl rfl ?_
  refine own_getF X0 hx hby own_d12_1 (pc' := 4) rfl hZ hown (host := "") (Or.inl (hw _ (List.mem_of_getElem? (i := 83) rfl))) Via.refl e0 F_1 ?_
  intro T25 X25 e25
  refine own_ifnullNo X25 hx hby own_d12_4 (pc' := 7) rfl ?_
  refine own_iconst X25 hx hby own_d12_7 (pc' := 8) rfl (z := (1 : Int32)) (by decide) ?_
  refine own_goto X25 hx hby own_d12_8 (pc' := 12) (by decide) ?_
  exact own_retZ (t := .boolean) X25 hx hret (by simp) (hb hby own_d12_12) hlk (by decide) (by decide) ⟨congrArg (fun z => some (Value.int z)) (own_nar1), N0, e25⟩
theorem own_d24_0 : decode jdk_32_method_5_code 0 = .ok (.aload_n 0, 1) := by decide +kernel
theorem own_d24_1 : decode jdk_32_method_5_code 1 = .ok (.getfield 13, 3) := by decide +kernel
theorem own_d24_4 : decode jdk_32_method_5_code 4 = .ok (.ifnonnull 13, 3) := by decide +kernel
theorem own_d24_17 : decode jdk_32_method_5_code 17 = .ok (.aload_n 0, 1) := by decide +kernel
theorem own_d24_18 : decode jdk_32_method_5_code 18 = .ok (.getfield 13, 3) := by decide +kernel
theorem own_d24_21 : decode jdk_32_method_5_code 21 = .ok (.areturn, 1) := by decide +kernel
theorem own_ef_rm_gt (m : MethodId) (a1 : Addr) : entryFrame m #[(.ref a1)] 1 = mkF m 0 #[.val (.ref a1)] [] := by first | (simp [entryFrame, mkF, argsToLocals, Value.category]; done) | rfl
def Qrm_gt (Z : State) (a1 : Addr) (a3 : Addr) (h0 : Heap) (n0 : Nat) (v : Option Value) (h : Heap) (L : List Loc) : Prop := v = some (.ref a3) ∧ Fr n0 L ∧ h = h0
set_option maxRecDepth 65536 in
set_option maxHeartbeats 40000000 in
theorem rm_gt (l : Launch) (Z : State) (a0 : Array Value) (hw : ∀ d ∈ tables_1, d.before a0 Z = true) (ws : List Jvm.Cond) (a1 : Addr) (a3 : Addr) (h0 : Heap) (n0 : Nat) (F_1 : Fld Z h0 a1 "java/util/Optional" "value" "Ljava/lang/Object;" (.ref a3)) :
    own_Met l (⟨"java/util/Optional", "get", "()Ljava/lang/Object;"⟩ : MethodName) jdk_32_method_5_code 1 (some (.object "java/lang/Object")) ws ({ frames := 0, cells := 0, slots := 0, locals := 0 } : Room) #[(.ref a1)] Z h0 (Qrm_gt Z a1 a3 h0 n0) := by
  refine own_body own_pn24 ?_
  intro p e s m below meth c T0 X0 hx hby hml hown hnm hret hlk hZ e0
  have N0 := Fr.nil n0
  refine own_st (fun t k => castTop (own_ef_rm_gt m a1) k) ?_
  show own_Go p.tables e below (T0.setTop (mkF m 0 #[.val (.ref a1)] [])) _
  refine own_aloadN X0 hx hby own_d24_0 (pc' := 1) rfl rfl rfl ?_
  refine own_getF X0 hx hby own_d24_1 (pc' := 4) rfl hZ hown (host := "") (Or.inl (hw _ (List.mem_of_getElem? (i := 83) rfl))) Via.refl e0 F_1 ?_
  intro T26 X26 e26
  refine own_ifnonnullYes X26 hx hby own_d24_4 (pc' := 17) (by decide) ?_
  refine own_aloadN X26 hx hby own_d24_17 (pc' := 18) rfl rfl rfl ?_
  refine own_getF X26 hx hby own_d24_18 (pc' := 21) rfl hZ hown (host := "") (Or.inl (hw _ (List.mem_of_getElem? (i := 83) rfl))) Via.refl e26 F_1 ?_
  intro T27 X27 e27
  exact own_retA X27 hx hret rfl rfl (hb hby own_d24_21) hlk (by decide) (by decide) ⟨rfl, N0, e27⟩
theorem own_pd5 : parseMethodDescriptor "()[Lcom/example/inbound_throttle/inboundthrottle/rules/Algorithm;" = some ⟨[], some (.array (.object "com/example/inbound_throttle/inboundthrottle/rules/Algorithm"))⟩ := by decide +kernel
theorem own_pd6 : parseMethodDescriptor "(Ljava/lang/Object;)Z" = some ⟨[(.object "java/lang/Object")], some .boolean⟩ := by decide +kernel
theorem own_pd7 : parseMethodDescriptor "()Ljava/util/Optional;" = some ⟨[], some (.object "java/util/Optional")⟩ := by decide +kernel
theorem own_d9_0 : decode prog_4_method_5_code 0 = .ok (.invokestatic 33, 3) := by decide +kernel
theorem own_d9_3 : decode prog_4_method_5_code 3 = .ok (.astore_n 1, 1) := by decide +kernel
theorem own_d9_4 : decode prog_4_method_5_code 4 = .ok (.aload_n 1, 1) := by decide +kernel
theorem own_d9_5 : decode prog_4_method_5_code 5 = .ok (.arraylength, 1) := by decide +kernel
theorem own_d9_6 : decode prog_4_method_5_code 6 = .ok (.istore_n 2, 1) := by decide +kernel
theorem own_d9_7 : decode prog_4_method_5_code 7 = .ok (.iconst 0, 1) := by decide +kernel
theorem own_d9_8 : decode prog_4_method_5_code 8 = .ok (.istore_n 3, 1) := by decide +kernel
theorem own_d9_9 : decode prog_4_method_5_code 9 = .ok (.iload_n 3, 1) := by decide +kernel
theorem own_d9_10 : decode prog_4_method_5_code 10 = .ok (.iload_n 2, 1) := by decide +kernel
theorem own_d9_11 : decode prog_4_method_5_code 11 = .ok (.if_icmp .ge 32, 3) := by decide +kernel
theorem own_d9_14 : decode prog_4_method_5_code 14 = .ok (.aload_n 1, 1) := by decide +kernel
theorem own_d9_15 : decode prog_4_method_5_code 15 = .ok (.iload_n 3, 1) := by decide +kernel
theorem own_d9_16 : decode prog_4_method_5_code 16 = .ok (.aaload, 1) := by decide +kernel
theorem own_d9_17 : decode prog_4_method_5_code 17 = .ok (.astore 4, 2) := by decide +kernel
theorem own_d9_19 : decode prog_4_method_5_code 19 = .ok (.aload 4, 2) := by decide +kernel
theorem own_d9_21 : decode prog_4_method_5_code 21 = .ok (.getfield 29, 3) := by decide +kernel
theorem own_d9_24 : decode prog_4_method_5_code 24 = .ok (.aload_n 0, 1) := by decide +kernel
theorem own_d9_25 : decode prog_4_method_5_code 25 = .ok (.invokevirtual 37, 3) := by decide +kernel
theorem own_d9_28 : decode prog_4_method_5_code 28 = .ok (.ifCond .eq 9, 3) := by decide +kernel
theorem own_d9_37 : decode prog_4_method_5_code 37 = .ok (.iinc 3 1, 3) := by decide +kernel
theorem own_d9_40 : decode prog_4_method_5_code 40 = .ok (.goto (-31), 3) := by decide +kernel
theorem own_d9_43 : decode prog_4_method_5_code 43 = .ok (.invokestatic 49, 3) := by decide +kernel
theorem own_d9_46 : decode prog_4_method_5_code 46 = .ok (.areturn, 1) := by decide +kernel
theorem own_ef_rm_nan (m : MethodId)  : entryFrame m #[.null] 5 = mkF m 0 #[.val .null, .unset, .unset, .unset, .unset] [] := by first | (simp [entryFrame, mkF, argsToLocals, Value.category]; done) | rfl
def Qrm_nan (Z : State) (aV : Addr) (kV : Cell) (r0 : Addr) (r1 : Addr) (f0 : Addr) (f1 : Addr) (aE : Addr) (h0 : Heap) (n0 : Nat) (v : Option Value) (h : Heap) (L : List Loc) : Prop := ∃ o, v = some (.ref o) ∧ Fr n0 L ∧ Keep h0 h [] ∧ Exa Z h o "java/util/Optional" ∧ Fld Z h o "java/util/Optional" "value" "Ljava/lang/Object;" .null
set_option maxRecDepth 65536 in
set_option maxHeartbeats 40000000 in
theorem rm_nan (l : Launch) (Z : State) (a0 : Array Value) (hw : ∀ d ∈ tables_1, d.before a0 Z = true) (ws : List Jvm.Cond) (aV : Addr) (kV : Cell) (r0 : Addr) (r1 : Addr) (f0 : Addr) (f1 : Addr) (aE : Addr) (h0 : Heap) (n0 : Nat) (O_0 : Old Z n0 h0) (S_V : Sta Z Z.heap "com/example/inbound_throttle/inboundthrottle/rules/Algorithm" "$VALUES" "[Lcom/example/inbound_throttle/inboundthrottle/rules/Algorithm;" (.ref aV)) (A_V : Arr Z Z.heap aV kV (.object "com/example/inbound_throttle/inboundthrottle/rules/Algorithm")) (E_V : Exa Z Z.heap aV "[Lcom/example/inbound_throttle/inboundthrottle/rules/Algorithm;") (FC : FitC Z kV) (hs : kV.slots.toList = [.ref r0, .ref r1]) (F_0 : Fld Z Z.heap r0 "com/example/inbound_throttle/inboundthrottle/rules/Algorithm" "fileName" "Ljava/lang/String;" (.ref f0)) (F_1 : Fld Z Z.heap r1 "com/example/inbound_throttle/inboundthrottle/rules/Algorithm" "fileName" "Ljava/lang/String;" (.ref f1)) (T_0 : own_Str Z Z.heap Z.heap.size f0 own_FW) (T_1 : own_Str Z Z.heap Z.heap.size f1 own_SL) (S_E : Sta Z Z.heap "java/util/Optional" "EMPTY" "Ljava/util/Optional;" (.ref aE)) (E_E : Exa Z Z.heap aE "java/util/Optional") (F_E : Fld Z Z.heap aE "java/util/Optional" "value" "Ljava/lang/Object;" .null) :
    own_Met l (⟨"com/example/inbound_throttle/inboundthrottle/rules/Algorithm", "named", "(Ljava/lang/String;)Ljava/util/Optional;"⟩ : MethodName) prog_4_method_5_code 5 (some (.object "java/util/Optional")) ws ({ frames := 3, cells := 3, slots := 10, locals := 70 } : Room) #[.null] Z h0 (Qrm_nan Z aV kV r0 r1 f0 f1 aE h0 n0) := by
  refine own_body own_pn9 ?_
  intro p e s m below meth c T0 X0 hx hby hml hown hnm hret hlk hZ e0
  have N0 := Fr.nil n0
  refine own_st (fun t k => castTop (own_ef_rm_nan m ) k) ?_
  show own_Go p.tables e below (T0.setTop (mkF m 0 #[.val .null, .unset, .unset, .unset, .unset] [])) _
  have Z0 := own_Z0 O_0
  refine own_callS X0 hx hZ (rm_va l Z a0 hw [] aV kV r0 r1 h0 n0 (O_0) S_V A_V E_V FC hs) hown (hw _ (List.mem_of_getElem? (i := 53) rfl)) (hw _ (List.mem_of_getElem? (i := 54) rfl)) (hw _ (List.mem_of_getElem? (i := 51) rfl)) (hw _ (List.mem_of_getElem? (i := 55) rfl)) (by decide) (W := 0) (by decide) (by decide) (by rw [hml]; rfl) (argsL := []) (rest := []) rfl (lenOf own_pd5 rfl) rfl (Nat.le_of_eq rfl) (hb hby own_d9_0) e0 (by decide) (by decide) ?_
  intro v28 T28 L28 X28 hQ28
  obtain ⟨b28, hv28, N28q, K28, g28, A28⟩ := hQ28
  subst hv28
  have N28 := Fr.app N0 N28q
  show own_Go p.tables e below (T28.setTop (mkF m 3 #[.val .null, .unset, .unset, .unset, .unset] [(.ref b28)])) _
  refine own_astoreN X28 hx hby own_d9_3 (pc' := 4) rfl rfl (Ls' := #[.val .null, .val (.ref b28), .unset, .unset, .unset]) rfl ?_
  refine own_aloadN X28 hx hby own_d9_4 (pc' := 5) rfl rfl rfl ?_
  refine own_len X28 hx hby own_d9_5 (pc' := 6) rfl hZ rfl (A28) (n := (2 : Int32)) (by rfl) ?_
  refine own_istoreN X28 hx hby own_d9_6 (pc' := 7) rfl (Ls' := #[.val .null, .val (.ref b28), .val (.int (2 : Int32)), .unset, .unset]) rfl ?_
  refine own_iconst X28 hx hby own_d9_7 (pc' := 8) rfl (z := (0 : Int32)) (by decide) ?_
  refine own_istoreN X28 hx hby own_d9_8 (pc' := 9) rfl (Ls' := #[.val .null, .val (.ref b28), .val (.int (2 : Int32)), .val (.int (0 : Int32)), .unset]) rfl ?_
  refine own_iloadN X28 hx hby own_d9_9 (pc' := 10) rfl rfl ?_
  refine own_iloadN X28 hx hby own_d9_10 (pc' := 11) rfl rfl ?_
  refine own_icmpNo X28 hx hby own_d9_11 (pc' := 14) rfl (by decide) ?_
  refine own_aloadN X28 hx hby own_d9_14 (pc' := 15) rfl rfl rfl ?_
  refine own_iloadN X28 hx hby own_d9_15 (pc' := 16) rfl rfl ?_
  refine own_aaload X28 hx hby rfl own_d9_16 (pc' := 17) rfl hZ rfl (A28) (by decide) (v := (.ref r0)) rfl ?_
  refine own_astore X28 hx hby own_d9_17 (pc' := 19) rfl rfl (Ls' := #[.val .null, .val (.ref b28), .val (.int (2 : Int32)), .val (.int (0 : Int32)), .val (.ref r0)]) rfl ?_
  refine own_aload X28 hx hby own_d9_19 (pc' := 21) rfl rfl rfl ?_
  refine own_getF X28 hx hby own_d9_21 (pc' := 24) rfl hZ hown (host := "") (Or.inl (hw _ (List.mem_of_getElem? (i := 70) rfl))) Via.refl rfl (F_0.ext ((O_0.keep K28 all0)).2) ?_
  intro T29 X29 e29
  refine own_aloadN X29 hx hby own_d9_24 (pc' := 25) rfl rfl rfl ?_
  refine own_callV X29 hx hZ (rm_eqn l Z a0 hw [] f0 T28.heap n0) hown (hw _ (List.mem_of_getElem? (i := 72) rfl)) (hw _ (List.mem_of_getElem? (i := 39) rfl)) (hw _ (List.mem_of_getElem? (i := 41) rfl)) (hw _ (List.mem_of_getElem? (i := 40) rfl)) (hw _ (List.mem_of_getElem? (i := 42) rfl)) (hw _ (List.mem_of_getElem? (i := 1) rfl)) (by decide) (T_0.ext ((O_0.keep K28 all0)).2).exa (W := 0) (by decide) (by decide) (by rw [hml]; rfl) (argsL := [.null]) (rest := []) rfl (lenOf own_pd6 rfl) rfl (Nat.le_of_eq rfl) (hb hby own_d9_25) e29 (by decide) (by decide) ?_
  intro v30 T30 L30 X30 hQ30
  obtain ⟨hv30, N30q, e30⟩ := hQ30
  subst hv30
  have N30 := Fr.app N28 N30q
  show own_Go p.tables e below (T30.setTop (mkF m 28 #[.val .null, .val (.ref b28), .val (.int (2 : Int32)), .val (.int (0 : Int32)), .val (.ref r0)] [(.int (0 : Int32))])) _
  refine own_ifYes X30 hx hby own_d9_28 (pc' := 37) (by decide) (by decide) ?_
  refine own_iinc X30 hx hby own_d9_37 (pc' := 40) rfl rfl (z := (1 : Int32)) (by decide) (Ls' := #[.val .null, .val (.ref b28), .val (.int (2 : Int32)), .val (.int (1 : Int32)), .val (.ref r0)]) rfl ?_
  refine own_goto X30 hx hby own_d9_40 (pc' := 9) (by decide) ?_
  refine own_iloadN X30 hx hby own_d9_9 (pc' := 10) rfl rfl ?_
  refine own_iloadN X30 hx hby own_d9_10 (pc' := 11) rfl rfl ?_
  refine own_icmpNo X30 hx hby own_d9_11 (pc' := 14) rfl (by decide) ?_
  refine own_aloadN X30 hx hby own_d9_14 (pc' := 15) rfl rfl rfl ?_
  refine own_iloadN X30 hx hby own_d9_15 (pc' := 16) rfl rfl ?_
  refine own_aaload X30 hx hby rfl own_d9_16 (pc' := 17) rfl hZ e30 (A28) (by decide) (v := (.ref r1)) rfl ?_
  refine own_astore X30 hx hby own_d9_17 (pc' := 19) rfl rfl (Ls' := #[.val .null, .val (.ref b28), .val (.int (2 : Int32)), .val (.int (1 : Int32)), .val (.ref r1)]) rfl ?_
  refine own_aload X30 hx hby own_d9_19 (pc' := 21) rfl rfl rfl ?_
  refine own_getF X30 hx hby own_d9_21 (pc' := 24) rfl hZ hown (host := "") (Or.inl (hw _ (List.mem_of_getElem? (i := 70) rfl))) Via.refl e30 (F_1.ext ((O_0.keep K28 all0)).2) ?_
  intro T31 X31 e31
  refine own_aloadN X31 hx hby own_d9_24 (pc' := 25) rfl rfl rfl ?_
  refine own_callV X31 hx hZ (rm_eqn l Z a0 hw [] f1 T28.heap n0) hown (hw _ (List.mem_of_getElem? (i := 72) rfl)) (hw _ (List.mem_of_getElem? (i := 39) rfl)) (hw _ (List.mem_of_getElem? (i := 41) rfl)) (hw _ (List.mem_of_getElem? (i := 40) rfl)) (hw _ (List.mem_of_getElem? (i := 42) rfl)) (hw _ (List.mem_of_getElem? (i := 1) rfl)) (by decide) (T_1.ext ((O_0.keep K28 all0)).2).exa (W := 0) (by decide) (by decide) (by rw [hml]; rfl) (argsL := [.null]) (rest := []) rfl (lenOf own_pd6 rfl) rfl (Nat.le_of_eq rfl) (hb hby own_d9_25) e31 (by decide) (by decide) ?_
  intro v32 T32 L32 X32 hQ32
  obtain ⟨hv32, N32q, e32⟩ := hQ32
  subst hv32
  have N32 := Fr.app N30 N32q
  show own_Go p.tables e below (T32.setTop (mkF m 28 #[.val .null, .val (.ref b28), .val (.int (2 : Int32)), .val (.int (1 : Int32)), .val (.ref r1)] [(.int (0 : Int32))])) _
  refine own_ifYes X32 hx hby own_d9_28 (pc' := 37) (by decide) (by decide) ?_
  refine own_iinc X32 hx hby own_d9_37 (pc' := 40) rfl rfl (z := (2 : Int32)) (by decide) (Ls' := #[.val .null, .val (.ref b28), .val (.int (2 : Int32)), .val (.int (2 : Int32)), .val (.ref r1)]) rfl ?_
  refine own_goto X32 hx hby own_d9_40 (pc' := 9) (by decide) ?_
  refine own_iloadN X32 hx hby own_d9_9 (pc' := 10) rfl rfl ?_
  refine own_iloadN X32 hx hby own_d9_10 (pc' := 11) rfl rfl ?_
  refine own_icmpYes X32 hx hby own_d9_11 (pc' := 43) (by decide) (by decide) ?_
  refine own_callS X32 hx hZ (rm_em l Z a0 hw [] aE T28.heap n0 ((O_0.keep K28 all0)) S_E) hown (hw _ (List.mem_of_getElem? (i := 73) rfl)) (hw _ (List.mem_of_getElem? (i := 74) rfl)) (hw _ (List.mem_of_getElem? (i := 75) rfl)) (hw _ (List.mem_of_getElem? (i := 76) rfl)) (by decide) (W := 0) (by decide) (by decide) (by rw [hml]; rfl) (argsL := []) (rest := []) rfl (lenOf own_pd7 rfl) rfl (Nat.le_of_eq rfl) (hb hby own_d9_43) e32 (by decide) (by decide) ?_
  intro v33 T33 L33 X33 hQ33
  obtain ⟨hv33, N33q, e33⟩ := hQ33
  subst hv33
  have N33 := Fr.app N32 N33q
  show own_Go p.tables e below (T33.setTop (mkF m 46 #[.val .null, .val (.ref b28), .val (.int (2 : Int32)), .val (.int (2 : Int32)), .val (.ref r1)] [(.ref aE)])) _
  exact own_retA X33 hx hret rfl rfl (hb hby own_d9_46) hlk (by decide) (by decide) ⟨aE, rfl, N33, by rw [show T33.heap = _ from e33]; exact ⟨((Keep.refl h0 []).trans K28 all0), (E_E.ext ((O_0.keep K28 all0)).2), (F_E.ext ((O_0.keep K28 all0)).2)⟩⟩
theorem own_pd8 : parseMethodDescriptor "(Ljava/lang/Object;)Ljava/util/Optional;" = some ⟨[(.object "java/lang/Object")], some (.object "java/util/Optional")⟩ := by decide +kernel
theorem own_d9_31 : decode prog_4_method_5_code 31 = .ok (.aload 4, 2) := by decide +kernel
theorem own_d9_33 : decode prog_4_method_5_code 33 = .ok (.invokestatic 43, 3) := by decide +kernel
theorem own_d9_36 : decode prog_4_method_5_code 36 = .ok (.areturn, 1) := by decide +kernel
theorem own_ef_rm_nas (m : MethodId) (a1 : Addr) : entryFrame m #[(.ref a1)] 5 = mkF m 0 #[.val (.ref a1), .unset, .unset, .unset, .unset] [] := by first | (simp [entryFrame, mkF, argsToLocals, Value.category]; done) | rfl
def Qrm_nas (Z : State) (a1 : Addr) (aV : Addr) (kV : Cell) (r0 : Addr) (r1 : Addr) (f0 : Addr) (f1 : Addr) (aE : Addr) (gS : Int32) (cs : List Int32) (k1 : Nat) (h0 : Heap) (n0 : Nat) (v : Option Value) (h : Heap) (L : List Loc) : Prop := ∃ o, v = some (.ref o) ∧ Fr n0 L ∧ Keep h0 h [] ∧ Exa Z h o "java/util/Optional" ∧ Fld Z h o "java/util/Optional" "value" "Ljava/lang/Object;" (own_alg cs r0 r1)
set_option maxRecDepth 65536 in
set_option maxHeartbeats 40000000 in
theorem rm_nas (l : Launch) (Z : State) (a0 : Array Value) (hw : ∀ d ∈ tables_1, d.before a0 Z = true) (ws : List Jvm.Cond) (a1 : Addr) (aV : Addr) (kV : Cell) (r0 : Addr) (r1 : Addr) (f0 : Addr) (f1 : Addr) (aE : Addr) (gS : Int32) (cs : List Int32) (k1 : Nat) (h0 : Heap) (n0 : Nat) (O_0 : Old Z n0 h0) (S_V : Sta Z Z.heap "com/example/inbound_throttle/inboundthrottle/rules/Algorithm" "$VALUES" "[Lcom/example/inbound_throttle/inboundthrottle/rules/Algorithm;" (.ref aV)) (A_V : Arr Z Z.heap aV kV (.object "com/example/inbound_throttle/inboundthrottle/rules/Algorithm")) (E_V : Exa Z Z.heap aV "[Lcom/example/inbound_throttle/inboundthrottle/rules/Algorithm;") (FC : FitC Z kV) (hs : kV.slots.toList = [.ref r0, .ref r1]) (F_0 : Fld Z Z.heap r0 "com/example/inbound_throttle/inboundthrottle/rules/Algorithm" "fileName" "Ljava/lang/String;" (.ref f0)) (F_1 : Fld Z Z.heap r1 "com/example/inbound_throttle/inboundthrottle/rules/Algorithm" "fileName" "Ljava/lang/String;" (.ref f1)) (T_0 : own_Str Z Z.heap Z.heap.size f0 own_FW) (T_1 : own_Str Z Z.heap Z.heap.size f1 own_SL) (S_E : Sta Z Z.heap "java/util/Optional" "EMPTY" "Ljava/util/Optional;" (.ref aE)) (E_E : Exa Z Z.heap aE "java/util/Optional") (F_E : Fld Z Z.heap aE "java/util/Optional" "value" "Ljava/lang/Object;" .null) (S_S : Sta Z Z.heap "java/lang/String" "COMPACT_STRINGS" "Z" (.int gS)) (hS : ¬ gS = 0) (T_s : own_Str Z h0 k1 a1 cs) :
    own_Met l (⟨"com/example/inbound_throttle/inboundthrottle/rules/Algorithm", "named", "(Ljava/lang/String;)Ljava/util/Optional;"⟩ : MethodName) prog_4_method_5_code 5 (some (.object "java/util/Optional")) ws ({ frames := 3, cells := 3, slots := 10, locals := 70 } : Room) #[(.ref a1)] Z h0 (Qrm_nas Z a1 aV kV r0 r1 f0 f1 aE gS cs k1 h0 n0) := by
  refine own_body own_pn9 ?_
  intro p e s m below meth c T0 X0 hx hby hml hown hnm hret hlk hZ e0
  have N0 := Fr.nil n0
  refine own_st (fun t k => castTop (own_ef_rm_nas m a1) k) ?_
  show own_Go p.tables e below (T0.setTop (mkF m 0 #[.val (.ref a1), .unset, .unset, .unset, .unset] [])) _
  have Z0 := own_Z0 O_0
  have hwE : ∀ d ∈ StrChars.Road.wordsEq, d.before a0 Z = true := fun d hd => hw d ((by decide +kernel : ∀ d ∈ StrChars.Road.wordsEq, d ∈ tables_1) d hd)
  refine own_callS X0 hx hZ (rm_va l Z a0 hw [] aV kV r0 r1 h0 n0 (O_0) S_V A_V E_V FC hs) hown (hw _ (List.mem_of_getElem? (i := 53) rfl)) (hw _ (List.mem_of_getElem? (i := 54) rfl)) (hw _ (List.mem_of_getElem? (i := 51) rfl)) (hw _ (List.mem_of_getElem? (i := 55) rfl)) (by decide) (W := 0) (by decide) (by decide) (by rw [hml]; rfl) (argsL := []) (rest := []) rfl (lenOf own_pd5 rfl) rfl (Nat.le_of_eq rfl) (hb hby own_d9_0) e0 (by decide) (by decide) ?_
  intro v34 T34 L34 X34 hQ34
  obtain ⟨b34, hv34, N34q, K34, g34, A34⟩ := hQ34
  subst hv34
  have N34 := Fr.app N0 N34q
  show own_Go p.tables e below (T34.setTop (mkF m 3 #[.val (.ref a1), .unset, .unset, .unset, .unset] [(.ref b34)])) _
  refine own_astoreN X34 hx hby own_d9_3 (pc' := 4) rfl rfl (Ls' := #[.val (.ref a1), .val (.ref b34), .unset, .unset, .unset]) rfl ?_
  refine own_aloadN X34 hx hby own_d9_4 (pc' := 5) rfl rfl rfl ?_
  refine own_len X34 hx hby own_d9_5 (pc' := 6) rfl hZ rfl (A34) (n := (2 : Int32)) (by rfl) ?_
  refine own_istoreN X34 hx hby own_d9_6 (pc' := 7) rfl (Ls' := #[.val (.ref a1), .val (.ref b34), .val (.int (2 : Int32)), .unset, .unset]) rfl ?_
  refine own_iconst X34 hx hby own_d9_7 (pc' := 8) rfl (z := (0 : Int32)) (by decide) ?_
  refine own_istoreN X34 hx hby own_d9_8 (pc' := 9) rfl (Ls' := #[.val (.ref a1), .val (.ref b34), .val (.int (2 : Int32)), .val (.int (0 : Int32)), .unset]) rfl ?_
  refine own_iloadN X34 hx hby own_d9_9 (pc' := 10) rfl rfl ?_
  refine own_iloadN X34 hx hby own_d9_10 (pc' := 11) rfl rfl ?_
  refine own_icmpNo X34 hx hby own_d9_11 (pc' := 14) rfl (by decide) ?_
  refine own_aloadN X34 hx hby own_d9_14 (pc' := 15) rfl rfl rfl ?_
  refine own_iloadN X34 hx hby own_d9_15 (pc' := 16) rfl rfl ?_
  refine own_aaload X34 hx hby rfl own_d9_16 (pc' := 17) rfl hZ rfl (A34) (by decide) (v := (.ref r0)) rfl ?_
  refine own_astore X34 hx hby own_d9_17 (pc' := 19) rfl rfl (Ls' := #[.val (.ref a1), .val (.ref b34), .val (.int (2 : Int32)), .val (.int (0 : Int32)), .val (.ref r0)]) rfl ?_
  refine own_aload X34 hx hby own_d9_19 (pc' := 21) rfl rfl rfl ?_
  refine own_getF X34 hx hby own_d9_21 (pc' := 24) rfl hZ hown (host := "") (Or.inl (hw _ (List.mem_of_getElem? (i := 70) rfl))) Via.refl rfl (F_0.ext ((O_0.keep K34 all0)).2) ?_
  intro T35 X35 e35
  refine own_aloadN X35 hx hby own_d9_24 (pc' := 25) rfl rfl rfl ?_
  by_cases hf0 : cs = own_FW
  · skip
    refine own_callVB X35 hx hZ (own_eqB (W := 0) hZ hwE (hw _ (List.mem_of_getElem? (i := 2) rfl)) (T_0.ext ((O_0.keep K34 all0)).2) ((T_s.keep K34 all0)) (S_S.ext ((O_0.keep K34 all0)).2) hS (by decide) (by decide)) hown (hw _ (List.mem_of_getElem? (i := 72) rfl)) (hw _ (List.mem_of_getElem? (i := 39) rfl)) (hw _ (List.mem_of_getElem? (i := 41) rfl)) (hw _ (List.mem_of_getElem? (i := 40) rfl)) (by decide) (T_0.ext ((O_0.keep K34 all0)).2).exa (by rw [hml]; rfl) (argsL := [(.ref a1)]) (rest := []) rfl (lenOf own_pd6 rfl) rfl (Nat.le_of_eq rfl) (hb hby own_d9_25) e35 (by decide) (by decide) ?_
    intro v36 T36 L36 X36 hQ36
    obtain ⟨hq36, hL36, e36⟩ := hQ36
    subst hL36
    have hv36 : v36 = some (.int (1 : Int32)) := by
      rcases hq36 with ⟨a, q⟩ | ⟨a, q⟩
      · exact a
      · exact absurd hf0.symm q
    subst hv36
    have N36 := Fr.app N34 (Fr.nil n0)
    show own_Go p.tables e below (T36.setTop (mkF m 28 #[.val (.ref a1), .val (.ref b34), .val (.int (2 : Int32)), .val (.int (0 : Int32)), .val (.ref r0)] [(.int (1 : Int32))])) _
    refine own_ifNo X36 hx hby own_d9_28 (pc' := 31) rfl (by decide) ?_
    refine own_aload X36 hx hby own_d9_31 (pc' := 33) rfl rfl rfl ?_
    refine own_callS X36 hx hZ (rm_of l Z a0 hw [] r0 T34.heap n0 ((O_0.keep K34 all0))) hown (hw _ (List.mem_of_getElem? (i := 119) rfl)) (hw _ (List.mem_of_getElem? (i := 120) rfl)) (hw _ (List.mem_of_getElem? (i := 75) rfl)) (hw _ (List.mem_of_getElem? (i := 121) rfl)) (by decide) (W := 0) (by decide) (by decide) (by rw [hml]; rfl) (argsL := [(.ref r0)]) (rest := []) rfl (lenOf own_pd8 rfl) rfl (Nat.le_of_eq rfl) (hb hby own_d9_33) e36 (by decide) (by decide) ?_
    intro v37 T37 L37 X37 hQ37
    obtain ⟨b37, hv37, N37q, K37, E37, F37⟩ := hQ37
    subst hv37
    have N37 := Fr.app N36 N37q
    show own_Go p.tables e below (T37.setTop (mkF m 36 #[.val (.ref a1), .val (.ref b34), .val (.int (2 : Int32)), .val (.int (0 : Int32)), .val (.ref r0)] [(.ref b37)])) _
    exact own_retA X37 hx hret rfl rfl (hb hby own_d9_36) hlk (by decide) (by decide) ⟨b37, rfl, N37, by rw [show T37.heap = _ from rfl]; exact ⟨(((Keep.refl h0 []).trans K34 all0).trans K37 all0), E37, (by unfold own_alg; rw [if_pos hf0]; exact F37)⟩⟩
  · skip
    refine own_callVB X35 hx hZ (own_eqB (W := 0) hZ hwE (hw _ (List.mem_of_getElem? (i := 2) rfl)) (T_0.ext ((O_0.keep K34 all0)).2) ((T_s.keep K34 all0)) (S_S.ext ((O_0.keep K34 all0)).2) hS (by decide) (by decide)) hown (hw _ (List.mem_of_getElem? (i := 72) rfl)) (hw _ (List.mem_of_getElem? (i := 39) rfl)) (hw _ (List.mem_of_getElem? (i := 41) rfl)) (hw _ (List.mem_of_getElem? (i := 40) rfl)) (by decide) (T_0.ext ((O_0.keep K34 all0)).2).exa (by rw [hml]; rfl) (argsL := [(.ref a1)]) (rest := []) rfl (lenOf own_pd6 rfl) rfl (Nat.le_of_eq rfl) (hb hby own_d9_25) e35 (by decide) (by decide) ?_
    intro v38 T38 L38 X38 hQ38
    obtain ⟨hq38, hL38, e38⟩ := hQ38
    subst hL38
    have hv38 : v38 = some (.int (0 : Int32)) := by
      rcases hq38 with ⟨a, q⟩ | ⟨a, q⟩
      · exact absurd q.symm hf0
      · exact a
    subst hv38
    have N38 := Fr.app N34 (Fr.nil n0)
    show own_Go p.tables e below (T38.setTop (mkF m 28 #[.val (.ref a1), .val (.ref b34), .val (.int (2 : Int32)), .val (.int (0 : Int32)), .val (.ref r0)] [(.int (0 : Int32))])) _
    refine own_ifYes X38 hx hby own_d9_28 (pc' := 37) (by decide) (by decide) ?_
    refine own_iinc X38 hx hby own_d9_37 (pc' := 40) rfl rfl (z := (1 : Int32)) (by decide) (Ls' := #[.val (.ref a1), .val (.ref b34), .val (.int (2 : Int32)), .val (.int (1 : Int32)), .val (.ref r0)]) rfl ?_
    refine own_goto X38 hx hby own_d9_40 (pc' := 9) (by decide) ?_
    refine own_iloadN X38 hx hby own_d9_9 (pc' := 10) rfl rfl ?_
    refine own_iloadN X38 hx hby own_d9_10 (pc' := 11) rfl rfl ?_
    refine own_icmpNo X38 hx hby own_d9_11 (pc' := 14) rfl (by decide) ?_
    refine own_aloadN X38 hx hby own_d9_14 (pc' := 15) rfl rfl rfl ?_
    refine own_iloadN X38 hx hby own_d9_15 (pc' := 16) rfl rfl ?_
    refine own_aaload X38 hx hby rfl own_d9_16 (pc' := 17) rfl hZ e38 (A34) (by decide) (v := (.ref r1)) rfl ?_
    refine own_astore X38 hx hby own_d9_17 (pc' := 19) rfl rfl (Ls' := #[.val (.ref a1), .val (.ref b34), .val (.int (2 : Int32)), .val (.int (1 : Int32)), .val (.ref r1)]) rfl ?_
    refine own_aload X38 hx hby own_d9_19 (pc' := 21) rfl rfl rfl ?_
    refine own_getF X38 hx hby own_d9_21 (pc' := 24) rfl hZ hown (host := "") (Or.inl (hw _ (List.mem_of_getElem? (i := 70) rfl))) Via.refl e38 (F_1.ext ((O_0.keep K34 all0)).2) ?_
    intro T39 X39 e39
    refine own_aloadN X39 hx hby own_d9_24 (pc' := 25) rfl rfl rfl ?_
    by_cases hf1 : cs = own_SL
    · skip
      refine own_callVB X39 hx hZ (own_eqB (W := 0) hZ hwE (hw _ (List.mem_of_getElem? (i := 2) rfl)) (T_1.ext ((O_0.keep K34 all0)).2) ((T_s.keep K34 all0)) (S_S.ext ((O_0.keep K34 all0)).2) hS (by decide) (by decide)) hown (hw _ (List.mem_of_getElem? (i := 72) rfl)) (hw _ (List.mem_of_getElem? (i := 39) rfl)) (hw _ (List.mem_of_getElem? (i := 41) rfl)) (hw _ (List.mem_of_getElem? (i := 40) rfl)) (by decide) (T_1.ext ((O_0.keep K34 all0)).2).exa (by rw [hml]; rfl) (argsL := [(.ref a1)]) (rest := []) rfl (lenOf own_pd6 rfl) rfl (Nat.le_of_eq rfl) (hb hby own_d9_25) e39 (by decide) (by decide) ?_
      intro v40 T40 L40 X40 hQ40
      obtain ⟨hq40, hL40, e40⟩ := hQ40
      subst hL40
      have hv40 : v40 = some (.int (1 : Int32)) := by
        rcases hq40 with ⟨a, q⟩ | ⟨a, q⟩
        · exact a
        · exact absurd hf1.symm q
      subst hv40
      have N40 := Fr.app N38 (Fr.nil n0)
      show own_Go p.tables e below (T40.setTop (mkF m 28 #[.val (.ref a1), .val (.ref b34), .val (.int (2 : Int32)), .val (.int (1 : Int32)), .val (.ref r1)] [(.int (1 : Int32))])) _
      refine own_ifNo X40 hx hby own_d9_28 (pc' := 31) rfl (by decide) ?_
      refine own_aload X40 hx hby own_d9_31 (pc' := 33) rfl rfl rfl ?_
      refine own_callS X40 hx hZ (rm_of l Z a0 hw [] r1 T34.heap n0 ((O_0.keep K34 all0))) hown (hw _ (List.mem_of_getElem? (i := 119) rfl)) (hw _ (List.mem_of_getElem? (i := 120) rfl)) (hw _ (List.mem_of_getElem? (i := 75) rfl)) (hw _ (List.mem_of_getElem? (i := 121) rfl)) (by decide) (W := 0) (by decide) (by decide) (by rw [hml]; rfl) (argsL := [(.ref r1)]) (rest := []) rfl (lenOf own_pd8 rfl) rfl (Nat.le_of_eq rfl) (hb hby own_d9_33) e40 (by decide) (by decide) ?_
      intro v41 T41 L41 X41 hQ41
      obtain ⟨b41, hv41, N41q, K41, E41, F41⟩ := hQ41
      subst hv41
      have N41 := Fr.app N40 N41q
      show own_Go p.tables e below (T41.setTop (mkF m 36 #[.val (.ref a1), .val (.ref b34), .val (.int (2 : Int32)), .val (.int (1 : Int32)), .val (.ref r1)] [(.ref b41)])) _
      exact own_retA X41 hx hret rfl rfl (hb hby own_d9_36) hlk (by decide) (by decide) ⟨b41, rfl, N41, by rw [show T41.heap = _ from rfl]; exact ⟨(((Keep.refl h0 []).trans K34 all0).trans K41 all0), E41, (by unfold own_alg; rw [if_neg hf0, if_pos hf1]; exact F41)⟩⟩
    · skip
      refine own_callVB X39 hx hZ (own_eqB (W := 0) hZ hwE (hw _ (List.mem_of_getElem? (i := 2) rfl)) (T_1.ext ((O_0.keep K34 all0)).2) ((T_s.keep K34 all0)) (S_S.ext ((O_0.keep K34 all0)).2) hS (by decide) (by decide)) hown (hw _ (List.mem_of_getElem? (i := 72) rfl)) (hw _ (List.mem_of_getElem? (i := 39) rfl)) (hw _ (List.mem_of_getElem? (i := 41) rfl)) (hw _ (List.mem_of_getElem? (i := 40) rfl)) (by decide) (T_1.ext ((O_0.keep K34 all0)).2).exa (by rw [hml]; rfl) (argsL := [(.ref a1)]) (rest := []) rfl (lenOf own_pd6 rfl) rfl (Nat.le_of_eq rfl) (hb hby own_d9_25) e39 (by decide) (by decide) ?_
      intro v42 T42 L42 X42 hQ42
      obtain ⟨hq42, hL42, e42⟩ := hQ42
      subst hL42
      have hv42 : v42 = some (.int (0 : Int32)) := by
        rcases hq42 with ⟨a, q⟩ | ⟨a, q⟩
        · exact absurd q.symm hf1
        · exact a
      subst hv42
      have N42 := Fr.app N38 (Fr.nil n0)
      show own_Go p.tables e below (T42.setTop (mkF m 28 #[.val (.ref a1), .val (.ref b34), .val (.int (2 : Int32)), .val (.int (1 : Int32)), .val (.ref r1)] [(.int (0 : Int32))])) _
      refine own_ifYes X42 hx hby own_d9_28 (pc' := 37) (by decide) (by decide) ?_
      refine own_iinc X42 hx hby own_d9_37 (pc' := 40) rfl rfl (z := (2 : Int32)) (by decide) (Ls' := #[.val (.ref a1), .val (.ref b34), .val (.int (2 : Int32)), .val (.int (2 : Int32)), .val (.ref r1)]) rfl ?_
      refine own_goto X42 hx hby own_d9_40 (pc' := 9) (by decide) ?_
      refine own_iloadN X42 hx hby own_d9_9 (pc' := 10) rfl rfl ?_
      refine own_iloadN X42 hx hby own_d9_10 (pc' := 11) rfl rfl ?_
      refine own_icmpYes X42 hx hby own_d9_11 (pc' := 43) (by decide) (by decide) ?_
      refine own_callS X42 hx hZ (rm_em l Z a0 hw [] aE T34.heap n0 ((O_0.keep K34 all0)) S_E) hown (hw _ (List.mem_of_getElem? (i := 73) rfl)) (hw _ (List.mem_of_getElem? (i := 74) rfl)) (hw _ (List.mem_of_getElem? (i := 75) rfl)) (hw _ (List.mem_of_getElem? (i := 76) rfl)) (by decide) (W := 0) (by decide) (by decide) (by rw [hml]; rfl) (argsL := []) (rest := []) rfl (lenOf own_pd7 rfl) rfl (Nat.le_of_eq rfl) (hb hby own_d9_43) e42 (by decide) (by decide) ?_
      intro v43 T43 L43 X43 hQ43
      obtain ⟨hv43, N43q, e43⟩ := hQ43
      subst hv43
      have N43 := Fr.app N42 N43q
      show own_Go p.tables e below (T43.setTop (mkF m 46 #[.val (.ref a1), .val (.ref b34), .val (.int (2 : Int32)), .val (.int (2 : Int32)), .val (.ref r1)] [(.ref aE)])) _
      exact own_retA X43 hx hret rfl rfl (hb hby own_d9_46) hlk (by decide) (by decide) ⟨aE, rfl, N43, by rw [show T43.heap = _ from e43]; exact ⟨((Keep.refl h0 []).trans K34 all0), (E_E.ext ((O_0.keep K34 all0)).2), (by unfold own_alg; rw [if_neg hf0, if_neg hf1]; exact (F_E.ext ((O_0.keep K34 all0)).2))⟩⟩
theorem own_pd9 : parseMethodDescriptor "(Ljava/lang/String;)Ljava/util/Optional;" = some ⟨[(.object "java/lang/String")], some (.object "java/util/Optional")⟩ := by decide +kernel
theorem own_pd10 : parseMethodDescriptor "()Z" = some ⟨[], some .boolean⟩ := by decide +kernel
theorem own_pd11 : parseMethodDescriptor "()Ljava/lang/Object;" = some ⟨[], some (.object "java/lang/Object")⟩ := by decide +kernel
set_option maxRecDepth 65536 in
set_option maxHeartbeats 40000000 in
theorem tl_s {p : Program} {l : Launch} {e : Env} {s : State} {m : MethodId} {args : Array Value} {below : List Frame} {meth : Method} {c : Code} {T0 : State} {locs : List Loc} {Z : State} {a0 : Array Value} {h0 : Heap} {n0 : Nat} {vm0 : Vm} {Q : Option Value → Heap → List Loc → Prop} (hx : p.tables.exec = Jvm.exec) (hw : ∀ d ∈ tables_1, d.before a0 Z = true) (hEL : EW Z a0 own_EL) (hby : c.code = code) (hml : c.maxLocals = maxLocals) (hret : meth.sig.returnType = ret) (hlk : meth.locks = false) (W0 : own_Wd Z own_EL s vm0 m x.cls h0) (X0 : Stand p l e room_1 (s.setVm vm0) m args below meth c T0 locs 12 300) (e0 : T0.heap = h0) (N0 : Fr n0 locs) (hQ : ∀ h L, Fr n0 L → Q (some (.int 1)) h L) (p1 : Int32) (p2 : Int32) (p3 : Int32) (p4 : Int32) (q4 : Int32) (a5 : Addr) (a6 : Addr) (q7 : Int32) (q8 : Int32) (q9 : Int32) (q10 : Int32) (a11 : Addr) (cs : List Int32) (k1 : Nat) (aV : Addr) (kV : Cell) (r0 : Addr) (r1 : Addr) (f0 : Addr) (f1 : Addr) (aE : Addr) (gS : Int32) (fm : Value) (O_0 : Old Z n0 h0) (S_V : Sta Z Z.heap "com/example/inbound_throttle/inboundthrottle/rules/Algorithm" "$VALUES" "[Lcom/example/inbound_throttle/inboundthrottle/rules/Algorithm;" (.ref aV)) (A_V : Arr Z Z.heap aV kV (.object "com/example/inbound_throttle/inboundthrottle/rules/Algorithm")) (E_V : Exa Z Z.heap aV "[Lcom/example/inbound_throttle/inboundthrottle/rules/Algorithm;") (FC : FitC Z kV) (hs : kV.slots.toList = [.ref r0, .ref r1]) (F_0 : Fld Z Z.heap r0 "com/example/inbound_throttle/inboundthrottle/rules/Algorithm" "fileName" "Ljava/lang/String;" (.ref f0)) (F_1 : Fld Z Z.heap r1 "com/example/inbound_throttle/inboundthrottle/rules/Algorithm" "fileName" "Ljava/lang/String;" (.ref f1)) (T_0 : own_Str Z Z.heap Z.heap.size f0 own_FW) (T_1 : own_Str Z Z.heap Z.heap.size f1 own_SL) (S_E : Sta Z Z.heap "java/util/Optional" "EMPTY" "Ljava/util/Optional;" (.ref aE)) (E_E : Exa Z Z.heap aE "java/util/Optional") (F_E : Fld Z Z.heap aE "java/util/Optional" "value" "Ljava/lang/Object;" .null) (S_S : Sta Z Z.heap "java/lang/String" "COMPACT_STRINGS" "Z" (.int gS)) (hS : ¬ gS = 0) (S_F : Sta Z Z.heap "jdk/internal/util/Preconditions" "SIOOBE_FORMATTER" "Ljava/util/function/BiFunction;" fm) (hfm : fm.isRef = true) (S_0 : Sta Z Z.heap "com/example/inbound_throttle/inboundthrottle/rules/Algorithm" "FIXED_WINDOW" "Lcom/example/inbound_throttle/inboundthrottle/rules/Algorithm;" (.ref r0)) (S_1 : Sta Z Z.heap "com/example/inbound_throttle/inboundthrottle/rules/Algorithm" "SLIDING_LOG" "Lcom/example/inbound_throttle/inboundthrottle/rules/Algorithm;" (.ref r1)) (T_s : own_Str Z h0 k1 a5 cs) :
    own_Go p.tables e below (T0.setTop (mkF m 288 #[.val (.int p1), .val (.int p2), .val (.int p3), .val (.int p4), .val (.int q4), .val (.ref a5), .val (.ref a6), .val (.int q7), .val (.int q8), .val (.int q9), .val (.int q10), .val (.ref a11)] [])) (own_RH Z own_EL s Q room_1.cells room_1.slots) := by
  have hZ := W0.1
  have hown := W0.2.1
  have Z0 := own_Z0 O_0
  have hws : ∀ d ∈ StrChars.Road.words, d.before a0 Z = true := fun d hd => hw d ((by decide +kernel : ∀ d ∈ StrChars.Road.words, d ∈ tables_1) d hd)
  have hwE : ∀ d ∈ StrChars.Road.wordsEq, d.before a0 Z = true := fun d hd => hw d ((by decide +kernel : ∀ d ∈ StrChars.Road.wordsEq, d ∈ tables_1) d hd)
  have wS : ∀ d ∈ Bundle.stringAtoms, d.before a0 Z = true := fun d hd => hw d ((by decide +kernel : ∀ d ∈ Bundle.stringAtoms, d ∈ tables_1) d hd)
  have hwL : ∀ d ∈ StrChars.Road.wordsLen, d.before a0 Z = true := fun d hd => hw d ((by decide +kernel : ∀ d ∈ StrChars.Road.wordsLen, d ∈ tables_1) d hd)
  have hwC : ∀ d ∈ StrChars.Road.wordsChN, d.before a0 Z = true := fun d hd => hw d ((by decide +kernel : ∀ d ∈ StrChars.Road.wordsChN, d ∈ tables_1) d hd)
  by_cases hf0 : cs = own_FW
  · skip
    refine own_aconst_null X0 hx hby at_288 (pc' := 289) rfl ?_
    refine own_astore X0 hx hby at_289 (pc' := 291) rfl rfl (Ls' := #[.val (.int p1), .val (.int p2), .val (.int p3), .val (.int p4), .val (.int q4), .val (.ref a5), .val .null, .val (.int q7), .val (.int q8), .val (.int q9), .val (.int q10), .val (.ref a11)]) rfl ?_
    refine own_aload X0 hx hby at_291 (pc' := 293) rfl rfl rfl ?_
    refine own_ifnullNo X0 hx hby at_293 (pc' := 296) rfl ?_
    refine own_aload X0 hx hby at_296 (pc' := 298) rfl rfl rfl ?_
    refine own_ldcS X0 hx hby at_298 (pc' := 300) rfl (hw _ (List.mem_of_getElem? (i := 0) rfl)) wS e0 hEL (by decide) (W0) (vs := [(.int (102 : Int32)), (.int (105 : Int32)), (.int (120 : Int32)), (.int (101 : Int32)), (.int (100 : Int32)), (.int (45 : Int32)), (.int (119 : Int32)), (.int (105 : Int32)), (.int (110 : Int32)), (.int (100 : Int32)), (.int (111 : Int32)), (.int (119 : Int32))]) (z := (12 : Int32)) ⟨by decide, by rfl⟩ (by decide) (by rfl) (n := 48) (by decide) (by decide) (by decide) (by decide) ?_
    intro T44 h44 a44 b44 k44 vm44 X44 e44 E44 W44 C44 G44 Gc44 Gv44 Gb44 S44
    have hZ := W44.1
    have hown := W44.2.1
    have F44 := own_Str.mk G44 Gc44 Gv44 Gb44 ([102, 105, 120, 101, 100, 45, 119, 105, 110, 100, 111, 119] : List Int32) (by decide) (by decide) rfl (by first | rfl | decide +kernel)
    refine own_callVB X44 hx hZ (own_eqB (W := 0) hZ hwE (hw _ (List.mem_of_getElem? (i := 2) rfl)) ((T_s.ext E44)) (F44) (S_S.ext ((O_0.ext E44)).2) hS (by decide) (by decide)) hown (hw _ (List.mem_of_getElem? (i := 38) rfl)) (hw _ (List.mem_of_getElem? (i := 39) rfl)) (hw _ (List.mem_of_getElem? (i := 41) rfl)) (hw _ (List.mem_of_getElem? (i := 40) rfl)) (by decide) ((T_s.ext E44)).exa (by rw [hml]; rfl) (argsL := [(.ref a44)]) (rest := []) rfl (lenOf own_pd6 rfl) rfl (Nat.le_of_eq rfl) (hb hby at_300) e44 (by decide) (by decide) ?_
    intro v45 T45 L45 X45 hQ45
    obtain ⟨hq45, hL45, e45⟩ := hQ45
    subst hL45
    have hv45 : v45 = some (.int (1 : Int32)) := by
      rcases hq45 with ⟨a, q⟩ | ⟨a, q⟩
      · exact a
      · exact absurd hf0 q
    subst hv45
    have N45 := Fr.app N0 (Fr.nil n0)
    show own_Go p.tables e below (T45.setTop (mkF m 303 #[.val (.int p1), .val (.int p2), .val (.int p3), .val (.int p4), .val (.int q4), .val (.ref a5), .val .null, .val (.int q7), .val (.int q8), .val (.int q9), .val (.int q10), .val (.ref a11)] [(.int (1 : Int32))])) _
    refine own_ifNo X45 hx hby at_303 (pc' := 306) rfl (by decide) ?_
    refine own_getS X45 hx hby at_306 (pc' := 309) rfl hZ hown (host := "") (Or.inl (hw _ (List.mem_of_getElem? (i := 118) rfl))) Via.refl e45 (S_0.ext ((O_0.ext E44)).2) ?_
    intro T46 X46 e46
    refine own_astore X46 hx hby at_309 (pc' := 311) rfl rfl (Ls' := #[.val (.int p1), .val (.int p2), .val (.int p3), .val (.int p4), .val (.int q4), .val (.ref a5), .val (.ref r0), .val (.int q7), .val (.int q8), .val (.int q9), .val (.int q10), .val (.ref a11)]) rfl ?_
    refine own_goto X46 hx hby at_311 (pc' := 329) (by decide) ?_
    refine own_aload X46 hx hby at_329 (pc' := 331) rfl rfl rfl ?_
    refine own_callS X46 hx hZ (rm_nas l Z a0 hw [] a5 aV kV r0 r1 f0 f1 aE gS cs k1 h44 n0 ((O_0.ext E44)) S_V A_V E_V FC hs F_0 F_1 T_0 T_1 S_E E_E F_E S_S hS ((T_s.ext E44))) hown (hw _ (List.mem_of_getElem? (i := 49) rfl)) (hw _ (List.mem_of_getElem? (i := 50) rfl)) (hw _ (List.mem_of_getElem? (i := 51) rfl)) (hw _ (List.mem_of_getElem? (i := 52) rfl)) (by decide) (W := 0) (by decide) (by decide) (by rw [hml]; rfl) (argsL := [(.ref a5)]) (rest := []) rfl (lenOf own_pd9 rfl) rfl (Nat.le_of_eq rfl) (hb hby at_331) e46 (by decide) (by decide) ?_
    intro v47 T47 L47 X47 hQ47
    obtain ⟨o47, hv47, N47q, K47, E47, F47⟩ := hQ47
    unfold own_alg at F47
    rw [if_pos hf0] at F47
    subst hv47
    have N47 := Fr.app N45 N47q
    show own_Go p.tables e below (T47.setTop (mkF m 334 #[.val (.int p1), .val (.int p2), .val (.int p3), .val (.int p4), .val (.int q4), .val (.ref a5), .val (.ref r0), .val (.int q7), .val (.int q8), .val (.int q9), .val (.int q10), .val (.ref a11)] [(.ref o47)])) _
    refine own_astore X47 hx hby at_334 (pc' := 336) rfl rfl (Ls' := #[.val (.int p1), .val (.int p2), .val (.int p3), .val (.int p4), .val (.int q4), .val (.ref a5), .val (.ref r0), .val (.ref o47), .val (.int q8), .val (.int q9), .val (.int q10), .val (.ref a11)]) rfl ?_
    refine own_aload X47 hx hby at_336 (pc' := 338) rfl rfl rfl ?_
    refine own_ifnonnullYes X47 hx hby at_338 (pc' := 355) (by decide) ?_
    refine own_aload X47 hx hby at_355 (pc' := 357) rfl rfl rfl ?_
    refine own_callV X47 hx hZ (rm_ipr l Z a0 hw [] o47 r0 T47.heap n0 (F47)) hown (hw _ (List.mem_of_getElem? (i := 78) rfl)) (hw _ (List.mem_of_getElem? (i := 79) rfl)) (hw _ (List.mem_of_getElem? (i := 81) rfl)) (hw _ (List.mem_of_getElem? (i := 80) rfl)) (hw _ (List.mem_of_getElem? (i := 82) rfl)) (hw _ (List.mem_of_getElem? (i := 75) rfl)) (by decide) E47 (W := 0) (by decide) (by decide) (by rw [hml]; rfl) (argsL := []) (rest := []) rfl (lenOf own_pd10 rfl) rfl (Nat.le_of_eq rfl) (hb hby at_357) rfl (by decide) (by decide) ?_
    intro v48 T48 L48 X48 hQ48
    obtain ⟨hv48, N48q, e48⟩ := hQ48
    subst hv48
    have N48 := Fr.app N47 N48q
    show own_Go p.tables e below (T48.setTop (mkF m 360 #[.val (.int p1), .val (.int p2), .val (.int p3), .val (.int p4), .val (.int q4), .val (.ref a5), .val (.ref r0), .val (.ref o47), .val (.int q8), .val (.int q9), .val (.int q10), .val (.ref a11)] [(.int (1 : Int32))])) _
    refine own_ifNo X48 hx hby at_360 (pc' := 363) rfl (by decide) ?_
    refine own_aload X48 hx hby at_363 (pc' := 365) rfl rfl rfl ?_
    refine own_callV X48 hx hZ (rm_gt l Z a0 hw [] o47 r0 T47.heap n0 (F47)) hown (hw _ (List.mem_of_getElem? (i := 133) rfl)) (hw _ (List.mem_of_getElem? (i := 134) rfl)) (hw _ (List.mem_of_getElem? (i := 136) rfl)) (hw _ (List.mem_of_getElem? (i := 135) rfl)) (hw _ (List.mem_of_getElem? (i := 137) rfl)) (hw _ (List.mem_of_getElem? (i := 75) rfl)) (by decide) E47 (W := 0) (by decide) (by decide) (by rw [hml]; rfl) (argsL := []) (rest := []) rfl (lenOf own_pd11 rfl) rfl (Nat.le_of_eq rfl) (hb hby at_365) e48 (by decide) (by decide) ?_
    intro v49 T49 L49 X49 hQ49
    obtain ⟨hv49, N49q, e49⟩ := hQ49
    subst hv49
    have N49 := Fr.app N48 N49q
    show own_Go p.tables e below (T49.setTop (mkF m 368 #[.val (.int p1), .val (.int p2), .val (.int p3), .val (.int p4), .val (.int q4), .val (.ref a5), .val (.ref r0), .val (.ref o47), .val (.int q8), .val (.int q9), .val (.int q10), .val (.ref a11)] [(.ref r0)])) _
    refine own_aload X49 hx hby at_368 (pc' := 370) rfl rfl rfl ?_
    refine own_acmp X49 hx hby at_370 (pc' := 373) (same := true) rfl rfl (decide_eq_true rfl) (by decide) ?_
    refine own_iconst X49 hx hby at_373 (pc' := 374) rfl (z := (1 : Int32)) (by decide) ?_
    refine own_goto X49 hx hby at_374 (pc' := 378) (by decide) ?_
    exact own_retZW (t := .boolean) X49 hx hEL ((W44.keep K47 all0)) e49 hret (by simp) (hb hby at_378) hlk (by decide) (by decide) (by rw [own_nar1]; exact hQ _ _ N49)
  · by_cases hf1 : cs = own_SL
    · skip
      refine own_aconst_null X0 hx hby at_288 (pc' := 289) rfl ?_
      refine own_astore X0 hx hby at_289 (pc' := 291) rfl rfl (Ls' := #[.val (.int p1), .val (.int p2), .val (.int p3), .val (.int p4), .val (.int q4), .val (.ref a5), .val .null, .val (.int q7), .val (.int q8), .val (.int q9), .val (.int q10), .val (.ref a11)]) rfl ?_
      refine own_aload X0 hx hby at_291 (pc' := 293) rfl rfl rfl ?_
      refine own_ifnullNo X0 hx hby at_293 (pc' := 296) rfl ?_
      refine own_aload X0 hx hby at_296 (pc' := 298) rfl rfl rfl ?_
      refine own_ldcS X0 hx hby at_298 (pc' := 300) rfl (hw _ (List.mem_of_getElem? (i := 0) rfl)) wS e0 hEL (by decide) (W0) (vs := [(.int (102 : Int32)), (.int (105 : Int32)), (.int (120 : Int32)), (.int (101 : Int32)), (.int (100 : Int32)), (.int (45 : Int32)), (.int (119 : Int32)), (.int (105 : Int32)), (.int (110 : Int32)), (.int (100 : Int32)), (.int (111 : Int32)), (.int (119 : Int32))]) (z := (12 : Int32)) ⟨by decide, by rfl⟩ (by decide) (by rfl) (n := 48) (by decide) (by decide) (by decide) (by decide) ?_
      intro T50 h50 a50 b50 k50 vm50 X50 e50 E50 W50 C50 G50 Gc50 Gv50 Gb50 S50
      have hZ := W50.1
      have hown := W50.2.1
      have F50 := own_Str.mk G50 Gc50 Gv50 Gb50 ([102, 105, 120, 101, 100, 45, 119, 105, 110, 100, 111, 119] : List Int32) (by decide) (by decide) rfl (by first | rfl | decide +kernel)
      refine own_callVB X50 hx hZ (own_eqB (W := 0) hZ hwE (hw _ (List.mem_of_getElem? (i := 2) rfl)) ((T_s.ext E50)) (F50) (S_S.ext ((O_0.ext E50)).2) hS (by decide) (by decide)) hown (hw _ (List.mem_of_getElem? (i := 38) rfl)) (hw _ (List.mem_of_getElem? (i := 39) rfl)) (hw _ (List.mem_of_getElem? (i := 41) rfl)) (hw _ (List.mem_of_getElem? (i := 40) rfl)) (by decide) ((T_s.ext E50)).exa (by rw [hml]; rfl) (argsL := [(.ref a50)]) (rest := []) rfl (lenOf own_pd6 rfl) rfl (Nat.le_of_eq rfl) (hb hby at_300) e50 (by decide) (by decide) ?_
      intro v51 T51 L51 X51 hQ51
      obtain ⟨hq51, hL51, e51⟩ := hQ51
      subst hL51
      have hv51 : v51 = some (.int (0 : Int32)) := by
        rcases hq51 with ⟨a, q⟩ | ⟨a, q⟩
        · exact absurd q hf0
        · exact a
      subst hv51
      have N51 := Fr.app N0 (Fr.nil n0)
      show own_Go p.tables e below (T51.setTop (mkF m 303 #[.val (.int p1), .val (.int p2), .val (.int p3), .val (.int p4), .val (.int q4), .val (.ref a5), .val .null, .val (.int q7), .val (.int q8), .val (.int q9), .val (.int q10), .val (.ref a11)] [(.int (0 : Int32))])) _
      refine own_ifYes X51 hx hby at_303 (pc' := 314) (by decide) (by decide) ?_
      refine own_aload X51 hx hby at_314 (pc' := 316) rfl rfl rfl ?_
      refine own_ldcS X51 hx hby at_316 (pc' := 318) rfl (hw _ (List.mem_of_getElem? (i := 48) rfl)) wS e51 hEL (by decide) (W50) (vs := [(.int (115 : Int32)), (.int (108 : Int32)), (.int (105 : Int32)), (.int (100 : Int32)), (.int (105 : Int32)), (.int (110 : Int32)), (.int (103 : Int32)), (.int (45 : Int32)), (.int (108 : Int32)), (.int (111 : Int32)), (.int (103 : Int32))]) (z := (11 : Int32)) ⟨by decide, by rfl⟩ (by decide) (by rfl) (n := 44) (by decide) (by decide) (by decide) (by decide) ?_
      intro T52 h52 a52 b52 k52 vm52 X52 e52 E52 W52 C52 G52 Gc52 Gv52 Gb52 S52
      have hZ := W52.1
      have hown := W52.2.1
      have F52 := own_Str.mk G52 Gc52 Gv52 Gb52 ([115, 108, 105, 100, 105, 110, 103, 45, 108, 111, 103] : List Int32) (by decide) (by decide) rfl (by first | rfl | decide +kernel)
      refine own_callVB X52 hx hZ (own_eqB (W := 0) hZ hwE (hw _ (List.mem_of_getElem? (i := 2) rfl)) (((T_s.ext E50).ext E52)) (F52) (S_S.ext (((O_0.ext E50).ext E52)).2) hS (by decide) (by decide)) hown (hw _ (List.mem_of_getElem? (i := 38) rfl)) (hw _ (List.mem_of_getElem? (i := 39) rfl)) (hw _ (List.mem_of_getElem? (i := 41) rfl)) (hw _ (List.mem_of_getElem? (i := 40) rfl)) (by decide) (((T_s.ext E50).ext E52)).exa (by rw [hml]; rfl) (argsL := [(.ref a52)]) (rest := []) rfl (lenOf own_pd6 rfl) rfl (Nat.le_of_eq rfl) (hb hby at_318) e52 (by decide) (by decide) ?_
      intro v53 T53 L53 X53 hQ53
      obtain ⟨hq53, hL53, e53⟩ := hQ53
      subst hL53
      have hv53 : v53 = some (.int (1 : Int32)) := by
        rcases hq53 with ⟨a, q⟩ | ⟨a, q⟩
        · exact a
        · exact absurd hf1 q
      subst hv53
      have N53 := Fr.app N51 (Fr.nil n0)
      show own_Go p.tables e below (T53.setTop (mkF m 321 #[.val (.int p1), .val (.int p2), .val (.int p3), .val (.int p4), .val (.int q4), .val (.ref a5), .val .null, .val (.int q7), .val (.int q8), .val (.int q9), .val (.int q10), .val (.ref a11)] [(.int (1 : Int32))])) _
      refine own_ifNo X53 hx hby at_321 (pc' := 324) rfl (by decide) ?_
      refine own_getS X53 hx hby at_324 (pc' := 327) rfl hZ hown (host := "") (Or.inl (hw _ (List.mem_of_getElem? (i := 138) rfl))) Via.refl e53 (S_1.ext (((O_0.ext E50).ext E52)).2) ?_
      intro T54 X54 e54
      refine own_astore X54 hx hby at_327 (pc' := 329) rfl rfl (Ls' := #[.val (.int p1), .val (.int p2), .val (.int p3), .val (.int p4), .val (.int q4), .val (.ref a5), .val (.ref r1), .val (.int q7), .val (.int q8), .val (.int q9), .val (.int q10), .val (.ref a11)]) rfl ?_
      refine own_aload X54 hx hby at_329 (pc' := 331) rfl rfl rfl ?_
      refine own_callS X54 hx hZ (rm_nas l Z a0 hw [] a5 aV kV r0 r1 f0 f1 aE gS cs k1 h52 n0 (((O_0.ext E50).ext E52)) S_V A_V E_V FC hs F_0 F_1 T_0 T_1 S_E E_E F_E S_S hS (((T_s.ext E50).ext E52))) hown (hw _ (List.mem_of_getElem? (i := 49) rfl)) (hw _ (List.mem_of_getElem? (i := 50) rfl)) (hw _ (List.mem_of_getElem? (i := 51) rfl)) (hw _ (List.mem_of_getElem? (i := 52) rfl)) (by decide) (W := 0) (by decide) (by decide) (by rw [hml]; rfl) (argsL := [(.ref a5)]) (rest := []) rfl (lenOf own_pd9 rfl) rfl (Nat.le_of_eq rfl) (hb hby at_331) e54 (by decide) (by decide) ?_
      intro v55 T55 L55 X55 hQ55
      obtain ⟨o55, hv55, N55q, K55, E55, F55⟩ := hQ55
      unfold own_alg at F55
      rw [if_neg hf0, if_pos hf1] at F55
      subst hv55
      have N55 := Fr.app N53 N55q
      show own_Go p.tables e below (T55.setTop (mkF m 334 #[.val (.int p1), .val (.int p2), .val (.int p3), .val (.int p4), .val (.int q4), .val (.ref a5), .val (.ref r1), .val (.int q7), .val (.int q8), .val (.int q9), .val (.int q10), .val (.ref a11)] [(.ref o55)])) _
      refine own_astore X55 hx hby at_334 (pc' := 336) rfl rfl (Ls' := #[.val (.int p1), .val (.int p2), .val (.int p3), .val (.int p4), .val (.int q4), .val (.ref a5), .val (.ref r1), .val (.ref o55), .val (.int q8), .val (.int q9), .val (.int q10), .val (.ref a11)]) rfl ?_
      refine own_aload X55 hx hby at_336 (pc' := 338) rfl rfl rfl ?_
      refine own_ifnonnullYes X55 hx hby at_338 (pc' := 355) (by decide) ?_
      refine own_aload X55 hx hby at_355 (pc' := 357) rfl rfl rfl ?_
      refine own_callV X55 hx hZ (rm_ipr l Z a0 hw [] o55 r1 T55.heap n0 (F55)) hown (hw _ (List.mem_of_getElem? (i := 78) rfl)) (hw _ (List.mem_of_getElem? (i := 79) rfl)) (hw _ (List.mem_of_getElem? (i := 81) rfl)) (hw _ (List.mem_of_getElem? (i := 80) rfl)) (hw _ (List.mem_of_getElem? (i := 82) rfl)) (hw _ (List.mem_of_getElem? (i := 75) rfl)) (by decide) E55 (W := 0) (by decide) (by decide) (by rw [hml]; rfl) (argsL := []) (rest := []) rfl (lenOf own_pd10 rfl) rfl (Nat.le_of_eq rfl) (hb hby at_357) rfl (by decide) (by decide) ?_
      intro v56 T56 L56 X56 hQ56
      obtain ⟨hv56, N56q, e56⟩ := hQ56
      subst hv56
      have N56 := Fr.app N55 N56q
      show own_Go p.tables e below (T56.setTop (mkF m 360 #[.val (.int p1), .val (.int p2), .val (.int p3), .val (.int p4), .val (.int q4), .val (.ref a5), .val (.ref r1), .val (.ref o55), .val (.int q8), .val (.int q9), .val (.int q10), .val (.ref a11)] [(.int (1 : Int32))])) _
      refine own_ifNo X56 hx hby at_360 (pc' := 363) rfl (by decide) ?_
      refine own_aload X56 hx hby at_363 (pc' := 365) rfl rfl rfl ?_
      refine own_callV X56 hx hZ (rm_gt l Z a0 hw [] o55 r1 T55.heap n0 (F55)) hown (hw _ (List.mem_of_getElem? (i := 133) rfl)) (hw _ (List.mem_of_getElem? (i := 134) rfl)) (hw _ (List.mem_of_getElem? (i := 136) rfl)) (hw _ (List.mem_of_getElem? (i := 135) rfl)) (hw _ (List.mem_of_getElem? (i := 137) rfl)) (hw _ (List.mem_of_getElem? (i := 75) rfl)) (by decide) E55 (W := 0) (by decide) (by decide) (by rw [hml]; rfl) (argsL := []) (rest := []) rfl (lenOf own_pd11 rfl) rfl (Nat.le_of_eq rfl) (hb hby at_365) e56 (by decide) (by decide) ?_
      intro v57 T57 L57 X57 hQ57
      obtain ⟨hv57, N57q, e57⟩ := hQ57
      subst hv57
      have N57 := Fr.app N56 N57q
      show own_Go p.tables e below (T57.setTop (mkF m 368 #[.val (.int p1), .val (.int p2), .val (.int p3), .val (.int p4), .val (.int q4), .val (.ref a5), .val (.ref r1), .val (.ref o55), .val (.int q8), .val (.int q9), .val (.int q10), .val (.ref a11)] [(.ref r1)])) _
      refine own_aload X57 hx hby at_368 (pc' := 370) rfl rfl rfl ?_
      refine own_acmp X57 hx hby at_370 (pc' := 373) (same := true) rfl rfl (decide_eq_true rfl) (by decide) ?_
      refine own_iconst X57 hx hby at_373 (pc' := 374) rfl (z := (1 : Int32)) (by decide) ?_
      refine own_goto X57 hx hby at_374 (pc' := 378) (by decide) ?_
      exact own_retZW (t := .boolean) X57 hx hEL ((W52.keep K55 all0)) e57 hret (by simp) (hb hby at_378) hlk (by decide) (by decide) (by rw [own_nar1]; exact hQ _ _ N57)
    · skip
      refine own_aconst_null X0 hx hby at_288 (pc' := 289) rfl ?_
      refine own_astore X0 hx hby at_289 (pc' := 291) rfl rfl (Ls' := #[.val (.int p1), .val (.int p2), .val (.int p3), .val (.int p4), .val (.int q4), .val (.ref a5), .val .null, .val (.int q7), .val (.int q8), .val (.int q9), .val (.int q10), .val (.ref a11)]) rfl ?_
      refine own_aload X0 hx hby at_291 (pc' := 293) rfl rfl rfl ?_
      refine own_ifnullNo X0 hx hby at_293 (pc' := 296) rfl ?_
      refine own_aload X0 hx hby at_296 (pc' := 298) rfl rfl rfl ?_
      refine own_ldcS X0 hx hby at_298 (pc' := 300) rfl (hw _ (List.mem_of_getElem? (i := 0) rfl)) wS e0 hEL (by decide) (W0) (vs := [(.int (102 : Int32)), (.int (105 : Int32)), (.int (120 : Int32)), (.int (101 : Int32)), (.int (100 : Int32)), (.int (45 : Int32)), (.int (119 : Int32)), (.int (105 : Int32)), (.int (110 : Int32)), (.int (100 : Int32)), (.int (111 : Int32)), (.int (119 : Int32))]) (z := (12 : Int32)) ⟨by decide, by rfl⟩ (by decide) (by rfl) (n := 48) (by decide) (by decide) (by decide) (by decide) ?_
      intro T58 h58 a58 b58 k58 vm58 X58 e58 E58 W58 C58 G58 Gc58 Gv58 Gb58 S58
      have hZ := W58.1
      have hown := W58.2.1
      have F58 := own_Str.mk G58 Gc58 Gv58 Gb58 ([102, 105, 120, 101, 100, 45, 119, 105, 110, 100, 111, 119] : List Int32) (by decide) (by decide) rfl (by first | rfl | decide +kernel)
      refine own_callVB X58 hx hZ (own_eqB (W := 0) hZ hwE (hw _ (List.mem_of_getElem? (i := 2) rfl)) ((T_s.ext E58)) (F58) (S_S.ext ((O_0.ext E58)).2) hS (by decide) (by decide)) hown (hw _ (List.mem_of_getElem? (i := 38) rfl)) (hw _ (List.mem_of_getElem? (i := 39) rfl)) (hw _ (List.mem_of_getElem? (i := 41) rfl)) (hw _ (List.mem_of_getElem? (i := 40) rfl)) (by decide) ((T_s.ext E58)).exa (by rw [hml]; rfl) (argsL := [(.ref a58)]) (rest := []) rfl (lenOf own_pd6 rfl) rfl (Nat.le_of_eq rfl) (hb hby at_300) e58 (by decide) (by decide) ?_
      intro v59 T59 L59 X59 hQ59
      obtain ⟨hq59, hL59, e59⟩ := hQ59
      subst hL59
      have hv59 : v59 = some (.int (0 : Int32)) := by
        rcases hq59 with ⟨a, q⟩ | ⟨a, q⟩
        · exact absurd q hf0
        · exact a
      subst hv59
      have N59 := Fr.app N0 (Fr.nil n0)
      show own_Go p.tables e below (T59.setTop (mkF m 303 #[.val (.int p1), .val (.int p2), .val (.int p3), .val (.int p4), .val (.int q4), .val (.ref a5), .val .null, .val (.int q7), .val (.int q8), .val (.int q9), .val (.int q10), .val (.ref a11)] [(.int (0 : Int32))])) _
      refine own_ifYes X59 hx hby at_303 (pc' := 314) (by decide) (by decide) ?_
      refine own_aload X59 hx hby at_314 (pc' := 316) rfl rfl rfl ?_
      refine own_ldcS X59 hx hby at_316 (pc' := 318) rfl (hw _ (List.mem_of_getElem? (i := 48) rfl)) wS e59 hEL (by decide) (W58) (vs := [(.int (115 : Int32)), (.int (108 : Int32)), (.int (105 : Int32)), (.int (100 : Int32)), (.int (105 : Int32)), (.int (110 : Int32)), (.int (103 : Int32)), (.int (45 : Int32)), (.int (108 : Int32)), (.int (111 : Int32)), (.int (103 : Int32))]) (z := (11 : Int32)) ⟨by decide, by rfl⟩ (by decide) (by rfl) (n := 44) (by decide) (by decide) (by decide) (by decide) ?_
      intro T60 h60 a60 b60 k60 vm60 X60 e60 E60 W60 C60 G60 Gc60 Gv60 Gb60 S60
      have hZ := W60.1
      have hown := W60.2.1
      have F60 := own_Str.mk G60 Gc60 Gv60 Gb60 ([115, 108, 105, 100, 105, 110, 103, 45, 108, 111, 103] : List Int32) (by decide) (by decide) rfl (by first | rfl | decide +kernel)
      refine own_callVB X60 hx hZ (own_eqB (W := 0) hZ hwE (hw _ (List.mem_of_getElem? (i := 2) rfl)) (((T_s.ext E58).ext E60)) (F60) (S_S.ext (((O_0.ext E58).ext E60)).2) hS (by decide) (by decide)) hown (hw _ (List.mem_of_getElem? (i := 38) rfl)) (hw _ (List.mem_of_getElem? (i := 39) rfl)) (hw _ (List.mem_of_getElem? (i := 41) rfl)) (hw _ (List.mem_of_getElem? (i := 40) rfl)) (by decide) (((T_s.ext E58).ext E60)).exa (by rw [hml]; rfl) (argsL := [(.ref a60)]) (rest := []) rfl (lenOf own_pd6 rfl) rfl (Nat.le_of_eq rfl) (hb hby at_318) e60 (by decide) (by decide) ?_
      intro v61 T61 L61 X61 hQ61
      obtain ⟨hq61, hL61, e61⟩ := hQ61
      subst hL61
      have hv61 : v61 = some (.int (0 : Int32)) := by
        rcases hq61 with ⟨a, q⟩ | ⟨a, q⟩
        · exact absurd q hf1
        · exact a
      subst hv61
      have N61 := Fr.app N59 (Fr.nil n0)
      show own_Go p.tables e below (T61.setTop (mkF m 321 #[.val (.int p1), .val (.int p2), .val (.int p3), .val (.int p4), .val (.int q4), .val (.ref a5), .val .null, .val (.int q7), .val (.int q8), .val (.int q9), .val (.int q10), .val (.ref a11)] [(.int (0 : Int32))])) _
      refine own_ifYes X61 hx hby at_321 (pc' := 329) (by decide) (by decide) ?_
      refine own_aload X61 hx hby at_329 (pc' := 331) rfl rfl rfl ?_
      refine own_callS X61 hx hZ (rm_nas l Z a0 hw [] a5 aV kV r0 r1 f0 f1 aE gS cs k1 h60 n0 (((O_0.ext E58).ext E60)) S_V A_V E_V FC hs F_0 F_1 T_0 T_1 S_E E_E F_E S_S hS (((T_s.ext E58).ext E60))) hown (hw _ (List.mem_of_getElem? (i := 49) rfl)) (hw _ (List.mem_of_getElem? (i := 50) rfl)) (hw _ (List.mem_of_getElem? (i := 51) rfl)) (hw _ (List.mem_of_getElem? (i := 52) rfl)) (by decide) (W := 0) (by decide) (by decide) (by rw [hml]; rfl) (argsL := [(.ref a5)]) (rest := []) rfl (lenOf own_pd9 rfl) rfl (Nat.le_of_eq rfl) (hb hby at_331) e61 (by decide) (by decide) ?_
      intro v62 T62 L62 X62 hQ62
      obtain ⟨o62, hv62, N62q, K62, E62, F62⟩ := hQ62
      unfold own_alg at F62
      rw [if_neg hf0, if_neg hf1] at F62
      subst hv62
      have N62 := Fr.app N61 N62q
      show own_Go p.tables e below (T62.setTop (mkF m 334 #[.val (.int p1), .val (.int p2), .val (.int p3), .val (.int p4), .val (.int q4), .val (.ref a5), .val .null, .val (.int q7), .val (.int q8), .val (.int q9), .val (.int q10), .val (.ref a11)] [(.ref o62)])) _
      refine own_astore X62 hx hby at_334 (pc' := 336) rfl rfl (Ls' := #[.val (.int p1), .val (.int p2), .val (.int p3), .val (.int p4), .val (.int q4), .val (.ref a5), .val .null, .val (.ref o62), .val (.int q8), .val (.int q9), .val (.int q10), .val (.ref a11)]) rfl ?_
      refine own_aload X62 hx hby at_336 (pc' := 338) rfl rfl rfl ?_
      refine own_ifnonnullNo X62 hx hby at_338 (pc' := 341) rfl ?_
      refine own_aload X62 hx hby at_341 (pc' := 343) rfl rfl rfl ?_
      refine own_callV X62 hx hZ (rm_ipn l Z a0 hw [] o62 T62.heap n0 (F62)) hown (hw _ (List.mem_of_getElem? (i := 78) rfl)) (hw _ (List.mem_of_getElem? (i := 79) rfl)) (hw _ (List.mem_of_getElem? (i := 81) rfl)) (hw _ (List.mem_of_getElem? (i := 80) rfl)) (hw _ (List.mem_of_getElem? (i := 82) rfl)) (hw _ (List.mem_of_getElem? (i := 75) rfl)) (by decide) E62 (W := 0) (by decide) (by decide) (by rw [hml]; rfl) (argsL := []) (rest := []) rfl (lenOf own_pd10 rfl) rfl (Nat.le_of_eq rfl) (hb hby at_343) rfl (by decide) (by decide) ?_
      intro v63 T63 L63 X63 hQ63
      obtain ⟨hv63, N63q, e63⟩ := hQ63
      subst hv63
      have N63 := Fr.app N62 N63q
      show own_Go p.tables e below (T63.setTop (mkF m 346 #[.val (.int p1), .val (.int p2), .val (.int p3), .val (.int p4), .val (.int q4), .val (.ref a5), .val .null, .val (.ref o62), .val (.int q8), .val (.int q9), .val (.int q10), .val (.ref a11)] [(.int (0 : Int32))])) _
      refine own_ifNo X63 hx hby at_346 (pc' := 349) rfl (by decide) ?_
      refine own_iconst X63 hx hby at_349 (pc' := 350) rfl (z := (1 : Int32)) (by decide) ?_
      refine own_goto X63 hx hby at_350 (pc' := 354) (by decide) ?_
      exact own_retZW (t := .boolean) X63 hx hEL ((W60.keep K62 all0)) e63 hret (by simp) (hb hby at_354) hlk (by decide) (by decide) (by rw [own_nar1]; exact hQ _ _ N63)
theorem own_pd12 : parseMethodDescriptor "([CLjava/lang/String;IC)V" = some ⟨[(.array .char), (.object "java/lang/String"), .int, .char], none⟩ := by decide +kernel
theorem own_pd13 : parseMethodDescriptor "([C)V" = some ⟨[(.array .char)], none⟩ := by decide +kernel
set_option maxRecDepth 65536 in
set_option maxHeartbeats 40000000 in
theorem tl_m0 {p : Program} {l : Launch} {e : Env} {s : State} {m : MethodId} {args : Array Value} {below : List Frame} {meth : Method} {c : Code} {T0 : State} {locs : List Loc} {Z : State} {a0 : Array Value} {h0 : Heap} {n0 : Nat} {vm0 : Vm} {Q : Option Value → Heap → List Loc → Prop} (hx : p.tables.exec = Jvm.exec) (hw : ∀ d ∈ tables_1, d.before a0 Z = true) (hEL : EW Z a0 own_EL) (hby : c.code = code) (hml : c.maxLocals = maxLocals) (hret : meth.sig.returnType = ret) (hlk : meth.locks = false) (W0 : own_Wd Z own_EL s vm0 m x.cls h0) (X0 : Stand p l e room_1 (s.setVm vm0) m args below meth c T0 locs 4 100) (e0 : T0.heap = h0) (N0 : Fr n0 locs) (hQ : ∀ h L, Fr n0 L → Q (some (.int 1)) h L) (p1 : Int32) (p2 : Int32) (p3 : Int32) (p4 : Int32) (q4 : Int32) (a6 : Addr) (q7 : Int32) (q8 : Int32) (q10 : Int32) (a11 : Addr) (ds : List Int32) (k0 : Nat) (aV : Addr) (kV : Cell) (r0 : Addr) (r1 : Addr) (f0 : Addr) (f1 : Addr) (aE : Addr) (gS : Int32) (fm : Value) (O_0 : Old Z n0 h0) (S_V : Sta Z Z.heap "com/example/inbound_throttle/inboundthrottle/rules/Algorithm" "$VALUES" "[Lcom/example/inbound_throttle/inboundthrottle/rules/Algorithm;" (.ref aV)) (A_V : Arr Z Z.heap aV kV (.object "com/example/inbound_throttle/inboundthrottle/rules/Algorithm")) (E_V : Exa Z Z.heap aV "[Lcom/example/inbound_throttle/inboundthrottle/rules/Algorithm;") (FC : FitC Z kV) (hs : kV.slots.toList = [.ref r0, .ref r1]) (F_0 : Fld Z Z.heap r0 "com/example/inbound_throttle/inboundthrottle/rules/Algorithm" "fileName" "Ljava/lang/String;" (.ref f0)) (F_1 : Fld Z Z.heap r1 "com/example/inbound_throttle/inboundthrottle/rules/Algorithm" "fileName" "Ljava/lang/String;" (.ref f1)) (T_0 : own_Str Z Z.heap Z.heap.size f0 own_FW) (T_1 : own_Str Z Z.heap Z.heap.size f1 own_SL) (S_E : Sta Z Z.heap "java/util/Optional" "EMPTY" "Ljava/util/Optional;" (.ref aE)) (E_E : Exa Z Z.heap aE "java/util/Optional") (F_E : Fld Z Z.heap aE "java/util/Optional" "value" "Ljava/lang/Object;" .null) (S_S : Sta Z Z.heap "java/lang/String" "COMPACT_STRINGS" "Z" (.int gS)) (hS : ¬ gS = 0) (S_F : Sta Z Z.heap "jdk/internal/util/Preconditions" "SIOOBE_FORMATTER" "Ljava/util/function/BiFunction;" fm) (hfm : fm.isRef = true) (S_0 : Sta Z Z.heap "com/example/inbound_throttle/inboundthrottle/rules/Algorithm" "FIXED_WINDOW" "Lcom/example/inbound_throttle/inboundthrottle/rules/Algorithm;" (.ref r0)) (S_1 : Sta Z Z.heap "com/example/inbound_throttle/inboundthrottle/rules/Algorithm" "SLIDING_LOG" "Lcom/example/inbound_throttle/inboundthrottle/rules/Algorithm;" (.ref r1)) (C_a : own_Ch Z h0 a11 0) (G_a : n0 ≤ a11) (T_6 : own_Str Z h0 k0 a6 ds) (hka : k0 ≤ a11) (hpad : own_B q10) :
    own_Go p.tables e below (T0.setTop (mkF m 111 #[.val (.int p1), .val (.int p2), .val (.int p3), .val (.int p4), .val (.int q4), .unset, .val (.ref a6), .val (.int q7), .val (.int q8), .val (.int (0 : Int32)), .val (.int q10), .val (.ref a11)] [])) (own_RH Z own_EL s Q room_1.cells room_1.slots) := by
  have hZ := W0.1
  have hown := W0.2.1
  have Z0 := own_Z0 O_0
  have hws : ∀ d ∈ StrChars.Road.words, d.before a0 Z = true := fun d hd => hw d ((by decide +kernel : ∀ d ∈ StrChars.Road.words, d ∈ tables_1) d hd)
  have hwE : ∀ d ∈ StrChars.Road.wordsEq, d.before a0 Z = true := fun d hd => hw d ((by decide +kernel : ∀ d ∈ StrChars.Road.wordsEq, d ∈ tables_1) d hd)
  have wS : ∀ d ∈ Bundle.stringAtoms, d.before a0 Z = true := fun d hd => hw d ((by decide +kernel : ∀ d ∈ Bundle.stringAtoms, d ∈ tables_1) d hd)
  have hwL : ∀ d ∈ StrChars.Road.wordsLen, d.before a0 Z = true := fun d hd => hw d ((by decide +kernel : ∀ d ∈ StrChars.Road.wordsLen, d ∈ tables_1) d hd)
  have hwC : ∀ d ∈ StrChars.Road.wordsChN, d.before a0 Z = true := fun d hd => hw d ((by decide +kernel : ∀ d ∈ StrChars.Road.wordsChN, d ∈ tables_1) d hd)
  refine own_aload X0 hx hby at_111 (pc' := 113) rfl rfl rfl ?_
  refine own_aload X0 hx hby at_113 (pc' := 115) rfl rfl rfl ?_
  refine own_iconst X0 hx hby at_115 (pc' := 116) rfl (z := (0 : Int32)) (by decide) ?_
  refine own_iload X0 hx hby at_116 (pc' := 118) rfl rfl ?_
  refine own_callS X0 hx hZ (rm_put l Z a0 hw [] a11 a6 (0 : Int32) q10 0 k0 ds gS fm h0 n0 (O_0) S_S hS S_F hfm (C_a) (T_6) (by decide) (by decide) hpad G_a) hown (hw _ (List.mem_of_getElem? (i := 22) rfl)) (hw _ (List.mem_of_getElem? (i := 23) rfl)) (hw _ (List.mem_of_getElem? (i := 24) rfl)) (hw _ (List.mem_of_getElem? (i := 25) rfl)) (by decide) (W := 0) (by decide) (by decide) (by rw [hml]; rfl) (argsL := [(.ref a11), (.ref a6), (.int (0 : Int32)), (.int q10)]) (rest := []) rfl (lenOf own_pd12 rfl) rfl (Nat.le_of_eq rfl) (hb hby at_118) e0 (by decide) (by decide) ?_
  intro v64 T64 L64 X64 hQ64
  obtain ⟨hv64, N64q, K64, C64⟩ := hQ64
  subst hv64
  have N64 := Fr.app N0 N64q
  have c65 := (W0.keep K64 (allS (own_Ch.safe C_a (W0).1.alike) all0))
  have c66 := (O_0.keep K64 (allS G_a all0))
  have t64 := (T_6.keep K64 (allS hka all0))
  show own_Go p.tables e below (T64.setTop (mkF m 121 #[.val (.int p1), .val (.int p2), .val (.int p3), .val (.int p4), .val (.int q4), .unset, .val (.ref a6), .val (.int q7), .val (.int q8), .val (.int (0 : Int32)), .val (.int q10), .val (.ref a11)] [])) _
  refine own_aload X64 hx hby at_121 (pc' := 123) rfl rfl rfl ?_
  refine own_aload X64 hx hby at_123 (pc' := 125) rfl rfl rfl ?_
  refine own_iconst X64 hx hby at_125 (pc' := 126) rfl (z := (1 : Int32)) (by decide) ?_
  refine own_iload X64 hx hby at_126 (pc' := 128) rfl rfl ?_
  refine own_callS X64 hx hZ (rm_put l Z a0 hw [] a11 a6 (1 : Int32) q10 0 k0 ds gS fm T64.heap n0 (c66) S_S hS S_F hfm (C64) (t64) (by decide) (by decide) hpad G_a) hown (hw _ (List.mem_of_getElem? (i := 22) rfl)) (hw _ (List.mem_of_getElem? (i := 23) rfl)) (hw _ (List.mem_of_getElem? (i := 24) rfl)) (hw _ (List.mem_of_getElem? (i := 25) rfl)) (by decide) (W := 0) (by decide) (by decide) (by rw [hml]; rfl) (argsL := [(.ref a11), (.ref a6), (.int (1 : Int32)), (.int q10)]) (rest := []) rfl (lenOf own_pd12 rfl) rfl (Nat.le_of_eq rfl) (hb hby at_128) rfl (by decide) (by decide) ?_
  intro v67 T67 L67 X67 hQ67
  obtain ⟨hv67, N67q, K67, C67⟩ := hQ67
  subst hv67
  have N67 := Fr.app N64 N67q
  have c68 := (c65.keep K67 (allS (own_Ch.safe C64 (c65).1.alike) all0))
  have c69 := (c66.keep K67 (allS G_a all0))
  have t67 := (t64.keep K67 (allS hka all0))
  show own_Go p.tables e below (T67.setTop (mkF m 131 #[.val (.int p1), .val (.int p2), .val (.int p3), .val (.int p4), .val (.int q4), .unset, .val (.ref a6), .val (.int q7), .val (.int q8), .val (.int (0 : Int32)), .val (.int q10), .val (.ref a11)] [])) _
  refine own_aload X67 hx hby at_131 (pc' := 133) rfl rfl rfl ?_
  refine own_aload X67 hx hby at_133 (pc' := 135) rfl rfl rfl ?_
  refine own_iconst X67 hx hby at_135 (pc' := 136) rfl (z := (2 : Int32)) (by decide) ?_
  refine own_iload X67 hx hby at_136 (pc' := 138) rfl rfl ?_
  refine own_callS X67 hx hZ (rm_put l Z a0 hw [] a11 a6 (2 : Int32) q10 0 k0 ds gS fm T67.heap n0 (c69) S_S hS S_F hfm (C67) (t67) (by decide) (by decide) hpad G_a) hown (hw _ (List.mem_of_getElem? (i := 22) rfl)) (hw _ (List.mem_of_getElem? (i := 23) rfl)) (hw _ (List.mem_of_getElem? (i := 24) rfl)) (hw _ (List.mem_of_getElem? (i := 25) rfl)) (by decide) (W := 0) (by decide) (by decide) (by rw [hml]; rfl) (argsL := [(.ref a11), (.ref a6), (.int (2 : Int32)), (.int q10)]) (rest := []) rfl (lenOf own_pd12 rfl) rfl (Nat.le_of_eq rfl) (hb hby at_138) rfl (by decide) (by decide) ?_
  intro v70 T70 L70 X70 hQ70
  obtain ⟨hv70, N70q, K70, C70⟩ := hQ70
  subst hv70
  have N70 := Fr.app N67 N70q
  have c71 := (c68.keep K70 (allS (own_Ch.safe C67 (c68).1.alike) all0))
  have c72 := (c69.keep K70 (allS G_a all0))
  have t70 := (t67.keep K70 (allS hka all0))
  show own_Go p.tables e below (T70.setTop (mkF m 141 #[.val (.int p1), .val (.int p2), .val (.int p3), .val (.int p4), .val (.int q4), .unset, .val (.ref a6), .val (.int q7), .val (.int q8), .val (.int (0 : Int32)), .val (.int q10), .val (.ref a11)] [])) _
  refine own_aload X70 hx hby at_141 (pc' := 143) rfl rfl rfl ?_
  refine own_aload X70 hx hby at_143 (pc' := 145) rfl rfl rfl ?_
  refine own_iconst X70 hx hby at_145 (pc' := 146) rfl (z := (3 : Int32)) (by decide) ?_
  refine own_iload X70 hx hby at_146 (pc' := 148) rfl rfl ?_
  refine own_callS X70 hx hZ (rm_put l Z a0 hw [] a11 a6 (3 : Int32) q10 0 k0 ds gS fm T70.heap n0 (c72) S_S hS S_F hfm (C70) (t70) (by decide) (by decide) hpad G_a) hown (hw _ (List.mem_of_getElem? (i := 22) rfl)) (hw _ (List.mem_of_getElem? (i := 23) rfl)) (hw _ (List.mem_of_getElem? (i := 24) rfl)) (hw _ (List.mem_of_getElem? (i := 25) rfl)) (by decide) (W := 0) (by decide) (by decide) (by rw [hml]; rfl) (argsL := [(.ref a11), (.ref a6), (.int (3 : Int32)), (.int q10)]) (rest := []) rfl (lenOf own_pd12 rfl) rfl (Nat.le_of_eq rfl) (hb hby at_148) rfl (by decide) (by decide) ?_
  intro v73 T73 L73 X73 hQ73
  obtain ⟨hv73, N73q, K73, C73⟩ := hQ73
  subst hv73
  have N73 := Fr.app N70 N73q
  have c74 := (c71.keep K73 (allS (own_Ch.safe C70 (c71).1.alike) all0))
  have c75 := (c72.keep K73 (allS G_a all0))
  have t73 := (t70.keep K73 (allS hka all0))
  show own_Go p.tables e below (T73.setTop (mkF m 151 #[.val (.int p1), .val (.int p2), .val (.int p3), .val (.int p4), .val (.int q4), .unset, .val (.ref a6), .val (.int q7), .val (.int q8), .val (.int (0 : Int32)), .val (.int q10), .val (.ref a11)] [])) _
  refine own_aload X73 hx hby at_151 (pc' := 153) rfl rfl rfl ?_
  refine own_aload X73 hx hby at_153 (pc' := 155) rfl rfl rfl ?_
  refine own_iconst X73 hx hby at_155 (pc' := 156) rfl (z := (4 : Int32)) (by decide) ?_
  refine own_iload X73 hx hby at_156 (pc' := 158) rfl rfl ?_
  refine own_callS X73 hx hZ (rm_put l Z a0 hw [] a11 a6 (4 : Int32) q10 0 k0 ds gS fm T73.heap n0 (c75) S_S hS S_F hfm (C73) (t73) (by decide) (by decide) hpad G_a) hown (hw _ (List.mem_of_getElem? (i := 22) rfl)) (hw _ (List.mem_of_getElem? (i := 23) rfl)) (hw _ (List.mem_of_getElem? (i := 24) rfl)) (hw _ (List.mem_of_getElem? (i := 25) rfl)) (by decide) (W := 0) (by decide) (by decide) (by rw [hml]; rfl) (argsL := [(.ref a11), (.ref a6), (.int (4 : Int32)), (.int q10)]) (rest := []) rfl (lenOf own_pd12 rfl) rfl (Nat.le_of_eq rfl) (hb hby at_158) rfl (by decide) (by decide) ?_
  intro v76 T76 L76 X76 hQ76
  obtain ⟨hv76, N76q, K76, C76⟩ := hQ76
  subst hv76
  have N76 := Fr.app N73 N76q
  have c77 := (c74.keep K76 (allS (own_Ch.safe C73 (c74).1.alike) all0))
  have c78 := (c75.keep K76 (allS G_a all0))
  have t76 := (t73.keep K76 (allS hka all0))
  show own_Go p.tables e below (T76.setTop (mkF m 161 #[.val (.int p1), .val (.int p2), .val (.int p3), .val (.int p4), .val (.int q4), .unset, .val (.ref a6), .val (.int q7), .val (.int q8), .val (.int (0 : Int32)), .val (.int q10), .val (.ref a11)] [])) _
  refine own_aload X76 hx hby at_161 (pc' := 163) rfl rfl rfl ?_
  refine own_aload X76 hx hby at_163 (pc' := 165) rfl rfl rfl ?_
  refine own_iconst X76 hx hby at_165 (pc' := 166) rfl (z := (5 : Int32)) (by decide) ?_
  refine own_iload X76 hx hby at_166 (pc' := 168) rfl rfl ?_
  refine own_callS X76 hx hZ (rm_put l Z a0 hw [] a11 a6 (5 : Int32) q10 0 k0 ds gS fm T76.heap n0 (c78) S_S hS S_F hfm (C76) (t76) (by decide) (by decide) hpad G_a) hown (hw _ (List.mem_of_getElem? (i := 22) rfl)) (hw _ (List.mem_of_getElem? (i := 23) rfl)) (hw _ (List.mem_of_getElem? (i := 24) rfl)) (hw _ (List.mem_of_getElem? (i := 25) rfl)) (by decide) (W := 0) (by decide) (by decide) (by rw [hml]; rfl) (argsL := [(.ref a11), (.ref a6), (.int (5 : Int32)), (.int q10)]) (rest := []) rfl (lenOf own_pd12 rfl) rfl (Nat.le_of_eq rfl) (hb hby at_168) rfl (by decide) (by decide) ?_
  intro v79 T79 L79 X79 hQ79
  obtain ⟨hv79, N79q, K79, C79⟩ := hQ79
  subst hv79
  have N79 := Fr.app N76 N79q
  have c80 := (c77.keep K79 (allS (own_Ch.safe C76 (c77).1.alike) all0))
  have c81 := (c78.keep K79 (allS G_a all0))
  have t79 := (t76.keep K79 (allS hka all0))
  show own_Go p.tables e below (T79.setTop (mkF m 171 #[.val (.int p1), .val (.int p2), .val (.int p3), .val (.int p4), .val (.int q4), .unset, .val (.ref a6), .val (.int q7), .val (.int q8), .val (.int (0 : Int32)), .val (.int q10), .val (.ref a11)] [])) _
  refine own_aload X79 hx hby at_171 (pc' := 173) rfl rfl rfl ?_
  refine own_aload X79 hx hby at_173 (pc' := 175) rfl rfl rfl ?_
  refine own_bipush X79 hx hby at_175 (pc' := 177) rfl (z := (6 : Int32)) (by decide) ?_
  refine own_iload X79 hx hby at_177 (pc' := 179) rfl rfl ?_
  refine own_callS X79 hx hZ (rm_put l Z a0 hw [] a11 a6 (6 : Int32) q10 0 k0 ds gS fm T79.heap n0 (c81) S_S hS S_F hfm (C79) (t79) (by decide) (by decide) hpad G_a) hown (hw _ (List.mem_of_getElem? (i := 22) rfl)) (hw _ (List.mem_of_getElem? (i := 23) rfl)) (hw _ (List.mem_of_getElem? (i := 24) rfl)) (hw _ (List.mem_of_getElem? (i := 25) rfl)) (by decide) (W := 0) (by decide) (by decide) (by rw [hml]; rfl) (argsL := [(.ref a11), (.ref a6), (.int (6 : Int32)), (.int q10)]) (rest := []) rfl (lenOf own_pd12 rfl) rfl (Nat.le_of_eq rfl) (hb hby at_179) rfl (by decide) (by decide) ?_
  intro v82 T82 L82 X82 hQ82
  obtain ⟨hv82, N82q, K82, C82⟩ := hQ82
  subst hv82
  have N82 := Fr.app N79 N82q
  have c83 := (c80.keep K82 (allS (own_Ch.safe C79 (c80).1.alike) all0))
  have c84 := (c81.keep K82 (allS G_a all0))
  have t82 := (t79.keep K82 (allS hka all0))
  show own_Go p.tables e below (T82.setTop (mkF m 182 #[.val (.int p1), .val (.int p2), .val (.int p3), .val (.int p4), .val (.int q4), .unset, .val (.ref a6), .val (.int q7), .val (.int q8), .val (.int (0 : Int32)), .val (.int q10), .val (.ref a11)] [])) _
  refine own_aload X82 hx hby at_182 (pc' := 184) rfl rfl rfl ?_
  refine own_aload X82 hx hby at_184 (pc' := 186) rfl rfl rfl ?_
  refine own_bipush X82 hx hby at_186 (pc' := 188) rfl (z := (7 : Int32)) (by decide) ?_
  refine own_iload X82 hx hby at_188 (pc' := 190) rfl rfl ?_
  refine own_callS X82 hx hZ (rm_put l Z a0 hw [] a11 a6 (7 : Int32) q10 0 k0 ds gS fm T82.heap n0 (c84) S_S hS S_F hfm (C82) (t82) (by decide) (by decide) hpad G_a) hown (hw _ (List.mem_of_getElem? (i := 22) rfl)) (hw _ (List.mem_of_getElem? (i := 23) rfl)) (hw _ (List.mem_of_getElem? (i := 24) rfl)) (hw _ (List.mem_of_getElem? (i := 25) rfl)) (by decide) (W := 0) (by decide) (by decide) (by rw [hml]; rfl) (argsL := [(.ref a11), (.ref a6), (.int (7 : Int32)), (.int q10)]) (rest := []) rfl (lenOf own_pd12 rfl) rfl (Nat.le_of_eq rfl) (hb hby at_190) rfl (by decide) (by decide) ?_
  intro v85 T85 L85 X85 hQ85
  obtain ⟨hv85, N85q, K85, C85⟩ := hQ85
  subst hv85
  have N85 := Fr.app N82 N85q
  have c86 := (c83.keep K85 (allS (own_Ch.safe C82 (c83).1.alike) all0))
  have c87 := (c84.keep K85 (allS G_a all0))
  have t85 := (t82.keep K85 (allS hka all0))
  show own_Go p.tables e below (T85.setTop (mkF m 193 #[.val (.int p1), .val (.int p2), .val (.int p3), .val (.int p4), .val (.int q4), .unset, .val (.ref a6), .val (.int q7), .val (.int q8), .val (.int (0 : Int32)), .val (.int q10), .val (.ref a11)] [])) _
  refine own_aload X85 hx hby at_193 (pc' := 195) rfl rfl rfl ?_
  refine own_aload X85 hx hby at_195 (pc' := 197) rfl rfl rfl ?_
  refine own_bipush X85 hx hby at_197 (pc' := 199) rfl (z := (8 : Int32)) (by decide) ?_
  refine own_iload X85 hx hby at_199 (pc' := 201) rfl rfl ?_
  refine own_callS X85 hx hZ (rm_put l Z a0 hw [] a11 a6 (8 : Int32) q10 0 k0 ds gS fm T85.heap n0 (c87) S_S hS S_F hfm (C85) (t85) (by decide) (by decide) hpad G_a) hown (hw _ (List.mem_of_getElem? (i := 22) rfl)) (hw _ (List.mem_of_getElem? (i := 23) rfl)) (hw _ (List.mem_of_getElem? (i := 24) rfl)) (hw _ (List.mem_of_getElem? (i := 25) rfl)) (by decide) (W := 0) (by decide) (by decide) (by rw [hml]; rfl) (argsL := [(.ref a11), (.ref a6), (.int (8 : Int32)), (.int q10)]) (rest := []) rfl (lenOf own_pd12 rfl) rfl (Nat.le_of_eq rfl) (hb hby at_201) rfl (by decide) (by decide) ?_
  intro v88 T88 L88 X88 hQ88
  obtain ⟨hv88, N88q, K88, C88⟩ := hQ88
  subst hv88
  have N88 := Fr.app N85 N88q
  have c89 := (c86.keep K88 (allS (own_Ch.safe C85 (c86).1.alike) all0))
  have c90 := (c87.keep K88 (allS G_a all0))
  have t88 := (t85.keep K88 (allS hka all0))
  show own_Go p.tables e below (T88.setTop (mkF m 204 #[.val (.int p1), .val (.int p2), .val (.int p3), .val (.int p4), .val (.int q4), .unset, .val (.ref a6), .val (.int q7), .val (.int q8), .val (.int (0 : Int32)), .val (.int q10), .val (.ref a11)] [])) _
  refine own_aload X88 hx hby at_204 (pc' := 206) rfl rfl rfl ?_
  refine own_aload X88 hx hby at_206 (pc' := 208) rfl rfl rfl ?_
  refine own_bipush X88 hx hby at_208 (pc' := 210) rfl (z := (9 : Int32)) (by decide) ?_
  refine own_iload X88 hx hby at_210 (pc' := 212) rfl rfl ?_
  refine own_callS X88 hx hZ (rm_put l Z a0 hw [] a11 a6 (9 : Int32) q10 0 k0 ds gS fm T88.heap n0 (c90) S_S hS S_F hfm (C88) (t88) (by decide) (by decide) hpad G_a) hown (hw _ (List.mem_of_getElem? (i := 22) rfl)) (hw _ (List.mem_of_getElem? (i := 23) rfl)) (hw _ (List.mem_of_getElem? (i := 24) rfl)) (hw _ (List.mem_of_getElem? (i := 25) rfl)) (by decide) (W := 0) (by decide) (by decide) (by rw [hml]; rfl) (argsL := [(.ref a11), (.ref a6), (.int (9 : Int32)), (.int q10)]) (rest := []) rfl (lenOf own_pd12 rfl) rfl (Nat.le_of_eq rfl) (hb hby at_212) rfl (by decide) (by decide) ?_
  intro v91 T91 L91 X91 hQ91
  obtain ⟨hv91, N91q, K91, C91⟩ := hQ91
  subst hv91
  have N91 := Fr.app N88 N91q
  have c92 := (c89.keep K91 (allS (own_Ch.safe C88 (c89).1.alike) all0))
  have c93 := (c90.keep K91 (allS G_a all0))
  have t91 := (t88.keep K91 (allS hka all0))
  show own_Go p.tables e below (T91.setTop (mkF m 215 #[.val (.int p1), .val (.int p2), .val (.int p3), .val (.int p4), .val (.int q4), .unset, .val (.ref a6), .val (.int q7), .val (.int q8), .val (.int (0 : Int32)), .val (.int q10), .val (.ref a11)] [])) _
  refine own_aload X91 hx hby at_215 (pc' := 217) rfl rfl rfl ?_
  refine own_aload X91 hx hby at_217 (pc' := 219) rfl rfl rfl ?_
  refine own_bipush X91 hx hby at_219 (pc' := 221) rfl (z := (10 : Int32)) (by decide) ?_
  refine own_iload X91 hx hby at_221 (pc' := 223) rfl rfl ?_
  refine own_callS X91 hx hZ (rm_put l Z a0 hw [] a11 a6 (10 : Int32) q10 0 k0 ds gS fm T91.heap n0 (c93) S_S hS S_F hfm (C91) (t91) (by decide) (by decide) hpad G_a) hown (hw _ (List.mem_of_getElem? (i := 22) rfl)) (hw _ (List.mem_of_getElem? (i := 23) rfl)) (hw _ (List.mem_of_getElem? (i := 24) rfl)) (hw _ (List.mem_of_getElem? (i := 25) rfl)) (by decide) (W := 0) (by decide) (by decide) (by rw [hml]; rfl) (argsL := [(.ref a11), (.ref a6), (.int (10 : Int32)), (.int q10)]) (rest := []) rfl (lenOf own_pd12 rfl) rfl (Nat.le_of_eq rfl) (hb hby at_223) rfl (by decide) (by decide) ?_
  intro v94 T94 L94 X94 hQ94
  obtain ⟨hv94, N94q, K94, C94⟩ := hQ94
  subst hv94
  have N94 := Fr.app N91 N94q
  have c95 := (c92.keep K94 (allS (own_Ch.safe C91 (c92).1.alike) all0))
  have c96 := (c93.keep K94 (allS G_a all0))
  have t94 := (t91.keep K94 (allS hka all0))
  show own_Go p.tables e below (T94.setTop (mkF m 226 #[.val (.int p1), .val (.int p2), .val (.int p3), .val (.int p4), .val (.int q4), .unset, .val (.ref a6), .val (.int q7), .val (.int q8), .val (.int (0 : Int32)), .val (.int q10), .val (.ref a11)] [])) _
  refine own_aload X94 hx hby at_226 (pc' := 228) rfl rfl rfl ?_
  refine own_aload X94 hx hby at_228 (pc' := 230) rfl rfl rfl ?_
  refine own_bipush X94 hx hby at_230 (pc' := 232) rfl (z := (11 : Int32)) (by decide) ?_
  refine own_iload X94 hx hby at_232 (pc' := 234) rfl rfl ?_
  refine own_callS X94 hx hZ (rm_put l Z a0 hw [] a11 a6 (11 : Int32) q10 0 k0 ds gS fm T94.heap n0 (c96) S_S hS S_F hfm (C94) (t94) (by decide) (by decide) hpad G_a) hown (hw _ (List.mem_of_getElem? (i := 22) rfl)) (hw _ (List.mem_of_getElem? (i := 23) rfl)) (hw _ (List.mem_of_getElem? (i := 24) rfl)) (hw _ (List.mem_of_getElem? (i := 25) rfl)) (by decide) (W := 0) (by decide) (by decide) (by rw [hml]; rfl) (argsL := [(.ref a11), (.ref a6), (.int (11 : Int32)), (.int q10)]) (rest := []) rfl (lenOf own_pd12 rfl) rfl (Nat.le_of_eq rfl) (hb hby at_234) rfl (by decide) (by decide) ?_
  intro v97 T97 L97 X97 hQ97
  obtain ⟨hv97, N97q, K97, C97⟩ := hQ97
  subst hv97
  have N97 := Fr.app N94 N97q
  have c98 := (c95.keep K97 (allS (own_Ch.safe C94 (c95).1.alike) all0))
  have c99 := (c96.keep K97 (allS G_a all0))
  have t97 := (t94.keep K97 (allS hka all0))
  show own_Go p.tables e below (T97.setTop (mkF m 237 #[.val (.int p1), .val (.int p2), .val (.int p3), .val (.int p4), .val (.int q4), .unset, .val (.ref a6), .val (.int q7), .val (.int q8), .val (.int (0 : Int32)), .val (.int q10), .val (.ref a11)] [])) _
  refine own_aload X97 hx hby at_237 (pc' := 239) rfl rfl rfl ?_
  refine own_aload X97 hx hby at_239 (pc' := 241) rfl rfl rfl ?_
  refine own_bipush X97 hx hby at_241 (pc' := 243) rfl (z := (12 : Int32)) (by decide) ?_
  refine own_iload X97 hx hby at_243 (pc' := 245) rfl rfl ?_
  refine own_callS X97 hx hZ (rm_put l Z a0 hw [] a11 a6 (12 : Int32) q10 0 k0 ds gS fm T97.heap n0 (c99) S_S hS S_F hfm (C97) (t97) (by decide) (by decide) hpad G_a) hown (hw _ (List.mem_of_getElem? (i := 22) rfl)) (hw _ (List.mem_of_getElem? (i := 23) rfl)) (hw _ (List.mem_of_getElem? (i := 24) rfl)) (hw _ (List.mem_of_getElem? (i := 25) rfl)) (by decide) (W := 0) (by decide) (by decide) (by rw [hml]; rfl) (argsL := [(.ref a11), (.ref a6), (.int (12 : Int32)), (.int q10)]) (rest := []) rfl (lenOf own_pd12 rfl) rfl (Nat.le_of_eq rfl) (hb hby at_245) rfl (by decide) (by decide) ?_
  intro v100 T100 L100 X100 hQ100
  obtain ⟨hv100, N100q, K100, C100⟩ := hQ100
  subst hv100
  have N100 := Fr.app N97 N100q
  have c101 := (c98.keep K100 (allS (own_Ch.safe C97 (c98).1.alike) all0))
  have c102 := (c99.keep K100 (allS G_a all0))
  have t100 := (t97.keep K100 (allS hka all0))
  show own_Go p.tables e below (T100.setTop (mkF m 248 #[.val (.int p1), .val (.int p2), .val (.int p3), .val (.int p4), .val (.int q4), .unset, .val (.ref a6), .val (.int q7), .val (.int q8), .val (.int (0 : Int32)), .val (.int q10), .val (.ref a11)] [])) _
  refine own_iloadN X100 hx hby at_248 (pc' := 249) rfl rfl ?_
  refine own_iconst X100 hx hby at_249 (pc' := 250) rfl (z := (3 : Int32)) (by decide) ?_
  refine own_iushr X100 hx hby at_250 (pc' := 251) rfl rfl ?_
  refine own_iconst X100 hx hby at_251 (pc' := 252) rfl (z := (1 : Int32)) (by decide) ?_
  refine own_iand X100 hx hby at_252 (pc' := 253) rfl rfl ?_
  by_cases hc253 : (((p2.toUInt32 >>> ((3 : Int32) &&& 31).toUInt32).toInt32) &&& (1 : Int32)) = (0 : Int32)
  · skip
    refine own_ifYes X100 hx hby at_253 (pc' := 277) (by decide) (teq hc253).1 ?_
    refine own_new X100 hx hby at_277 (pc' := 280) rfl hZ hown (hw _ (List.mem_of_getElem? (i := 26) rfl)) (hw _ (List.mem_of_getElem? (i := 2) rfl)) (hw _ (List.mem_of_getElem? (i := 1) rfl)) rfl (by decide) (by decide) ?_
    intro T103 h103 b103 X103 e103 g103 E103 A103 D103
    have F103_value : Fld Z h103 b103 "java/lang/String" "value" "[B" .null := D103 (Or.inr (hw _ (List.mem_of_getElem? (i := 4) rfl))) (ty := (.array .byte)) (by decide)
    have F103_coder : Fld Z h103 b103 "java/lang/String" "coder" "B" (.int (0 : Int32)) := D103 (Or.inr (hw _ (List.mem_of_getElem? (i := 5) rfl))) (ty := .byte) (by decide)
    have l103 : n0 ≤ b103 := (Nat.le_trans Z0 (Nat.le_trans (Nat.le_trans (Nat.le_trans (Nat.le_trans (Nat.le_trans (Nat.le_trans (Nat.le_trans (Nat.le_trans (Nat.le_trans (Nat.le_trans (Nat.le_trans (Nat.le_trans (Nat.le_trans (Nat.le_trans (Nat.le_refl _) K64.1) K67.1) K70.1) K73.1) K76.1) K79.1) K82.1) K85.1) K88.1) K91.1) K94.1) K97.1) K100.1) (Nat.le_of_eq g103.symm)))
    refine own_dup X103 hx hby at_280 (pc' := 281) rfl rfl ?_
    refine own_aload X103 hx hby at_281 (pc' := 283) rfl rfl rfl ?_
    refine own_callSpW X103 hx hEL ((c101.ext E103)) (rm_e1 l Z a0 hw [] b103 a11 h103 n0 hEL (A103) (F103_value) (F103_coder) l103 ((C100.ext E103))) rfl (hw _ (List.mem_of_getElem? (i := 27) rfl)) (hw _ (List.mem_of_getElem? (i := 28) rfl)) (hw _ (List.mem_of_getElem? (i := 29) rfl)) (hw _ (List.mem_of_getElem? (i := 1) rfl)) (by decide) (W := 1) (by decide) (by decide) (by rw [hml]; rfl) (argsL := [(.ref a11)]) (rest := [(.ref b103)]) rfl (lenOf own_pd13 rfl) rfl (Nat.le_of_eq rfl) (hb hby at_283) e103 (by decide) (by decide) ?_
    intro v104 T104 L104 vm104 X104 hQ104 W104 C104
    obtain ⟨hv104, N104q, K104, F104⟩ := hQ104
    subst hv104
    have N104 := Fr.app N100 N104q
    have hZ := W104.1
    have hown := W104.2.1
    show own_Go p.tables e below (T104.setTop (mkF m 286 #[.val (.int p1), .val (.int p2), .val (.int p3), .val (.int p4), .val (.int q4), .unset, .val (.ref a6), .val (.int q7), .val (.int q8), .val (.int (0 : Int32)), .val (.int q10), .val (.ref a11)] [(.ref b103)])) _
    refine own_astore X104 hx hby at_286 (pc' := 288) rfl rfl (Ls' := #[.val (.int p1), .val (.int p2), .val (.int p3), .val (.int p4), .val (.int q4), .val (.ref b103), .val (.ref a6), .val (.int q7), .val (.int q8), .val (.int (0 : Int32)), .val (.int q10), .val (.ref a11)]) rfl ?_
    exact tl_s hx hw hEL hby hml hret hlk (W104) (own_more X104 (by decide) (by decide)) rfl N104 hQ p1 p2 p3 p4 q4 b103 a6 q7 q8 (0 : Int32) q10 a11 [] _ aV kV r0 r1 f0 f1 aE gS fm (((c102.ext E103).keep K104 (allS l103 all0))) S_V A_V E_V FC hs F_0 F_1 T_0 T_1 S_E E_E F_E S_S hS S_F hfm S_0 S_1 (F104)
  · skip
    refine own_ifNo X100 hx hby at_253 (pc' := 256) rfl (feq hc253).1 ?_
    refine own_iload X100 hx hby at_256 (pc' := 258) rfl rfl ?_
    refine own_ifYes X100 hx hby at_258 (pc' := 277) (by decide) (by decide) ?_
    refine own_new X100 hx hby at_277 (pc' := 280) rfl hZ hown (hw _ (List.mem_of_getElem? (i := 26) rfl)) (hw _ (List.mem_of_getElem? (i := 2) rfl)) (hw _ (List.mem_of_getElem? (i := 1) rfl)) rfl (by decide) (by decide) ?_
    intro T105 h105 b105 X105 e105 g105 E105 A105 D105
    have F105_value : Fld Z h105 b105 "java/lang/String" "value" "[B" .null := D105 (Or.inr (hw _ (List.mem_of_getElem? (i := 4) rfl))) (ty := (.array .byte)) (by decide)
    have F105_coder : Fld Z h105 b105 "java/lang/String" "coder" "B" (.int (0 : Int32)) := D105 (Or.inr (hw _ (List.mem_of_getElem? (i := 5) rfl))) (ty := .byte) (by decide)
    have l105 : n0 ≤ b105 := (Nat.le_trans Z0 (Nat.le_trans (Nat.le_trans (Nat.le_trans (Nat.le_trans (Nat.le_trans (Nat.le_trans (Nat.le_trans (Nat.le_trans (Nat.le_trans (Nat.le_trans (Nat.le_trans (Nat.le_trans (Nat.le_trans (Nat.le_trans (Nat.le_refl _) K64.1) K67.1) K70.1) K73.1) K76.1) K79.1) K82.1) K85.1) K88.1) K91.1) K94.1) K97.1) K100.1) (Nat.le_of_eq g105.symm)))
    refine own_dup X105 hx hby at_280 (pc' := 281) rfl rfl ?_
    refine own_aload X105 hx hby at_281 (pc' := 283) rfl rfl rfl ?_
    refine own_callSpW X105 hx hEL ((c101.ext E105)) (rm_e1 l Z a0 hw [] b105 a11 h105 n0 hEL (A105) (F105_value) (F105_coder) l105 ((C100.ext E105))) rfl (hw _ (List.mem_of_getElem? (i := 27) rfl)) (hw _ (List.mem_of_getElem? (i := 28) rfl)) (hw _ (List.mem_of_getElem? (i := 29) rfl)) (hw _ (List.mem_of_getElem? (i := 1) rfl)) (by decide) (W := 1) (by decide) (by decide) (by rw [hml]; rfl) (argsL := [(.ref a11)]) (rest := [(.ref b105)]) rfl (lenOf own_pd13 rfl) rfl (Nat.le_of_eq rfl) (hb hby at_283) e105 (by decide) (by decide) ?_
    intro v106 T106 L106 vm106 X106 hQ106 W106 C106
    obtain ⟨hv106, N106q, K106, F106⟩ := hQ106
    subst hv106
    have N106 := Fr.app N100 N106q
    have hZ := W106.1
    have hown := W106.2.1
    show own_Go p.tables e below (T106.setTop (mkF m 286 #[.val (.int p1), .val (.int p2), .val (.int p3), .val (.int p4), .val (.int q4), .unset, .val (.ref a6), .val (.int q7), .val (.int q8), .val (.int (0 : Int32)), .val (.int q10), .val (.ref a11)] [(.ref b105)])) _
    refine own_astore X106 hx hby at_286 (pc' := 288) rfl rfl (Ls' := #[.val (.int p1), .val (.int p2), .val (.int p3), .val (.int p4), .val (.int q4), .val (.ref b105), .val (.ref a6), .val (.int q7), .val (.int q8), .val (.int (0 : Int32)), .val (.int q10), .val (.ref a11)]) rfl ?_
    exact tl_s hx hw hEL hby hml hret hlk (W106) (own_more X106 (by decide) (by decide)) rfl N106 hQ p1 p2 p3 p4 q4 b105 a6 q7 q8 (0 : Int32) q10 a11 [] _ aV kV r0 r1 f0 f1 aE gS fm (((c102.ext E105).keep K106 (allS l105 all0))) S_V A_V E_V FC hs F_0 F_1 T_0 T_1 S_E E_E F_E S_S hS S_F hfm S_0 S_1 (F106)
set_option maxRecDepth 65536 in
set_option maxHeartbeats 40000000 in
theorem tl_m10 {p : Program} {l : Launch} {e : Env} {s : State} {m : MethodId} {args : Array Value} {below : List Frame} {meth : Method} {c : Code} {T0 : State} {locs : List Loc} {Z : State} {a0 : Array Value} {h0 : Heap} {n0 : Nat} {vm0 : Vm} {Q : Option Value → Heap → List Loc → Prop} (hx : p.tables.exec = Jvm.exec) (hw : ∀ d ∈ tables_1, d.before a0 Z = true) (hEL : EW Z a0 own_EL) (hby : c.code = code) (hml : c.maxLocals = maxLocals) (hret : meth.sig.returnType = ret) (hlk : meth.locks = false) (W0 : own_Wd Z own_EL s vm0 m x.cls h0) (X0 : Stand p l e room_1 (s.setVm vm0) m args below meth c T0 locs 4 100) (e0 : T0.heap = h0) (N0 : Fr n0 locs) (hQ : ∀ h L, Fr n0 L → Q (some (.int 1)) h L) (p1 : Int32) (p2 : Int32) (p3 : Int32) (p4 : Int32) (q4 : Int32) (a6 : Addr) (q7 : Int32) (q8 : Int32) (q10 : Int32) (a11 : Addr) (ds : List Int32) (k0 : Nat) (aV : Addr) (kV : Cell) (r0 : Addr) (r1 : Addr) (f0 : Addr) (f1 : Addr) (aE : Addr) (gS : Int32) (fm : Value) (O_0 : Old Z n0 h0) (S_V : Sta Z Z.heap "com/example/inbound_throttle/inboundthrottle/rules/Algorithm" "$VALUES" "[Lcom/example/inbound_throttle/inboundthrottle/rules/Algorithm;" (.ref aV)) (A_V : Arr Z Z.heap aV kV (.object "com/example/inbound_throttle/inboundthrottle/rules/Algorithm")) (E_V : Exa Z Z.heap aV "[Lcom/example/inbound_throttle/inboundthrottle/rules/Algorithm;") (FC : FitC Z kV) (hs : kV.slots.toList = [.ref r0, .ref r1]) (F_0 : Fld Z Z.heap r0 "com/example/inbound_throttle/inboundthrottle/rules/Algorithm" "fileName" "Ljava/lang/String;" (.ref f0)) (F_1 : Fld Z Z.heap r1 "com/example/inbound_throttle/inboundthrottle/rules/Algorithm" "fileName" "Ljava/lang/String;" (.ref f1)) (T_0 : own_Str Z Z.heap Z.heap.size f0 own_FW) (T_1 : own_Str Z Z.heap Z.heap.size f1 own_SL) (S_E : Sta Z Z.heap "java/util/Optional" "EMPTY" "Ljava/util/Optional;" (.ref aE)) (E_E : Exa Z Z.heap aE "java/util/Optional") (F_E : Fld Z Z.heap aE "java/util/Optional" "value" "Ljava/lang/Object;" .null) (S_S : Sta Z Z.heap "java/lang/String" "COMPACT_STRINGS" "Z" (.int gS)) (hS : ¬ gS = 0) (S_F : Sta Z Z.heap "jdk/internal/util/Preconditions" "SIOOBE_FORMATTER" "Ljava/util/function/BiFunction;" fm) (hfm : fm.isRef = true) (S_0 : Sta Z Z.heap "com/example/inbound_throttle/inboundthrottle/rules/Algorithm" "FIXED_WINDOW" "Lcom/example/inbound_throttle/inboundthrottle/rules/Algorithm;" (.ref r0)) (S_1 : Sta Z Z.heap "com/example/inbound_throttle/inboundthrottle/rules/Algorithm" "SLIDING_LOG" "Lcom/example/inbound_throttle/inboundthrottle/rules/Algorithm;" (.ref r1)) (C_a : own_Ch Z h0 a11 10) (G_a : n0 ≤ a11) (T_6 : own_Str Z h0 k0 a6 ds) (hka : k0 ≤ a11) (hpad : own_B q10) :
    own_Go p.tables e below (T0.setTop (mkF m 111 #[.val (.int p1), .val (.int p2), .val (.int p3), .val (.int p4), .val (.int q4), .unset, .val (.ref a6), .val (.int q7), .val (.int q8), .val (.int (10 : Int32)), .val (.int q10), .val (.ref a11)] [])) (own_RH Z own_EL s Q room_1.cells room_1.slots) := by
  have hZ := W0.1
  have hown := W0.2.1
  have Z0 := own_Z0 O_0
  have hws : ∀ d ∈ StrChars.Road.words, d.before a0 Z = true := fun d hd => hw d ((by decide +kernel : ∀ d ∈ StrChars.Road.words, d ∈ tables_1) d hd)
  have hwE : ∀ d ∈ StrChars.Road.wordsEq, d.before a0 Z = true := fun d hd => hw d ((by decide +kernel : ∀ d ∈ StrChars.Road.wordsEq, d ∈ tables_1) d hd)
  have wS : ∀ d ∈ Bundle.stringAtoms, d.before a0 Z = true := fun d hd => hw d ((by decide +kernel : ∀ d ∈ Bundle.stringAtoms, d ∈ tables_1) d hd)
  have hwL : ∀ d ∈ StrChars.Road.wordsLen, d.before a0 Z = true := fun d hd => hw d ((by decide +kernel : ∀ d ∈ StrChars.Road.wordsLen, d ∈ tables_1) d hd)
  have hwC : ∀ d ∈ StrChars.Road.wordsChN, d.before a0 Z = true := fun d hd => hw d ((by decide +kernel : ∀ d ∈ StrChars.Road.wordsChN, d ∈ tables_1) d hd)
  refine own_aload X0 hx hby at_111 (pc' := 113) rfl rfl rfl ?_
  refine own_aload X0 hx hby at_113 (pc' := 115) rfl rfl rfl ?_
  refine own_iconst X0 hx hby at_115 (pc' := 116) rfl (z := (0 : Int32)) (by decide) ?_
  refine own_iload X0 hx hby at_116 (pc' := 118) rfl rfl ?_
  refine own_callS X0 hx hZ (rm_put l Z a0 hw [] a11 a6 (0 : Int32) q10 10 k0 ds gS fm h0 n0 (O_0) S_S hS S_F hfm (C_a) (T_6) (by decide) (by decide) hpad G_a) hown (hw _ (List.mem_of_getElem? (i := 22) rfl)) (hw _ (List.mem_of_getElem? (i := 23) rfl)) (hw _ (List.mem_of_getElem? (i := 24) rfl)) (hw _ (List.mem_of_getElem? (i := 25) rfl)) (by decide) (W := 0) (by decide) (by decide) (by rw [hml]; rfl) (argsL := [(.ref a11), (.ref a6), (.int (0 : Int32)), (.int q10)]) (rest := []) rfl (lenOf own_pd12 rfl) rfl (Nat.le_of_eq rfl) (hb hby at_118) e0 (by decide) (by decide) ?_
  intro v107 T107 L107 X107 hQ107
  obtain ⟨hv107, N107q, K107, C107⟩ := hQ107
  subst hv107
  have N107 := Fr.app N0 N107q
  have c108 := (W0.keep K107 (allS (own_Ch.safe C_a (W0).1.alike) all0))
  have c109 := (O_0.keep K107 (allS G_a all0))
  have t107 := (T_6.keep K107 (allS hka all0))
  show own_Go p.tables e below (T107.setTop (mkF m 121 #[.val (.int p1), .val (.int p2), .val (.int p3), .val (.int p4), .val (.int q4), .unset, .val (.ref a6), .val (.int q7), .val (.int q8), .val (.int (10 : Int32)), .val (.int q10), .val (.ref a11)] [])) _
  refine own_aload X107 hx hby at_121 (pc' := 123) rfl rfl rfl ?_
  refine own_aload X107 hx hby at_123 (pc' := 125) rfl rfl rfl ?_
  refine own_iconst X107 hx hby at_125 (pc' := 126) rfl (z := (1 : Int32)) (by decide) ?_
  refine own_iload X107 hx hby at_126 (pc' := 128) rfl rfl ?_
  refine own_callS X107 hx hZ (rm_put l Z a0 hw [] a11 a6 (1 : Int32) q10 10 k0 ds gS fm T107.heap n0 (c109) S_S hS S_F hfm (C107) (t107) (by decide) (by decide) hpad G_a) hown (hw _ (List.mem_of_getElem? (i := 22) rfl)) (hw _ (List.mem_of_getElem? (i := 23) rfl)) (hw _ (List.mem_of_getElem? (i := 24) rfl)) (hw _ (List.mem_of_getElem? (i := 25) rfl)) (by decide) (W := 0) (by decide) (by decide) (by rw [hml]; rfl) (argsL := [(.ref a11), (.ref a6), (.int (1 : Int32)), (.int q10)]) (rest := []) rfl (lenOf own_pd12 rfl) rfl (Nat.le_of_eq rfl) (hb hby at_128) rfl (by decide) (by decide) ?_
  intro v110 T110 L110 X110 hQ110
  obtain ⟨hv110, N110q, K110, C110⟩ := hQ110
  subst hv110
  have N110 := Fr.app N107 N110q
  have c111 := (c108.keep K110 (allS (own_Ch.safe C107 (c108).1.alike) all0))
  have c112 := (c109.keep K110 (allS G_a all0))
  have t110 := (t107.keep K110 (allS hka all0))
  show own_Go p.tables e below (T110.setTop (mkF m 131 #[.val (.int p1), .val (.int p2), .val (.int p3), .val (.int p4), .val (.int q4), .unset, .val (.ref a6), .val (.int q7), .val (.int q8), .val (.int (10 : Int32)), .val (.int q10), .val (.ref a11)] [])) _
  refine own_aload X110 hx hby at_131 (pc' := 133) rfl rfl rfl ?_
  refine own_aload X110 hx hby at_133 (pc' := 135) rfl rfl rfl ?_
  refine own_iconst X110 hx hby at_135 (pc' := 136) rfl (z := (2 : Int32)) (by decide) ?_
  refine own_iload X110 hx hby at_136 (pc' := 138) rfl rfl ?_
  refine own_callS X110 hx hZ (rm_put l Z a0 hw [] a11 a6 (2 : Int32) q10 10 k0 ds gS fm T110.heap n0 (c112) S_S hS S_F hfm (C110) (t110) (by decide) (by decide) hpad G_a) hown (hw _ (List.mem_of_getElem? (i := 22) rfl)) (hw _ (List.mem_of_getElem? (i := 23) rfl)) (hw _ (List.mem_of_getElem? (i := 24) rfl)) (hw _ (List.mem_of_getElem? (i := 25) rfl)) (by decide) (W := 0) (by decide) (by decide) (by rw [hml]; rfl) (argsL := [(.ref a11), (.ref a6), (.int (2 : Int32)), (.int q10)]) (rest := []) rfl (lenOf own_pd12 rfl) rfl (Nat.le_of_eq rfl) (hb hby at_138) rfl (by decide) (by decide) ?_
  intro v113 T113 L113 X113 hQ113
  obtain ⟨hv113, N113q, K113, C113⟩ := hQ113
  subst hv113
  have N113 := Fr.app N110 N113q
  have c114 := (c111.keep K113 (allS (own_Ch.safe C110 (c111).1.alike) all0))
  have c115 := (c112.keep K113 (allS G_a all0))
  have t113 := (t110.keep K113 (allS hka all0))
  show own_Go p.tables e below (T113.setTop (mkF m 141 #[.val (.int p1), .val (.int p2), .val (.int p3), .val (.int p4), .val (.int q4), .unset, .val (.ref a6), .val (.int q7), .val (.int q8), .val (.int (10 : Int32)), .val (.int q10), .val (.ref a11)] [])) _
  refine own_aload X113 hx hby at_141 (pc' := 143) rfl rfl rfl ?_
  refine own_aload X113 hx hby at_143 (pc' := 145) rfl rfl rfl ?_
  refine own_iconst X113 hx hby at_145 (pc' := 146) rfl (z := (3 : Int32)) (by decide) ?_
  refine own_iload X113 hx hby at_146 (pc' := 148) rfl rfl ?_
  refine own_callS X113 hx hZ (rm_put l Z a0 hw [] a11 a6 (3 : Int32) q10 10 k0 ds gS fm T113.heap n0 (c115) S_S hS S_F hfm (C113) (t113) (by decide) (by decide) hpad G_a) hown (hw _ (List.mem_of_getElem? (i := 22) rfl)) (hw _ (List.mem_of_getElem? (i := 23) rfl)) (hw _ (List.mem_of_getElem? (i := 24) rfl)) (hw _ (List.mem_of_getElem? (i := 25) rfl)) (by decide) (W := 0) (by decide) (by decide) (by rw [hml]; rfl) (argsL := [(.ref a11), (.ref a6), (.int (3 : Int32)), (.int q10)]) (rest := []) rfl (lenOf own_pd12 rfl) rfl (Nat.le_of_eq rfl) (hb hby at_148) rfl (by decide) (by decide) ?_
  intro v116 T116 L116 X116 hQ116
  obtain ⟨hv116, N116q, K116, C116⟩ := hQ116
  subst hv116
  have N116 := Fr.app N113 N116q
  have c117 := (c114.keep K116 (allS (own_Ch.safe C113 (c114).1.alike) all0))
  have c118 := (c115.keep K116 (allS G_a all0))
  have t116 := (t113.keep K116 (allS hka all0))
  show own_Go p.tables e below (T116.setTop (mkF m 151 #[.val (.int p1), .val (.int p2), .val (.int p3), .val (.int p4), .val (.int q4), .unset, .val (.ref a6), .val (.int q7), .val (.int q8), .val (.int (10 : Int32)), .val (.int q10), .val (.ref a11)] [])) _
  refine own_aload X116 hx hby at_151 (pc' := 153) rfl rfl rfl ?_
  refine own_aload X116 hx hby at_153 (pc' := 155) rfl rfl rfl ?_
  refine own_iconst X116 hx hby at_155 (pc' := 156) rfl (z := (4 : Int32)) (by decide) ?_
  refine own_iload X116 hx hby at_156 (pc' := 158) rfl rfl ?_
  refine own_callS X116 hx hZ (rm_put l Z a0 hw [] a11 a6 (4 : Int32) q10 10 k0 ds gS fm T116.heap n0 (c118) S_S hS S_F hfm (C116) (t116) (by decide) (by decide) hpad G_a) hown (hw _ (List.mem_of_getElem? (i := 22) rfl)) (hw _ (List.mem_of_getElem? (i := 23) rfl)) (hw _ (List.mem_of_getElem? (i := 24) rfl)) (hw _ (List.mem_of_getElem? (i := 25) rfl)) (by decide) (W := 0) (by decide) (by decide) (by rw [hml]; rfl) (argsL := [(.ref a11), (.ref a6), (.int (4 : Int32)), (.int q10)]) (rest := []) rfl (lenOf own_pd12 rfl) rfl (Nat.le_of_eq rfl) (hb hby at_158) rfl (by decide) (by decide) ?_
  intro v119 T119 L119 X119 hQ119
  obtain ⟨hv119, N119q, K119, C119⟩ := hQ119
  subst hv119
  have N119 := Fr.app N116 N119q
  have c120 := (c117.keep K119 (allS (own_Ch.safe C116 (c117).1.alike) all0))
  have c121 := (c118.keep K119 (allS G_a all0))
  have t119 := (t116.keep K119 (allS hka all0))
  show own_Go p.tables e below (T119.setTop (mkF m 161 #[.val (.int p1), .val (.int p2), .val (.int p3), .val (.int p4), .val (.int q4), .unset, .val (.ref a6), .val (.int q7), .val (.int q8), .val (.int (10 : Int32)), .val (.int q10), .val (.ref a11)] [])) _
  refine own_aload X119 hx hby at_161 (pc' := 163) rfl rfl rfl ?_
  refine own_aload X119 hx hby at_163 (pc' := 165) rfl rfl rfl ?_
  refine own_iconst X119 hx hby at_165 (pc' := 166) rfl (z := (5 : Int32)) (by decide) ?_
  refine own_iload X119 hx hby at_166 (pc' := 168) rfl rfl ?_
  refine own_callS X119 hx hZ (rm_put l Z a0 hw [] a11 a6 (5 : Int32) q10 10 k0 ds gS fm T119.heap n0 (c121) S_S hS S_F hfm (C119) (t119) (by decide) (by decide) hpad G_a) hown (hw _ (List.mem_of_getElem? (i := 22) rfl)) (hw _ (List.mem_of_getElem? (i := 23) rfl)) (hw _ (List.mem_of_getElem? (i := 24) rfl)) (hw _ (List.mem_of_getElem? (i := 25) rfl)) (by decide) (W := 0) (by decide) (by decide) (by rw [hml]; rfl) (argsL := [(.ref a11), (.ref a6), (.int (5 : Int32)), (.int q10)]) (rest := []) rfl (lenOf own_pd12 rfl) rfl (Nat.le_of_eq rfl) (hb hby at_168) rfl (by decide) (by decide) ?_
  intro v122 T122 L122 X122 hQ122
  obtain ⟨hv122, N122q, K122, C122⟩ := hQ122
  subst hv122
  have N122 := Fr.app N119 N122q
  have c123 := (c120.keep K122 (allS (own_Ch.safe C119 (c120).1.alike) all0))
  have c124 := (c121.keep K122 (allS G_a all0))
  have t122 := (t119.keep K122 (allS hka all0))
  show own_Go p.tables e below (T122.setTop (mkF m 171 #[.val (.int p1), .val (.int p2), .val (.int p3), .val (.int p4), .val (.int q4), .unset, .val (.ref a6), .val (.int q7), .val (.int q8), .val (.int (10 : Int32)), .val (.int q10), .val (.ref a11)] [])) _
  refine own_aload X122 hx hby at_171 (pc' := 173) rfl rfl rfl ?_
  refine own_aload X122 hx hby at_173 (pc' := 175) rfl rfl rfl ?_
  refine own_bipush X122 hx hby at_175 (pc' := 177) rfl (z := (6 : Int32)) (by decide) ?_
  refine own_iload X122 hx hby at_177 (pc' := 179) rfl rfl ?_
  refine own_callS X122 hx hZ (rm_put l Z a0 hw [] a11 a6 (6 : Int32) q10 10 k0 ds gS fm T122.heap n0 (c124) S_S hS S_F hfm (C122) (t122) (by decide) (by decide) hpad G_a) hown (hw _ (List.mem_of_getElem? (i := 22) rfl)) (hw _ (List.mem_of_getElem? (i := 23) rfl)) (hw _ (List.mem_of_getElem? (i := 24) rfl)) (hw _ (List.mem_of_getElem? (i := 25) rfl)) (by decide) (W := 0) (by decide) (by decide) (by rw [hml]; rfl) (argsL := [(.ref a11), (.ref a6), (.int (6 : Int32)), (.int q10)]) (rest := []) rfl (lenOf own_pd12 rfl) rfl (Nat.le_of_eq rfl) (hb hby at_179) rfl (by decide) (by decide) ?_
  intro v125 T125 L125 X125 hQ125
  obtain ⟨hv125, N125q, K125, C125⟩ := hQ125
  subst hv125
  have N125 := Fr.app N122 N125q
  have c126 := (c123.keep K125 (allS (own_Ch.safe C122 (c123).1.alike) all0))
  have c127 := (c124.keep K125 (allS G_a all0))
  have t125 := (t122.keep K125 (allS hka all0))
  show own_Go p.tables e below (T125.setTop (mkF m 182 #[.val (.int p1), .val (.int p2), .val (.int p3), .val (.int p4), .val (.int q4), .unset, .val (.ref a6), .val (.int q7), .val (.int q8), .val (.int (10 : Int32)), .val (.int q10), .val (.ref a11)] [])) _
  refine own_aload X125 hx hby at_182 (pc' := 184) rfl rfl rfl ?_
  refine own_aload X125 hx hby at_184 (pc' := 186) rfl rfl rfl ?_
  refine own_bipush X125 hx hby at_186 (pc' := 188) rfl (z := (7 : Int32)) (by decide) ?_
  refine own_iload X125 hx hby at_188 (pc' := 190) rfl rfl ?_
  refine own_callS X125 hx hZ (rm_put l Z a0 hw [] a11 a6 (7 : Int32) q10 10 k0 ds gS fm T125.heap n0 (c127) S_S hS S_F hfm (C125) (t125) (by decide) (by decide) hpad G_a) hown (hw _ (List.mem_of_getElem? (i := 22) rfl)) (hw _ (List.mem_of_getElem? (i := 23) rfl)) (hw _ (List.mem_of_getElem? (i := 24) rfl)) (hw _ (List.mem_of_getElem? (i := 25) rfl)) (by decide) (W := 0) (by decide) (by decide) (by rw [hml]; rfl) (argsL := [(.ref a11), (.ref a6), (.int (7 : Int32)), (.int q10)]) (rest := []) rfl (lenOf own_pd12 rfl) rfl (Nat.le_of_eq rfl) (hb hby at_190) rfl (by decide) (by decide) ?_
  intro v128 T128 L128 X128 hQ128
  obtain ⟨hv128, N128q, K128, C128⟩ := hQ128
  subst hv128
  have N128 := Fr.app N125 N128q
  have c129 := (c126.keep K128 (allS (own_Ch.safe C125 (c126).1.alike) all0))
  have c130 := (c127.keep K128 (allS G_a all0))
  have t128 := (t125.keep K128 (allS hka all0))
  show own_Go p.tables e below (T128.setTop (mkF m 193 #[.val (.int p1), .val (.int p2), .val (.int p3), .val (.int p4), .val (.int q4), .unset, .val (.ref a6), .val (.int q7), .val (.int q8), .val (.int (10 : Int32)), .val (.int q10), .val (.ref a11)] [])) _
  refine own_aload X128 hx hby at_193 (pc' := 195) rfl rfl rfl ?_
  refine own_aload X128 hx hby at_195 (pc' := 197) rfl rfl rfl ?_
  refine own_bipush X128 hx hby at_197 (pc' := 199) rfl (z := (8 : Int32)) (by decide) ?_
  refine own_iload X128 hx hby at_199 (pc' := 201) rfl rfl ?_
  refine own_callS X128 hx hZ (rm_put l Z a0 hw [] a11 a6 (8 : Int32) q10 10 k0 ds gS fm T128.heap n0 (c130) S_S hS S_F hfm (C128) (t128) (by decide) (by decide) hpad G_a) hown (hw _ (List.mem_of_getElem? (i := 22) rfl)) (hw _ (List.mem_of_getElem? (i := 23) rfl)) (hw _ (List.mem_of_getElem? (i := 24) rfl)) (hw _ (List.mem_of_getElem? (i := 25) rfl)) (by decide) (W := 0) (by decide) (by decide) (by rw [hml]; rfl) (argsL := [(.ref a11), (.ref a6), (.int (8 : Int32)), (.int q10)]) (rest := []) rfl (lenOf own_pd12 rfl) rfl (Nat.le_of_eq rfl) (hb hby at_201) rfl (by decide) (by decide) ?_
  intro v131 T131 L131 X131 hQ131
  obtain ⟨hv131, N131q, K131, C131⟩ := hQ131
  subst hv131
  have N131 := Fr.app N128 N131q
  have c132 := (c129.keep K131 (allS (own_Ch.safe C128 (c129).1.alike) all0))
  have c133 := (c130.keep K131 (allS G_a all0))
  have t131 := (t128.keep K131 (allS hka all0))
  show own_Go p.tables e below (T131.setTop (mkF m 204 #[.val (.int p1), .val (.int p2), .val (.int p3), .val (.int p4), .val (.int q4), .unset, .val (.ref a6), .val (.int q7), .val (.int q8), .val (.int (10 : Int32)), .val (.int q10), .val (.ref a11)] [])) _
  refine own_aload X131 hx hby at_204 (pc' := 206) rfl rfl rfl ?_
  refine own_aload X131 hx hby at_206 (pc' := 208) rfl rfl rfl ?_
  refine own_bipush X131 hx hby at_208 (pc' := 210) rfl (z := (9 : Int32)) (by decide) ?_
  refine own_iload X131 hx hby at_210 (pc' := 212) rfl rfl ?_
  refine own_callS X131 hx hZ (rm_put l Z a0 hw [] a11 a6 (9 : Int32) q10 10 k0 ds gS fm T131.heap n0 (c133) S_S hS S_F hfm (C131) (t131) (by decide) (by decide) hpad G_a) hown (hw _ (List.mem_of_getElem? (i := 22) rfl)) (hw _ (List.mem_of_getElem? (i := 23) rfl)) (hw _ (List.mem_of_getElem? (i := 24) rfl)) (hw _ (List.mem_of_getElem? (i := 25) rfl)) (by decide) (W := 0) (by decide) (by decide) (by rw [hml]; rfl) (argsL := [(.ref a11), (.ref a6), (.int (9 : Int32)), (.int q10)]) (rest := []) rfl (lenOf own_pd12 rfl) rfl (Nat.le_of_eq rfl) (hb hby at_212) rfl (by decide) (by decide) ?_
  intro v134 T134 L134 X134 hQ134
  obtain ⟨hv134, N134q, K134, C134⟩ := hQ134
  subst hv134
  have N134 := Fr.app N131 N134q
  have c135 := (c132.keep K134 (allS (own_Ch.safe C131 (c132).1.alike) all0))
  have c136 := (c133.keep K134 (allS G_a all0))
  have t134 := (t131.keep K134 (allS hka all0))
  show own_Go p.tables e below (T134.setTop (mkF m 215 #[.val (.int p1), .val (.int p2), .val (.int p3), .val (.int p4), .val (.int q4), .unset, .val (.ref a6), .val (.int q7), .val (.int q8), .val (.int (10 : Int32)), .val (.int q10), .val (.ref a11)] [])) _
  refine own_aload X134 hx hby at_215 (pc' := 217) rfl rfl rfl ?_
  refine own_aload X134 hx hby at_217 (pc' := 219) rfl rfl rfl ?_
  refine own_bipush X134 hx hby at_219 (pc' := 221) rfl (z := (10 : Int32)) (by decide) ?_
  refine own_iload X134 hx hby at_221 (pc' := 223) rfl rfl ?_
  refine own_callS X134 hx hZ (rm_put l Z a0 hw [] a11 a6 (10 : Int32) q10 10 k0 ds gS fm T134.heap n0 (c136) S_S hS S_F hfm (C134) (t134) (by decide) (by decide) hpad G_a) hown (hw _ (List.mem_of_getElem? (i := 22) rfl)) (hw _ (List.mem_of_getElem? (i := 23) rfl)) (hw _ (List.mem_of_getElem? (i := 24) rfl)) (hw _ (List.mem_of_getElem? (i := 25) rfl)) (by decide) (W := 0) (by decide) (by decide) (by rw [hml]; rfl) (argsL := [(.ref a11), (.ref a6), (.int (10 : Int32)), (.int q10)]) (rest := []) rfl (lenOf own_pd12 rfl) rfl (Nat.le_of_eq rfl) (hb hby at_223) rfl (by decide) (by decide) ?_
  intro v137 T137 L137 X137 hQ137
  obtain ⟨hv137, N137q, K137, C137⟩ := hQ137
  subst hv137
  have N137 := Fr.app N134 N137q
  have c138 := (c135.keep K137 (allS (own_Ch.safe C134 (c135).1.alike) all0))
  have c139 := (c136.keep K137 (allS G_a all0))
  have t137 := (t134.keep K137 (allS hka all0))
  show own_Go p.tables e below (T137.setTop (mkF m 226 #[.val (.int p1), .val (.int p2), .val (.int p3), .val (.int p4), .val (.int q4), .unset, .val (.ref a6), .val (.int q7), .val (.int q8), .val (.int (10 : Int32)), .val (.int q10), .val (.ref a11)] [])) _
  refine own_aload X137 hx hby at_226 (pc' := 228) rfl rfl rfl ?_
  refine own_aload X137 hx hby at_228 (pc' := 230) rfl rfl rfl ?_
  refine own_bipush X137 hx hby at_230 (pc' := 232) rfl (z := (11 : Int32)) (by decide) ?_
  refine own_iload X137 hx hby at_232 (pc' := 234) rfl rfl ?_
  refine own_callS X137 hx hZ (rm_put l Z a0 hw [] a11 a6 (11 : Int32) q10 10 k0 ds gS fm T137.heap n0 (c139) S_S hS S_F hfm (C137) (t137) (by decide) (by decide) hpad G_a) hown (hw _ (List.mem_of_getElem? (i := 22) rfl)) (hw _ (List.mem_of_getElem? (i := 23) rfl)) (hw _ (List.mem_of_getElem? (i := 24) rfl)) (hw _ (List.mem_of_getElem? (i := 25) rfl)) (by decide) (W := 0) (by decide) (by decide) (by rw [hml]; rfl) (argsL := [(.ref a11), (.ref a6), (.int (11 : Int32)), (.int q10)]) (rest := []) rfl (lenOf own_pd12 rfl) rfl (Nat.le_of_eq rfl) (hb hby at_234) rfl (by decide) (by decide) ?_
  intro v140 T140 L140 X140 hQ140
  obtain ⟨hv140, N140q, K140, C140⟩ := hQ140
  subst hv140
  have N140 := Fr.app N137 N140q
  have c141 := (c138.keep K140 (allS (own_Ch.safe C137 (c138).1.alike) all0))
  have c142 := (c139.keep K140 (allS G_a all0))
  have t140 := (t137.keep K140 (allS hka all0))
  show own_Go p.tables e below (T140.setTop (mkF m 237 #[.val (.int p1), .val (.int p2), .val (.int p3), .val (.int p4), .val (.int q4), .unset, .val (.ref a6), .val (.int q7), .val (.int q8), .val (.int (10 : Int32)), .val (.int q10), .val (.ref a11)] [])) _
  refine own_aload X140 hx hby at_237 (pc' := 239) rfl rfl rfl ?_
  refine own_aload X140 hx hby at_239 (pc' := 241) rfl rfl rfl ?_
  refine own_bipush X140 hx hby at_241 (pc' := 243) rfl (z := (12 : Int32)) (by decide) ?_
  refine own_iload X140 hx hby at_243 (pc' := 245) rfl rfl ?_
  refine own_callS X140 hx hZ (rm_put l Z a0 hw [] a11 a6 (12 : Int32) q10 10 k0 ds gS fm T140.heap n0 (c142) S_S hS S_F hfm (C140) (t140) (by decide) (by decide) hpad G_a) hown (hw _ (List.mem_of_getElem? (i := 22) rfl)) (hw _ (List.mem_of_getElem? (i := 23) rfl)) (hw _ (List.mem_of_getElem? (i := 24) rfl)) (hw _ (List.mem_of_getElem? (i := 25) rfl)) (by decide) (W := 0) (by decide) (by decide) (by rw [hml]; rfl) (argsL := [(.ref a11), (.ref a6), (.int (12 : Int32)), (.int q10)]) (rest := []) rfl (lenOf own_pd12 rfl) rfl (Nat.le_of_eq rfl) (hb hby at_245) rfl (by decide) (by decide) ?_
  intro v143 T143 L143 X143 hQ143
  obtain ⟨hv143, N143q, K143, C143⟩ := hQ143
  subst hv143
  have N143 := Fr.app N140 N143q
  have c144 := (c141.keep K143 (allS (own_Ch.safe C140 (c141).1.alike) all0))
  have c145 := (c142.keep K143 (allS G_a all0))
  have t143 := (t140.keep K143 (allS hka all0))
  show own_Go p.tables e below (T143.setTop (mkF m 248 #[.val (.int p1), .val (.int p2), .val (.int p3), .val (.int p4), .val (.int q4), .unset, .val (.ref a6), .val (.int q7), .val (.int q8), .val (.int (10 : Int32)), .val (.int q10), .val (.ref a11)] [])) _
  refine own_iloadN X143 hx hby at_248 (pc' := 249) rfl rfl ?_
  refine own_iconst X143 hx hby at_249 (pc' := 250) rfl (z := (3 : Int32)) (by decide) ?_
  refine own_iushr X143 hx hby at_250 (pc' := 251) rfl rfl ?_
  refine own_iconst X143 hx hby at_251 (pc' := 252) rfl (z := (1 : Int32)) (by decide) ?_
  refine own_iand X143 hx hby at_252 (pc' := 253) rfl rfl ?_
  by_cases hc253 : (((p2.toUInt32 >>> ((3 : Int32) &&& 31).toUInt32).toInt32) &&& (1 : Int32)) = (0 : Int32)
  · skip
    refine own_ifYes X143 hx hby at_253 (pc' := 277) (by decide) (teq hc253).1 ?_
    refine own_new X143 hx hby at_277 (pc' := 280) rfl hZ hown (hw _ (List.mem_of_getElem? (i := 26) rfl)) (hw _ (List.mem_of_getElem? (i := 2) rfl)) (hw _ (List.mem_of_getElem? (i := 1) rfl)) rfl (by decide) (by decide) ?_
    intro T146 h146 b146 X146 e146 g146 E146 A146 D146
    have F146_value : Fld Z h146 b146 "java/lang/String" "value" "[B" .null := D146 (Or.inr (hw _ (List.mem_of_getElem? (i := 4) rfl))) (ty := (.array .byte)) (by decide)
    have F146_coder : Fld Z h146 b146 "java/lang/String" "coder" "B" (.int (0 : Int32)) := D146 (Or.inr (hw _ (List.mem_of_getElem? (i := 5) rfl))) (ty := .byte) (by decide)
    have l146 : n0 ≤ b146 := (Nat.le_trans Z0 (Nat.le_trans (Nat.le_trans (Nat.le_trans (Nat.le_trans (Nat.le_trans (Nat.le_trans (Nat.le_trans (Nat.le_trans (Nat.le_trans (Nat.le_trans (Nat.le_trans (Nat.le_trans (Nat.le_trans (Nat.le_trans (Nat.le_refl _) K107.1) K110.1) K113.1) K116.1) K119.1) K122.1) K125.1) K128.1) K131.1) K134.1) K137.1) K140.1) K143.1) (Nat.le_of_eq g146.symm)))
    refine own_dup X146 hx hby at_280 (pc' := 281) rfl rfl ?_
    refine own_aload X146 hx hby at_281 (pc' := 283) rfl rfl rfl ?_
    refine own_callSpB X146 hx hZ (own_strB (W := 1) hZ hws (hw _ (List.mem_of_getElem? (i := 2) rfl)) l146 (own_Z0 ((c145.ext E146))) (A146) (F146_value) (F146_coder) ((C143.ext E146)) (S_S.ext ((c145.ext E146)).2) hS (by decide) (by decide) (by decide) (by decide)) rfl hown (hw _ (List.mem_of_getElem? (i := 27) rfl)) (hw _ (List.mem_of_getElem? (i := 28) rfl)) (hw _ (List.mem_of_getElem? (i := 29) rfl)) (by decide) (by rw [hml]; rfl) (argsL := [(.ref a11)]) (rest := [(.ref b146)]) rfl (lenOf own_pd13 rfl) rfl (Nat.le_of_eq rfl) (hb hby at_283) e146 (by decide) (by decide) ?_
    intro v147 T147 L147 X147 hQ147
    obtain ⟨hv147, N147q, K147, cs147, F147⟩ := hQ147
    subst hv147
    have N147 := Fr.app N143 N147q
    have c148 := ((c144.ext E146).keep K147 (allS (Safe.ext E146 (c144).ch (Safe.new (Nat.le_of_eq g146.symm))) all0))
    have c149 := ((c145.ext E146).keep K147 (allS l146 all0))
    show own_Go p.tables e below (T147.setTop (mkF m 286 #[.val (.int p1), .val (.int p2), .val (.int p3), .val (.int p4), .val (.int q4), .unset, .val (.ref a6), .val (.int q7), .val (.int q8), .val (.int (10 : Int32)), .val (.int q10), .val (.ref a11)] [(.ref b146)])) _
    refine own_astore X147 hx hby at_286 (pc' := 288) rfl rfl (Ls' := #[.val (.int p1), .val (.int p2), .val (.int p3), .val (.int p4), .val (.int q4), .val (.ref b146), .val (.ref a6), .val (.int q7), .val (.int q8), .val (.int (10 : Int32)), .val (.int q10), .val (.ref a11)]) rfl ?_
    exact tl_s hx hw hEL hby hml hret hlk (c148) (own_more X147 (by decide) (by decide)) rfl N147 hQ p1 p2 p3 p4 q4 b146 a6 q7 q8 (10 : Int32) q10 a11 cs147 _ aV kV r0 r1 f0 f1 aE gS fm (c149) S_V A_V E_V FC hs F_0 F_1 T_0 T_1 S_E E_E F_E S_S hS S_F hfm S_0 S_1 (F147)
  · skip
    refine own_ifNo X143 hx hby at_253 (pc' := 256) rfl (feq hc253).1 ?_
    refine own_iload X143 hx hby at_256 (pc' := 258) rfl rfl ?_
    refine own_ifNo X143 hx hby at_258 (pc' := 261) rfl (by decide) ?_
    refine own_aload X143 hx hby at_261 (pc' := 263) rfl rfl rfl ?_
    refine own_iloadN X143 hx hby at_263 (pc' := 264) rfl rfl ?_
    refine own_ldc X143 hx hby at_264 (pc' := 266) rfl hZ hown (hw _ (List.mem_of_getElem? (i := 117) rfl)) ?_
    refine own_iand X143 hx hby at_266 (pc' := 267) rfl rfl ?_
    refine own_iload X143 hx hby at_267 (pc' := 269) rfl rfl ?_
    refine own_irem X143 hx hby at_269 (pc' := 270) rfl (by decide) rfl ?_
    refine own_iloadN X143 hx hby at_270 (pc' := 271) rfl rfl ?_
    refine own_sipush X143 hx hby at_271 (pc' := 274) rfl (z := (255 : Int32)) (by decide) ?_
    refine own_iand X143 hx hby at_274 (pc' := 275) rfl rfl ?_
    refine own_i2c X143 hx hby at_275 (pc' := 276) rfl rfl ?_
    refine own_castoreC X143 hx hby at_276 (pc' := 277) rfl hZ rfl (C143) (own_rem (q := p3) (d := (10 : Int32)) (k := 10) (by decide) (by decide) (by decide) (by decide)).1 (own_rem (q := p3) (d := (10 : Int32)) (k := 10) (by decide) (by decide) (by decide) (by decide)).2 ((own_narB (own_c255 _)).symm ▸ own_c255 _) ?_
    intro T150 h150 X150 e150 W150 C150
    have N150 := Fr.snoc X150 N143 G_a
    have c151 := (c144.wr W150 (own_Ch.safe C143 (c144).1.alike))
    have c152 := (c145.wr W150 G_a)
    refine own_new X150 hx hby at_277 (pc' := 280) rfl hZ hown (hw _ (List.mem_of_getElem? (i := 26) rfl)) (hw _ (List.mem_of_getElem? (i := 2) rfl)) (hw _ (List.mem_of_getElem? (i := 1) rfl)) e150 (by decide) (by decide) ?_
    intro T153 h153 b153 X153 e153 g153 E153 A153 D153
    have F153_value : Fld Z h153 b153 "java/lang/String" "value" "[B" .null := D153 (Or.inr (hw _ (List.mem_of_getElem? (i := 4) rfl))) (ty := (.array .byte)) (by decide)
    have F153_coder : Fld Z h153 b153 "java/lang/String" "coder" "B" (.int (0 : Int32)) := D153 (Or.inr (hw _ (List.mem_of_getElem? (i := 5) rfl))) (ty := .byte) (by decide)
    have l153 : n0 ≤ b153 := (Nat.le_trans Z0 (Nat.le_trans (Nat.le_trans (Nat.le_trans (Nat.le_trans (Nat.le_trans (Nat.le_trans (Nat.le_trans (Nat.le_trans (Nat.le_trans (Nat.le_trans (Nat.le_trans (Nat.le_trans (Nat.le_trans (Nat.le_trans (Nat.le_trans (Nat.le_refl _) K107.1) K110.1) K113.1) K116.1) K119.1) K122.1) K125.1) K128.1) K131.1) K134.1) K137.1) K140.1) K143.1) (Nat.le_of_eq (Wr.size W150).symm)) (Nat.le_of_eq g153.symm)))
    refine own_dup X153 hx hby at_280 (pc' := 281) rfl rfl ?_
    refine own_aload X153 hx hby at_281 (pc' := 283) rfl rfl rfl ?_
    refine own_callSpB X153 hx hZ (own_strB (W := 1) hZ hws (hw _ (List.mem_of_getElem? (i := 2) rfl)) l153 (own_Z0 ((c152.ext E153))) (A153) (F153_value) (F153_coder) ((C150.ext E153)) (S_S.ext ((c152.ext E153)).2) hS (by decide) (by decide) (by decide) (by decide)) rfl hown (hw _ (List.mem_of_getElem? (i := 27) rfl)) (hw _ (List.mem_of_getElem? (i := 28) rfl)) (hw _ (List.mem_of_getElem? (i := 29) rfl)) (by decide) (by rw [hml]; rfl) (argsL := [(.ref a11)]) (rest := [(.ref b153)]) rfl (lenOf own_pd13 rfl) rfl (Nat.le_of_eq rfl) (hb hby at_283) e153 (by decide) (by decide) ?_
    intro v154 T154 L154 X154 hQ154
    obtain ⟨hv154, N154q, K154, cs154, F154⟩ := hQ154
    subst hv154
    have N154 := Fr.app N150 N154q
    have c155 := ((c151.ext E153).keep K154 (allS (Safe.ext E153 (c151).ch (Safe.new (Nat.le_of_eq g153.symm))) all0))
    have c156 := ((c152.ext E153).keep K154 (allS l153 all0))
    show own_Go p.tables e below (T154.setTop (mkF m 286 #[.val (.int p1), .val (.int p2), .val (.int p3), .val (.int p4), .val (.int q4), .unset, .val (.ref a6), .val (.int q7), .val (.int q8), .val (.int (10 : Int32)), .val (.int q10), .val (.ref a11)] [(.ref b153)])) _
    refine own_astore X154 hx hby at_286 (pc' := 288) rfl rfl (Ls' := #[.val (.int p1), .val (.int p2), .val (.int p3), .val (.int p4), .val (.int q4), .val (.ref b153), .val (.ref a6), .val (.int q7), .val (.int q8), .val (.int (10 : Int32)), .val (.int q10), .val (.ref a11)]) rfl ?_
    exact tl_s hx hw hEL hby hml hret hlk (c155) (own_more X154 (by decide) (by decide)) rfl N154 hQ p1 p2 p3 p4 q4 b153 a6 q7 q8 (10 : Int32) q10 a11 cs154 _ aV kV r0 r1 f0 f1 aE gS fm (c156) S_V A_V E_V FC hs F_0 F_1 T_0 T_1 S_E E_E F_E S_S hS S_F hfm S_0 S_1 (F154)
set_option maxRecDepth 65536 in
set_option maxHeartbeats 40000000 in
theorem tl_m11 {p : Program} {l : Launch} {e : Env} {s : State} {m : MethodId} {args : Array Value} {below : List Frame} {meth : Method} {c : Code} {T0 : State} {locs : List Loc} {Z : State} {a0 : Array Value} {h0 : Heap} {n0 : Nat} {vm0 : Vm} {Q : Option Value → Heap → List Loc → Prop} (hx : p.tables.exec = Jvm.exec) (hw : ∀ d ∈ tables_1, d.before a0 Z = true) (hEL : EW Z a0 own_EL) (hby : c.code = code) (hml : c.maxLocals = maxLocals) (hret : meth.sig.returnType = ret) (hlk : meth.locks = false) (W0 : own_Wd Z own_EL s vm0 m x.cls h0) (X0 : Stand p l e room_1 (s.setVm vm0) m args below meth c T0 locs 4 100) (e0 : T0.heap = h0) (N0 : Fr n0 locs) (hQ : ∀ h L, Fr n0 L → Q (some (.int 1)) h L) (p1 : Int32) (p2 : Int32) (p3 : Int32) (p4 : Int32) (q4 : Int32) (a6 : Addr) (q7 : Int32) (q8 : Int32) (q10 : Int32) (a11 : Addr) (ds : List Int32) (k0 : Nat) (aV : Addr) (kV : Cell) (r0 : Addr) (r1 : Addr) (f0 : Addr) (f1 : Addr) (aE : Addr) (gS : Int32) (fm : Value) (O_0 : Old Z n0 h0) (S_V : Sta Z Z.heap "com/example/inbound_throttle/inboundthrottle/rules/Algorithm" "$VALUES" "[Lcom/example/inbound_throttle/inboundthrottle/rules/Algorithm;" (.ref aV)) (A_V : Arr Z Z.heap aV kV (.object "com/example/inbound_throttle/inboundthrottle/rules/Algorithm")) (E_V : Exa Z Z.heap aV "[Lcom/example/inbound_throttle/inboundthrottle/rules/Algorithm;") (FC : FitC Z kV) (hs : kV.slots.toList = [.ref r0, .ref r1]) (F_0 : Fld Z Z.heap r0 "com/example/inbound_throttle/inboundthrottle/rules/Algorithm" "fileName" "Ljava/lang/String;" (.ref f0)) (F_1 : Fld Z Z.heap r1 "com/example/inbound_throttle/inboundthrottle/rules/Algorithm" "fileName" "Ljava/lang/String;" (.ref f1)) (T_0 : own_Str Z Z.heap Z.heap.size f0 own_FW) (T_1 : own_Str Z Z.heap Z.heap.size f1 own_SL) (S_E : Sta Z Z.heap "java/util/Optional" "EMPTY" "Ljava/util/Optional;" (.ref aE)) (E_E : Exa Z Z.heap aE "java/util/Optional") (F_E : Fld Z Z.heap aE "java/util/Optional" "value" "Ljava/lang/Object;" .null) (S_S : Sta Z Z.heap "java/lang/String" "COMPACT_STRINGS" "Z" (.int gS)) (hS : ¬ gS = 0) (S_F : Sta Z Z.heap "jdk/internal/util/Preconditions" "SIOOBE_FORMATTER" "Ljava/util/function/BiFunction;" fm) (hfm : fm.isRef = true) (S_0 : Sta Z Z.heap "com/example/inbound_throttle/inboundthrottle/rules/Algorithm" "FIXED_WINDOW" "Lcom/example/inbound_throttle/inboundthrottle/rules/Algorithm;" (.ref r0)) (S_1 : Sta Z Z.heap "com/example/inbound_throttle/inboundthrottle/rules/Algorithm" "SLIDING_LOG" "Lcom/example/inbound_throttle/inboundthrottle/rules/Algorithm;" (.ref r1)) (C_a : own_Ch Z h0 a11 11) (G_a : n0 ≤ a11) (T_6 : own_Str Z h0 k0 a6 ds) (hka : k0 ≤ a11) (hpad : own_B q10) :
    own_Go p.tables e below (T0.setTop (mkF m 111 #[.val (.int p1), .val (.int p2), .val (.int p3), .val (.int p4), .val (.int q4), .unset, .val (.ref a6), .val (.int q7), .val (.int q8), .val (.int (11 : Int32)), .val (.int q10), .val (.ref a11)] [])) (own_RH Z own_EL s Q room_1.cells room_1.slots) := by
  have hZ := W0.1
  have hown := W0.2.1
  have Z0 := own_Z0 O_0
  have hws : ∀ d ∈ StrChars.Road.words, d.before a0 Z = true := fun d hd => hw d ((by decide +kernel : ∀ d ∈ StrChars.Road.words, d ∈ tables_1) d hd)
  have hwE : ∀ d ∈ StrChars.Road.wordsEq, d.before a0 Z = true := fun d hd => hw d ((by decide +kernel : ∀ d ∈ StrChars.Road.wordsEq, d ∈ tables_1) d hd)
  have wS : ∀ d ∈ Bundle.stringAtoms, d.before a0 Z = true := fun d hd => hw d ((by decide +kernel : ∀ d ∈ Bundle.stringAtoms, d ∈ tables_1) d hd)
  have hwL : ∀ d ∈ StrChars.Road.wordsLen, d.before a0 Z = true := fun d hd => hw d ((by decide +kernel : ∀ d ∈ StrChars.Road.wordsLen, d ∈ tables_1) d hd)
  have hwC : ∀ d ∈ StrChars.Road.wordsChN, d.before a0 Z = true := fun d hd => hw d ((by decide +kernel : ∀ d ∈ StrChars.Road.wordsChN, d ∈ tables_1) d hd)
  refine own_aload X0 hx hby at_111 (pc' := 113) rfl rfl rfl ?_
  refine own_aload X0 hx hby at_113 (pc' := 115) rfl rfl rfl ?_
  refine own_iconst X0 hx hby at_115 (pc' := 116) rfl (z := (0 : Int32)) (by decide) ?_
  refine own_iload X0 hx hby at_116 (pc' := 118) rfl rfl ?_
  refine own_callS X0 hx hZ (rm_put l Z a0 hw [] a11 a6 (0 : Int32) q10 11 k0 ds gS fm h0 n0 (O_0) S_S hS S_F hfm (C_a) (T_6) (by decide) (by decide) hpad G_a) hown (hw _ (List.mem_of_getElem? (i := 22) rfl)) (hw _ (List.mem_of_getElem? (i := 23) rfl)) (hw _ (List.mem_of_getElem? (i := 24) rfl)) (hw _ (List.mem_of_getElem? (i := 25) rfl)) (by decide) (W := 0) (by decide) (by decide) (by rw [hml]; rfl) (argsL := [(.ref a11), (.ref a6), (.int (0 : Int32)), (.int q10)]) (rest := []) rfl (lenOf own_pd12 rfl) rfl (Nat.le_of_eq rfl) (hb hby at_118) e0 (by decide) (by decide) ?_
  intro v157 T157 L157 X157 hQ157
  obtain ⟨hv157, N157q, K157, C157⟩ := hQ157
  subst hv157
  have N157 := Fr.app N0 N157q
  have c158 := (W0.keep K157 (allS (own_Ch.safe C_a (W0).1.alike) all0))
  have c159 := (O_0.keep K157 (allS G_a all0))
  have t157 := (T_6.keep K157 (allS hka all0))
  show own_Go p.tables e below (T157.setTop (mkF m 121 #[.val (.int p1), .val (.int p2), .val (.int p3), .val (.int p4), .val (.int q4), .unset, .val (.ref a6), .val (.int q7), .val (.int q8), .val (.int (11 : Int32)), .val (.int q10), .val (.ref a11)] [])) _
  refine own_aload X157 hx hby at_121 (pc' := 123) rfl rfl rfl ?_
  refine own_aload X157 hx hby at_123 (pc' := 125) rfl rfl rfl ?_
  refine own_iconst X157 hx hby at_125 (pc' := 126) rfl (z := (1 : Int32)) (by decide) ?_
  refine own_iload X157 hx hby at_126 (pc' := 128) rfl rfl ?_
  refine own_callS X157 hx hZ (rm_put l Z a0 hw [] a11 a6 (1 : Int32) q10 11 k0 ds gS fm T157.heap n0 (c159) S_S hS S_F hfm (C157) (t157) (by decide) (by decide) hpad G_a) hown (hw _ (List.mem_of_getElem? (i := 22) rfl)) (hw _ (List.mem_of_getElem? (i := 23) rfl)) (hw _ (List.mem_of_getElem? (i := 24) rfl)) (hw _ (List.mem_of_getElem? (i := 25) rfl)) (by decide) (W := 0) (by decide) (by decide) (by rw [hml]; rfl) (argsL := [(.ref a11), (.ref a6), (.int (1 : Int32)), (.int q10)]) (rest := []) rfl (lenOf own_pd12 rfl) rfl (Nat.le_of_eq rfl) (hb hby at_128) rfl (by decide) (by decide) ?_
  intro v160 T160 L160 X160 hQ160
  obtain ⟨hv160, N160q, K160, C160⟩ := hQ160
  subst hv160
  have N160 := Fr.app N157 N160q
  have c161 := (c158.keep K160 (allS (own_Ch.safe C157 (c158).1.alike) all0))
  have c162 := (c159.keep K160 (allS G_a all0))
  have t160 := (t157.keep K160 (allS hka all0))
  show own_Go p.tables e below (T160.setTop (mkF m 131 #[.val (.int p1), .val (.int p2), .val (.int p3), .val (.int p4), .val (.int q4), .unset, .val (.ref a6), .val (.int q7), .val (.int q8), .val (.int (11 : Int32)), .val (.int q10), .val (.ref a11)] [])) _
  refine own_aload X160 hx hby at_131 (pc' := 133) rfl rfl rfl ?_
  refine own_aload X160 hx hby at_133 (pc' := 135) rfl rfl rfl ?_
  refine own_iconst X160 hx hby at_135 (pc' := 136) rfl (z := (2 : Int32)) (by decide) ?_
  refine own_iload X160 hx hby at_136 (pc' := 138) rfl rfl ?_
  refine own_callS X160 hx hZ (rm_put l Z a0 hw [] a11 a6 (2 : Int32) q10 11 k0 ds gS fm T160.heap n0 (c162) S_S hS S_F hfm (C160) (t160) (by decide) (by decide) hpad G_a) hown (hw _ (List.mem_of_getElem? (i := 22) rfl)) (hw _ (List.mem_of_getElem? (i := 23) rfl)) (hw _ (List.mem_of_getElem? (i := 24) rfl)) (hw _ (List.mem_of_getElem? (i := 25) rfl)) (by decide) (W := 0) (by decide) (by decide) (by rw [hml]; rfl) (argsL := [(.ref a11), (.ref a6), (.int (2 : Int32)), (.int q10)]) (rest := []) rfl (lenOf own_pd12 rfl) rfl (Nat.le_of_eq rfl) (hb hby at_138) rfl (by decide) (by decide) ?_
  intro v163 T163 L163 X163 hQ163
  obtain ⟨hv163, N163q, K163, C163⟩ := hQ163
  subst hv163
  have N163 := Fr.app N160 N163q
  have c164 := (c161.keep K163 (allS (own_Ch.safe C160 (c161).1.alike) all0))
  have c165 := (c162.keep K163 (allS G_a all0))
  have t163 := (t160.keep K163 (allS hka all0))
  show own_Go p.tables e below (T163.setTop (mkF m 141 #[.val (.int p1), .val (.int p2), .val (.int p3), .val (.int p4), .val (.int q4), .unset, .val (.ref a6), .val (.int q7), .val (.int q8), .val (.int (11 : Int32)), .val (.int q10), .val (.ref a11)] [])) _
  refine own_aload X163 hx hby at_141 (pc' := 143) rfl rfl rfl ?_
  refine own_aload X163 hx hby at_143 (pc' := 145) rfl rfl rfl ?_
  refine own_iconst X163 hx hby at_145 (pc' := 146) rfl (z := (3 : Int32)) (by decide) ?_
  refine own_iload X163 hx hby at_146 (pc' := 148) rfl rfl ?_
  refine own_callS X163 hx hZ (rm_put l Z a0 hw [] a11 a6 (3 : Int32) q10 11 k0 ds gS fm T163.heap n0 (c165) S_S hS S_F hfm (C163) (t163) (by decide) (by decide) hpad G_a) hown (hw _ (List.mem_of_getElem? (i := 22) rfl)) (hw _ (List.mem_of_getElem? (i := 23) rfl)) (hw _ (List.mem_of_getElem? (i := 24) rfl)) (hw _ (List.mem_of_getElem? (i := 25) rfl)) (by decide) (W := 0) (by decide) (by decide) (by rw [hml]; rfl) (argsL := [(.ref a11), (.ref a6), (.int (3 : Int32)), (.int q10)]) (rest := []) rfl (lenOf own_pd12 rfl) rfl (Nat.le_of_eq rfl) (hb hby at_148) rfl (by decide) (by decide) ?_
  intro v166 T166 L166 X166 hQ166
  obtain ⟨hv166, N166q, K166, C166⟩ := hQ166
  subst hv166
  have N166 := Fr.app N163 N166q
  have c167 := (c164.keep K166 (allS (own_Ch.safe C163 (c164).1.alike) all0))
  have c168 := (c165.keep K166 (allS G_a all0))
  have t166 := (t163.keep K166 (allS hka all0))
  show own_Go p.tables e below (T166.setTop (mkF m 151 #[.val (.int p1), .val (.int p2), .val (.int p3), .val (.int p4), .val (.int q4), .unset, .val (.ref a6), .val (.int q7), .val (.int q8), .val (.int (11 : Int32)), .val (.int q10), .val (.ref a11)] [])) _
  refine own_aload X166 hx hby at_151 (pc' := 153) rfl rfl rfl ?_
  refine own_aload X166 hx hby at_153 (pc' := 155) rfl rfl rfl ?_
  refine own_iconst X166 hx hby at_155 (pc' := 156) rfl (z := (4 : Int32)) (by decide) ?_
  refine own_iload X166 hx hby at_156 (pc' := 158) rfl rfl ?_
  refine own_callS X166 hx hZ (rm_put l Z a0 hw [] a11 a6 (4 : Int32) q10 11 k0 ds gS fm T166.heap n0 (c168) S_S hS S_F hfm (C166) (t166) (by decide) (by decide) hpad G_a) hown (hw _ (List.mem_of_getElem? (i := 22) rfl)) (hw _ (List.mem_of_getElem? (i := 23) rfl)) (hw _ (List.mem_of_getElem? (i := 24) rfl)) (hw _ (List.mem_of_getElem? (i := 25) rfl)) (by decide) (W := 0) (by decide) (by decide) (by rw [hml]; rfl) (argsL := [(.ref a11), (.ref a6), (.int (4 : Int32)), (.int q10)]) (rest := []) rfl (lenOf own_pd12 rfl) rfl (Nat.le_of_eq rfl) (hb hby at_158) rfl (by decide) (by decide) ?_
  intro v169 T169 L169 X169 hQ169
  obtain ⟨hv169, N169q, K169, C169⟩ := hQ169
  subst hv169
  have N169 := Fr.app N166 N169q
  have c170 := (c167.keep K169 (allS (own_Ch.safe C166 (c167).1.alike) all0))
  have c171 := (c168.keep K169 (allS G_a all0))
  have t169 := (t166.keep K169 (allS hka all0))
  show own_Go p.tables e below (T169.setTop (mkF m 161 #[.val (.int p1), .val (.int p2), .val (.int p3), .val (.int p4), .val (.int q4), .unset, .val (.ref a6), .val (.int q7), .val (.int q8), .val (.int (11 : Int32)), .val (.int q10), .val (.ref a11)] [])) _
  refine own_aload X169 hx hby at_161 (pc' := 163) rfl rfl rfl ?_
  refine own_aload X169 hx hby at_163 (pc' := 165) rfl rfl rfl ?_
  refine own_iconst X169 hx hby at_165 (pc' := 166) rfl (z := (5 : Int32)) (by decide) ?_
  refine own_iload X169 hx hby at_166 (pc' := 168) rfl rfl ?_
  refine own_callS X169 hx hZ (rm_put l Z a0 hw [] a11 a6 (5 : Int32) q10 11 k0 ds gS fm T169.heap n0 (c171) S_S hS S_F hfm (C169) (t169) (by decide) (by decide) hpad G_a) hown (hw _ (List.mem_of_getElem? (i := 22) rfl)) (hw _ (List.mem_of_getElem? (i := 23) rfl)) (hw _ (List.mem_of_getElem? (i := 24) rfl)) (hw _ (List.mem_of_getElem? (i := 25) rfl)) (by decide) (W := 0) (by decide) (by decide) (by rw [hml]; rfl) (argsL := [(.ref a11), (.ref a6), (.int (5 : Int32)), (.int q10)]) (rest := []) rfl (lenOf own_pd12 rfl) rfl (Nat.le_of_eq rfl) (hb hby at_168) rfl (by decide) (by decide) ?_
  intro v172 T172 L172 X172 hQ172
  obtain ⟨hv172, N172q, K172, C172⟩ := hQ172
  subst hv172
  have N172 := Fr.app N169 N172q
  have c173 := (c170.keep K172 (allS (own_Ch.safe C169 (c170).1.alike) all0))
  have c174 := (c171.keep K172 (allS G_a all0))
  have t172 := (t169.keep K172 (allS hka all0))
  show own_Go p.tables e below (T172.setTop (mkF m 171 #[.val (.int p1), .val (.int p2), .val (.int p3), .val (.int p4), .val (.int q4), .unset, .val (.ref a6), .val (.int q7), .val (.int q8), .val (.int (11 : Int32)), .val (.int q10), .val (.ref a11)] [])) _
  refine own_aload X172 hx hby at_171 (pc' := 173) rfl rfl rfl ?_
  refine own_aload X172 hx hby at_173 (pc' := 175) rfl rfl rfl ?_
  refine own_bipush X172 hx hby at_175 (pc' := 177) rfl (z := (6 : Int32)) (by decide) ?_
  refine own_iload X172 hx hby at_177 (pc' := 179) rfl rfl ?_
  refine own_callS X172 hx hZ (rm_put l Z a0 hw [] a11 a6 (6 : Int32) q10 11 k0 ds gS fm T172.heap n0 (c174) S_S hS S_F hfm (C172) (t172) (by decide) (by decide) hpad G_a) hown (hw _ (List.mem_of_getElem? (i := 22) rfl)) (hw _ (List.mem_of_getElem? (i := 23) rfl)) (hw _ (List.mem_of_getElem? (i := 24) rfl)) (hw _ (List.mem_of_getElem? (i := 25) rfl)) (by decide) (W := 0) (by decide) (by decide) (by rw [hml]; rfl) (argsL := [(.ref a11), (.ref a6), (.int (6 : Int32)), (.int q10)]) (rest := []) rfl (lenOf own_pd12 rfl) rfl (Nat.le_of_eq rfl) (hb hby at_179) rfl (by decide) (by decide) ?_
  intro v175 T175 L175 X175 hQ175
  obtain ⟨hv175, N175q, K175, C175⟩ := hQ175
  subst hv175
  have N175 := Fr.app N172 N175q
  have c176 := (c173.keep K175 (allS (own_Ch.safe C172 (c173).1.alike) all0))
  have c177 := (c174.keep K175 (allS G_a all0))
  have t175 := (t172.keep K175 (allS hka all0))
  show own_Go p.tables e below (T175.setTop (mkF m 182 #[.val (.int p1), .val (.int p2), .val (.int p3), .val (.int p4), .val (.int q4), .unset, .val (.ref a6), .val (.int q7), .val (.int q8), .val (.int (11 : Int32)), .val (.int q10), .val (.ref a11)] [])) _
  refine own_aload X175 hx hby at_182 (pc' := 184) rfl rfl rfl ?_
  refine own_aload X175 hx hby at_184 (pc' := 186) rfl rfl rfl ?_
  refine own_bipush X175 hx hby at_186 (pc' := 188) rfl (z := (7 : Int32)) (by decide) ?_
  refine own_iload X175 hx hby at_188 (pc' := 190) rfl rfl ?_
  refine own_callS X175 hx hZ (rm_put l Z a0 hw [] a11 a6 (7 : Int32) q10 11 k0 ds gS fm T175.heap n0 (c177) S_S hS S_F hfm (C175) (t175) (by decide) (by decide) hpad G_a) hown (hw _ (List.mem_of_getElem? (i := 22) rfl)) (hw _ (List.mem_of_getElem? (i := 23) rfl)) (hw _ (List.mem_of_getElem? (i := 24) rfl)) (hw _ (List.mem_of_getElem? (i := 25) rfl)) (by decide) (W := 0) (by decide) (by decide) (by rw [hml]; rfl) (argsL := [(.ref a11), (.ref a6), (.int (7 : Int32)), (.int q10)]) (rest := []) rfl (lenOf own_pd12 rfl) rfl (Nat.le_of_eq rfl) (hb hby at_190) rfl (by decide) (by decide) ?_
  intro v178 T178 L178 X178 hQ178
  obtain ⟨hv178, N178q, K178, C178⟩ := hQ178
  subst hv178
  have N178 := Fr.app N175 N178q
  have c179 := (c176.keep K178 (allS (own_Ch.safe C175 (c176).1.alike) all0))
  have c180 := (c177.keep K178 (allS G_a all0))
  have t178 := (t175.keep K178 (allS hka all0))
  show own_Go p.tables e below (T178.setTop (mkF m 193 #[.val (.int p1), .val (.int p2), .val (.int p3), .val (.int p4), .val (.int q4), .unset, .val (.ref a6), .val (.int q7), .val (.int q8), .val (.int (11 : Int32)), .val (.int q10), .val (.ref a11)] [])) _
  refine own_aload X178 hx hby at_193 (pc' := 195) rfl rfl rfl ?_
  refine own_aload X178 hx hby at_195 (pc' := 197) rfl rfl rfl ?_
  refine own_bipush X178 hx hby at_197 (pc' := 199) rfl (z := (8 : Int32)) (by decide) ?_
  refine own_iload X178 hx hby at_199 (pc' := 201) rfl rfl ?_
  refine own_callS X178 hx hZ (rm_put l Z a0 hw [] a11 a6 (8 : Int32) q10 11 k0 ds gS fm T178.heap n0 (c180) S_S hS S_F hfm (C178) (t178) (by decide) (by decide) hpad G_a) hown (hw _ (List.mem_of_getElem? (i := 22) rfl)) (hw _ (List.mem_of_getElem? (i := 23) rfl)) (hw _ (List.mem_of_getElem? (i := 24) rfl)) (hw _ (List.mem_of_getElem? (i := 25) rfl)) (by decide) (W := 0) (by decide) (by decide) (by rw [hml]; rfl) (argsL := [(.ref a11), (.ref a6), (.int (8 : Int32)), (.int q10)]) (rest := []) rfl (lenOf own_pd12 rfl) rfl (Nat.le_of_eq rfl) (hb hby at_201) rfl (by decide) (by decide) ?_
  intro v181 T181 L181 X181 hQ181
  obtain ⟨hv181, N181q, K181, C181⟩ := hQ181
  subst hv181
  have N181 := Fr.app N178 N181q
  have c182 := (c179.keep K181 (allS (own_Ch.safe C178 (c179).1.alike) all0))
  have c183 := (c180.keep K181 (allS G_a all0))
  have t181 := (t178.keep K181 (allS hka all0))
  show own_Go p.tables e below (T181.setTop (mkF m 204 #[.val (.int p1), .val (.int p2), .val (.int p3), .val (.int p4), .val (.int q4), .unset, .val (.ref a6), .val (.int q7), .val (.int q8), .val (.int (11 : Int32)), .val (.int q10), .val (.ref a11)] [])) _
  refine own_aload X181 hx hby at_204 (pc' := 206) rfl rfl rfl ?_
  refine own_aload X181 hx hby at_206 (pc' := 208) rfl rfl rfl ?_
  refine own_bipush X181 hx hby at_208 (pc' := 210) rfl (z := (9 : Int32)) (by decide) ?_
  refine own_iload X181 hx hby at_210 (pc' := 212) rfl rfl ?_
  refine own_callS X181 hx hZ (rm_put l Z a0 hw [] a11 a6 (9 : Int32) q10 11 k0 ds gS fm T181.heap n0 (c183) S_S hS S_F hfm (C181) (t181) (by decide) (by decide) hpad G_a) hown (hw _ (List.mem_of_getElem? (i := 22) rfl)) (hw _ (List.mem_of_getElem? (i := 23) rfl)) (hw _ (List.mem_of_getElem? (i := 24) rfl)) (hw _ (List.mem_of_getElem? (i := 25) rfl)) (by decide) (W := 0) (by decide) (by decide) (by rw [hml]; rfl) (argsL := [(.ref a11), (.ref a6), (.int (9 : Int32)), (.int q10)]) (rest := []) rfl (lenOf own_pd12 rfl) rfl (Nat.le_of_eq rfl) (hb hby at_212) rfl (by decide) (by decide) ?_
  intro v184 T184 L184 X184 hQ184
  obtain ⟨hv184, N184q, K184, C184⟩ := hQ184
  subst hv184
  have N184 := Fr.app N181 N184q
  have c185 := (c182.keep K184 (allS (own_Ch.safe C181 (c182).1.alike) all0))
  have c186 := (c183.keep K184 (allS G_a all0))
  have t184 := (t181.keep K184 (allS hka all0))
  show own_Go p.tables e below (T184.setTop (mkF m 215 #[.val (.int p1), .val (.int p2), .val (.int p3), .val (.int p4), .val (.int q4), .unset, .val (.ref a6), .val (.int q7), .val (.int q8), .val (.int (11 : Int32)), .val (.int q10), .val (.ref a11)] [])) _
  refine own_aload X184 hx hby at_215 (pc' := 217) rfl rfl rfl ?_
  refine own_aload X184 hx hby at_217 (pc' := 219) rfl rfl rfl ?_
  refine own_bipush X184 hx hby at_219 (pc' := 221) rfl (z := (10 : Int32)) (by decide) ?_
  refine own_iload X184 hx hby at_221 (pc' := 223) rfl rfl ?_
  refine own_callS X184 hx hZ (rm_put l Z a0 hw [] a11 a6 (10 : Int32) q10 11 k0 ds gS fm T184.heap n0 (c186) S_S hS S_F hfm (C184) (t184) (by decide) (by decide) hpad G_a) hown (hw _ (List.mem_of_getElem? (i := 22) rfl)) (hw _ (List.mem_of_getElem? (i := 23) rfl)) (hw _ (List.mem_of_getElem? (i := 24) rfl)) (hw _ (List.mem_of_getElem? (i := 25) rfl)) (by decide) (W := 0) (by decide) (by decide) (by rw [hml]; rfl) (argsL := [(.ref a11), (.ref a6), (.int (10 : Int32)), (.int q10)]) (rest := []) rfl (lenOf own_pd12 rfl) rfl (Nat.le_of_eq rfl) (hb hby at_223) rfl (by decide) (by decide) ?_
  intro v187 T187 L187 X187 hQ187
  obtain ⟨hv187, N187q, K187, C187⟩ := hQ187
  subst hv187
  have N187 := Fr.app N184 N187q
  have c188 := (c185.keep K187 (allS (own_Ch.safe C184 (c185).1.alike) all0))
  have c189 := (c186.keep K187 (allS G_a all0))
  have t187 := (t184.keep K187 (allS hka all0))
  show own_Go p.tables e below (T187.setTop (mkF m 226 #[.val (.int p1), .val (.int p2), .val (.int p3), .val (.int p4), .val (.int q4), .unset, .val (.ref a6), .val (.int q7), .val (.int q8), .val (.int (11 : Int32)), .val (.int q10), .val (.ref a11)] [])) _
  refine own_aload X187 hx hby at_226 (pc' := 228) rfl rfl rfl ?_
  refine own_aload X187 hx hby at_228 (pc' := 230) rfl rfl rfl ?_
  refine own_bipush X187 hx hby at_230 (pc' := 232) rfl (z := (11 : Int32)) (by decide) ?_
  refine own_iload X187 hx hby at_232 (pc' := 234) rfl rfl ?_
  refine own_callS X187 hx hZ (rm_put l Z a0 hw [] a11 a6 (11 : Int32) q10 11 k0 ds gS fm T187.heap n0 (c189) S_S hS S_F hfm (C187) (t187) (by decide) (by decide) hpad G_a) hown (hw _ (List.mem_of_getElem? (i := 22) rfl)) (hw _ (List.mem_of_getElem? (i := 23) rfl)) (hw _ (List.mem_of_getElem? (i := 24) rfl)) (hw _ (List.mem_of_getElem? (i := 25) rfl)) (by decide) (W := 0) (by decide) (by decide) (by rw [hml]; rfl) (argsL := [(.ref a11), (.ref a6), (.int (11 : Int32)), (.int q10)]) (rest := []) rfl (lenOf own_pd12 rfl) rfl (Nat.le_of_eq rfl) (hb hby at_234) rfl (by decide) (by decide) ?_
  intro v190 T190 L190 X190 hQ190
  obtain ⟨hv190, N190q, K190, C190⟩ := hQ190
  subst hv190
  have N190 := Fr.app N187 N190q
  have c191 := (c188.keep K190 (allS (own_Ch.safe C187 (c188).1.alike) all0))
  have c192 := (c189.keep K190 (allS G_a all0))
  have t190 := (t187.keep K190 (allS hka all0))
  show own_Go p.tables e below (T190.setTop (mkF m 237 #[.val (.int p1), .val (.int p2), .val (.int p3), .val (.int p4), .val (.int q4), .unset, .val (.ref a6), .val (.int q7), .val (.int q8), .val (.int (11 : Int32)), .val (.int q10), .val (.ref a11)] [])) _
  refine own_aload X190 hx hby at_237 (pc' := 239) rfl rfl rfl ?_
  refine own_aload X190 hx hby at_239 (pc' := 241) rfl rfl rfl ?_
  refine own_bipush X190 hx hby at_241 (pc' := 243) rfl (z := (12 : Int32)) (by decide) ?_
  refine own_iload X190 hx hby at_243 (pc' := 245) rfl rfl ?_
  refine own_callS X190 hx hZ (rm_put l Z a0 hw [] a11 a6 (12 : Int32) q10 11 k0 ds gS fm T190.heap n0 (c192) S_S hS S_F hfm (C190) (t190) (by decide) (by decide) hpad G_a) hown (hw _ (List.mem_of_getElem? (i := 22) rfl)) (hw _ (List.mem_of_getElem? (i := 23) rfl)) (hw _ (List.mem_of_getElem? (i := 24) rfl)) (hw _ (List.mem_of_getElem? (i := 25) rfl)) (by decide) (W := 0) (by decide) (by decide) (by rw [hml]; rfl) (argsL := [(.ref a11), (.ref a6), (.int (12 : Int32)), (.int q10)]) (rest := []) rfl (lenOf own_pd12 rfl) rfl (Nat.le_of_eq rfl) (hb hby at_245) rfl (by decide) (by decide) ?_
  intro v193 T193 L193 X193 hQ193
  obtain ⟨hv193, N193q, K193, C193⟩ := hQ193
  subst hv193
  have N193 := Fr.app N190 N193q
  have c194 := (c191.keep K193 (allS (own_Ch.safe C190 (c191).1.alike) all0))
  have c195 := (c192.keep K193 (allS G_a all0))
  have t193 := (t190.keep K193 (allS hka all0))
  show own_Go p.tables e below (T193.setTop (mkF m 248 #[.val (.int p1), .val (.int p2), .val (.int p3), .val (.int p4), .val (.int q4), .unset, .val (.ref a6), .val (.int q7), .val (.int q8), .val (.int (11 : Int32)), .val (.int q10), .val (.ref a11)] [])) _
  refine own_iloadN X193 hx hby at_248 (pc' := 249) rfl rfl ?_
  refine own_iconst X193 hx hby at_249 (pc' := 250) rfl (z := (3 : Int32)) (by decide) ?_
  refine own_iushr X193 hx hby at_250 (pc' := 251) rfl rfl ?_
  refine own_iconst X193 hx hby at_251 (pc' := 252) rfl (z := (1 : Int32)) (by decide) ?_
  refine own_iand X193 hx hby at_252 (pc' := 253) rfl rfl ?_
  by_cases hc253 : (((p2.toUInt32 >>> ((3 : Int32) &&& 31).toUInt32).toInt32) &&& (1 : Int32)) = (0 : Int32)
  · skip
    refine own_ifYes X193 hx hby at_253 (pc' := 277) (by decide) (teq hc253).1 ?_
    refine own_new X193 hx hby at_277 (pc' := 280) rfl hZ hown (hw _ (List.mem_of_getElem? (i := 26) rfl)) (hw _ (List.mem_of_getElem? (i := 2) rfl)) (hw _ (List.mem_of_getElem? (i := 1) rfl)) rfl (by decide) (by decide) ?_
    intro T196 h196 b196 X196 e196 g196 E196 A196 D196
    have F196_value : Fld Z h196 b196 "java/lang/String" "value" "[B" .null := D196 (Or.inr (hw _ (List.mem_of_getElem? (i := 4) rfl))) (ty := (.array .byte)) (by decide)
    have F196_coder : Fld Z h196 b196 "java/lang/String" "coder" "B" (.int (0 : Int32)) := D196 (Or.inr (hw _ (List.mem_of_getElem? (i := 5) rfl))) (ty := .byte) (by decide)
    have l196 : n0 ≤ b196 := (Nat.le_trans Z0 (Nat.le_trans (Nat.le_trans (Nat.le_trans (Nat.le_trans (Nat.le_trans (Nat.le_trans (Nat.le_trans (Nat.le_trans (Nat.le_trans (Nat.le_trans (Nat.le_trans (Nat.le_trans (Nat.le_trans (Nat.le_trans (Nat.le_refl _) K157.1) K160.1) K163.1) K166.1) K169.1) K172.1) K175.1) K178.1) K181.1) K184.1) K187.1) K190.1) K193.1) (Nat.le_of_eq g196.symm)))
    refine own_dup X196 hx hby at_280 (pc' := 281) rfl rfl ?_
    refine own_aload X196 hx hby at_281 (pc' := 283) rfl rfl rfl ?_
    refine own_callSpB X196 hx hZ (own_strB (W := 1) hZ hws (hw _ (List.mem_of_getElem? (i := 2) rfl)) l196 (own_Z0 ((c195.ext E196))) (A196) (F196_value) (F196_coder) ((C193.ext E196)) (S_S.ext ((c195.ext E196)).2) hS (by decide) (by decide) (by decide) (by decide)) rfl hown (hw _ (List.mem_of_getElem? (i := 27) rfl)) (hw _ (List.mem_of_getElem? (i := 28) rfl)) (hw _ (List.mem_of_getElem? (i := 29) rfl)) (by decide) (by rw [hml]; rfl) (argsL := [(.ref a11)]) (rest := [(.ref b196)]) rfl (lenOf own_pd13 rfl) rfl (Nat.le_of_eq rfl) (hb hby at_283) e196 (by decide) (by decide) ?_
    intro v197 T197 L197 X197 hQ197
    obtain ⟨hv197, N197q, K197, cs197, F197⟩ := hQ197
    subst hv197
    have N197 := Fr.app N193 N197q
    have c198 := ((c194.ext E196).keep K197 (allS (Safe.ext E196 (c194).ch (Safe.new (Nat.le_of_eq g196.symm))) all0))
    have c199 := ((c195.ext E196).keep K197 (allS l196 all0))
    show own_Go p.tables e below (T197.setTop (mkF m 286 #[.val (.int p1), .val (.int p2), .val (.int p3), .val (.int p4), .val (.int q4), .unset, .val (.ref a6), .val (.int q7), .val (.int q8), .val (.int (11 : Int32)), .val (.int q10), .val (.ref a11)] [(.ref b196)])) _
    refine own_astore X197 hx hby at_286 (pc' := 288) rfl rfl (Ls' := #[.val (.int p1), .val (.int p2), .val (.int p3), .val (.int p4), .val (.int q4), .val (.ref b196), .val (.ref a6), .val (.int q7), .val (.int q8), .val (.int (11 : Int32)), .val (.int q10), .val (.ref a11)]) rfl ?_
    exact tl_s hx hw hEL hby hml hret hlk (c198) (own_more X197 (by decide) (by decide)) rfl N197 hQ p1 p2 p3 p4 q4 b196 a6 q7 q8 (11 : Int32) q10 a11 cs197 _ aV kV r0 r1 f0 f1 aE gS fm (c199) S_V A_V E_V FC hs F_0 F_1 T_0 T_1 S_E E_E F_E S_S hS S_F hfm S_0 S_1 (F197)
  · skip
    refine own_ifNo X193 hx hby at_253 (pc' := 256) rfl (feq hc253).1 ?_
    refine own_iload X193 hx hby at_256 (pc' := 258) rfl rfl ?_
    refine own_ifNo X193 hx hby at_258 (pc' := 261) rfl (by decide) ?_
    refine own_aload X193 hx hby at_261 (pc' := 263) rfl rfl rfl ?_
    refine own_iloadN X193 hx hby at_263 (pc' := 264) rfl rfl ?_
    refine own_ldc X193 hx hby at_264 (pc' := 266) rfl hZ hown (hw _ (List.mem_of_getElem? (i := 117) rfl)) ?_
    refine own_iand X193 hx hby at_266 (pc' := 267) rfl rfl ?_
    refine own_iload X193 hx hby at_267 (pc' := 269) rfl rfl ?_
    refine own_irem X193 hx hby at_269 (pc' := 270) rfl (by decide) rfl ?_
    refine own_iloadN X193 hx hby at_270 (pc' := 271) rfl rfl ?_
    refine own_sipush X193 hx hby at_271 (pc' := 274) rfl (z := (255 : Int32)) (by decide) ?_
    refine own_iand X193 hx hby at_274 (pc' := 275) rfl rfl ?_
    refine own_i2c X193 hx hby at_275 (pc' := 276) rfl rfl ?_
    refine own_castoreC X193 hx hby at_276 (pc' := 277) rfl hZ rfl (C193) (own_rem (q := p3) (d := (11 : Int32)) (k := 11) (by decide) (by decide) (by decide) (by decide)).1 (own_rem (q := p3) (d := (11 : Int32)) (k := 11) (by decide) (by decide) (by decide) (by decide)).2 ((own_narB (own_c255 _)).symm ▸ own_c255 _) ?_
    intro T200 h200 X200 e200 W200 C200
    have N200 := Fr.snoc X200 N193 G_a
    have c201 := (c194.wr W200 (own_Ch.safe C193 (c194).1.alike))
    have c202 := (c195.wr W200 G_a)
    refine own_new X200 hx hby at_277 (pc' := 280) rfl hZ hown (hw _ (List.mem_of_getElem? (i := 26) rfl)) (hw _ (List.mem_of_getElem? (i := 2) rfl)) (hw _ (List.mem_of_getElem? (i := 1) rfl)) e200 (by decide) (by decide) ?_
    intro T203 h203 b203 X203 e203 g203 E203 A203 D203
    have F203_value : Fld Z h203 b203 "java/lang/String" "value" "[B" .null := D203 (Or.inr (hw _ (List.mem_of_getElem? (i := 4) rfl))) (ty := (.array .byte)) (by decide)
    have F203_coder : Fld Z h203 b203 "java/lang/String" "coder" "B" (.int (0 : Int32)) := D203 (Or.inr (hw _ (List.mem_of_getElem? (i := 5) rfl))) (ty := .byte) (by decide)
    have l203 : n0 ≤ b203 := (Nat.le_trans Z0 (Nat.le_trans (Nat.le_trans (Nat.le_trans (Nat.le_trans (Nat.le_trans (Nat.le_trans (Nat.le_trans (Nat.le_trans (Nat.le_trans (Nat.le_trans (Nat.le_trans (Nat.le_trans (Nat.le_trans (Nat.le_trans (Nat.le_trans (Nat.le_refl _) K157.1) K160.1) K163.1) K166.1) K169.1) K172.1) K175.1) K178.1) K181.1) K184.1) K187.1) K190.1) K193.1) (Nat.le_of_eq (Wr.size W200).symm)) (Nat.le_of_eq g203.symm)))
    refine own_dup X203 hx hby at_280 (pc' := 281) rfl rfl ?_
    refine own_aload X203 hx hby at_281 (pc' := 283) rfl rfl rfl ?_
    refine own_callSpB X203 hx hZ (own_strB (W := 1) hZ hws (hw _ (List.mem_of_getElem? (i := 2) rfl)) l203 (own_Z0 ((c202.ext E203))) (A203) (F203_value) (F203_coder) ((C200.ext E203)) (S_S.ext ((c202.ext E203)).2) hS (by decide) (by decide) (by decide) (by decide)) rfl hown (hw _ (List.mem_of_getElem? (i := 27) rfl)) (hw _ (List.mem_of_getElem? (i := 28) rfl)) (hw _ (List.mem_of_getElem? (i := 29) rfl)) (by decide) (by rw [hml]; rfl) (argsL := [(.ref a11)]) (rest := [(.ref b203)]) rfl (lenOf own_pd13 rfl) rfl (Nat.le_of_eq rfl) (hb hby at_283) e203 (by decide) (by decide) ?_
    intro v204 T204 L204 X204 hQ204
    obtain ⟨hv204, N204q, K204, cs204, F204⟩ := hQ204
    subst hv204
    have N204 := Fr.app N200 N204q
    have c205 := ((c201.ext E203).keep K204 (allS (Safe.ext E203 (c201).ch (Safe.new (Nat.le_of_eq g203.symm))) all0))
    have c206 := ((c202.ext E203).keep K204 (allS l203 all0))
    show own_Go p.tables e below (T204.setTop (mkF m 286 #[.val (.int p1), .val (.int p2), .val (.int p3), .val (.int p4), .val (.int q4), .unset, .val (.ref a6), .val (.int q7), .val (.int q8), .val (.int (11 : Int32)), .val (.int q10), .val (.ref a11)] [(.ref b203)])) _
    refine own_astore X204 hx hby at_286 (pc' := 288) rfl rfl (Ls' := #[.val (.int p1), .val (.int p2), .val (.int p3), .val (.int p4), .val (.int q4), .val (.ref b203), .val (.ref a6), .val (.int q7), .val (.int q8), .val (.int (11 : Int32)), .val (.int q10), .val (.ref a11)]) rfl ?_
    exact tl_s hx hw hEL hby hml hret hlk (c205) (own_more X204 (by decide) (by decide)) rfl N204 hQ p1 p2 p3 p4 q4 b203 a6 q7 q8 (11 : Int32) q10 a11 cs204 _ aV kV r0 r1 f0 f1 aE gS fm (c206) S_V A_V E_V FC hs F_0 F_1 T_0 T_1 S_E E_E F_E S_S hS S_F hfm S_0 S_1 (F204)
set_option maxRecDepth 65536 in
set_option maxHeartbeats 40000000 in
theorem tl_m12 {p : Program} {l : Launch} {e : Env} {s : State} {m : MethodId} {args : Array Value} {below : List Frame} {meth : Method} {c : Code} {T0 : State} {locs : List Loc} {Z : State} {a0 : Array Value} {h0 : Heap} {n0 : Nat} {vm0 : Vm} {Q : Option Value → Heap → List Loc → Prop} (hx : p.tables.exec = Jvm.exec) (hw : ∀ d ∈ tables_1, d.before a0 Z = true) (hEL : EW Z a0 own_EL) (hby : c.code = code) (hml : c.maxLocals = maxLocals) (hret : meth.sig.returnType = ret) (hlk : meth.locks = false) (W0 : own_Wd Z own_EL s vm0 m x.cls h0) (X0 : Stand p l e room_1 (s.setVm vm0) m args below meth c T0 locs 4 100) (e0 : T0.heap = h0) (N0 : Fr n0 locs) (hQ : ∀ h L, Fr n0 L → Q (some (.int 1)) h L) (p1 : Int32) (p2 : Int32) (p3 : Int32) (p4 : Int32) (q4 : Int32) (a6 : Addr) (q7 : Int32) (q8 : Int32) (q10 : Int32) (a11 : Addr) (ds : List Int32) (k0 : Nat) (aV : Addr) (kV : Cell) (r0 : Addr) (r1 : Addr) (f0 : Addr) (f1 : Addr) (aE : Addr) (gS : Int32) (fm : Value) (O_0 : Old Z n0 h0) (S_V : Sta Z Z.heap "com/example/inbound_throttle/inboundthrottle/rules/Algorithm" "$VALUES" "[Lcom/example/inbound_throttle/inboundthrottle/rules/Algorithm;" (.ref aV)) (A_V : Arr Z Z.heap aV kV (.object "com/example/inbound_throttle/inboundthrottle/rules/Algorithm")) (E_V : Exa Z Z.heap aV "[Lcom/example/inbound_throttle/inboundthrottle/rules/Algorithm;") (FC : FitC Z kV) (hs : kV.slots.toList = [.ref r0, .ref r1]) (F_0 : Fld Z Z.heap r0 "com/example/inbound_throttle/inboundthrottle/rules/Algorithm" "fileName" "Ljava/lang/String;" (.ref f0)) (F_1 : Fld Z Z.heap r1 "com/example/inbound_throttle/inboundthrottle/rules/Algorithm" "fileName" "Ljava/lang/String;" (.ref f1)) (T_0 : own_Str Z Z.heap Z.heap.size f0 own_FW) (T_1 : own_Str Z Z.heap Z.heap.size f1 own_SL) (S_E : Sta Z Z.heap "java/util/Optional" "EMPTY" "Ljava/util/Optional;" (.ref aE)) (E_E : Exa Z Z.heap aE "java/util/Optional") (F_E : Fld Z Z.heap aE "java/util/Optional" "value" "Ljava/lang/Object;" .null) (S_S : Sta Z Z.heap "java/lang/String" "COMPACT_STRINGS" "Z" (.int gS)) (hS : ¬ gS = 0) (S_F : Sta Z Z.heap "jdk/internal/util/Preconditions" "SIOOBE_FORMATTER" "Ljava/util/function/BiFunction;" fm) (hfm : fm.isRef = true) (S_0 : Sta Z Z.heap "com/example/inbound_throttle/inboundthrottle/rules/Algorithm" "FIXED_WINDOW" "Lcom/example/inbound_throttle/inboundthrottle/rules/Algorithm;" (.ref r0)) (S_1 : Sta Z Z.heap "com/example/inbound_throttle/inboundthrottle/rules/Algorithm" "SLIDING_LOG" "Lcom/example/inbound_throttle/inboundthrottle/rules/Algorithm;" (.ref r1)) (C_a : own_Ch Z h0 a11 12) (G_a : n0 ≤ a11) (T_6 : own_Str Z h0 k0 a6 ds) (hka : k0 ≤ a11) (hpad : own_B q10) :
    own_Go p.tables e below (T0.setTop (mkF m 111 #[.val (.int p1), .val (.int p2), .val (.int p3), .val (.int p4), .val (.int q4), .unset, .val (.ref a6), .val (.int q7), .val (.int q8), .val (.int (12 : Int32)), .val (.int q10), .val (.ref a11)] [])) (own_RH Z own_EL s Q room_1.cells room_1.slots) := by
  have hZ := W0.1
  have hown := W0.2.1
  have Z0 := own_Z0 O_0
  have hws : ∀ d ∈ StrChars.Road.words, d.before a0 Z = true := fun d hd => hw d ((by decide +kernel : ∀ d ∈ StrChars.Road.words, d ∈ tables_1) d hd)
  have hwE : ∀ d ∈ StrChars.Road.wordsEq, d.before a0 Z = true := fun d hd => hw d ((by decide +kernel : ∀ d ∈ StrChars.Road.wordsEq, d ∈ tables_1) d hd)
  have wS : ∀ d ∈ Bundle.stringAtoms, d.before a0 Z = true := fun d hd => hw d ((by decide +kernel : ∀ d ∈ Bundle.stringAtoms, d ∈ tables_1) d hd)
  have hwL : ∀ d ∈ StrChars.Road.wordsLen, d.before a0 Z = true := fun d hd => hw d ((by decide +kernel : ∀ d ∈ StrChars.Road.wordsLen, d ∈ tables_1) d hd)
  have hwC : ∀ d ∈ StrChars.Road.wordsChN, d.before a0 Z = true := fun d hd => hw d ((by decide +kernel : ∀ d ∈ StrChars.Road.wordsChN, d ∈ tables_1) d hd)
  refine own_aload X0 hx hby at_111 (pc' := 113) rfl rfl rfl ?_
  refine own_aload X0 hx hby at_113 (pc' := 115) rfl rfl rfl ?_
  refine own_iconst X0 hx hby at_115 (pc' := 116) rfl (z := (0 : Int32)) (by decide) ?_
  refine own_iload X0 hx hby at_116 (pc' := 118) rfl rfl ?_
  refine own_callS X0 hx hZ (rm_put l Z a0 hw [] a11 a6 (0 : Int32) q10 12 k0 ds gS fm h0 n0 (O_0) S_S hS S_F hfm (C_a) (T_6) (by decide) (by decide) hpad G_a) hown (hw _ (List.mem_of_getElem? (i := 22) rfl)) (hw _ (List.mem_of_getElem? (i := 23) rfl)) (hw _ (List.mem_of_getElem? (i := 24) rfl)) (hw _ (List.mem_of_getElem? (i := 25) rfl)) (by decide) (W := 0) (by decide) (by decide) (by rw [hml]; rfl) (argsL := [(.ref a11), (.ref a6), (.int (0 : Int32)), (.int q10)]) (rest := []) rfl (lenOf own_pd12 rfl) rfl (Nat.le_of_eq rfl) (hb hby at_118) e0 (by decide) (by decide) ?_
  intro v207 T207 L207 X207 hQ207
  obtain ⟨hv207, N207q, K207, C207⟩ := hQ207
  subst hv207
  have N207 := Fr.app N0 N207q
  have c208 := (W0.keep K207 (allS (own_Ch.safe C_a (W0).1.alike) all0))
  have c209 := (O_0.keep K207 (allS G_a all0))
  have t207 := (T_6.keep K207 (allS hka all0))
  show own_Go p.tables e below (T207.setTop (mkF m 121 #[.val (.int p1), .val (.int p2), .val (.int p3), .val (.int p4), .val (.int q4), .unset, .val (.ref a6), .val (.int q7), .val (.int q8), .val (.int (12 : Int32)), .val (.int q10), .val (.ref a11)] [])) _
  refine own_aload X207 hx hby at_121 (pc' := 123) rfl rfl rfl ?_
  refine own_aload X207 hx hby at_123 (pc' := 125) rfl rfl rfl ?_
  refine own_iconst X207 hx hby at_125 (pc' := 126) rfl (z := (1 : Int32)) (by decide) ?_
  refine own_iload X207 hx hby at_126 (pc' := 128) rfl rfl ?_
  refine own_callS X207 hx hZ (rm_put l Z a0 hw [] a11 a6 (1 : Int32) q10 12 k0 ds gS fm T207.heap n0 (c209) S_S hS S_F hfm (C207) (t207) (by decide) (by decide) hpad G_a) hown (hw _ (List.mem_of_getElem? (i := 22) rfl)) (hw _ (List.mem_of_getElem? (i := 23) rfl)) (hw _ (List.mem_of_getElem? (i := 24) rfl)) (hw _ (List.mem_of_getElem? (i := 25) rfl)) (by decide) (W := 0) (by decide) (by decide) (by rw [hml]; rfl) (argsL := [(.ref a11), (.ref a6), (.int (1 : Int32)), (.int q10)]) (rest := []) rfl (lenOf own_pd12 rfl) rfl (Nat.le_of_eq rfl) (hb hby at_128) rfl (by decide) (by decide) ?_
  intro v210 T210 L210 X210 hQ210
  obtain ⟨hv210, N210q, K210, C210⟩ := hQ210
  subst hv210
  have N210 := Fr.app N207 N210q
  have c211 := (c208.keep K210 (allS (own_Ch.safe C207 (c208).1.alike) all0))
  have c212 := (c209.keep K210 (allS G_a all0))
  have t210 := (t207.keep K210 (allS hka all0))
  show own_Go p.tables e below (T210.setTop (mkF m 131 #[.val (.int p1), .val (.int p2), .val (.int p3), .val (.int p4), .val (.int q4), .unset, .val (.ref a6), .val (.int q7), .val (.int q8), .val (.int (12 : Int32)), .val (.int q10), .val (.ref a11)] [])) _
  refine own_aload X210 hx hby at_131 (pc' := 133) rfl rfl rfl ?_
  refine own_aload X210 hx hby at_133 (pc' := 135) rfl rfl rfl ?_
  refine own_iconst X210 hx hby at_135 (pc' := 136) rfl (z := (2 : Int32)) (by decide) ?_
  refine own_iload X210 hx hby at_136 (pc' := 138) rfl rfl ?_
  refine own_callS X210 hx hZ (rm_put l Z a0 hw [] a11 a6 (2 : Int32) q10 12 k0 ds gS fm T210.heap n0 (c212) S_S hS S_F hfm (C210) (t210) (by decide) (by decide) hpad G_a) hown (hw _ (List.mem_of_getElem? (i := 22) rfl)) (hw _ (List.mem_of_getElem? (i := 23) rfl)) (hw _ (List.mem_of_getElem? (i := 24) rfl)) (hw _ (List.mem_of_getElem? (i := 25) rfl)) (by decide) (W := 0) (by decide) (by decide) (by rw [hml]; rfl) (argsL := [(.ref a11), (.ref a6), (.int (2 : Int32)), (.int q10)]) (rest := []) rfl (lenOf own_pd12 rfl) rfl (Nat.le_of_eq rfl) (hb hby at_138) rfl (by decide) (by decide) ?_
  intro v213 T213 L213 X213 hQ213
  obtain ⟨hv213, N213q, K213, C213⟩ := hQ213
  subst hv213
  have N213 := Fr.app N210 N213q
  have c214 := (c211.keep K213 (allS (own_Ch.safe C210 (c211).1.alike) all0))
  have c215 := (c212.keep K213 (allS G_a all0))
  have t213 := (t210.keep K213 (allS hka all0))
  show own_Go p.tables e below (T213.setTop (mkF m 141 #[.val (.int p1), .val (.int p2), .val (.int p3), .val (.int p4), .val (.int q4), .unset, .val (.ref a6), .val (.int q7), .val (.int q8), .val (.int (12 : Int32)), .val (.int q10), .val (.ref a11)] [])) _
  refine own_aload X213 hx hby at_141 (pc' := 143) rfl rfl rfl ?_
  refine own_aload X213 hx hby at_143 (pc' := 145) rfl rfl rfl ?_
  refine own_iconst X213 hx hby at_145 (pc' := 146) rfl (z := (3 : Int32)) (by decide) ?_
  refine own_iload X213 hx hby at_146 (pc' := 148) rfl rfl ?_
  refine own_callS X213 hx hZ (rm_put l Z a0 hw [] a11 a6 (3 : Int32) q10 12 k0 ds gS fm T213.heap n0 (c215) S_S hS S_F hfm (C213) (t213) (by decide) (by decide) hpad G_a) hown (hw _ (List.mem_of_getElem? (i := 22) rfl)) (hw _ (List.mem_of_getElem? (i := 23) rfl)) (hw _ (List.mem_of_getElem? (i := 24) rfl)) (hw _ (List.mem_of_getElem? (i := 25) rfl)) (by decide) (W := 0) (by decide) (by decide) (by rw [hml]; rfl) (argsL := [(.ref a11), (.ref a6), (.int (3 : Int32)), (.int q10)]) (rest := []) rfl (lenOf own_pd12 rfl) rfl (Nat.le_of_eq rfl) (hb hby at_148) rfl (by decide) (by decide) ?_
  intro v216 T216 L216 X216 hQ216
  obtain ⟨hv216, N216q, K216, C216⟩ := hQ216
  subst hv216
  have N216 := Fr.app N213 N216q
  have c217 := (c214.keep K216 (allS (own_Ch.safe C213 (c214).1.alike) all0))
  have c218 := (c215.keep K216 (allS G_a all0))
  have t216 := (t213.keep K216 (allS hka all0))
  show own_Go p.tables e below (T216.setTop (mkF m 151 #[.val (.int p1), .val (.int p2), .val (.int p3), .val (.int p4), .val (.int q4), .unset, .val (.ref a6), .val (.int q7), .val (.int q8), .val (.int (12 : Int32)), .val (.int q10), .val (.ref a11)] [])) _
  refine own_aload X216 hx hby at_151 (pc' := 153) rfl rfl rfl ?_
  refine own_aload X216 hx hby at_153 (pc' := 155) rfl rfl rfl ?_
  refine own_iconst X216 hx hby at_155 (pc' := 156) rfl (z := (4 : Int32)) (by decide) ?_
  refine own_iload X216 hx hby at_156 (pc' := 158) rfl rfl ?_
  refine own_callS X216 hx hZ (rm_put l Z a0 hw [] a11 a6 (4 : Int32) q10 12 k0 ds gS fm T216.heap n0 (c218) S_S hS S_F hfm (C216) (t216) (by decide) (by decide) hpad G_a) hown (hw _ (List.mem_of_getElem? (i := 22) rfl)) (hw _ (List.mem_of_getElem? (i := 23) rfl)) (hw _ (List.mem_of_getElem? (i := 24) rfl)) (hw _ (List.mem_of_getElem? (i := 25) rfl)) (by decide) (W := 0) (by decide) (by decide) (by rw [hml]; rfl) (argsL := [(.ref a11), (.ref a6), (.int (4 : Int32)), (.int q10)]) (rest := []) rfl (lenOf own_pd12 rfl) rfl (Nat.le_of_eq rfl) (hb hby at_158) rfl (by decide) (by decide) ?_
  intro v219 T219 L219 X219 hQ219
  obtain ⟨hv219, N219q, K219, C219⟩ := hQ219
  subst hv219
  have N219 := Fr.app N216 N219q
  have c220 := (c217.keep K219 (allS (own_Ch.safe C216 (c217).1.alike) all0))
  have c221 := (c218.keep K219 (allS G_a all0))
  have t219 := (t216.keep K219 (allS hka all0))
  show own_Go p.tables e below (T219.setTop (mkF m 161 #[.val (.int p1), .val (.int p2), .val (.int p3), .val (.int p4), .val (.int q4), .unset, .val (.ref a6), .val (.int q7), .val (.int q8), .val (.int (12 : Int32)), .val (.int q10), .val (.ref a11)] [])) _
  refine own_aload X219 hx hby at_161 (pc' := 163) rfl rfl rfl ?_
  refine own_aload X219 hx hby at_163 (pc' := 165) rfl rfl rfl ?_
  refine own_iconst X219 hx hby at_165 (pc' := 166) rfl (z := (5 : Int32)) (by decide) ?_
  refine own_iload X219 hx hby at_166 (pc' := 168) rfl rfl ?_
  refine own_callS X219 hx hZ (rm_put l Z a0 hw [] a11 a6 (5 : Int32) q10 12 k0 ds gS fm T219.heap n0 (c221) S_S hS S_F hfm (C219) (t219) (by decide) (by decide) hpad G_a) hown (hw _ (List.mem_of_getElem? (i := 22) rfl)) (hw _ (List.mem_of_getElem? (i := 23) rfl)) (hw _ (List.mem_of_getElem? (i := 24) rfl)) (hw _ (List.mem_of_getElem? (i := 25) rfl)) (by decide) (W := 0) (by decide) (by decide) (by rw [hml]; rfl) (argsL := [(.ref a11), (.ref a6), (.int (5 : Int32)), (.int q10)]) (rest := []) rfl (lenOf own_pd12 rfl) rfl (Nat.le_of_eq rfl) (hb hby at_168) rfl (by decide) (by decide) ?_
  intro v222 T222 L222 X222 hQ222
  obtain ⟨hv222, N222q, K222, C222⟩ := hQ222
  subst hv222
  have N222 := Fr.app N219 N222q
  have c223 := (c220.keep K222 (allS (own_Ch.safe C219 (c220).1.alike) all0))
  have c224 := (c221.keep K222 (allS G_a all0))
  have t222 := (t219.keep K222 (allS hka all0))
  show own_Go p.tables e below (T222.setTop (mkF m 171 #[.val (.int p1), .val (.int p2), .val (.int p3), .val (.int p4), .val (.int q4), .unset, .val (.ref a6), .val (.int q7), .val (.int q8), .val (.int (12 : Int32)), .val (.int q10), .val (.ref a11)] [])) _
  refine own_aload X222 hx hby at_171 (pc' := 173) rfl rfl rfl ?_
  refine own_aload X222 hx hby at_173 (pc' := 175) rfl rfl rfl ?_
  refine own_bipush X222 hx hby at_175 (pc' := 177) rfl (z := (6 : Int32)) (by decide) ?_
  refine own_iload X222 hx hby at_177 (pc' := 179) rfl rfl ?_
  refine own_callS X222 hx hZ (rm_put l Z a0 hw [] a11 a6 (6 : Int32) q10 12 k0 ds gS fm T222.heap n0 (c224) S_S hS S_F hfm (C222) (t222) (by decide) (by decide) hpad G_a) hown (hw _ (List.mem_of_getElem? (i := 22) rfl)) (hw _ (List.mem_of_getElem? (i := 23) rfl)) (hw _ (List.mem_of_getElem? (i := 24) rfl)) (hw _ (List.mem_of_getElem? (i := 25) rfl)) (by decide) (W := 0) (by decide) (by decide) (by rw [hml]; rfl) (argsL := [(.ref a11), (.ref a6), (.int (6 : Int32)), (.int q10)]) (rest := []) rfl (lenOf own_pd12 rfl) rfl (Nat.le_of_eq rfl) (hb hby at_179) rfl (by decide) (by decide) ?_
  intro v225 T225 L225 X225 hQ225
  obtain ⟨hv225, N225q, K225, C225⟩ := hQ225
  subst hv225
  have N225 := Fr.app N222 N225q
  have c226 := (c223.keep K225 (allS (own_Ch.safe C222 (c223).1.alike) all0))
  have c227 := (c224.keep K225 (allS G_a all0))
  have t225 := (t222.keep K225 (allS hka all0))
  show own_Go p.tables e below (T225.setTop (mkF m 182 #[.val (.int p1), .val (.int p2), .val (.int p3), .val (.int p4), .val (.int q4), .unset, .val (.ref a6), .val (.int q7), .val (.int q8), .val (.int (12 : Int32)), .val (.int q10), .val (.ref a11)] [])) _
  refine own_aload X225 hx hby at_182 (pc' := 184) rfl rfl rfl ?_
  refine own_aload X225 hx hby at_184 (pc' := 186) rfl rfl rfl ?_
  refine own_bipush X225 hx hby at_186 (pc' := 188) rfl (z := (7 : Int32)) (by decide) ?_
  refine own_iload X225 hx hby at_188 (pc' := 190) rfl rfl ?_
  refine own_callS X225 hx hZ (rm_put l Z a0 hw [] a11 a6 (7 : Int32) q10 12 k0 ds gS fm T225.heap n0 (c227) S_S hS S_F hfm (C225) (t225) (by decide) (by decide) hpad G_a) hown (hw _ (List.mem_of_getElem? (i := 22) rfl)) (hw _ (List.mem_of_getElem? (i := 23) rfl)) (hw _ (List.mem_of_getElem? (i := 24) rfl)) (hw _ (List.mem_of_getElem? (i := 25) rfl)) (by decide) (W := 0) (by decide) (by decide) (by rw [hml]; rfl) (argsL := [(.ref a11), (.ref a6), (.int (7 : Int32)), (.int q10)]) (rest := []) rfl (lenOf own_pd12 rfl) rfl (Nat.le_of_eq rfl) (hb hby at_190) rfl (by decide) (by decide) ?_
  intro v228 T228 L228 X228 hQ228
  obtain ⟨hv228, N228q, K228, C228⟩ := hQ228
  subst hv228
  have N228 := Fr.app N225 N228q
  have c229 := (c226.keep K228 (allS (own_Ch.safe C225 (c226).1.alike) all0))
  have c230 := (c227.keep K228 (allS G_a all0))
  have t228 := (t225.keep K228 (allS hka all0))
  show own_Go p.tables e below (T228.setTop (mkF m 193 #[.val (.int p1), .val (.int p2), .val (.int p3), .val (.int p4), .val (.int q4), .unset, .val (.ref a6), .val (.int q7), .val (.int q8), .val (.int (12 : Int32)), .val (.int q10), .val (.ref a11)] [])) _
  refine own_aload X228 hx hby at_193 (pc' := 195) rfl rfl rfl ?_
  refine own_aload X228 hx hby at_195 (pc' := 197) rfl rfl rfl ?_
  refine own_bipush X228 hx hby at_197 (pc' := 199) rfl (z := (8 : Int32)) (by decide) ?_
  refine own_iload X228 hx hby at_199 (pc' := 201) rfl rfl ?_
  refine own_callS X228 hx hZ (rm_put l Z a0 hw [] a11 a6 (8 : Int32) q10 12 k0 ds gS fm T228.heap n0 (c230) S_S hS S_F hfm (C228) (t228) (by decide) (by decide) hpad G_a) hown (hw _ (List.mem_of_getElem? (i := 22) rfl)) (hw _ (List.mem_of_getElem? (i := 23) rfl)) (hw _ (List.mem_of_getElem? (i := 24) rfl)) (hw _ (List.mem_of_getElem? (i := 25) rfl)) (by decide) (W := 0) (by decide) (by decide) (by rw [hml]; rfl) (argsL := [(.ref a11), (.ref a6), (.int (8 : Int32)), (.int q10)]) (rest := []) rfl (lenOf own_pd12 rfl) rfl (Nat.le_of_eq rfl) (hb hby at_201) rfl (by decide) (by decide) ?_
  intro v231 T231 L231 X231 hQ231
  obtain ⟨hv231, N231q, K231, C231⟩ := hQ231
  subst hv231
  have N231 := Fr.app N228 N231q
  have c232 := (c229.keep K231 (allS (own_Ch.safe C228 (c229).1.alike) all0))
  have c233 := (c230.keep K231 (allS G_a all0))
  have t231 := (t228.keep K231 (allS hka all0))
  show own_Go p.tables e below (T231.setTop (mkF m 204 #[.val (.int p1), .val (.int p2), .val (.int p3), .val (.int p4), .val (.int q4), .unset, .val (.ref a6), .val (.int q7), .val (.int q8), .val (.int (12 : Int32)), .val (.int q10), .val (.ref a11)] [])) _
  refine own_aload X231 hx hby at_204 (pc' := 206) rfl rfl rfl ?_
  refine own_aload X231 hx hby at_206 (pc' := 208) rfl rfl rfl ?_
  refine own_bipush X231 hx hby at_208 (pc' := 210) rfl (z := (9 : Int32)) (by decide) ?_
  refine own_iload X231 hx hby at_210 (pc' := 212) rfl rfl ?_
  refine own_callS X231 hx hZ (rm_put l Z a0 hw [] a11 a6 (9 : Int32) q10 12 k0 ds gS fm T231.heap n0 (c233) S_S hS S_F hfm (C231) (t231) (by decide) (by decide) hpad G_a) hown (hw _ (List.mem_of_getElem? (i := 22) rfl)) (hw _ (List.mem_of_getElem? (i := 23) rfl)) (hw _ (List.mem_of_getElem? (i := 24) rfl)) (hw _ (List.mem_of_getElem? (i := 25) rfl)) (by decide) (W := 0) (by decide) (by decide) (by rw [hml]; rfl) (argsL := [(.ref a11), (.ref a6), (.int (9 : Int32)), (.int q10)]) (rest := []) rfl (lenOf own_pd12 rfl) rfl (Nat.le_of_eq rfl) (hb hby at_212) rfl (by decide) (by decide) ?_
  intro v234 T234 L234 X234 hQ234
  obtain ⟨hv234, N234q, K234, C234⟩ := hQ234
  subst hv234
  have N234 := Fr.app N231 N234q
  have c235 := (c232.keep K234 (allS (own_Ch.safe C231 (c232).1.alike) all0))
  have c236 := (c233.keep K234 (allS G_a all0))
  have t234 := (t231.keep K234 (allS hka all0))
  show own_Go p.tables e below (T234.setTop (mkF m 215 #[.val (.int p1), .val (.int p2), .val (.int p3), .val (.int p4), .val (.int q4), .unset, .val (.ref a6), .val (.int q7), .val (.int q8), .val (.int (12 : Int32)), .val (.int q10), .val (.ref a11)] [])) _
  refine own_aload X234 hx hby at_215 (pc' := 217) rfl rfl rfl ?_
  refine own_aload X234 hx hby at_217 (pc' := 219) rfl rfl rfl ?_
  refine own_bipush X234 hx hby at_219 (pc' := 221) rfl (z := (10 : Int32)) (by decide) ?_
  refine own_iload X234 hx hby at_221 (pc' := 223) rfl rfl ?_
  refine own_callS X234 hx hZ (rm_put l Z a0 hw [] a11 a6 (10 : Int32) q10 12 k0 ds gS fm T234.heap n0 (c236) S_S hS S_F hfm (C234) (t234) (by decide) (by decide) hpad G_a) hown (hw _ (List.mem_of_getElem? (i := 22) rfl)) (hw _ (List.mem_of_getElem? (i := 23) rfl)) (hw _ (List.mem_of_getElem? (i := 24) rfl)) (hw _ (List.mem_of_getElem? (i := 25) rfl)) (by decide) (W := 0) (by decide) (by decide) (by rw [hml]; rfl) (argsL := [(.ref a11), (.ref a6), (.int (10 : Int32)), (.int q10)]) (rest := []) rfl (lenOf own_pd12 rfl) rfl (Nat.le_of_eq rfl) (hb hby at_223) rfl (by decide) (by decide) ?_
  intro v237 T237 L237 X237 hQ237
  obtain ⟨hv237, N237q, K237, C237⟩ := hQ237
  subst hv237
  have N237 := Fr.app N234 N237q
  have c238 := (c235.keep K237 (allS (own_Ch.safe C234 (c235).1.alike) all0))
  have c239 := (c236.keep K237 (allS G_a all0))
  have t237 := (t234.keep K237 (allS hka all0))
  show own_Go p.tables e below (T237.setTop (mkF m 226 #[.val (.int p1), .val (.int p2), .val (.int p3), .val (.int p4), .val (.int q4), .unset, .val (.ref a6), .val (.int q7), .val (.int q8), .val (.int (12 : Int32)), .val (.int q10), .val (.ref a11)] [])) _
  refine own_aload X237 hx hby at_226 (pc' := 228) rfl rfl rfl ?_
  refine own_aload X237 hx hby at_228 (pc' := 230) rfl rfl rfl ?_
  refine own_bipush X237 hx hby at_230 (pc' := 232) rfl (z := (11 : Int32)) (by decide) ?_
  refine own_iload X237 hx hby at_232 (pc' := 234) rfl rfl ?_
  refine own_callS X237 hx hZ (rm_put l Z a0 hw [] a11 a6 (11 : Int32) q10 12 k0 ds gS fm T237.heap n0 (c239) S_S hS S_F hfm (C237) (t237) (by decide) (by decide) hpad G_a) hown (hw _ (List.mem_of_getElem? (i := 22) rfl)) (hw _ (List.mem_of_getElem? (i := 23) rfl)) (hw _ (List.mem_of_getElem? (i := 24) rfl)) (hw _ (List.mem_of_getElem? (i := 25) rfl)) (by decide) (W := 0) (by decide) (by decide) (by rw [hml]; rfl) (argsL := [(.ref a11), (.ref a6), (.int (11 : Int32)), (.int q10)]) (rest := []) rfl (lenOf own_pd12 rfl) rfl (Nat.le_of_eq rfl) (hb hby at_234) rfl (by decide) (by decide) ?_
  intro v240 T240 L240 X240 hQ240
  obtain ⟨hv240, N240q, K240, C240⟩ := hQ240
  subst hv240
  have N240 := Fr.app N237 N240q
  have c241 := (c238.keep K240 (allS (own_Ch.safe C237 (c238).1.alike) all0))
  have c242 := (c239.keep K240 (allS G_a all0))
  have t240 := (t237.keep K240 (allS hka all0))
  show own_Go p.tables e below (T240.setTop (mkF m 237 #[.val (.int p1), .val (.int p2), .val (.int p3), .val (.int p4), .val (.int q4), .unset, .val (.ref a6), .val (.int q7), .val (.int q8), .val (.int (12 : Int32)), .val (.int q10), .val (.ref a11)] [])) _
  refine own_aload X240 hx hby at_237 (pc' := 239) rfl rfl rfl ?_
  refine own_aload X240 hx hby at_239 (pc' := 241) rfl rfl rfl ?_
  refine own_bipush X240 hx hby at_241 (pc' := 243) rfl (z := (12 : Int32)) (by decide) ?_
  refine own_iload X240 hx hby at_243 (pc' := 245) rfl rfl ?_
  refine own_callS X240 hx hZ (rm_put l Z a0 hw [] a11 a6 (12 : Int32) q10 12 k0 ds gS fm T240.heap n0 (c242) S_S hS S_F hfm (C240) (t240) (by decide) (by decide) hpad G_a) hown (hw _ (List.mem_of_getElem? (i := 22) rfl)) (hw _ (List.mem_of_getElem? (i := 23) rfl)) (hw _ (List.mem_of_getElem? (i := 24) rfl)) (hw _ (List.mem_of_getElem? (i := 25) rfl)) (by decide) (W := 0) (by decide) (by decide) (by rw [hml]; rfl) (argsL := [(.ref a11), (.ref a6), (.int (12 : Int32)), (.int q10)]) (rest := []) rfl (lenOf own_pd12 rfl) rfl (Nat.le_of_eq rfl) (hb hby at_245) rfl (by decide) (by decide) ?_
  intro v243 T243 L243 X243 hQ243
  obtain ⟨hv243, N243q, K243, C243⟩ := hQ243
  subst hv243
  have N243 := Fr.app N240 N243q
  have c244 := (c241.keep K243 (allS (own_Ch.safe C240 (c241).1.alike) all0))
  have c245 := (c242.keep K243 (allS G_a all0))
  have t243 := (t240.keep K243 (allS hka all0))
  show own_Go p.tables e below (T243.setTop (mkF m 248 #[.val (.int p1), .val (.int p2), .val (.int p3), .val (.int p4), .val (.int q4), .unset, .val (.ref a6), .val (.int q7), .val (.int q8), .val (.int (12 : Int32)), .val (.int q10), .val (.ref a11)] [])) _
  refine own_iloadN X243 hx hby at_248 (pc' := 249) rfl rfl ?_
  refine own_iconst X243 hx hby at_249 (pc' := 250) rfl (z := (3 : Int32)) (by decide) ?_
  refine own_iushr X243 hx hby at_250 (pc' := 251) rfl rfl ?_
  refine own_iconst X243 hx hby at_251 (pc' := 252) rfl (z := (1 : Int32)) (by decide) ?_
  refine own_iand X243 hx hby at_252 (pc' := 253) rfl rfl ?_
  by_cases hc253 : (((p2.toUInt32 >>> ((3 : Int32) &&& 31).toUInt32).toInt32) &&& (1 : Int32)) = (0 : Int32)
  · skip
    refine own_ifYes X243 hx hby at_253 (pc' := 277) (by decide) (teq hc253).1 ?_
    refine own_new X243 hx hby at_277 (pc' := 280) rfl hZ hown (hw _ (List.mem_of_getElem? (i := 26) rfl)) (hw _ (List.mem_of_getElem? (i := 2) rfl)) (hw _ (List.mem_of_getElem? (i := 1) rfl)) rfl (by decide) (by decide) ?_
    intro T246 h246 b246 X246 e246 g246 E246 A246 D246
    have F246_value : Fld Z h246 b246 "java/lang/String" "value" "[B" .null := D246 (Or.inr (hw _ (List.mem_of_getElem? (i := 4) rfl))) (ty := (.array .byte)) (by decide)
    have F246_coder : Fld Z h246 b246 "java/lang/String" "coder" "B" (.int (0 : Int32)) := D246 (Or.inr (hw _ (List.mem_of_getElem? (i := 5) rfl))) (ty := .byte) (by decide)
    have l246 : n0 ≤ b246 := (Nat.le_trans Z0 (Nat.le_trans (Nat.le_trans (Nat.le_trans (Nat.le_trans (Nat.le_trans (Nat.le_trans (Nat.le_trans (Nat.le_trans (Nat.le_trans (Nat.le_trans (Nat.le_trans (Nat.le_trans (Nat.le_trans (Nat.le_trans (Nat.le_refl _) K207.1) K210.1) K213.1) K216.1) K219.1) K222.1) K225.1) K228.1) K231.1) K234.1) K237.1) K240.1) K243.1) (Nat.le_of_eq g246.symm)))
    refine own_dup X246 hx hby at_280 (pc' := 281) rfl rfl ?_
    refine own_aload X246 hx hby at_281 (pc' := 283) rfl rfl rfl ?_
    refine own_callSpB X246 hx hZ (own_strB (W := 1) hZ hws (hw _ (List.mem_of_getElem? (i := 2) rfl)) l246 (own_Z0 ((c245.ext E246))) (A246) (F246_value) (F246_coder) ((C243.ext E246)) (S_S.ext ((c245.ext E246)).2) hS (by decide) (by decide) (by decide) (by decide)) rfl hown (hw _ (List.mem_of_getElem? (i := 27) rfl)) (hw _ (List.mem_of_getElem? (i := 28) rfl)) (hw _ (List.mem_of_getElem? (i := 29) rfl)) (by decide) (by rw [hml]; rfl) (argsL := [(.ref a11)]) (rest := [(.ref b246)]) rfl (lenOf own_pd13 rfl) rfl (Nat.le_of_eq rfl) (hb hby at_283) e246 (by decide) (by decide) ?_
    intro v247 T247 L247 X247 hQ247
    obtain ⟨hv247, N247q, K247, cs247, F247⟩ := hQ247
    subst hv247
    have N247 := Fr.app N243 N247q
    have c248 := ((c244.ext E246).keep K247 (allS (Safe.ext E246 (c244).ch (Safe.new (Nat.le_of_eq g246.symm))) all0))
    have c249 := ((c245.ext E246).keep K247 (allS l246 all0))
    show own_Go p.tables e below (T247.setTop (mkF m 286 #[.val (.int p1), .val (.int p2), .val (.int p3), .val (.int p4), .val (.int q4), .unset, .val (.ref a6), .val (.int q7), .val (.int q8), .val (.int (12 : Int32)), .val (.int q10), .val (.ref a11)] [(.ref b246)])) _
    refine own_astore X247 hx hby at_286 (pc' := 288) rfl rfl (Ls' := #[.val (.int p1), .val (.int p2), .val (.int p3), .val (.int p4), .val (.int q4), .val (.ref b246), .val (.ref a6), .val (.int q7), .val (.int q8), .val (.int (12 : Int32)), .val (.int q10), .val (.ref a11)]) rfl ?_
    exact tl_s hx hw hEL hby hml hret hlk (c248) (own_more X247 (by decide) (by decide)) rfl N247 hQ p1 p2 p3 p4 q4 b246 a6 q7 q8 (12 : Int32) q10 a11 cs247 _ aV kV r0 r1 f0 f1 aE gS fm (c249) S_V A_V E_V FC hs F_0 F_1 T_0 T_1 S_E E_E F_E S_S hS S_F hfm S_0 S_1 (F247)
  · skip
    refine own_ifNo X243 hx hby at_253 (pc' := 256) rfl (feq hc253).1 ?_
    refine own_iload X243 hx hby at_256 (pc' := 258) rfl rfl ?_
    refine own_ifNo X243 hx hby at_258 (pc' := 261) rfl (by decide) ?_
    refine own_aload X243 hx hby at_261 (pc' := 263) rfl rfl rfl ?_
    refine own_iloadN X243 hx hby at_263 (pc' := 264) rfl rfl ?_
    refine own_ldc X243 hx hby at_264 (pc' := 266) rfl hZ hown (hw _ (List.mem_of_getElem? (i := 117) rfl)) ?_
    refine own_iand X243 hx hby at_266 (pc' := 267) rfl rfl ?_
    refine own_iload X243 hx hby at_267 (pc' := 269) rfl rfl ?_
    refine own_irem X243 hx hby at_269 (pc' := 270) rfl (by decide) rfl ?_
    refine own_iloadN X243 hx hby at_270 (pc' := 271) rfl rfl ?_
    refine own_sipush X243 hx hby at_271 (pc' := 274) rfl (z := (255 : Int32)) (by decide) ?_
    refine own_iand X243 hx hby at_274 (pc' := 275) rfl rfl ?_
    refine own_i2c X243 hx hby at_275 (pc' := 276) rfl rfl ?_
    refine own_castoreC X243 hx hby at_276 (pc' := 277) rfl hZ rfl (C243) (own_rem (q := p3) (d := (12 : Int32)) (k := 12) (by decide) (by decide) (by decide) (by decide)).1 (own_rem (q := p3) (d := (12 : Int32)) (k := 12) (by decide) (by decide) (by decide) (by decide)).2 ((own_narB (own_c255 _)).symm ▸ own_c255 _) ?_
    intro T250 h250 X250 e250 W250 C250
    have N250 := Fr.snoc X250 N243 G_a
    have c251 := (c244.wr W250 (own_Ch.safe C243 (c244).1.alike))
    have c252 := (c245.wr W250 G_a)
    refine own_new X250 hx hby at_277 (pc' := 280) rfl hZ hown (hw _ (List.mem_of_getElem? (i := 26) rfl)) (hw _ (List.mem_of_getElem? (i := 2) rfl)) (hw _ (List.mem_of_getElem? (i := 1) rfl)) e250 (by decide) (by decide) ?_
    intro T253 h253 b253 X253 e253 g253 E253 A253 D253
    have F253_value : Fld Z h253 b253 "java/lang/String" "value" "[B" .null := D253 (Or.inr (hw _ (List.mem_of_getElem? (i := 4) rfl))) (ty := (.array .byte)) (by decide)
    have F253_coder : Fld Z h253 b253 "java/lang/String" "coder" "B" (.int (0 : Int32)) := D253 (Or.inr (hw _ (List.mem_of_getElem? (i := 5) rfl))) (ty := .byte) (by decide)
    have l253 : n0 ≤ b253 := (Nat.le_trans Z0 (Nat.le_trans (Nat.le_trans (Nat.le_trans (Nat.le_trans (Nat.le_trans (Nat.le_trans (Nat.le_trans (Nat.le_trans (Nat.le_trans (Nat.le_trans (Nat.le_trans (Nat.le_trans (Nat.le_trans (Nat.le_trans (Nat.le_trans (Nat.le_refl _) K207.1) K210.1) K213.1) K216.1) K219.1) K222.1) K225.1) K228.1) K231.1) K234.1) K237.1) K240.1) K243.1) (Nat.le_of_eq (Wr.size W250).symm)) (Nat.le_of_eq g253.symm)))
    refine own_dup X253 hx hby at_280 (pc' := 281) rfl rfl ?_
    refine own_aload X253 hx hby at_281 (pc' := 283) rfl rfl rfl ?_
    refine own_callSpB X253 hx hZ (own_strB (W := 1) hZ hws (hw _ (List.mem_of_getElem? (i := 2) rfl)) l253 (own_Z0 ((c252.ext E253))) (A253) (F253_value) (F253_coder) ((C250.ext E253)) (S_S.ext ((c252.ext E253)).2) hS (by decide) (by decide) (by decide) (by decide)) rfl hown (hw _ (List.mem_of_getElem? (i := 27) rfl)) (hw _ (List.mem_of_getElem? (i := 28) rfl)) (hw _ (List.mem_of_getElem? (i := 29) rfl)) (by decide) (by rw [hml]; rfl) (argsL := [(.ref a11)]) (rest := [(.ref b253)]) rfl (lenOf own_pd13 rfl) rfl (Nat.le_of_eq rfl) (hb hby at_283) e253 (by decide) (by decide) ?_
    intro v254 T254 L254 X254 hQ254
    obtain ⟨hv254, N254q, K254, cs254, F254⟩ := hQ254
    subst hv254
    have N254 := Fr.app N250 N254q
    have c255 := ((c251.ext E253).keep K254 (allS (Safe.ext E253 (c251).ch (Safe.new (Nat.le_of_eq g253.symm))) all0))
    have c256 := ((c252.ext E253).keep K254 (allS l253 all0))
    show own_Go p.tables e below (T254.setTop (mkF m 286 #[.val (.int p1), .val (.int p2), .val (.int p3), .val (.int p4), .val (.int q4), .unset, .val (.ref a6), .val (.int q7), .val (.int q8), .val (.int (12 : Int32)), .val (.int q10), .val (.ref a11)] [(.ref b253)])) _
    refine own_astore X254 hx hby at_286 (pc' := 288) rfl rfl (Ls' := #[.val (.int p1), .val (.int p2), .val (.int p3), .val (.int p4), .val (.int q4), .val (.ref b253), .val (.ref a6), .val (.int q7), .val (.int q8), .val (.int (12 : Int32)), .val (.int q10), .val (.ref a11)]) rfl ?_
    exact tl_s hx hw hEL hby hml hret hlk (c255) (own_more X254 (by decide) (by decide)) rfl N254 hQ p1 p2 p3 p4 q4 b253 a6 q7 q8 (12 : Int32) q10 a11 cs254 _ aV kV r0 r1 f0 f1 aE gS fm (c256) S_V A_V E_V FC hs F_0 F_1 T_0 T_1 S_E E_E F_E S_S hS S_F hfm S_0 S_1 (F254)
set_option maxRecDepth 65536 in
set_option maxHeartbeats 40000000 in
theorem tl_m13 {p : Program} {l : Launch} {e : Env} {s : State} {m : MethodId} {args : Array Value} {below : List Frame} {meth : Method} {c : Code} {T0 : State} {locs : List Loc} {Z : State} {a0 : Array Value} {h0 : Heap} {n0 : Nat} {vm0 : Vm} {Q : Option Value → Heap → List Loc → Prop} (hx : p.tables.exec = Jvm.exec) (hw : ∀ d ∈ tables_1, d.before a0 Z = true) (hEL : EW Z a0 own_EL) (hby : c.code = code) (hml : c.maxLocals = maxLocals) (hret : meth.sig.returnType = ret) (hlk : meth.locks = false) (W0 : own_Wd Z own_EL s vm0 m x.cls h0) (X0 : Stand p l e room_1 (s.setVm vm0) m args below meth c T0 locs 4 100) (e0 : T0.heap = h0) (N0 : Fr n0 locs) (hQ : ∀ h L, Fr n0 L → Q (some (.int 1)) h L) (p1 : Int32) (p2 : Int32) (p3 : Int32) (p4 : Int32) (q4 : Int32) (a6 : Addr) (q7 : Int32) (q8 : Int32) (q10 : Int32) (a11 : Addr) (ds : List Int32) (k0 : Nat) (aV : Addr) (kV : Cell) (r0 : Addr) (r1 : Addr) (f0 : Addr) (f1 : Addr) (aE : Addr) (gS : Int32) (fm : Value) (O_0 : Old Z n0 h0) (S_V : Sta Z Z.heap "com/example/inbound_throttle/inboundthrottle/rules/Algorithm" "$VALUES" "[Lcom/example/inbound_throttle/inboundthrottle/rules/Algorithm;" (.ref aV)) (A_V : Arr Z Z.heap aV kV (.object "com/example/inbound_throttle/inboundthrottle/rules/Algorithm")) (E_V : Exa Z Z.heap aV "[Lcom/example/inbound_throttle/inboundthrottle/rules/Algorithm;") (FC : FitC Z kV) (hs : kV.slots.toList = [.ref r0, .ref r1]) (F_0 : Fld Z Z.heap r0 "com/example/inbound_throttle/inboundthrottle/rules/Algorithm" "fileName" "Ljava/lang/String;" (.ref f0)) (F_1 : Fld Z Z.heap r1 "com/example/inbound_throttle/inboundthrottle/rules/Algorithm" "fileName" "Ljava/lang/String;" (.ref f1)) (T_0 : own_Str Z Z.heap Z.heap.size f0 own_FW) (T_1 : own_Str Z Z.heap Z.heap.size f1 own_SL) (S_E : Sta Z Z.heap "java/util/Optional" "EMPTY" "Ljava/util/Optional;" (.ref aE)) (E_E : Exa Z Z.heap aE "java/util/Optional") (F_E : Fld Z Z.heap aE "java/util/Optional" "value" "Ljava/lang/Object;" .null) (S_S : Sta Z Z.heap "java/lang/String" "COMPACT_STRINGS" "Z" (.int gS)) (hS : ¬ gS = 0) (S_F : Sta Z Z.heap "jdk/internal/util/Preconditions" "SIOOBE_FORMATTER" "Ljava/util/function/BiFunction;" fm) (hfm : fm.isRef = true) (S_0 : Sta Z Z.heap "com/example/inbound_throttle/inboundthrottle/rules/Algorithm" "FIXED_WINDOW" "Lcom/example/inbound_throttle/inboundthrottle/rules/Algorithm;" (.ref r0)) (S_1 : Sta Z Z.heap "com/example/inbound_throttle/inboundthrottle/rules/Algorithm" "SLIDING_LOG" "Lcom/example/inbound_throttle/inboundthrottle/rules/Algorithm;" (.ref r1)) (C_a : own_Ch Z h0 a11 13) (G_a : n0 ≤ a11) (T_6 : own_Str Z h0 k0 a6 ds) (hka : k0 ≤ a11) (hpad : own_B q10) :
    own_Go p.tables e below (T0.setTop (mkF m 111 #[.val (.int p1), .val (.int p2), .val (.int p3), .val (.int p4), .val (.int q4), .unset, .val (.ref a6), .val (.int q7), .val (.int q8), .val (.int (13 : Int32)), .val (.int q10), .val (.ref a11)] [])) (own_RH Z own_EL s Q room_1.cells room_1.slots) := by
  have hZ := W0.1
  have hown := W0.2.1
  have Z0 := own_Z0 O_0
  have hws : ∀ d ∈ StrChars.Road.words, d.before a0 Z = true := fun d hd => hw d ((by decide +kernel : ∀ d ∈ StrChars.Road.words, d ∈ tables_1) d hd)
  have hwE : ∀ d ∈ StrChars.Road.wordsEq, d.before a0 Z = true := fun d hd => hw d ((by decide +kernel : ∀ d ∈ StrChars.Road.wordsEq, d ∈ tables_1) d hd)
  have wS : ∀ d ∈ Bundle.stringAtoms, d.before a0 Z = true := fun d hd => hw d ((by decide +kernel : ∀ d ∈ Bundle.stringAtoms, d ∈ tables_1) d hd)
  have hwL : ∀ d ∈ StrChars.Road.wordsLen, d.before a0 Z = true := fun d hd => hw d ((by decide +kernel : ∀ d ∈ StrChars.Road.wordsLen, d ∈ tables_1) d hd)
  have hwC : ∀ d ∈ StrChars.Road.wordsChN, d.before a0 Z = true := fun d hd => hw d ((by decide +kernel : ∀ d ∈ StrChars.Road.wordsChN, d ∈ tables_1) d hd)
  refine own_aload X0 hx hby at_111 (pc' := 113) rfl rfl rfl ?_
  refine own_aload X0 hx hby at_113 (pc' := 115) rfl rfl rfl ?_
  refine own_iconst X0 hx hby at_115 (pc' := 116) rfl (z := (0 : Int32)) (by decide) ?_
  refine own_iload X0 hx hby at_116 (pc' := 118) rfl rfl ?_
  refine own_callS X0 hx hZ (rm_put l Z a0 hw [] a11 a6 (0 : Int32) q10 13 k0 ds gS fm h0 n0 (O_0) S_S hS S_F hfm (C_a) (T_6) (by decide) (by decide) hpad G_a) hown (hw _ (List.mem_of_getElem? (i := 22) rfl)) (hw _ (List.mem_of_getElem? (i := 23) rfl)) (hw _ (List.mem_of_getElem? (i := 24) rfl)) (hw _ (List.mem_of_getElem? (i := 25) rfl)) (by decide) (W := 0) (by decide) (by decide) (by rw [hml]; rfl) (argsL := [(.ref a11), (.ref a6), (.int (0 : Int32)), (.int q10)]) (rest := []) rfl (lenOf own_pd12 rfl) rfl (Nat.le_of_eq rfl) (hb hby at_118) e0 (by decide) (by decide) ?_
  intro v257 T257 L257 X257 hQ257
  obtain ⟨hv257, N257q, K257, C257⟩ := hQ257
  subst hv257
  have N257 := Fr.app N0 N257q
  have c258 := (W0.keep K257 (allS (own_Ch.safe C_a (W0).1.alike) all0))
  have c259 := (O_0.keep K257 (allS G_a all0))
  have t257 := (T_6.keep K257 (allS hka all0))
  show own_Go p.tables e below (T257.setTop (mkF m 121 #[.val (.int p1), .val (.int p2), .val (.int p3), .val (.int p4), .val (.int q4), .unset, .val (.ref a6), .val (.int q7), .val (.int q8), .val (.int (13 : Int32)), .val (.int q10), .val (.ref a11)] [])) _
  refine own_aload X257 hx hby at_121 (pc' := 123) rfl rfl rfl ?_
  refine own_aload X257 hx hby at_123 (pc' := 125) rfl rfl rfl ?_
  refine own_iconst X257 hx hby at_125 (pc' := 126) rfl (z := (1 : Int32)) (by decide) ?_
  refine own_iload X257 hx hby at_126 (pc' := 128) rfl rfl ?_
  refine own_callS X257 hx hZ (rm_put l Z a0 hw [] a11 a6 (1 : Int32) q10 13 k0 ds gS fm T257.heap n0 (c259) S_S hS S_F hfm (C257) (t257) (by decide) (by decide) hpad G_a) hown (hw _ (List.mem_of_getElem? (i := 22) rfl)) (hw _ (List.mem_of_getElem? (i := 23) rfl)) (hw _ (List.mem_of_getElem? (i := 24) rfl)) (hw _ (List.mem_of_getElem? (i := 25) rfl)) (by decide) (W := 0) (by decide) (by decide) (by rw [hml]; rfl) (argsL := [(.ref a11), (.ref a6), (.int (1 : Int32)), (.int q10)]) (rest := []) rfl (lenOf own_pd12 rfl) rfl (Nat.le_of_eq rfl) (hb hby at_128) rfl (by decide) (by decide) ?_
  intro v260 T260 L260 X260 hQ260
  obtain ⟨hv260, N260q, K260, C260⟩ := hQ260
  subst hv260
  have N260 := Fr.app N257 N260q
  have c261 := (c258.keep K260 (allS (own_Ch.safe C257 (c258).1.alike) all0))
  have c262 := (c259.keep K260 (allS G_a all0))
  have t260 := (t257.keep K260 (allS hka all0))
  show own_Go p.tables e below (T260.setTop (mkF m 131 #[.val (.int p1), .val (.int p2), .val (.int p3), .val (.int p4), .val (.int q4), .unset, .val (.ref a6), .val (.int q7), .val (.int q8), .val (.int (13 : Int32)), .val (.int q10), .val (.ref a11)] [])) _
  refine own_aload X260 hx hby at_131 (pc' := 133) rfl rfl rfl ?_
  refine own_aload X260 hx hby at_133 (pc' := 135) rfl rfl rfl ?_
  refine own_iconst X260 hx hby at_135 (pc' := 136) rfl (z := (2 : Int32)) (by decide) ?_
  refine own_iload X260 hx hby at_136 (pc' := 138) rfl rfl ?_
  refine own_callS X260 hx hZ (rm_put l Z a0 hw [] a11 a6 (2 : Int32) q10 13 k0 ds gS fm T260.heap n0 (c262) S_S hS S_F hfm (C260) (t260) (by decide) (by decide) hpad G_a) hown (hw _ (List.mem_of_getElem? (i := 22) rfl)) (hw _ (List.mem_of_getElem? (i := 23) rfl)) (hw _ (List.mem_of_getElem? (i := 24) rfl)) (hw _ (List.mem_of_getElem? (i := 25) rfl)) (by decide) (W := 0) (by decide) (by decide) (by rw [hml]; rfl) (argsL := [(.ref a11), (.ref a6), (.int (2 : Int32)), (.int q10)]) (rest := []) rfl (lenOf own_pd12 rfl) rfl (Nat.le_of_eq rfl) (hb hby at_138) rfl (by decide) (by decide) ?_
  intro v263 T263 L263 X263 hQ263
  obtain ⟨hv263, N263q, K263, C263⟩ := hQ263
  subst hv263
  have N263 := Fr.app N260 N263q
  have c264 := (c261.keep K263 (allS (own_Ch.safe C260 (c261).1.alike) all0))
  have c265 := (c262.keep K263 (allS G_a all0))
  have t263 := (t260.keep K263 (allS hka all0))
  show own_Go p.tables e below (T263.setTop (mkF m 141 #[.val (.int p1), .val (.int p2), .val (.int p3), .val (.int p4), .val (.int q4), .unset, .val (.ref a6), .val (.int q7), .val (.int q8), .val (.int (13 : Int32)), .val (.int q10), .val (.ref a11)] [])) _
  refine own_aload X263 hx hby at_141 (pc' := 143) rfl rfl rfl ?_
  refine own_aload X263 hx hby at_143 (pc' := 145) rfl rfl rfl ?_
  refine own_iconst X263 hx hby at_145 (pc' := 146) rfl (z := (3 : Int32)) (by decide) ?_
  refine own_iload X263 hx hby at_146 (pc' := 148) rfl rfl ?_
  refine own_callS X263 hx hZ (rm_put l Z a0 hw [] a11 a6 (3 : Int32) q10 13 k0 ds gS fm T263.heap n0 (c265) S_S hS S_F hfm (C263) (t263) (by decide) (by decide) hpad G_a) hown (hw _ (List.mem_of_getElem? (i := 22) rfl)) (hw _ (List.mem_of_getElem? (i := 23) rfl)) (hw _ (List.mem_of_getElem? (i := 24) rfl)) (hw _ (List.mem_of_getElem? (i := 25) rfl)) (by decide) (W := 0) (by decide) (by decide) (by rw [hml]; rfl) (argsL := [(.ref a11), (.ref a6), (.int (3 : Int32)), (.int q10)]) (rest := []) rfl (lenOf own_pd12 rfl) rfl (Nat.le_of_eq rfl) (hb hby at_148) rfl (by decide) (by decide) ?_
  intro v266 T266 L266 X266 hQ266
  obtain ⟨hv266, N266q, K266, C266⟩ := hQ266
  subst hv266
  have N266 := Fr.app N263 N266q
  have c267 := (c264.keep K266 (allS (own_Ch.safe C263 (c264).1.alike) all0))
  have c268 := (c265.keep K266 (allS G_a all0))
  have t266 := (t263.keep K266 (allS hka all0))
  show own_Go p.tables e below (T266.setTop (mkF m 151 #[.val (.int p1), .val (.int p2), .val (.int p3), .val (.int p4), .val (.int q4), .unset, .val (.ref a6), .val (.int q7), .val (.int q8), .val (.int (13 : Int32)), .val (.int q10), .val (.ref a11)] [])) _
  refine own_aload X266 hx hby at_151 (pc' := 153) rfl rfl rfl ?_
  refine own_aload X266 hx hby at_153 (pc' := 155) rfl rfl rfl ?_
  refine own_iconst X266 hx hby at_155 (pc' := 156) rfl (z := (4 : Int32)) (by decide) ?_
  refine own_iload X266 hx hby at_156 (pc' := 158) rfl rfl ?_
  refine own_callS X266 hx hZ (rm_put l Z a0 hw [] a11 a6 (4 : Int32) q10 13 k0 ds gS fm T266.heap n0 (c268) S_S hS S_F hfm (C266) (t266) (by decide) (by decide) hpad G_a) hown (hw _ (List.mem_of_getElem? (i := 22) rfl)) (hw _ (List.mem_of_getElem? (i := 23) rfl)) (hw _ (List.mem_of_getElem? (i := 24) rfl)) (hw _ (List.mem_of_getElem? (i := 25) rfl)) (by decide) (W := 0) (by decide) (by decide) (by rw [hml]; rfl) (argsL := [(.ref a11), (.ref a6), (.int (4 : Int32)), (.int q10)]) (rest := []) rfl (lenOf own_pd12 rfl) rfl (Nat.le_of_eq rfl) (hb hby at_158) rfl (by decide) (by decide) ?_
  intro v269 T269 L269 X269 hQ269
  obtain ⟨hv269, N269q, K269, C269⟩ := hQ269
  subst hv269
  have N269 := Fr.app N266 N269q
  have c270 := (c267.keep K269 (allS (own_Ch.safe C266 (c267).1.alike) all0))
  have c271 := (c268.keep K269 (allS G_a all0))
  have t269 := (t266.keep K269 (allS hka all0))
  show own_Go p.tables e below (T269.setTop (mkF m 161 #[.val (.int p1), .val (.int p2), .val (.int p3), .val (.int p4), .val (.int q4), .unset, .val (.ref a6), .val (.int q7), .val (.int q8), .val (.int (13 : Int32)), .val (.int q10), .val (.ref a11)] [])) _
  refine own_aload X269 hx hby at_161 (pc' := 163) rfl rfl rfl ?_
  refine own_aload X269 hx hby at_163 (pc' := 165) rfl rfl rfl ?_
  refine own_iconst X269 hx hby at_165 (pc' := 166) rfl (z := (5 : Int32)) (by decide) ?_
  refine own_iload X269 hx hby at_166 (pc' := 168) rfl rfl ?_
  refine own_callS X269 hx hZ (rm_put l Z a0 hw [] a11 a6 (5 : Int32) q10 13 k0 ds gS fm T269.heap n0 (c271) S_S hS S_F hfm (C269) (t269) (by decide) (by decide) hpad G_a) hown (hw _ (List.mem_of_getElem? (i := 22) rfl)) (hw _ (List.mem_of_getElem? (i := 23) rfl)) (hw _ (List.mem_of_getElem? (i := 24) rfl)) (hw _ (List.mem_of_getElem? (i := 25) rfl)) (by decide) (W := 0) (by decide) (by decide) (by rw [hml]; rfl) (argsL := [(.ref a11), (.ref a6), (.int (5 : Int32)), (.int q10)]) (rest := []) rfl (lenOf own_pd12 rfl) rfl (Nat.le_of_eq rfl) (hb hby at_168) rfl (by decide) (by decide) ?_
  intro v272 T272 L272 X272 hQ272
  obtain ⟨hv272, N272q, K272, C272⟩ := hQ272
  subst hv272
  have N272 := Fr.app N269 N272q
  have c273 := (c270.keep K272 (allS (own_Ch.safe C269 (c270).1.alike) all0))
  have c274 := (c271.keep K272 (allS G_a all0))
  have t272 := (t269.keep K272 (allS hka all0))
  show own_Go p.tables e below (T272.setTop (mkF m 171 #[.val (.int p1), .val (.int p2), .val (.int p3), .val (.int p4), .val (.int q4), .unset, .val (.ref a6), .val (.int q7), .val (.int q8), .val (.int (13 : Int32)), .val (.int q10), .val (.ref a11)] [])) _
  refine own_aload X272 hx hby at_171 (pc' := 173) rfl rfl rfl ?_
  refine own_aload X272 hx hby at_173 (pc' := 175) rfl rfl rfl ?_
  refine own_bipush X272 hx hby at_175 (pc' := 177) rfl (z := (6 : Int32)) (by decide) ?_
  refine own_iload X272 hx hby at_177 (pc' := 179) rfl rfl ?_
  refine own_callS X272 hx hZ (rm_put l Z a0 hw [] a11 a6 (6 : Int32) q10 13 k0 ds gS fm T272.heap n0 (c274) S_S hS S_F hfm (C272) (t272) (by decide) (by decide) hpad G_a) hown (hw _ (List.mem_of_getElem? (i := 22) rfl)) (hw _ (List.mem_of_getElem? (i := 23) rfl)) (hw _ (List.mem_of_getElem? (i := 24) rfl)) (hw _ (List.mem_of_getElem? (i := 25) rfl)) (by decide) (W := 0) (by decide) (by decide) (by rw [hml]; rfl) (argsL := [(.ref a11), (.ref a6), (.int (6 : Int32)), (.int q10)]) (rest := []) rfl (lenOf own_pd12 rfl) rfl (Nat.le_of_eq rfl) (hb hby at_179) rfl (by decide) (by decide) ?_
  intro v275 T275 L275 X275 hQ275
  obtain ⟨hv275, N275q, K275, C275⟩ := hQ275
  subst hv275
  have N275 := Fr.app N272 N275q
  have c276 := (c273.keep K275 (allS (own_Ch.safe C272 (c273).1.alike) all0))
  have c277 := (c274.keep K275 (allS G_a all0))
  have t275 := (t272.keep K275 (allS hka all0))
  show own_Go p.tables e below (T275.setTop (mkF m 182 #[.val (.int p1), .val (.int p2), .val (.int p3), .val (.int p4), .val (.int q4), .unset, .val (.ref a6), .val (.int q7), .val (.int q8), .val (.int (13 : Int32)), .val (.int q10), .val (.ref a11)] [])) _
  refine own_aload X275 hx hby at_182 (pc' := 184) rfl rfl rfl ?_
  refine own_aload X275 hx hby at_184 (pc' := 186) rfl rfl rfl ?_
  refine own_bipush X275 hx hby at_186 (pc' := 188) rfl (z := (7 : Int32)) (by decide) ?_
  refine own_iload X275 hx hby at_188 (pc' := 190) rfl rfl ?_
  refine own_callS X275 hx hZ (rm_put l Z a0 hw [] a11 a6 (7 : Int32) q10 13 k0 ds gS fm T275.heap n0 (c277) S_S hS S_F hfm (C275) (t275) (by decide) (by decide) hpad G_a) hown (hw _ (List.mem_of_getElem? (i := 22) rfl)) (hw _ (List.mem_of_getElem? (i := 23) rfl)) (hw _ (List.mem_of_getElem? (i := 24) rfl)) (hw _ (List.mem_of_getElem? (i := 25) rfl)) (by decide) (W := 0) (by decide) (by decide) (by rw [hml]; rfl) (argsL := [(.ref a11), (.ref a6), (.int (7 : Int32)), (.int q10)]) (rest := []) rfl (lenOf own_pd12 rfl) rfl (Nat.le_of_eq rfl) (hb hby at_190) rfl (by decide) (by decide) ?_
  intro v278 T278 L278 X278 hQ278
  obtain ⟨hv278, N278q, K278, C278⟩ := hQ278
  subst hv278
  have N278 := Fr.app N275 N278q
  have c279 := (c276.keep K278 (allS (own_Ch.safe C275 (c276).1.alike) all0))
  have c280 := (c277.keep K278 (allS G_a all0))
  have t278 := (t275.keep K278 (allS hka all0))
  show own_Go p.tables e below (T278.setTop (mkF m 193 #[.val (.int p1), .val (.int p2), .val (.int p3), .val (.int p4), .val (.int q4), .unset, .val (.ref a6), .val (.int q7), .val (.int q8), .val (.int (13 : Int32)), .val (.int q10), .val (.ref a11)] [])) _
  refine own_aload X278 hx hby at_193 (pc' := 195) rfl rfl rfl ?_
  refine own_aload X278 hx hby at_195 (pc' := 197) rfl rfl rfl ?_
  refine own_bipush X278 hx hby at_197 (pc' := 199) rfl (z := (8 : Int32)) (by decide) ?_
  refine own_iload X278 hx hby at_199 (pc' := 201) rfl rfl ?_
  refine own_callS X278 hx hZ (rm_put l Z a0 hw [] a11 a6 (8 : Int32) q10 13 k0 ds gS fm T278.heap n0 (c280) S_S hS S_F hfm (C278) (t278) (by decide) (by decide) hpad G_a) hown (hw _ (List.mem_of_getElem? (i := 22) rfl)) (hw _ (List.mem_of_getElem? (i := 23) rfl)) (hw _ (List.mem_of_getElem? (i := 24) rfl)) (hw _ (List.mem_of_getElem? (i := 25) rfl)) (by decide) (W := 0) (by decide) (by decide) (by rw [hml]; rfl) (argsL := [(.ref a11), (.ref a6), (.int (8 : Int32)), (.int q10)]) (rest := []) rfl (lenOf own_pd12 rfl) rfl (Nat.le_of_eq rfl) (hb hby at_201) rfl (by decide) (by decide) ?_
  intro v281 T281 L281 X281 hQ281
  obtain ⟨hv281, N281q, K281, C281⟩ := hQ281
  subst hv281
  have N281 := Fr.app N278 N281q
  have c282 := (c279.keep K281 (allS (own_Ch.safe C278 (c279).1.alike) all0))
  have c283 := (c280.keep K281 (allS G_a all0))
  have t281 := (t278.keep K281 (allS hka all0))
  show own_Go p.tables e below (T281.setTop (mkF m 204 #[.val (.int p1), .val (.int p2), .val (.int p3), .val (.int p4), .val (.int q4), .unset, .val (.ref a6), .val (.int q7), .val (.int q8), .val (.int (13 : Int32)), .val (.int q10), .val (.ref a11)] [])) _
  refine own_aload X281 hx hby at_204 (pc' := 206) rfl rfl rfl ?_
  refine own_aload X281 hx hby at_206 (pc' := 208) rfl rfl rfl ?_
  refine own_bipush X281 hx hby at_208 (pc' := 210) rfl (z := (9 : Int32)) (by decide) ?_
  refine own_iload X281 hx hby at_210 (pc' := 212) rfl rfl ?_
  refine own_callS X281 hx hZ (rm_put l Z a0 hw [] a11 a6 (9 : Int32) q10 13 k0 ds gS fm T281.heap n0 (c283) S_S hS S_F hfm (C281) (t281) (by decide) (by decide) hpad G_a) hown (hw _ (List.mem_of_getElem? (i := 22) rfl)) (hw _ (List.mem_of_getElem? (i := 23) rfl)) (hw _ (List.mem_of_getElem? (i := 24) rfl)) (hw _ (List.mem_of_getElem? (i := 25) rfl)) (by decide) (W := 0) (by decide) (by decide) (by rw [hml]; rfl) (argsL := [(.ref a11), (.ref a6), (.int (9 : Int32)), (.int q10)]) (rest := []) rfl (lenOf own_pd12 rfl) rfl (Nat.le_of_eq rfl) (hb hby at_212) rfl (by decide) (by decide) ?_
  intro v284 T284 L284 X284 hQ284
  obtain ⟨hv284, N284q, K284, C284⟩ := hQ284
  subst hv284
  have N284 := Fr.app N281 N284q
  have c285 := (c282.keep K284 (allS (own_Ch.safe C281 (c282).1.alike) all0))
  have c286 := (c283.keep K284 (allS G_a all0))
  have t284 := (t281.keep K284 (allS hka all0))
  show own_Go p.tables e below (T284.setTop (mkF m 215 #[.val (.int p1), .val (.int p2), .val (.int p3), .val (.int p4), .val (.int q4), .unset, .val (.ref a6), .val (.int q7), .val (.int q8), .val (.int (13 : Int32)), .val (.int q10), .val (.ref a11)] [])) _
  refine own_aload X284 hx hby at_215 (pc' := 217) rfl rfl rfl ?_
  refine own_aload X284 hx hby at_217 (pc' := 219) rfl rfl rfl ?_
  refine own_bipush X284 hx hby at_219 (pc' := 221) rfl (z := (10 : Int32)) (by decide) ?_
  refine own_iload X284 hx hby at_221 (pc' := 223) rfl rfl ?_
  refine own_callS X284 hx hZ (rm_put l Z a0 hw [] a11 a6 (10 : Int32) q10 13 k0 ds gS fm T284.heap n0 (c286) S_S hS S_F hfm (C284) (t284) (by decide) (by decide) hpad G_a) hown (hw _ (List.mem_of_getElem? (i := 22) rfl)) (hw _ (List.mem_of_getElem? (i := 23) rfl)) (hw _ (List.mem_of_getElem? (i := 24) rfl)) (hw _ (List.mem_of_getElem? (i := 25) rfl)) (by decide) (W := 0) (by decide) (by decide) (by rw [hml]; rfl) (argsL := [(.ref a11), (.ref a6), (.int (10 : Int32)), (.int q10)]) (rest := []) rfl (lenOf own_pd12 rfl) rfl (Nat.le_of_eq rfl) (hb hby at_223) rfl (by decide) (by decide) ?_
  intro v287 T287 L287 X287 hQ287
  obtain ⟨hv287, N287q, K287, C287⟩ := hQ287
  subst hv287
  have N287 := Fr.app N284 N287q
  have c288 := (c285.keep K287 (allS (own_Ch.safe C284 (c285).1.alike) all0))
  have c289 := (c286.keep K287 (allS G_a all0))
  have t287 := (t284.keep K287 (allS hka all0))
  show own_Go p.tables e below (T287.setTop (mkF m 226 #[.val (.int p1), .val (.int p2), .val (.int p3), .val (.int p4), .val (.int q4), .unset, .val (.ref a6), .val (.int q7), .val (.int q8), .val (.int (13 : Int32)), .val (.int q10), .val (.ref a11)] [])) _
  refine own_aload X287 hx hby at_226 (pc' := 228) rfl rfl rfl ?_
  refine own_aload X287 hx hby at_228 (pc' := 230) rfl rfl rfl ?_
  refine own_bipush X287 hx hby at_230 (pc' := 232) rfl (z := (11 : Int32)) (by decide) ?_
  refine own_iload X287 hx hby at_232 (pc' := 234) rfl rfl ?_
  refine own_callS X287 hx hZ (rm_put l Z a0 hw [] a11 a6 (11 : Int32) q10 13 k0 ds gS fm T287.heap n0 (c289) S_S hS S_F hfm (C287) (t287) (by decide) (by decide) hpad G_a) hown (hw _ (List.mem_of_getElem? (i := 22) rfl)) (hw _ (List.mem_of_getElem? (i := 23) rfl)) (hw _ (List.mem_of_getElem? (i := 24) rfl)) (hw _ (List.mem_of_getElem? (i := 25) rfl)) (by decide) (W := 0) (by decide) (by decide) (by rw [hml]; rfl) (argsL := [(.ref a11), (.ref a6), (.int (11 : Int32)), (.int q10)]) (rest := []) rfl (lenOf own_pd12 rfl) rfl (Nat.le_of_eq rfl) (hb hby at_234) rfl (by decide) (by decide) ?_
  intro v290 T290 L290 X290 hQ290
  obtain ⟨hv290, N290q, K290, C290⟩ := hQ290
  subst hv290
  have N290 := Fr.app N287 N290q
  have c291 := (c288.keep K290 (allS (own_Ch.safe C287 (c288).1.alike) all0))
  have c292 := (c289.keep K290 (allS G_a all0))
  have t290 := (t287.keep K290 (allS hka all0))
  show own_Go p.tables e below (T290.setTop (mkF m 237 #[.val (.int p1), .val (.int p2), .val (.int p3), .val (.int p4), .val (.int q4), .unset, .val (.ref a6), .val (.int q7), .val (.int q8), .val (.int (13 : Int32)), .val (.int q10), .val (.ref a11)] [])) _
  refine own_aload X290 hx hby at_237 (pc' := 239) rfl rfl rfl ?_
  refine own_aload X290 hx hby at_239 (pc' := 241) rfl rfl rfl ?_
  refine own_bipush X290 hx hby at_241 (pc' := 243) rfl (z := (12 : Int32)) (by decide) ?_
  refine own_iload X290 hx hby at_243 (pc' := 245) rfl rfl ?_
  refine own_callS X290 hx hZ (rm_put l Z a0 hw [] a11 a6 (12 : Int32) q10 13 k0 ds gS fm T290.heap n0 (c292) S_S hS S_F hfm (C290) (t290) (by decide) (by decide) hpad G_a) hown (hw _ (List.mem_of_getElem? (i := 22) rfl)) (hw _ (List.mem_of_getElem? (i := 23) rfl)) (hw _ (List.mem_of_getElem? (i := 24) rfl)) (hw _ (List.mem_of_getElem? (i := 25) rfl)) (by decide) (W := 0) (by decide) (by decide) (by rw [hml]; rfl) (argsL := [(.ref a11), (.ref a6), (.int (12 : Int32)), (.int q10)]) (rest := []) rfl (lenOf own_pd12 rfl) rfl (Nat.le_of_eq rfl) (hb hby at_245) rfl (by decide) (by decide) ?_
  intro v293 T293 L293 X293 hQ293
  obtain ⟨hv293, N293q, K293, C293⟩ := hQ293
  subst hv293
  have N293 := Fr.app N290 N293q
  have c294 := (c291.keep K293 (allS (own_Ch.safe C290 (c291).1.alike) all0))
  have c295 := (c292.keep K293 (allS G_a all0))
  have t293 := (t290.keep K293 (allS hka all0))
  show own_Go p.tables e below (T293.setTop (mkF m 248 #[.val (.int p1), .val (.int p2), .val (.int p3), .val (.int p4), .val (.int q4), .unset, .val (.ref a6), .val (.int q7), .val (.int q8), .val (.int (13 : Int32)), .val (.int q10), .val (.ref a11)] [])) _
  refine own_iloadN X293 hx hby at_248 (pc' := 249) rfl rfl ?_
  refine own_iconst X293 hx hby at_249 (pc' := 250) rfl (z := (3 : Int32)) (by decide) ?_
  refine own_iushr X293 hx hby at_250 (pc' := 251) rfl rfl ?_
  refine own_iconst X293 hx hby at_251 (pc' := 252) rfl (z := (1 : Int32)) (by decide) ?_
  refine own_iand X293 hx hby at_252 (pc' := 253) rfl rfl ?_
  by_cases hc253 : (((p2.toUInt32 >>> ((3 : Int32) &&& 31).toUInt32).toInt32) &&& (1 : Int32)) = (0 : Int32)
  · skip
    refine own_ifYes X293 hx hby at_253 (pc' := 277) (by decide) (teq hc253).1 ?_
    refine own_new X293 hx hby at_277 (pc' := 280) rfl hZ hown (hw _ (List.mem_of_getElem? (i := 26) rfl)) (hw _ (List.mem_of_getElem? (i := 2) rfl)) (hw _ (List.mem_of_getElem? (i := 1) rfl)) rfl (by decide) (by decide) ?_
    intro T296 h296 b296 X296 e296 g296 E296 A296 D296
    have F296_value : Fld Z h296 b296 "java/lang/String" "value" "[B" .null := D296 (Or.inr (hw _ (List.mem_of_getElem? (i := 4) rfl))) (ty := (.array .byte)) (by decide)
    have F296_coder : Fld Z h296 b296 "java/lang/String" "coder" "B" (.int (0 : Int32)) := D296 (Or.inr (hw _ (List.mem_of_getElem? (i := 5) rfl))) (ty := .byte) (by decide)
    have l296 : n0 ≤ b296 := (Nat.le_trans Z0 (Nat.le_trans (Nat.le_trans (Nat.le_trans (Nat.le_trans (Nat.le_trans (Nat.le_trans (Nat.le_trans (Nat.le_trans (Nat.le_trans (Nat.le_trans (Nat.le_trans (Nat.le_trans (Nat.le_trans (Nat.le_trans (Nat.le_refl _) K257.1) K260.1) K263.1) K266.1) K269.1) K272.1) K275.1) K278.1) K281.1) K284.1) K287.1) K290.1) K293.1) (Nat.le_of_eq g296.symm)))
    refine own_dup X296 hx hby at_280 (pc' := 281) rfl rfl ?_
    refine own_aload X296 hx hby at_281 (pc' := 283) rfl rfl rfl ?_
    refine own_callSpB X296 hx hZ (own_strB (W := 1) hZ hws (hw _ (List.mem_of_getElem? (i := 2) rfl)) l296 (own_Z0 ((c295.ext E296))) (A296) (F296_value) (F296_coder) ((C293.ext E296)) (S_S.ext ((c295.ext E296)).2) hS (by decide) (by decide) (by decide) (by decide)) rfl hown (hw _ (List.mem_of_getElem? (i := 27) rfl)) (hw _ (List.mem_of_getElem? (i := 28) rfl)) (hw _ (List.mem_of_getElem? (i := 29) rfl)) (by decide) (by rw [hml]; rfl) (argsL := [(.ref a11)]) (rest := [(.ref b296)]) rfl (lenOf own_pd13 rfl) rfl (Nat.le_of_eq rfl) (hb hby at_283) e296 (by decide) (by decide) ?_
    intro v297 T297 L297 X297 hQ297
    obtain ⟨hv297, N297q, K297, cs297, F297⟩ := hQ297
    subst hv297
    have N297 := Fr.app N293 N297q
    have c298 := ((c294.ext E296).keep K297 (allS (Safe.ext E296 (c294).ch (Safe.new (Nat.le_of_eq g296.symm))) all0))
    have c299 := ((c295.ext E296).keep K297 (allS l296 all0))
    show own_Go p.tables e below (T297.setTop (mkF m 286 #[.val (.int p1), .val (.int p2), .val (.int p3), .val (.int p4), .val (.int q4), .unset, .val (.ref a6), .val (.int q7), .val (.int q8), .val (.int (13 : Int32)), .val (.int q10), .val (.ref a11)] [(.ref b296)])) _
    refine own_astore X297 hx hby at_286 (pc' := 288) rfl rfl (Ls' := #[.val (.int p1), .val (.int p2), .val (.int p3), .val (.int p4), .val (.int q4), .val (.ref b296), .val (.ref a6), .val (.int q7), .val (.int q8), .val (.int (13 : Int32)), .val (.int q10), .val (.ref a11)]) rfl ?_
    exact tl_s hx hw hEL hby hml hret hlk (c298) (own_more X297 (by decide) (by decide)) rfl N297 hQ p1 p2 p3 p4 q4 b296 a6 q7 q8 (13 : Int32) q10 a11 cs297 _ aV kV r0 r1 f0 f1 aE gS fm (c299) S_V A_V E_V FC hs F_0 F_1 T_0 T_1 S_E E_E F_E S_S hS S_F hfm S_0 S_1 (F297)
  · skip
    refine own_ifNo X293 hx hby at_253 (pc' := 256) rfl (feq hc253).1 ?_
    refine own_iload X293 hx hby at_256 (pc' := 258) rfl rfl ?_
    refine own_ifNo X293 hx hby at_258 (pc' := 261) rfl (by decide) ?_
    refine own_aload X293 hx hby at_261 (pc' := 263) rfl rfl rfl ?_
    refine own_iloadN X293 hx hby at_263 (pc' := 264) rfl rfl ?_
    refine own_ldc X293 hx hby at_264 (pc' := 266) rfl hZ hown (hw _ (List.mem_of_getElem? (i := 117) rfl)) ?_
    refine own_iand X293 hx hby at_266 (pc' := 267) rfl rfl ?_
    refine own_iload X293 hx hby at_267 (pc' := 269) rfl rfl ?_
    refine own_irem X293 hx hby at_269 (pc' := 270) rfl (by decide) rfl ?_
    refine own_iloadN X293 hx hby at_270 (pc' := 271) rfl rfl ?_
    refine own_sipush X293 hx hby at_271 (pc' := 274) rfl (z := (255 : Int32)) (by decide) ?_
    refine own_iand X293 hx hby at_274 (pc' := 275) rfl rfl ?_
    refine own_i2c X293 hx hby at_275 (pc' := 276) rfl rfl ?_
    refine own_castoreC X293 hx hby at_276 (pc' := 277) rfl hZ rfl (C293) (own_rem (q := p3) (d := (13 : Int32)) (k := 13) (by decide) (by decide) (by decide) (by decide)).1 (own_rem (q := p3) (d := (13 : Int32)) (k := 13) (by decide) (by decide) (by decide) (by decide)).2 ((own_narB (own_c255 _)).symm ▸ own_c255 _) ?_
    intro T300 h300 X300 e300 W300 C300
    have N300 := Fr.snoc X300 N293 G_a
    have c301 := (c294.wr W300 (own_Ch.safe C293 (c294).1.alike))
    have c302 := (c295.wr W300 G_a)
    refine own_new X300 hx hby at_277 (pc' := 280) rfl hZ hown (hw _ (List.mem_of_getElem? (i := 26) rfl)) (hw _ (List.mem_of_getElem? (i := 2) rfl)) (hw _ (List.mem_of_getElem? (i := 1) rfl)) e300 (by decide) (by decide) ?_
    intro T303 h303 b303 X303 e303 g303 E303 A303 D303
    have F303_value : Fld Z h303 b303 "java/lang/String" "value" "[B" .null := D303 (Or.inr (hw _ (List.mem_of_getElem? (i := 4) rfl))) (ty := (.array .byte)) (by decide)
    have F303_coder : Fld Z h303 b303 "java/lang/String" "coder" "B" (.int (0 : Int32)) := D303 (Or.inr (hw _ (List.mem_of_getElem? (i := 5) rfl))) (ty := .byte) (by decide)
    have l303 : n0 ≤ b303 := (Nat.le_trans Z0 (Nat.le_trans (Nat.le_trans (Nat.le_trans (Nat.le_trans (Nat.le_trans (Nat.le_trans (Nat.le_trans (Nat.le_trans (Nat.le_trans (Nat.le_trans (Nat.le_trans (Nat.le_trans (Nat.le_trans (Nat.le_trans (Nat.le_trans (Nat.le_refl _) K257.1) K260.1) K263.1) K266.1) K269.1) K272.1) K275.1) K278.1) K281.1) K284.1) K287.1) K290.1) K293.1) (Nat.le_of_eq (Wr.size W300).symm)) (Nat.le_of_eq g303.symm)))
    refine own_dup X303 hx hby at_280 (pc' := 281) rfl rfl ?_
    refine own_aload X303 hx hby at_281 (pc' := 283) rfl rfl rfl ?_
    refine own_callSpB X303 hx hZ (own_strB (W := 1) hZ hws (hw _ (List.mem_of_getElem? (i := 2) rfl)) l303 (own_Z0 ((c302.ext E303))) (A303) (F303_value) (F303_coder) ((C300.ext E303)) (S_S.ext ((c302.ext E303)).2) hS (by decide) (by decide) (by decide) (by decide)) rfl hown (hw _ (List.mem_of_getElem? (i := 27) rfl)) (hw _ (List.mem_of_getElem? (i := 28) rfl)) (hw _ (List.mem_of_getElem? (i := 29) rfl)) (by decide) (by rw [hml]; rfl) (argsL := [(.ref a11)]) (rest := [(.ref b303)]) rfl (lenOf own_pd13 rfl) rfl (Nat.le_of_eq rfl) (hb hby at_283) e303 (by decide) (by decide) ?_
    intro v304 T304 L304 X304 hQ304
    obtain ⟨hv304, N304q, K304, cs304, F304⟩ := hQ304
    subst hv304
    have N304 := Fr.app N300 N304q
    have c305 := ((c301.ext E303).keep K304 (allS (Safe.ext E303 (c301).ch (Safe.new (Nat.le_of_eq g303.symm))) all0))
    have c306 := ((c302.ext E303).keep K304 (allS l303 all0))
    show own_Go p.tables e below (T304.setTop (mkF m 286 #[.val (.int p1), .val (.int p2), .val (.int p3), .val (.int p4), .val (.int q4), .unset, .val (.ref a6), .val (.int q7), .val (.int q8), .val (.int (13 : Int32)), .val (.int q10), .val (.ref a11)] [(.ref b303)])) _
    refine own_astore X304 hx hby at_286 (pc' := 288) rfl rfl (Ls' := #[.val (.int p1), .val (.int p2), .val (.int p3), .val (.int p4), .val (.int q4), .val (.ref b303), .val (.ref a6), .val (.int q7), .val (.int q8), .val (.int (13 : Int32)), .val (.int q10), .val (.ref a11)]) rfl ?_
    exact tl_s hx hw hEL hby hml hret hlk (c305) (own_more X304 (by decide) (by decide)) rfl N304 hQ p1 p2 p3 p4 q4 b303 a6 q7 q8 (13 : Int32) q10 a11 cs304 _ aV kV r0 r1 f0 f1 aE gS fm (c306) S_V A_V E_V FC hs F_0 F_1 T_0 T_1 S_E E_E F_E S_S hS S_F hfm S_0 S_1 (F304)
theorem own_ef_rm0 (m : MethodId) (p1 : Int32) (p2 : Int32) (p3 : Int32) (p4 : Int32) : entryFrame m #[(.int p1), (.int p2), (.int p3), (.int p4)] maxLocals = mkF m 0 #[.val (.int p1), .val (.int p2), .val (.int p3), .val (.int p4), .unset, .unset, .unset, .unset, .unset, .unset, .unset, .unset] [] := by first | (simp [entryFrame, mkF, argsToLocals, Value.category, maxLocals]; done) | rfl
def Qrm0 (Z : State) (p1 : Int32) (p2 : Int32) (p3 : Int32) (p4 : Int32) (aV : Addr) (kV : Cell) (r0 : Addr) (r1 : Addr) (f0 : Addr) (f1 : Addr) (aE : Addr) (gS : Int32) (fm : Value) (h0 : Heap) (n0 : Nat) (v : Option Value) (h : Heap) (L : List Loc) : Prop := v = some (.int (1 : Int32)) ∧ Fr n0 L
set_option maxRecDepth 65536 in
set_option maxHeartbeats 40000000 in
theorem rm0 (l : Launch) (Z : State) (a0 : Array Value) (hw : ∀ d ∈ tables_1, d.before a0 Z = true) (ws : List Jvm.Cond) (p1 : Int32) (p2 : Int32) (p3 : Int32) (p4 : Int32) (aV : Addr) (kV : Cell) (r0 : Addr) (r1 : Addr) (f0 : Addr) (f1 : Addr) (aE : Addr) (gS : Int32) (fm : Value) (h0 : Heap) (n0 : Nat) (hEL : EW Z a0 own_EL) (O_0 : Old Z n0 h0) (S_V : Sta Z Z.heap "com/example/inbound_throttle/inboundthrottle/rules/Algorithm" "$VALUES" "[Lcom/example/inbound_throttle/inboundthrottle/rules/Algorithm;" (.ref aV)) (A_V : Arr Z Z.heap aV kV (.object "com/example/inbound_throttle/inboundthrottle/rules/Algorithm")) (E_V : Exa Z Z.heap aV "[Lcom/example/inbound_throttle/inboundthrottle/rules/Algorithm;") (FC : FitC Z kV) (hs : kV.slots.toList = [.ref r0, .ref r1]) (F_0 : Fld Z Z.heap r0 "com/example/inbound_throttle/inboundthrottle/rules/Algorithm" "fileName" "Ljava/lang/String;" (.ref f0)) (F_1 : Fld Z Z.heap r1 "com/example/inbound_throttle/inboundthrottle/rules/Algorithm" "fileName" "Ljava/lang/String;" (.ref f1)) (T_0 : own_Str Z Z.heap Z.heap.size f0 own_FW) (T_1 : own_Str Z Z.heap Z.heap.size f1 own_SL) (S_E : Sta Z Z.heap "java/util/Optional" "EMPTY" "Ljava/util/Optional;" (.ref aE)) (E_E : Exa Z Z.heap aE "java/util/Optional") (F_E : Fld Z Z.heap aE "java/util/Optional" "value" "Ljava/lang/Object;" .null) (S_S : Sta Z Z.heap "java/lang/String" "COMPACT_STRINGS" "Z" (.int gS)) (hS : ¬ gS = 0) (S_F : Sta Z Z.heap "jdk/internal/util/Preconditions" "SIOOBE_FORMATTER" "Ljava/util/function/BiFunction;" fm) (hfm : fm.isRef = true) (S_0 : Sta Z Z.heap "com/example/inbound_throttle/inboundthrottle/rules/Algorithm" "FIXED_WINDOW" "Lcom/example/inbound_throttle/inboundthrottle/rules/Algorithm;" (.ref r0)) (S_1 : Sta Z Z.heap "com/example/inbound_throttle/inboundthrottle/rules/Algorithm" "SLIDING_LOG" "Lcom/example/inbound_throttle/inboundthrottle/rules/Algorithm;" (.ref r1)) :
    own_MetW l x code maxLocals ret ws room_1 #[(.int p1), (.int p2), (.int p3), (.int p4)] Z own_EL h0 (Qrm0 Z p1 p2 p3 p4 aV kV r0 r1 f0 f1 aE gS fm h0 n0) := by
  refine own_bodyW own_pn0 ?_
  intro p e s m below meth c T0 X0 hx hby hml hnm hret hlk W0 e0
  have hZ := W0.1
  have hown := W0.2.1
  have N0 := Fr.nil n0
  refine own_st (fun t k => castTop (own_ef_rm0 m p1 p2 p3 p4) k) ?_
  show own_Go p.tables e below (T0.setTop (mkF m 0 #[.val (.int p1), .val (.int p2), .val (.int p3), .val (.int p4), .unset, .unset, .unset, .unset, .unset, .unset, .unset, .unset] [])) _
  have Z0 := own_Z0 O_0
  have hws : ∀ d ∈ StrChars.Road.words, d.before a0 Z = true := fun d hd => hw d ((by decide +kernel : ∀ d ∈ StrChars.Road.words, d ∈ tables_1) d hd)
  have hwE : ∀ d ∈ StrChars.Road.wordsEq, d.before a0 Z = true := fun d hd => hw d ((by decide +kernel : ∀ d ∈ StrChars.Road.wordsEq, d ∈ tables_1) d hd)
  have wS : ∀ d ∈ Bundle.stringAtoms, d.before a0 Z = true := fun d hd => hw d ((by decide +kernel : ∀ d ∈ Bundle.stringAtoms, d ∈ tables_1) d hd)
  have hwL : ∀ d ∈ StrChars.Road.wordsLen, d.before a0 Z = true := fun d hd => hw d ((by decide +kernel : ∀ d ∈ StrChars.Road.wordsLen, d ∈ tables_1) d hd)
  have hwC : ∀ d ∈ StrChars.Road.wordsChN, d.before a0 Z = true := fun d hd => hw d ((by decide +kernel : ∀ d ∈ StrChars.Road.wordsChN, d ∈ tables_1) d hd)
  refine own_iloadN X0 hx hby at_0 (pc' := 1) rfl rfl ?_
  refine own_iconst X0 hx hby at_1 (pc' := 2) rfl (z := (3 : Int32)) (by decide) ?_
  refine own_iand X0 hx hby at_2 (pc' := 3) rfl rfl ?_
  refine own_istore X0 hx hby at_3 (pc' := 5) rfl (Ls' := #[.val (.int p1), .val (.int p2), .val (.int p3), .val (.int p4), .val (.int (p1 &&& (3 : Int32))), .unset, .unset, .unset, .unset, .unset, .unset, .unset]) rfl ?_
  refine own_iload X0 hx hby at_5 (pc' := 7) rfl rfl ?_
  refine own_iconst X0 hx hby at_7 (pc' := 8) rfl (z := (3 : Int32)) (by decide) ?_
  by_cases hc8 : (p1 &&& (3 : Int32)) = (3 : Int32)
  · skip
    refine own_icmpNo X0 hx hby at_8 (pc' := 11) rfl (teq hc8).2 ?_
    refine own_aconst_null X0 hx hby at_11 (pc' := 12) rfl ?_
    refine own_astore X0 hx hby at_12 (pc' := 14) rfl rfl (Ls' := #[.val (.int p1), .val (.int p2), .val (.int p3), .val (.int p4), .val (.int (p1 &&& (3 : Int32))), .val .null, .unset, .unset, .unset, .unset, .unset, .unset]) rfl ?_
    refine own_goto X0 hx hby at_14 (pc' := 288) (by decide) ?_
    refine own_aconst_null X0 hx hby at_288 (pc' := 289) rfl ?_
    refine own_astore X0 hx hby at_289 (pc' := 291) rfl rfl (Ls' := #[.val (.int p1), .val (.int p2), .val (.int p3), .val (.int p4), .val (.int (p1 &&& (3 : Int32))), .val .null, .val .null, .unset, .unset, .unset, .unset, .unset]) rfl ?_
    refine own_aload X0 hx hby at_291 (pc' := 293) rfl rfl rfl ?_
    refine own_ifnullYes X0 hx hby at_293 (pc' := 329) (by decide) ?_
    refine own_aload X0 hx hby at_329 (pc' := 331) rfl rfl rfl ?_
    refine own_callS X0 hx hZ (rm_nan l Z a0 hw [] aV kV r0 r1 f0 f1 aE h0 n0 (O_0) S_V A_V E_V FC hs F_0 F_1 T_0 T_1 S_E E_E F_E) hown (hw _ (List.mem_of_getElem? (i := 49) rfl)) (hw _ (List.mem_of_getElem? (i := 50) rfl)) (hw _ (List.mem_of_getElem? (i := 51) rfl)) (hw _ (List.mem_of_getElem? (i := 52) rfl)) (by decide) (W := 0) (by decide) (by decide) (by rw [hml]; rfl) (argsL := [.null]) (rest := []) rfl (lenOf own_pd9 rfl) rfl (Nat.le_of_eq rfl) (hb hby at_331) e0 (by decide) (by decide) ?_
    intro v307 T307 L307 X307 hQ307
    obtain ⟨o307, hv307, N307q, K307, E307, F307⟩ := hQ307
    subst hv307
    have N307 := Fr.app N0 N307q
    show own_Go p.tables e below (T307.setTop (mkF m 334 #[.val (.int p1), .val (.int p2), .val (.int p3), .val (.int p4), .val (.int (p1 &&& (3 : Int32))), .val .null, .val .null, .unset, .unset, .unset, .unset, .unset] [(.ref o307)])) _
    refine own_astore X307 hx hby at_334 (pc' := 336) rfl rfl (Ls' := #[.val (.int p1), .val (.int p2), .val (.int p3), .val (.int p4), .val (.int (p1 &&& (3 : Int32))), .val .null, .val .null, .val (.ref o307), .unset, .unset, .unset, .unset]) rfl ?_
    refine own_aload X307 hx hby at_336 (pc' := 338) rfl rfl rfl ?_
    refine own_ifnonnullNo X307 hx hby at_338 (pc' := 341) rfl ?_
    refine own_aload X307 hx hby at_341 (pc' := 343) rfl rfl rfl ?_
    refine own_callV X307 hx hZ (rm_ipn l Z a0 hw [] o307 T307.heap n0 (F307)) hown (hw _ (List.mem_of_getElem? (i := 78) rfl)) (hw _ (List.mem_of_getElem? (i := 79) rfl)) (hw _ (List.mem_of_getElem? (i := 81) rfl)) (hw _ (List.mem_of_getElem? (i := 80) rfl)) (hw _ (List.mem_of_getElem? (i := 82) rfl)) (hw _ (List.mem_of_getElem? (i := 75) rfl)) (by decide) E307 (W := 0) (by decide) (by decide) (by rw [hml]; rfl) (argsL := []) (rest := []) rfl (lenOf own_pd10 rfl) rfl (Nat.le_of_eq rfl) (hb hby at_343) rfl (by decide) (by decide) ?_
    intro v308 T308 L308 X308 hQ308
    obtain ⟨hv308, N308q, e308⟩ := hQ308
    subst hv308
    have N308 := Fr.app N307 N308q
    show own_Go p.tables e below (T308.setTop (mkF m 346 #[.val (.int p1), .val (.int p2), .val (.int p3), .val (.int p4), .val (.int (p1 &&& (3 : Int32))), .val .null, .val .null, .val (.ref o307), .unset, .unset, .unset, .unset] [(.int (0 : Int32))])) _
    refine own_ifNo X308 hx hby at_346 (pc' := 349) rfl (by decide) ?_
    refine own_iconst X308 hx hby at_349 (pc' := 350) rfl (z := (1 : Int32)) (by decide) ?_
    refine own_goto X308 hx hby at_350 (pc' := 354) (by decide) ?_
    exact own_retZW (t := .boolean) X308 hx hEL ((W0.keep K307 all0)) e308 hret (by simp) (hb hby at_354) hlk (by decide) (by decide) ⟨congrArg (fun z => some (Value.int z)) (own_nar1), N308⟩
  · skip
    refine own_icmpYes X0 hx hby at_8 (pc' := 17) (by decide) (feq hc8).2 ?_
    refine own_iload X0 hx hby at_17 (pc' := 19) rfl rfl ?_
    by_cases hc19 : (p1 &&& (3 : Int32)) = (0 : Int32)
    · skip
      refine own_ifNo X0 hx hby at_19 (pc' := 22) rfl (teq hc19).2 ?_
      refine own_ldcS X0 hx hby at_22 (pc' := 24) rfl (hw _ (List.mem_of_getElem? (i := 0) rfl)) wS e0 hEL (by decide) (W0) (vs := [(.int (102 : Int32)), (.int (105 : Int32)), (.int (120 : Int32)), (.int (101 : Int32)), (.int (100 : Int32)), (.int (45 : Int32)), (.int (119 : Int32)), (.int (105 : Int32)), (.int (110 : Int32)), (.int (100 : Int32)), (.int (111 : Int32)), (.int (119 : Int32))]) (z := (12 : Int32)) ⟨by decide, by rfl⟩ (by decide) (by rfl) (n := 48) (by decide) (by decide) (by decide) (by decide) ?_
      intro T309 h309 a309 b309 k309 vm309 X309 e309 E309 W309 C309 G309 Gc309 Gv309 Gb309 S309
      have hZ := W309.1
      have hown := W309.2.1
      have F309 := own_Str.mk G309 Gc309 Gv309 Gb309 ([102, 105, 120, 101, 100, 45, 119, 105, 110, 100, 111, 119] : List Int32) (by decide) (by decide) rfl (by first | rfl | decide +kernel)
      refine own_goto X309 hx hby at_24 (pc' := 40) (by decide) ?_
      refine own_astore X309 hx hby at_40 (pc' := 42) rfl rfl (Ls' := #[.val (.int p1), .val (.int p2), .val (.int p3), .val (.int p4), .val (.int (p1 &&& (3 : Int32))), .unset, .val (.ref a309), .unset, .unset, .unset, .unset, .unset]) rfl ?_
      refine own_iloadN X309 hx hby at_42 (pc' := 43) rfl rfl ?_
      refine own_bipush X309 hx hby at_43 (pc' := 45) rfl (z := (7 : Int32)) (by decide) ?_
      refine own_iand X309 hx hby at_45 (pc' := 46) rfl rfl ?_
      refine own_istore X309 hx hby at_46 (pc' := 48) rfl (Ls' := #[.val (.int p1), .val (.int p2), .val (.int p3), .val (.int p4), .val (.int (p1 &&& (3 : Int32))), .unset, .val (.ref a309), .val (.int (p2 &&& (7 : Int32))), .unset, .unset, .unset, .unset]) rfl ?_
      refine own_aload X309 hx hby at_48 (pc' := 50) rfl rfl rfl ?_
      refine own_callVB X309 hx hZ (own_lenB (W := 0) hZ hwL (hw _ (List.mem_of_getElem? (i := 2) rfl)) (F309) (r := (12 : Int32)) (by rfl) (S_S.ext ((O_0.ext E309)).2) hS (by decide) (by decide)) hown (hw _ (List.mem_of_getElem? (i := 8) rfl)) (hw _ (List.mem_of_getElem? (i := 9) rfl)) (hw _ (List.mem_of_getElem? (i := 11) rfl)) (hw _ (List.mem_of_getElem? (i := 10) rfl)) (by decide) ((F309).exa) (by rw [hml]; rfl) (argsL := []) (rest := []) rfl (lenOf own_pd1 rfl) rfl (Nat.le_of_eq rfl) (hb hby at_50) e309 (by decide) (by decide) ?_
      intro v310 T310 L310 X310 hQ310
      obtain ⟨hv310, hL310, e310⟩ := hQ310
      subst hL310 hv310
      have N310 := Fr.app N0 (Fr.nil n0)
      show own_Go p.tables e below (T310.setTop (mkF m 53 #[.val (.int p1), .val (.int p2), .val (.int p3), .val (.int p4), .val (.int (p1 &&& (3 : Int32))), .unset, .val (.ref a309), .val (.int (p2 &&& (7 : Int32))), .unset, .unset, .unset, .unset] [(.int (12 : Int32))])) _
      refine own_istore X310 hx hby at_53 (pc' := 55) rfl (Ls' := #[.val (.int p1), .val (.int p2), .val (.int p3), .val (.int p4), .val (.int (p1 &&& (3 : Int32))), .unset, .val (.ref a309), .val (.int (p2 &&& (7 : Int32))), .val (.int (12 : Int32)), .unset, .unset, .unset]) rfl ?_
      refine own_iload X310 hx hby at_55 (pc' := 57) rfl rfl ?_
      by_cases hc57 : (p2 &&& (7 : Int32)) = (0 : Int32)
      · skip
        refine own_ifNo X310 hx hby at_57 (pc' := 60) rfl (teq hc57).2 ?_
        refine own_iload X310 hx hby at_60 (pc' := 62) rfl rfl ?_
        refine own_iconst X310 hx hby at_62 (pc' := 63) rfl (z := (1 : Int32)) (by decide) ?_
        refine own_isub X310 hx hby at_63 (pc' := 64) rfl (z := (11 : Int32)) (by decide) ?_
        refine own_goto X310 hx hby at_64 (pc' := 92) (by decide) ?_
        refine own_istore X310 hx hby at_92 (pc' := 94) rfl (Ls' := #[.val (.int p1), .val (.int p2), .val (.int p3), .val (.int p4), .val (.int (p1 &&& (3 : Int32))), .unset, .val (.ref a309), .val (.int (p2 &&& (7 : Int32))), .val (.int (12 : Int32)), .val (.int (11 : Int32)), .unset, .unset]) rfl ?_
        refine own_iloadN X310 hx hby at_94 (pc' := 95) rfl rfl ?_
        refine own_bipush X310 hx hby at_95 (pc' := 97) rfl (z := (8 : Int32)) (by decide) ?_
        refine own_iushr X310 hx hby at_97 (pc' := 98) rfl rfl ?_
        refine own_sipush X310 hx hby at_98 (pc' := 101) rfl (z := (255 : Int32)) (by decide) ?_
        refine own_iand X310 hx hby at_101 (pc' := 102) rfl rfl ?_
        refine own_i2c X310 hx hby at_102 (pc' := 103) rfl rfl ?_
        refine own_istore X310 hx hby at_103 (pc' := 105) rfl (Ls' := #[.val (.int p1), .val (.int p2), .val (.int p3), .val (.int p4), .val (.int (p1 &&& (3 : Int32))), .unset, .val (.ref a309), .val (.int (p2 &&& (7 : Int32))), .val (.int (12 : Int32)), .val (.int (11 : Int32)), .val (.int ((((p4.toUInt32 >>> ((8 : Int32) &&& 31).toUInt32).toInt32) &&& (255 : Int32)).toUInt32.toUInt16.toUInt32.toInt32)), .unset]) rfl ?_
        refine own_iload X310 hx hby at_105 (pc' := 107) rfl rfl ?_
        refine own_newA X310 hx hby at_107 (pc' := 109) rfl hZ (hw _ (List.mem_of_getElem? (i := 21) rfl)) e310 (by decide) (cap := 11) (by decide) (by decide) (by decide) (by decide) (vs := List.replicate 11 (.int 0)) (by rfl) ?_
        intro T311 h311 b311 X311 e311 g311 E311 A311
        have c311 := own_Ch.new A311
        have l311 : n0 ≤ b311 := (Nat.le_trans Z0 (Nat.le_trans (Nat.le_trans (Nat.le_refl _) E309.1) (Nat.le_of_eq g311.symm)))
        refine own_astore X311 hx hby at_109 (pc' := 111) rfl rfl (Ls' := #[.val (.int p1), .val (.int p2), .val (.int p3), .val (.int p4), .val (.int (p1 &&& (3 : Int32))), .unset, .val (.ref a309), .val (.int (p2 &&& (7 : Int32))), .val (.int (12 : Int32)), .val (.int (11 : Int32)), .val (.int ((((p4.toUInt32 >>> ((8 : Int32) &&& 31).toUInt32).toInt32) &&& (255 : Int32)).toUInt32.toUInt16.toUInt32.toInt32)), .val (.ref b311)]) rfl ?_
        have hQ : ∀ h L, Fr n0 L → Qrm0 Z p1 p2 p3 p4 aV kV r0 r1 f0 f1 aE gS fm h0 n0 (some (.int 1)) h L := fun h L k => ⟨rfl, k⟩
        exact tl_m11 hx hw hEL hby hml hret hlk ((W309.ext E311)) (own_more X311 (by decide) (by decide)) e311 N310 hQ p1 p2 p3 p4 (p1 &&& (3 : Int32)) a309 (p2 &&& (7 : Int32)) (12 : Int32) ((((p4.toUInt32 >>> ((8 : Int32) &&& 31).toUInt32).toInt32) &&& (255 : Int32)).toUInt32.toUInt16.toUInt32.toInt32) b311 ([102, 105, 120, 101, 100, 45, 119, 105, 110, 100, 111, 119] : List Int32) _ aV kV r0 r1 f0 f1 aE gS fm (((O_0.ext E309).ext E311)) S_V A_V E_V FC hs F_0 F_1 T_0 T_1 S_E E_E F_E S_S hS S_F hfm S_0 S_1 (c311) l311 ((F309.ext E311)) (Nat.le_trans (Nat.le_refl _) (Nat.le_of_eq g311.symm)) (own_c255 _)
      · skip
        refine own_ifYes X310 hx hby at_57 (pc' := 67) (by decide) (feq hc57).2 ?_
        refine own_iload X310 hx hby at_67 (pc' := 69) rfl rfl ?_
        refine own_iconst X310 hx hby at_69 (pc' := 70) rfl (z := (2 : Int32)) (by decide) ?_
        by_cases hc70 : (p2 &&& (7 : Int32)) = (2 : Int32)
        · skip
          refine own_icmpNo X310 hx hby at_70 (pc' := 73) rfl (teq hc70).2 ?_
          refine own_iload X310 hx hby at_73 (pc' := 75) rfl rfl ?_
          refine own_iconst X310 hx hby at_75 (pc' := 76) rfl (z := (1 : Int32)) (by decide) ?_
          refine own_iadd X310 hx hby at_76 (pc' := 77) rfl (z := (13 : Int32)) (by decide) ?_
          refine own_goto X310 hx hby at_77 (pc' := 92) (by decide) ?_
          refine own_istore X310 hx hby at_92 (pc' := 94) rfl (Ls' := #[.val (.int p1), .val (.int p2), .val (.int p3), .val (.int p4), .val (.int (p1 &&& (3 : Int32))), .unset, .val (.ref a309), .val (.int (p2 &&& (7 : Int32))), .val (.int (12 : Int32)), .val (.int (13 : Int32)), .unset, .unset]) rfl ?_
          refine own_iloadN X310 hx hby at_94 (pc' := 95) rfl rfl ?_
          refine own_bipush X310 hx hby at_95 (pc' := 97) rfl (z := (8 : Int32)) (by decide) ?_
          refine own_iushr X310 hx hby at_97 (pc' := 98) rfl rfl ?_
          refine own_sipush X310 hx hby at_98 (pc' := 101) rfl (z := (255 : Int32)) (by decide) ?_
          refine own_iand X310 hx hby at_101 (pc' := 102) rfl rfl ?_
          refine own_i2c X310 hx hby at_102 (pc' := 103) rfl rfl ?_
          refine own_istore X310 hx hby at_103 (pc' := 105) rfl (Ls' := #[.val (.int p1), .val (.int p2), .val (.int p3), .val (.int p4), .val (.int (p1 &&& (3 : Int32))), .unset, .val (.ref a309), .val (.int (p2 &&& (7 : Int32))), .val (.int (12 : Int32)), .val (.int (13 : Int32)), .val (.int ((((p4.toUInt32 >>> ((8 : Int32) &&& 31).toUInt32).toInt32) &&& (255 : Int32)).toUInt32.toUInt16.toUInt32.toInt32)), .unset]) rfl ?_
          refine own_iload X310 hx hby at_105 (pc' := 107) rfl rfl ?_
          refine own_newA X310 hx hby at_107 (pc' := 109) rfl hZ (hw _ (List.mem_of_getElem? (i := 21) rfl)) e310 (by decide) (cap := 13) (by decide) (by decide) (by decide) (by decide) (vs := List.replicate 13 (.int 0)) (by rfl) ?_
          intro T312 h312 b312 X312 e312 g312 E312 A312
          have c312 := own_Ch.new A312
          have l312 : n0 ≤ b312 := (Nat.le_trans Z0 (Nat.le_trans (Nat.le_trans (Nat.le_refl _) E309.1) (Nat.le_of_eq g312.symm)))
          refine own_astore X312 hx hby at_109 (pc' := 111) rfl rfl (Ls' := #[.val (.int p1), .val (.int p2), .val (.int p3), .val (.int p4), .val (.int (p1 &&& (3 : Int32))), .unset, .val (.ref a309), .val (.int (p2 &&& (7 : Int32))), .val (.int (12 : Int32)), .val (.int (13 : Int32)), .val (.int ((((p4.toUInt32 >>> ((8 : Int32) &&& 31).toUInt32).toInt32) &&& (255 : Int32)).toUInt32.toUInt16.toUInt32.toInt32)), .val (.ref b312)]) rfl ?_
          have hQ : ∀ h L, Fr n0 L → Qrm0 Z p1 p2 p3 p4 aV kV r0 r1 f0 f1 aE gS fm h0 n0 (some (.int 1)) h L := fun h L k => ⟨rfl, k⟩
          exact tl_m13 hx hw hEL hby hml hret hlk ((W309.ext E312)) (own_more X312 (by decide) (by decide)) e312 N310 hQ p1 p2 p3 p4 (p1 &&& (3 : Int32)) a309 (p2 &&& (7 : Int32)) (12 : Int32) ((((p4.toUInt32 >>> ((8 : Int32) &&& 31).toUInt32).toInt32) &&& (255 : Int32)).toUInt32.toUInt16.toUInt32.toInt32) b312 ([102, 105, 120, 101, 100, 45, 119, 105, 110, 100, 111, 119] : List Int32) _ aV kV r0 r1 f0 f1 aE gS fm (((O_0.ext E309).ext E312)) S_V A_V E_V FC hs F_0 F_1 T_0 T_1 S_E E_E F_E S_S hS S_F hfm S_0 S_1 (c312) l312 ((F309.ext E312)) (Nat.le_trans (Nat.le_refl _) (Nat.le_of_eq g312.symm)) (own_c255 _)
        · skip
          refine own_icmpYes X310 hx hby at_70 (pc' := 80) (by decide) (feq hc70).2 ?_
          refine own_iload X310 hx hby at_80 (pc' := 82) rfl rfl ?_
          refine own_iconst X310 hx hby at_82 (pc' := 83) rfl (z := (3 : Int32)) (by decide) ?_
          by_cases hc83 : (p2 &&& (7 : Int32)) = (3 : Int32)
          · skip
            refine own_icmpNo X310 hx hby at_83 (pc' := 86) rfl (teq hc83).2 ?_
            refine own_iconst X310 hx hby at_86 (pc' := 87) rfl (z := (0 : Int32)) (by decide) ?_
            refine own_goto X310 hx hby at_87 (pc' := 92) (by decide) ?_
            refine own_istore X310 hx hby at_92 (pc' := 94) rfl (Ls' := #[.val (.int p1), .val (.int p2), .val (.int p3), .val (.int p4), .val (.int (p1 &&& (3 : Int32))), .unset, .val (.ref a309), .val (.int (p2 &&& (7 : Int32))), .val (.int (12 : Int32)), .val (.int (0 : Int32)), .unset, .unset]) rfl ?_
            refine own_iloadN X310 hx hby at_94 (pc' := 95) rfl rfl ?_
            refine own_bipush X310 hx hby at_95 (pc' := 97) rfl (z := (8 : Int32)) (by decide) ?_
            refine own_iushr X310 hx hby at_97 (pc' := 98) rfl rfl ?_
            refine own_sipush X310 hx hby at_98 (pc' := 101) rfl (z := (255 : Int32)) (by decide) ?_
            refine own_iand X310 hx hby at_101 (pc' := 102) rfl rfl ?_
            refine own_i2c X310 hx hby at_102 (pc' := 103) rfl rfl ?_
            refine own_istore X310 hx hby at_103 (pc' := 105) rfl (Ls' := #[.val (.int p1), .val (.int p2), .val (.int p3), .val (.int p4), .val (.int (p1 &&& (3 : Int32))), .unset, .val (.ref a309), .val (.int (p2 &&& (7 : Int32))), .val (.int (12 : Int32)), .val (.int (0 : Int32)), .val (.int ((((p4.toUInt32 >>> ((8 : Int32) &&& 31).toUInt32).toInt32) &&& (255 : Int32)).toUInt32.toUInt16.toUInt32.toInt32)), .unset]) rfl ?_
            refine own_iload X310 hx hby at_105 (pc' := 107) rfl rfl ?_
            refine own_newA X310 hx hby at_107 (pc' := 109) rfl hZ (hw _ (List.mem_of_getElem? (i := 21) rfl)) e310 (by decide) (cap := 0) (by decide) (by decide) (by decide) (by decide) (vs := List.replicate 0 (.int 0)) (by rfl) ?_
            intro T313 h313 b313 X313 e313 g313 E313 A313
            have c313 := own_Ch.new A313
            have l313 : n0 ≤ b313 := (Nat.le_trans Z0 (Nat.le_trans (Nat.le_trans (Nat.le_refl _) E309.1) (Nat.le_of_eq g313.symm)))
            refine own_astore X313 hx hby at_109 (pc' := 111) rfl rfl (Ls' := #[.val (.int p1), .val (.int p2), .val (.int p3), .val (.int p4), .val (.int (p1 &&& (3 : Int32))), .unset, .val (.ref a309), .val (.int (p2 &&& (7 : Int32))), .val (.int (12 : Int32)), .val (.int (0 : Int32)), .val (.int ((((p4.toUInt32 >>> ((8 : Int32) &&& 31).toUInt32).toInt32) &&& (255 : Int32)).toUInt32.toUInt16.toUInt32.toInt32)), .val (.ref b313)]) rfl ?_
            have hQ : ∀ h L, Fr n0 L → Qrm0 Z p1 p2 p3 p4 aV kV r0 r1 f0 f1 aE gS fm h0 n0 (some (.int 1)) h L := fun h L k => ⟨rfl, k⟩
            exact tl_m0 hx hw hEL hby hml hret hlk ((W309.ext E313)) (own_more X313 (by decide) (by decide)) e313 N310 hQ p1 p2 p3 p4 (p1 &&& (3 : Int32)) a309 (p2 &&& (7 : Int32)) (12 : Int32) ((((p4.toUInt32 >>> ((8 : Int32) &&& 31).toUInt32).toInt32) &&& (255 : Int32)).toUInt32.toUInt16.toUInt32.toInt32) b313 ([102, 105, 120, 101, 100, 45, 119, 105, 110, 100, 111, 119] : List Int32) _ aV kV r0 r1 f0 f1 aE gS fm (((O_0.ext E309).ext E313)) S_V A_V E_V FC hs F_0 F_1 T_0 T_1 S_E E_E F_E S_S hS S_F hfm S_0 S_1 (c313) l313 ((F309.ext E313)) (Nat.le_trans (Nat.le_refl _) (Nat.le_of_eq g313.symm)) (own_c255 _)
          · skip
            refine own_icmpYes X310 hx hby at_83 (pc' := 90) (by decide) (feq hc83).2 ?_
            refine own_iload X310 hx hby at_90 (pc' := 92) rfl rfl ?_
            refine own_istore X310 hx hby at_92 (pc' := 94) rfl (Ls' := #[.val (.int p1), .val (.int p2), .val (.int p3), .val (.int p4), .val (.int (p1 &&& (3 : Int32))), .unset, .val (.ref a309), .val (.int (p2 &&& (7 : Int32))), .val (.int (12 : Int32)), .val (.int (12 : Int32)), .unset, .unset]) rfl ?_
            refine own_iloadN X310 hx hby at_94 (pc' := 95) rfl rfl ?_
            refine own_bipush X310 hx hby at_95 (pc' := 97) rfl (z := (8 : Int32)) (by decide) ?_
            refine own_iushr X310 hx hby at_97 (pc' := 98) rfl rfl ?_
            refine own_sipush X310 hx hby at_98 (pc' := 101) rfl (z := (255 : Int32)) (by decide) ?_
            refine own_iand X310 hx hby at_101 (pc' := 102) rfl rfl ?_
            refine own_i2c X310 hx hby at_102 (pc' := 103) rfl rfl ?_
            refine own_istore X310 hx hby at_103 (pc' := 105) rfl (Ls' := #[.val (.int p1), .val (.int p2), .val (.int p3), .val (.int p4), .val (.int (p1 &&& (3 : Int32))), .unset, .val (.ref a309), .val (.int (p2 &&& (7 : Int32))), .val (.int (12 : Int32)), .val (.int (12 : Int32)), .val (.int ((((p4.toUInt32 >>> ((8 : Int32) &&& 31).toUInt32).toInt32) &&& (255 : Int32)).toUInt32.toUInt16.toUInt32.toInt32)), .unset]) rfl ?_
            refine own_iload X310 hx hby at_105 (pc' := 107) rfl rfl ?_
            refine own_newA X310 hx hby at_107 (pc' := 109) rfl hZ (hw _ (List.mem_of_getElem? (i := 21) rfl)) e310 (by decide) (cap := 12) (by decide) (by decide) (by decide) (by decide) (vs := List.replicate 12 (.int 0)) (by rfl) ?_
            intro T314 h314 b314 X314 e314 g314 E314 A314
            have c314 := own_Ch.new A314
            have l314 : n0 ≤ b314 := (Nat.le_trans Z0 (Nat.le_trans (Nat.le_trans (Nat.le_refl _) E309.1) (Nat.le_of_eq g314.symm)))
            refine own_astore X314 hx hby at_109 (pc' := 111) rfl rfl (Ls' := #[.val (.int p1), .val (.int p2), .val (.int p3), .val (.int p4), .val (.int (p1 &&& (3 : Int32))), .unset, .val (.ref a309), .val (.int (p2 &&& (7 : Int32))), .val (.int (12 : Int32)), .val (.int (12 : Int32)), .val (.int ((((p4.toUInt32 >>> ((8 : Int32) &&& 31).toUInt32).toInt32) &&& (255 : Int32)).toUInt32.toUInt16.toUInt32.toInt32)), .val (.ref b314)]) rfl ?_
            have hQ : ∀ h L, Fr n0 L → Qrm0 Z p1 p2 p3 p4 aV kV r0 r1 f0 f1 aE gS fm h0 n0 (some (.int 1)) h L := fun h L k => ⟨rfl, k⟩
            exact tl_m12 hx hw hEL hby hml hret hlk ((W309.ext E314)) (own_more X314 (by decide) (by decide)) e314 N310 hQ p1 p2 p3 p4 (p1 &&& (3 : Int32)) a309 (p2 &&& (7 : Int32)) (12 : Int32) ((((p4.toUInt32 >>> ((8 : Int32) &&& 31).toUInt32).toInt32) &&& (255 : Int32)).toUInt32.toUInt16.toUInt32.toInt32) b314 ([102, 105, 120, 101, 100, 45, 119, 105, 110, 100, 111, 119] : List Int32) _ aV kV r0 r1 f0 f1 aE gS fm (((O_0.ext E309).ext E314)) S_V A_V E_V FC hs F_0 F_1 T_0 T_1 S_E E_E F_E S_S hS S_F hfm S_0 S_1 (c314) l314 ((F309.ext E314)) (Nat.le_trans (Nat.le_refl _) (Nat.le_of_eq g314.symm)) (own_c255 _)
    · skip
      refine own_ifYes X0 hx hby at_19 (pc' := 27) (by decide) (feq hc19).2 ?_
      refine own_iload X0 hx hby at_27 (pc' := 29) rfl rfl ?_
      refine own_iconst X0 hx hby at_29 (pc' := 30) rfl (z := (1 : Int32)) (by decide) ?_
      by_cases hc30 : (p1 &&& (3 : Int32)) = (1 : Int32)
      · skip
        refine own_icmpNo X0 hx hby at_30 (pc' := 33) rfl (teq hc30).2 ?_
        refine own_ldcS X0 hx hby at_33 (pc' := 35) rfl (hw _ (List.mem_of_getElem? (i := 48) rfl)) wS e0 hEL (by decide) (W0) (vs := [(.int (115 : Int32)), (.int (108 : Int32)), (.int (105 : Int32)), (.int (100 : Int32)), (.int (105 : Int32)), (.int (110 : Int32)), (.int (103 : Int32)), (.int (45 : Int32)), (.int (108 : Int32)), (.int (111 : Int32)), (.int (103 : Int32))]) (z := (11 : Int32)) ⟨by decide, by rfl⟩ (by decide) (by rfl) (n := 44) (by decide) (by decide) (by decide) (by decide) ?_
        intro T315 h315 a315 b315 k315 vm315 X315 e315 E315 W315 C315 G315 Gc315 Gv315 Gb315 S315
        have hZ := W315.1
        have hown := W315.2.1
        have F315 := own_Str.mk G315 Gc315 Gv315 Gb315 ([115, 108, 105, 100, 105, 110, 103, 45, 108, 111, 103] : List Int32) (by decide) (by decide) rfl (by first | rfl | decide +kernel)
        refine own_goto X315 hx hby at_35 (pc' := 40) (by decide) ?_
        refine own_astore X315 hx hby at_40 (pc' := 42) rfl rfl (Ls' := #[.val (.int p1), .val (.int p2), .val (.int p3), .val (.int p4), .val (.int (p1 &&& (3 : Int32))), .unset, .val (.ref a315), .unset, .unset, .unset, .unset, .unset]) rfl ?_
        refine own_iloadN X315 hx hby at_42 (pc' := 43) rfl rfl ?_
        refine own_bipush X315 hx hby at_43 (pc' := 45) rfl (z := (7 : Int32)) (by decide) ?_
        refine own_iand X315 hx hby at_45 (pc' := 46) rfl rfl ?_
        refine own_istore X315 hx hby at_46 (pc' := 48) rfl (Ls' := #[.val (.int p1), .val (.int p2), .val (.int p3), .val (.int p4), .val (.int (p1 &&& (3 : Int32))), .unset, .val (.ref a315), .val (.int (p2 &&& (7 : Int32))), .unset, .unset, .unset, .unset]) rfl ?_
        refine own_aload X315 hx hby at_48 (pc' := 50) rfl rfl rfl ?_
        refine own_callVB X315 hx hZ (own_lenB (W := 0) hZ hwL (hw _ (List.mem_of_getElem? (i := 2) rfl)) (F315) (r := (11 : Int32)) (by rfl) (S_S.ext ((O_0.ext E315)).2) hS (by decide) (by decide)) hown (hw _ (List.mem_of_getElem? (i := 8) rfl)) (hw _ (List.mem_of_getElem? (i := 9) rfl)) (hw _ (List.mem_of_getElem? (i := 11) rfl)) (hw _ (List.mem_of_getElem? (i := 10) rfl)) (by decide) ((F315).exa) (by rw [hml]; rfl) (argsL := []) (rest := []) rfl (lenOf own_pd1 rfl) rfl (Nat.le_of_eq rfl) (hb hby at_50) e315 (by decide) (by decide) ?_
        intro v316 T316 L316 X316 hQ316
        obtain ⟨hv316, hL316, e316⟩ := hQ316
        subst hL316 hv316
        have N316 := Fr.app N0 (Fr.nil n0)
        show own_Go p.tables e below (T316.setTop (mkF m 53 #[.val (.int p1), .val (.int p2), .val (.int p3), .val (.int p4), .val (.int (p1 &&& (3 : Int32))), .unset, .val (.ref a315), .val (.int (p2 &&& (7 : Int32))), .unset, .unset, .unset, .unset] [(.int (11 : Int32))])) _
        refine own_istore X316 hx hby at_53 (pc' := 55) rfl (Ls' := #[.val (.int p1), .val (.int p2), .val (.int p3), .val (.int p4), .val (.int (p1 &&& (3 : Int32))), .unset, .val (.ref a315), .val (.int (p2 &&& (7 : Int32))), .val (.int (11 : Int32)), .unset, .unset, .unset]) rfl ?_
        refine own_iload X316 hx hby at_55 (pc' := 57) rfl rfl ?_
        by_cases hc57 : (p2 &&& (7 : Int32)) = (0 : Int32)
        · skip
          refine own_ifNo X316 hx hby at_57 (pc' := 60) rfl (teq hc57).2 ?_
          refine own_iload X316 hx hby at_60 (pc' := 62) rfl rfl ?_
          refine own_iconst X316 hx hby at_62 (pc' := 63) rfl (z := (1 : Int32)) (by decide) ?_
          refine own_isub X316 hx hby at_63 (pc' := 64) rfl (z := (10 : Int32)) (by decide) ?_
          refine own_goto X316 hx hby at_64 (pc' := 92) (by decide) ?_
          refine own_istore X316 hx hby at_92 (pc' := 94) rfl (Ls' := #[.val (.int p1), .val (.int p2), .val (.int p3), .val (.int p4), .val (.int (p1 &&& (3 : Int32))), .unset, .val (.ref a315), .val (.int (p2 &&& (7 : Int32))), .val (.int (11 : Int32)), .val (.int (10 : Int32)), .unset, .unset]) rfl ?_
          refine own_iloadN X316 hx hby at_94 (pc' := 95) rfl rfl ?_
          refine own_bipush X316 hx hby at_95 (pc' := 97) rfl (z := (8 : Int32)) (by decide) ?_
          refine own_iushr X316 hx hby at_97 (pc' := 98) rfl rfl ?_
          refine own_sipush X316 hx hby at_98 (pc' := 101) rfl (z := (255 : Int32)) (by decide) ?_
          refine own_iand X316 hx hby at_101 (pc' := 102) rfl rfl ?_
          refine own_i2c X316 hx hby at_102 (pc' := 103) rfl rfl ?_
          refine own_istore X316 hx hby at_103 (pc' := 105) rfl (Ls' := #[.val (.int p1), .val (.int p2), .val (.int p3), .val (.int p4), .val (.int (p1 &&& (3 : Int32))), .unset, .val (.ref a315), .val (.int (p2 &&& (7 : Int32))), .val (.int (11 : Int32)), .val (.int (10 : Int32)), .val (.int ((((p4.toUInt32 >>> ((8 : Int32) &&& 31).toUInt32).toInt32) &&& (255 : Int32)).toUInt32.toUInt16.toUInt32.toInt32)), .unset]) rfl ?_
          refine own_iload X316 hx hby at_105 (pc' := 107) rfl rfl ?_
          refine own_newA X316 hx hby at_107 (pc' := 109) rfl hZ (hw _ (List.mem_of_getElem? (i := 21) rfl)) e316 (by decide) (cap := 10) (by decide) (by decide) (by decide) (by decide) (vs := List.replicate 10 (.int 0)) (by rfl) ?_
          intro T317 h317 b317 X317 e317 g317 E317 A317
          have c317 := own_Ch.new A317
          have l317 : n0 ≤ b317 := (Nat.le_trans Z0 (Nat.le_trans (Nat.le_trans (Nat.le_refl _) E315.1) (Nat.le_of_eq g317.symm)))
          refine own_astore X317 hx hby at_109 (pc' := 111) rfl rfl (Ls' := #[.val (.int p1), .val (.int p2), .val (.int p3), .val (.int p4), .val (.int (p1 &&& (3 : Int32))), .unset, .val (.ref a315), .val (.int (p2 &&& (7 : Int32))), .val (.int (11 : Int32)), .val (.int (10 : Int32)), .val (.int ((((p4.toUInt32 >>> ((8 : Int32) &&& 31).toUInt32).toInt32) &&& (255 : Int32)).toUInt32.toUInt16.toUInt32.toInt32)), .val (.ref b317)]) rfl ?_
          have hQ : ∀ h L, Fr n0 L → Qrm0 Z p1 p2 p3 p4 aV kV r0 r1 f0 f1 aE gS fm h0 n0 (some (.int 1)) h L := fun h L k => ⟨rfl, k⟩
          exact tl_m10 hx hw hEL hby hml hret hlk ((W315.ext E317)) (own_more X317 (by decide) (by decide)) e317 N316 hQ p1 p2 p3 p4 (p1 &&& (3 : Int32)) a315 (p2 &&& (7 : Int32)) (11 : Int32) ((((p4.toUInt32 >>> ((8 : Int32) &&& 31).toUInt32).toInt32) &&& (255 : Int32)).toUInt32.toUInt16.toUInt32.toInt32) b317 ([115, 108, 105, 100, 105, 110, 103, 45, 108, 111, 103] : List Int32) _ aV kV r0 r1 f0 f1 aE gS fm (((O_0.ext E315).ext E317)) S_V A_V E_V FC hs F_0 F_1 T_0 T_1 S_E E_E F_E S_S hS S_F hfm S_0 S_1 (c317) l317 ((F315.ext E317)) (Nat.le_trans (Nat.le_refl _) (Nat.le_of_eq g317.symm)) (own_c255 _)
        · skip
          refine own_ifYes X316 hx hby at_57 (pc' := 67) (by decide) (feq hc57).2 ?_
          refine own_iload X316 hx hby at_67 (pc' := 69) rfl rfl ?_
          refine own_iconst X316 hx hby at_69 (pc' := 70) rfl (z := (2 : Int32)) (by decide) ?_
          by_cases hc70 : (p2 &&& (7 : Int32)) = (2 : Int32)
          · skip
            refine own_icmpNo X316 hx hby at_70 (pc' := 73) rfl (teq hc70).2 ?_
            refine own_iload X316 hx hby at_73 (pc' := 75) rfl rfl ?_
            refine own_iconst X316 hx hby at_75 (pc' := 76) rfl (z := (1 : Int32)) (by decide) ?_
            refine own_iadd X316 hx hby at_76 (pc' := 77) rfl (z := (12 : Int32)) (by decide) ?_
            refine own_goto X316 hx hby at_77 (pc' := 92) (by decide) ?_
            refine own_istore X316 hx hby at_92 (pc' := 94) rfl (Ls' := #[.val (.int p1), .val (.int p2), .val (.int p3), .val (.int p4), .val (.int (p1 &&& (3 : Int32))), .unset, .val (.ref a315), .val (.int (p2 &&& (7 : Int32))), .val (.int (11 : Int32)), .val (.int (12 : Int32)), .unset, .unset]) rfl ?_
            refine own_iloadN X316 hx hby at_94 (pc' := 95) rfl rfl ?_
            refine own_bipush X316 hx hby at_95 (pc' := 97) rfl (z := (8 : Int32)) (by decide) ?_
            refine own_iushr X316 hx hby at_97 (pc' := 98) rfl rfl ?_
            refine own_sipush X316 hx hby at_98 (pc' := 101) rfl (z := (255 : Int32)) (by decide) ?_
            refine own_iand X316 hx hby at_101 (pc' := 102) rfl rfl ?_
            refine own_i2c X316 hx hby at_102 (pc' := 103) rfl rfl ?_
            refine own_istore X316 hx hby at_103 (pc' := 105) rfl (Ls' := #[.val (.int p1), .val (.int p2), .val (.int p3), .val (.int p4), .val (.int (p1 &&& (3 : Int32))), .unset, .val (.ref a315), .val (.int (p2 &&& (7 : Int32))), .val (.int (11 : Int32)), .val (.int (12 : Int32)), .val (.int ((((p4.toUInt32 >>> ((8 : Int32) &&& 31).toUInt32).toInt32) &&& (255 : Int32)).toUInt32.toUInt16.toUInt32.toInt32)), .unset]) rfl ?_
            refine own_iload X316 hx hby at_105 (pc' := 107) rfl rfl ?_
            refine own_newA X316 hx hby at_107 (pc' := 109) rfl hZ (hw _ (List.mem_of_getElem? (i := 21) rfl)) e316 (by decide) (cap := 12) (by decide) (by decide) (by decide) (by decide) (vs := List.replicate 12 (.int 0)) (by rfl) ?_
            intro T318 h318 b318 X318 e318 g318 E318 A318
            have c318 := own_Ch.new A318
            have l318 : n0 ≤ b318 := (Nat.le_trans Z0 (Nat.le_trans (Nat.le_trans (Nat.le_refl _) E315.1) (Nat.le_of_eq g318.symm)))
            refine own_astore X318 hx hby at_109 (pc' := 111) rfl rfl (Ls' := #[.val (.int p1), .val (.int p2), .val (.int p3), .val (.int p4), .val (.int (p1 &&& (3 : Int32))), .unset, .val (.ref a315), .val (.int (p2 &&& (7 : Int32))), .val (.int (11 : Int32)), .val (.int (12 : Int32)), .val (.int ((((p4.toUInt32 >>> ((8 : Int32) &&& 31).toUInt32).toInt32) &&& (255 : Int32)).toUInt32.toUInt16.toUInt32.toInt32)), .val (.ref b318)]) rfl ?_
            have hQ : ∀ h L, Fr n0 L → Qrm0 Z p1 p2 p3 p4 aV kV r0 r1 f0 f1 aE gS fm h0 n0 (some (.int 1)) h L := fun h L k => ⟨rfl, k⟩
            exact tl_m12 hx hw hEL hby hml hret hlk ((W315.ext E318)) (own_more X318 (by decide) (by decide)) e318 N316 hQ p1 p2 p3 p4 (p1 &&& (3 : Int32)) a315 (p2 &&& (7 : Int32)) (11 : Int32) ((((p4.toUInt32 >>> ((8 : Int32) &&& 31).toUInt32).toInt32) &&& (255 : Int32)).toUInt32.toUInt16.toUInt32.toInt32) b318 ([115, 108, 105, 100, 105, 110, 103, 45, 108, 111, 103] : List Int32) _ aV kV r0 r1 f0 f1 aE gS fm (((O_0.ext E315).ext E318)) S_V A_V E_V FC hs F_0 F_1 T_0 T_1 S_E E_E F_E S_S hS S_F hfm S_0 S_1 (c318) l318 ((F315.ext E318)) (Nat.le_trans (Nat.le_refl _) (Nat.le_of_eq g318.symm)) (own_c255 _)
          · skip
            refine own_icmpYes X316 hx hby at_70 (pc' := 80) (by decide) (feq hc70).2 ?_
            refine own_iload X316 hx hby at_80 (pc' := 82) rfl rfl ?_
            refine own_iconst X316 hx hby at_82 (pc' := 83) rfl (z := (3 : Int32)) (by decide) ?_
            by_cases hc83 : (p2 &&& (7 : Int32)) = (3 : Int32)
            · skip
              refine own_icmpNo X316 hx hby at_83 (pc' := 86) rfl (teq hc83).2 ?_
              refine own_iconst X316 hx hby at_86 (pc' := 87) rfl (z := (0 : Int32)) (by decide) ?_
              refine own_goto X316 hx hby at_87 (pc' := 92) (by decide) ?_
              refine own_istore X316 hx hby at_92 (pc' := 94) rfl (Ls' := #[.val (.int p1), .val (.int p2), .val (.int p3), .val (.int p4), .val (.int (p1 &&& (3 : Int32))), .unset, .val (.ref a315), .val (.int (p2 &&& (7 : Int32))), .val (.int (11 : Int32)), .val (.int (0 : Int32)), .unset, .unset]) rfl ?_
              refine own_iloadN X316 hx hby at_94 (pc' := 95) rfl rfl ?_
              refine own_bipush X316 hx hby at_95 (pc' := 97) rfl (z := (8 : Int32)) (by decide) ?_
              refine own_iushr X316 hx hby at_97 (pc' := 98) rfl rfl ?_
              refine own_sipush X316 hx hby at_98 (pc' := 101) rfl (z := (255 : Int32)) (by decide) ?_
              refine own_iand X316 hx hby at_101 (pc' := 102) rfl rfl ?_
              refine own_i2c X316 hx hby at_102 (pc' := 103) rfl rfl ?_
              refine own_istore X316 hx hby at_103 (pc' := 105) rfl (Ls' := #[.val (.int p1), .val (.int p2), .val (.int p3), .val (.int p4), .val (.int (p1 &&& (3 : Int32))), .unset, .val (.ref a315), .val (.int (p2 &&& (7 : Int32))), .val (.int (11 : Int32)), .val (.int (0 : Int32)), .val (.int ((((p4.toUInt32 >>> ((8 : Int32) &&& 31).toUInt32).toInt32) &&& (255 : Int32)).toUInt32.toUInt16.toUInt32.toInt32)), .unset]) rfl ?_
              refine own_iload X316 hx hby at_105 (pc' := 107) rfl rfl ?_
              refine own_newA X316 hx hby at_107 (pc' := 109) rfl hZ (hw _ (List.mem_of_getElem? (i := 21) rfl)) e316 (by decide) (cap := 0) (by decide) (by decide) (by decide) (by decide) (vs := List.replicate 0 (.int 0)) (by rfl) ?_
              intro T319 h319 b319 X319 e319 g319 E319 A319
              have c319 := own_Ch.new A319
              have l319 : n0 ≤ b319 := (Nat.le_trans Z0 (Nat.le_trans (Nat.le_trans (Nat.le_refl _) E315.1) (Nat.le_of_eq g319.symm)))
              refine own_astore X319 hx hby at_109 (pc' := 111) rfl rfl (Ls' := #[.val (.int p1), .val (.int p2), .val (.int p3), .val (.int p4), .val (.int (p1 &&& (3 : Int32))), .unset, .val (.ref a315), .val (.int (p2 &&& (7 : Int32))), .val (.int (11 : Int32)), .val (.int (0 : Int32)), .val (.int ((((p4.toUInt32 >>> ((8 : Int32) &&& 31).toUInt32).toInt32) &&& (255 : Int32)).toUInt32.toUInt16.toUInt32.toInt32)), .val (.ref b319)]) rfl ?_
              have hQ : ∀ h L, Fr n0 L → Qrm0 Z p1 p2 p3 p4 aV kV r0 r1 f0 f1 aE gS fm h0 n0 (some (.int 1)) h L := fun h L k => ⟨rfl, k⟩
              exact tl_m0 hx hw hEL hby hml hret hlk ((W315.ext E319)) (own_more X319 (by decide) (by decide)) e319 N316 hQ p1 p2 p3 p4 (p1 &&& (3 : Int32)) a315 (p2 &&& (7 : Int32)) (11 : Int32) ((((p4.toUInt32 >>> ((8 : Int32) &&& 31).toUInt32).toInt32) &&& (255 : Int32)).toUInt32.toUInt16.toUInt32.toInt32) b319 ([115, 108, 105, 100, 105, 110, 103, 45, 108, 111, 103] : List Int32) _ aV kV r0 r1 f0 f1 aE gS fm (((O_0.ext E315).ext E319)) S_V A_V E_V FC hs F_0 F_1 T_0 T_1 S_E E_E F_E S_S hS S_F hfm S_0 S_1 (c319) l319 ((F315.ext E319)) (Nat.le_trans (Nat.le_refl _) (Nat.le_of_eq g319.symm)) (own_c255 _)
            · skip
              refine own_icmpYes X316 hx hby at_83 (pc' := 90) (by decide) (feq hc83).2 ?_
              refine own_iload X316 hx hby at_90 (pc' := 92) rfl rfl ?_
              refine own_istore X316 hx hby at_92 (pc' := 94) rfl (Ls' := #[.val (.int p1), .val (.int p2), .val (.int p3), .val (.int p4), .val (.int (p1 &&& (3 : Int32))), .unset, .val (.ref a315), .val (.int (p2 &&& (7 : Int32))), .val (.int (11 : Int32)), .val (.int (11 : Int32)), .unset, .unset]) rfl ?_
              refine own_iloadN X316 hx hby at_94 (pc' := 95) rfl rfl ?_
              refine own_bipush X316 hx hby at_95 (pc' := 97) rfl (z := (8 : Int32)) (by decide) ?_
              refine own_iushr X316 hx hby at_97 (pc' := 98) rfl rfl ?_
              refine own_sipush X316 hx hby at_98 (pc' := 101) rfl (z := (255 : Int32)) (by decide) ?_
              refine own_iand X316 hx hby at_101 (pc' := 102) rfl rfl ?_
              refine own_i2c X316 hx hby at_102 (pc' := 103) rfl rfl ?_
              refine own_istore X316 hx hby at_103 (pc' := 105) rfl (Ls' := #[.val (.int p1), .val (.int p2), .val (.int p3), .val (.int p4), .val (.int (p1 &&& (3 : Int32))), .unset, .val (.ref a315), .val (.int (p2 &&& (7 : Int32))), .val (.int (11 : Int32)), .val (.int (11 : Int32)), .val (.int ((((p4.toUInt32 >>> ((8 : Int32) &&& 31).toUInt32).toInt32) &&& (255 : Int32)).toUInt32.toUInt16.toUInt32.toInt32)), .unset]) rfl ?_
              refine own_iload X316 hx hby at_105 (pc' := 107) rfl rfl ?_
              refine own_newA X316 hx hby at_107 (pc' := 109) rfl hZ (hw _ (List.mem_of_getElem? (i := 21) rfl)) e316 (by decide) (cap := 11) (by decide) (by decide) (by decide) (by decide) (vs := List.replicate 11 (.int 0)) (by rfl) ?_
              intro T320 h320 b320 X320 e320 g320 E320 A320
              have c320 := own_Ch.new A320
              have l320 : n0 ≤ b320 := (Nat.le_trans Z0 (Nat.le_trans (Nat.le_trans (Nat.le_refl _) E315.1) (Nat.le_of_eq g320.symm)))
              refine own_astore X320 hx hby at_109 (pc' := 111) rfl rfl (Ls' := #[.val (.int p1), .val (.int p2), .val (.int p3), .val (.int p4), .val (.int (p1 &&& (3 : Int32))), .unset, .val (.ref a315), .val (.int (p2 &&& (7 : Int32))), .val (.int (11 : Int32)), .val (.int (11 : Int32)), .val (.int ((((p4.toUInt32 >>> ((8 : Int32) &&& 31).toUInt32).toInt32) &&& (255 : Int32)).toUInt32.toUInt16.toUInt32.toInt32)), .val (.ref b320)]) rfl ?_
              have hQ : ∀ h L, Fr n0 L → Qrm0 Z p1 p2 p3 p4 aV kV r0 r1 f0 f1 aE gS fm h0 n0 (some (.int 1)) h L := fun h L k => ⟨rfl, k⟩
              exact tl_m11 hx hw hEL hby hml hret hlk ((W315.ext E320)) (own_more X320 (by decide) (by decide)) e320 N316 hQ p1 p2 p3 p4 (p1 &&& (3 : Int32)) a315 (p2 &&& (7 : Int32)) (11 : Int32) ((((p4.toUInt32 >>> ((8 : Int32) &&& 31).toUInt32).toInt32) &&& (255 : Int32)).toUInt32.toUInt16.toUInt32.toInt32) b320 ([115, 108, 105, 100, 105, 110, 103, 45, 108, 111, 103] : List Int32) _ aV kV r0 r1 f0 f1 aE gS fm (((O_0.ext E315).ext E320)) S_V A_V E_V FC hs F_0 F_1 T_0 T_1 S_E E_E F_E S_S hS S_F hfm S_0 S_1 (c320) l320 ((F315.ext E320)) (Nat.le_trans (Nat.le_refl _) (Nat.le_of_eq g320.symm)) (own_c255 _)
      · skip
        refine own_icmpYes X0 hx hby at_30 (pc' := 38) (by decide) (feq hc30).2 ?_
        refine own_ldcS X0 hx hby at_38 (pc' := 40) rfl (hw _ (List.mem_of_getElem? (i := 85) rfl)) wS e0 hEL (by decide) (W0) (vs := [(.int (70 : Int32)), (.int (73 : Int32)), (.int (88 : Int32)), (.int (69 : Int32)), (.int (68 : Int32)), (.int (95 : Int32)), (.int (87 : Int32)), (.int (73 : Int32)), (.int (78 : Int32)), (.int (68 : Int32)), (.int (79 : Int32)), (.int (87 : Int32))]) (z := (12 : Int32)) ⟨by decide, by rfl⟩ (by decide) (by rfl) (n := 48) (by decide) (by decide) (by decide) (by decide) ?_
        intro T321 h321 a321 b321 k321 vm321 X321 e321 E321 W321 C321 G321 Gc321 Gv321 Gb321 S321
        have hZ := W321.1
        have hown := W321.2.1
        have F321 := own_Str.mk G321 Gc321 Gv321 Gb321 ([70, 73, 88, 69, 68, 95, 87, 73, 78, 68, 79, 87] : List Int32) (by decide) (by decide) rfl (by first | rfl | decide +kernel)
        refine own_astore X321 hx hby at_40 (pc' := 42) rfl rfl (Ls' := #[.val (.int p1), .val (.int p2), .val (.int p3), .val (.int p4), .val (.int (p1 &&& (3 : Int32))), .unset, .val (.ref a321), .unset, .unset, .unset, .unset, .unset]) rfl ?_
        refine own_iloadN X321 hx hby at_42 (pc' := 43) rfl rfl ?_
        refine own_bipush X321 hx hby at_43 (pc' := 45) rfl (z := (7 : Int32)) (by decide) ?_
        refine own_iand X321 hx hby at_45 (pc' := 46) rfl rfl ?_
        refine own_istore X321 hx hby at_46 (pc' := 48) rfl (Ls' := #[.val (.int p1), .val (.int p2), .val (.int p3), .val (.int p4), .val (.int (p1 &&& (3 : Int32))), .unset, .val (.ref a321), .val (.int (p2 &&& (7 : Int32))), .unset, .unset, .unset, .unset]) rfl ?_
        refine own_aload X321 hx hby at_48 (pc' := 50) rfl rfl rfl ?_
        refine own_callVB X321 hx hZ (own_lenB (W := 0) hZ hwL (hw _ (List.mem_of_getElem? (i := 2) rfl)) (F321) (r := (12 : Int32)) (by rfl) (S_S.ext ((O_0.ext E321)).2) hS (by decide) (by decide)) hown (hw _ (List.mem_of_getElem? (i := 8) rfl)) (hw _ (List.mem_of_getElem? (i := 9) rfl)) (hw _ (List.mem_of_getElem? (i := 11) rfl)) (hw _ (List.mem_of_getElem? (i := 10) rfl)) (by decide) ((F321).exa) (by rw [hml]; rfl) (argsL := []) (rest := []) rfl (lenOf own_pd1 rfl) rfl (Nat.le_of_eq rfl) (hb hby at_50) e321 (by decide) (by decide) ?_
        intro v322 T322 L322 X322 hQ322
        obtain ⟨hv322, hL322, e322⟩ := hQ322
        subst hL322 hv322
        have N322 := Fr.app N0 (Fr.nil n0)
        show own_Go p.tables e below (T322.setTop (mkF m 53 #[.val (.int p1), .val (.int p2), .val (.int p3), .val (.int p4), .val (.int (p1 &&& (3 : Int32))), .unset, .val (.ref a321), .val (.int (p2 &&& (7 : Int32))), .unset, .unset, .unset, .unset] [(.int (12 : Int32))])) _
        refine own_istore X322 hx hby at_53 (pc' := 55) rfl (Ls' := #[.val (.int p1), .val (.int p2), .val (.int p3), .val (.int p4), .val (.int (p1 &&& (3 : Int32))), .unset, .val (.ref a321), .val (.int (p2 &&& (7 : Int32))), .val (.int (12 : Int32)), .unset, .unset, .unset]) rfl ?_
        refine own_iload X322 hx hby at_55 (pc' := 57) rfl rfl ?_
        by_cases hc57 : (p2 &&& (7 : Int32)) = (0 : Int32)
        · skip
          refine own_ifNo X322 hx hby at_57 (pc' := 60) rfl (teq hc57).2 ?_
          refine own_iload X322 hx hby at_60 (pc' := 62) rfl rfl ?_
          refine own_iconst X322 hx hby at_62 (pc' := 63) rfl (z := (1 : Int32)) (by decide) ?_
          refine own_isub X322 hx hby at_63 (pc' := 64) rfl (z := (11 : Int32)) (by decide) ?_
          refine own_goto X322 hx hby at_64 (pc' := 92) (by decide) ?_
          refine own_istore X322 hx hby at_92 (pc' := 94) rfl (Ls' := #[.val (.int p1), .val (.int p2), .val (.int p3), .val (.int p4), .val (.int (p1 &&& (3 : Int32))), .unset, .val (.ref a321), .val (.int (p2 &&& (7 : Int32))), .val (.int (12 : Int32)), .val (.int (11 : Int32)), .unset, .unset]) rfl ?_
          refine own_iloadN X322 hx hby at_94 (pc' := 95) rfl rfl ?_
          refine own_bipush X322 hx hby at_95 (pc' := 97) rfl (z := (8 : Int32)) (by decide) ?_
          refine own_iushr X322 hx hby at_97 (pc' := 98) rfl rfl ?_
          refine own_sipush X322 hx hby at_98 (pc' := 101) rfl (z := (255 : Int32)) (by decide) ?_
          refine own_iand X322 hx hby at_101 (pc' := 102) rfl rfl ?_
          refine own_i2c X322 hx hby at_102 (pc' := 103) rfl rfl ?_
          refine own_istore X322 hx hby at_103 (pc' := 105) rfl (Ls' := #[.val (.int p1), .val (.int p2), .val (.int p3), .val (.int p4), .val (.int (p1 &&& (3 : Int32))), .unset, .val (.ref a321), .val (.int (p2 &&& (7 : Int32))), .val (.int (12 : Int32)), .val (.int (11 : Int32)), .val (.int ((((p4.toUInt32 >>> ((8 : Int32) &&& 31).toUInt32).toInt32) &&& (255 : Int32)).toUInt32.toUInt16.toUInt32.toInt32)), .unset]) rfl ?_
          refine own_iload X322 hx hby at_105 (pc' := 107) rfl rfl ?_
          refine own_newA X322 hx hby at_107 (pc' := 109) rfl hZ (hw _ (List.mem_of_getElem? (i := 21) rfl)) e322 (by decide) (cap := 11) (by decide) (by decide) (by decide) (by decide) (vs := List.replicate 11 (.int 0)) (by rfl) ?_
          intro T323 h323 b323 X323 e323 g323 E323 A323
          have c323 := own_Ch.new A323
          have l323 : n0 ≤ b323 := (Nat.le_trans Z0 (Nat.le_trans (Nat.le_trans (Nat.le_refl _) E321.1) (Nat.le_of_eq g323.symm)))
          refine own_astore X323 hx hby at_109 (pc' := 111) rfl rfl (Ls' := #[.val (.int p1), .val (.int p2), .val (.int p3), .val (.int p4), .val (.int (p1 &&& (3 : Int32))), .unset, .val (.ref a321), .val (.int (p2 &&& (7 : Int32))), .val (.int (12 : Int32)), .val (.int (11 : Int32)), .val (.int ((((p4.toUInt32 >>> ((8 : Int32) &&& 31).toUInt32).toInt32) &&& (255 : Int32)).toUInt32.toUInt16.toUInt32.toInt32)), .val (.ref b323)]) rfl ?_
          have hQ : ∀ h L, Fr n0 L → Qrm0 Z p1 p2 p3 p4 aV kV r0 r1 f0 f1 aE gS fm h0 n0 (some (.int 1)) h L := fun h L k => ⟨rfl, k⟩
          exact tl_m11 hx hw hEL hby hml hret hlk ((W321.ext E323)) (own_more X323 (by decide) (by decide)) e323 N322 hQ p1 p2 p3 p4 (p1 &&& (3 : Int32)) a321 (p2 &&& (7 : Int32)) (12 : Int32) ((((p4.toUInt32 >>> ((8 : Int32) &&& 31).toUInt32).toInt32) &&& (255 : Int32)).toUInt32.toUInt16.toUInt32.toInt32) b323 ([70, 73, 88, 69, 68, 95, 87, 73, 78, 68, 79, 87] : List Int32) _ aV kV r0 r1 f0 f1 aE gS fm (((O_0.ext E321).ext E323)) S_V A_V E_V FC hs F_0 F_1 T_0 T_1 S_E E_E F_E S_S hS S_F hfm S_0 S_1 (c323) l323 ((F321.ext E323)) (Nat.le_trans (Nat.le_refl _) (Nat.le_of_eq g323.symm)) (own_c255 _)
        · skip
          refine own_ifYes X322 hx hby at_57 (pc' := 67) (by decide) (feq hc57).2 ?_
          refine own_iload X322 hx hby at_67 (pc' := 69) rfl rfl ?_
          refine own_iconst X322 hx hby at_69 (pc' := 70) rfl (z := (2 : Int32)) (by decide) ?_
          by_cases hc70 : (p2 &&& (7 : Int32)) = (2 : Int32)
          · skip
            refine own_icmpNo X322 hx hby at_70 (pc' := 73) rfl (teq hc70).2 ?_
            refine own_iload X322 hx hby at_73 (pc' := 75) rfl rfl ?_
            refine own_iconst X322 hx hby at_75 (pc' := 76) rfl (z := (1 : Int32)) (by decide) ?_
            refine own_iadd X322 hx hby at_76 (pc' := 77) rfl (z := (13 : Int32)) (by decide) ?_
            refine own_goto X322 hx hby at_77 (pc' := 92) (by decide) ?_
            refine own_istore X322 hx hby at_92 (pc' := 94) rfl (Ls' := #[.val (.int p1), .val (.int p2), .val (.int p3), .val (.int p4), .val (.int (p1 &&& (3 : Int32))), .unset, .val (.ref a321), .val (.int (p2 &&& (7 : Int32))), .val (.int (12 : Int32)), .val (.int (13 : Int32)), .unset, .unset]) rfl ?_
            refine own_iloadN X322 hx hby at_94 (pc' := 95) rfl rfl ?_
            refine own_bipush X322 hx hby at_95 (pc' := 97) rfl (z := (8 : Int32)) (by decide) ?_
            refine own_iushr X322 hx hby at_97 (pc' := 98) rfl rfl ?_
            refine own_sipush X322 hx hby at_98 (pc' := 101) rfl (z := (255 : Int32)) (by decide) ?_
            refine own_iand X322 hx hby at_101 (pc' := 102) rfl rfl ?_
            refine own_i2c X322 hx hby at_102 (pc' := 103) rfl rfl ?_
            refine own_istore X322 hx hby at_103 (pc' := 105) rfl (Ls' := #[.val (.int p1), .val (.int p2), .val (.int p3), .val (.int p4), .val (.int (p1 &&& (3 : Int32))), .unset, .val (.ref a321), .val (.int (p2 &&& (7 : Int32))), .val (.int (12 : Int32)), .val (.int (13 : Int32)), .val (.int ((((p4.toUInt32 >>> ((8 : Int32) &&& 31).toUInt32).toInt32) &&& (255 : Int32)).toUInt32.toUInt16.toUInt32.toInt32)), .unset]) rfl ?_
            refine own_iload X322 hx hby at_105 (pc' := 107) rfl rfl ?_
            refine own_newA X322 hx hby at_107 (pc' := 109) rfl hZ (hw _ (List.mem_of_getElem? (i := 21) rfl)) e322 (by decide) (cap := 13) (by decide) (by decide) (by decide) (by decide) (vs := List.replicate 13 (.int 0)) (by rfl) ?_
            intro T324 h324 b324 X324 e324 g324 E324 A324
            have c324 := own_Ch.new A324
            have l324 : n0 ≤ b324 := (Nat.le_trans Z0 (Nat.le_trans (Nat.le_trans (Nat.le_refl _) E321.1) (Nat.le_of_eq g324.symm)))
            refine own_astore X324 hx hby at_109 (pc' := 111) rfl rfl (Ls' := #[.val (.int p1), .val (.int p2), .val (.int p3), .val (.int p4), .val (.int (p1 &&& (3 : Int32))), .unset, .val (.ref a321), .val (.int (p2 &&& (7 : Int32))), .val (.int (12 : Int32)), .val (.int (13 : Int32)), .val (.int ((((p4.toUInt32 >>> ((8 : Int32) &&& 31).toUInt32).toInt32) &&& (255 : Int32)).toUInt32.toUInt16.toUInt32.toInt32)), .val (.ref b324)]) rfl ?_
            have hQ : ∀ h L, Fr n0 L → Qrm0 Z p1 p2 p3 p4 aV kV r0 r1 f0 f1 aE gS fm h0 n0 (some (.int 1)) h L := fun h L k => ⟨rfl, k⟩
            exact tl_m13 hx hw hEL hby hml hret hlk ((W321.ext E324)) (own_more X324 (by decide) (by decide)) e324 N322 hQ p1 p2 p3 p4 (p1 &&& (3 : Int32)) a321 (p2 &&& (7 : Int32)) (12 : Int32) ((((p4.toUInt32 >>> ((8 : Int32) &&& 31).toUInt32).toInt32) &&& (255 : Int32)).toUInt32.toUInt16.toUInt32.toInt32) b324 ([70, 73, 88, 69, 68, 95, 87, 73, 78, 68, 79, 87] : List Int32) _ aV kV r0 r1 f0 f1 aE gS fm (((O_0.ext E321).ext E324)) S_V A_V E_V FC hs F_0 F_1 T_0 T_1 S_E E_E F_E S_S hS S_F hfm S_0 S_1 (c324) l324 ((F321.ext E324)) (Nat.le_trans (Nat.le_refl _) (Nat.le_of_eq g324.symm)) (own_c255 _)
          · skip
            refine own_icmpYes X322 hx hby at_70 (pc' := 80) (by decide) (feq hc70).2 ?_
            refine own_iload X322 hx hby at_80 (pc' := 82) rfl rfl ?_
            refine own_iconst X322 hx hby at_82 (pc' := 83) rfl (z := (3 : Int32)) (by decide) ?_
            by_cases hc83 : (p2 &&& (7 : Int32)) = (3 : Int32)
            · skip
              refine own_icmpNo X322 hx hby at_83 (pc' := 86) rfl (teq hc83).2 ?_
              refine own_iconst X322 hx hby at_86 (pc' := 87) rfl (z := (0 : Int32)) (by decide) ?_
              refine own_goto X322 hx hby at_87 (pc' := 92) (by decide) ?_
              refine own_istore X322 hx hby at_92 (pc' := 94) rfl (Ls' := #[.val (.int p1), .val (.int p2), .val (.int p3), .val (.int p4), .val (.int (p1 &&& (3 : Int32))), .unset, .val (.ref a321), .val (.int (p2 &&& (7 : Int32))), .val (.int (12 : Int32)), .val (.int (0 : Int32)), .unset, .unset]) rfl ?_
              refine own_iloadN X322 hx hby at_94 (pc' := 95) rfl rfl ?_
              refine own_bipush X322 hx hby at_95 (pc' := 97) rfl (z := (8 : Int32)) (by decide) ?_
              refine own_iushr X322 hx hby at_97 (pc' := 98) rfl rfl ?_
              refine own_sipush X322 hx hby at_98 (pc' := 101) rfl (z := (255 : Int32)) (by decide) ?_
              refine own_iand X322 hx hby at_101 (pc' := 102) rfl rfl ?_
              refine own_i2c X322 hx hby at_102 (pc' := 103) rfl rfl ?_
              refine own_istore X322 hx hby at_103 (pc' := 105) rfl (Ls' := #[.val (.int p1), .val (.int p2), .val (.int p3), .val (.int p4), .val (.int (p1 &&& (3 : Int32))), .unset, .val (.ref a321), .val (.int (p2 &&& (7 : Int32))), .val (.int (12 : Int32)), .val (.int (0 : Int32)), .val (.int ((((p4.toUInt32 >>> ((8 : Int32) &&& 31).toUInt32).toInt32) &&& (255 : Int32)).toUInt32.toUInt16.toUInt32.toInt32)), .unset]) rfl ?_
              refine own_iload X322 hx hby at_105 (pc' := 107) rfl rfl ?_
              refine own_newA X322 hx hby at_107 (pc' := 109) rfl hZ (hw _ (List.mem_of_getElem? (i := 21) rfl)) e322 (by decide) (cap := 0) (by decide) (by decide) (by decide) (by decide) (vs := List.replicate 0 (.int 0)) (by rfl) ?_
              intro T325 h325 b325 X325 e325 g325 E325 A325
              have c325 := own_Ch.new A325
              have l325 : n0 ≤ b325 := (Nat.le_trans Z0 (Nat.le_trans (Nat.le_trans (Nat.le_refl _) E321.1) (Nat.le_of_eq g325.symm)))
              refine own_astore X325 hx hby at_109 (pc' := 111) rfl rfl (Ls' := #[.val (.int p1), .val (.int p2), .val (.int p3), .val (.int p4), .val (.int (p1 &&& (3 : Int32))), .unset, .val (.ref a321), .val (.int (p2 &&& (7 : Int32))), .val (.int (12 : Int32)), .val (.int (0 : Int32)), .val (.int ((((p4.toUInt32 >>> ((8 : Int32) &&& 31).toUInt32).toInt32) &&& (255 : Int32)).toUInt32.toUInt16.toUInt32.toInt32)), .val (.ref b325)]) rfl ?_
              have hQ : ∀ h L, Fr n0 L → Qrm0 Z p1 p2 p3 p4 aV kV r0 r1 f0 f1 aE gS fm h0 n0 (some (.int 1)) h L := fun h L k => ⟨rfl, k⟩
              exact tl_m0 hx hw hEL hby hml hret hlk ((W321.ext E325)) (own_more X325 (by decide) (by decide)) e325 N322 hQ p1 p2 p3 p4 (p1 &&& (3 : Int32)) a321 (p2 &&& (7 : Int32)) (12 : Int32) ((((p4.toUInt32 >>> ((8 : Int32) &&& 31).toUInt32).toInt32) &&& (255 : Int32)).toUInt32.toUInt16.toUInt32.toInt32) b325 ([70, 73, 88, 69, 68, 95, 87, 73, 78, 68, 79, 87] : List Int32) _ aV kV r0 r1 f0 f1 aE gS fm (((O_0.ext E321).ext E325)) S_V A_V E_V FC hs F_0 F_1 T_0 T_1 S_E E_E F_E S_S hS S_F hfm S_0 S_1 (c325) l325 ((F321.ext E325)) (Nat.le_trans (Nat.le_refl _) (Nat.le_of_eq g325.symm)) (own_c255 _)
            · skip
              refine own_icmpYes X322 hx hby at_83 (pc' := 90) (by decide) (feq hc83).2 ?_
              refine own_iload X322 hx hby at_90 (pc' := 92) rfl rfl ?_
              refine own_istore X322 hx hby at_92 (pc' := 94) rfl (Ls' := #[.val (.int p1), .val (.int p2), .val (.int p3), .val (.int p4), .val (.int (p1 &&& (3 : Int32))), .unset, .val (.ref a321), .val (.int (p2 &&& (7 : Int32))), .val (.int (12 : Int32)), .val (.int (12 : Int32)), .unset, .unset]) rfl ?_
              refine own_iloadN X322 hx hby at_94 (pc' := 95) rfl rfl ?_
              refine own_bipush X322 hx hby at_95 (pc' := 97) rfl (z := (8 : Int32)) (by decide) ?_
              refine own_iushr X322 hx hby at_97 (pc' := 98) rfl rfl ?_
              refine own_sipush X322 hx hby at_98 (pc' := 101) rfl (z := (255 : Int32)) (by decide) ?_
              refine own_iand X322 hx hby at_101 (pc' := 102) rfl rfl ?_
              refine own_i2c X322 hx hby at_102 (pc' := 103) rfl rfl ?_
              refine own_istore X322 hx hby at_103 (pc' := 105) rfl (Ls' := #[.val (.int p1), .val (.int p2), .val (.int p3), .val (.int p4), .val (.int (p1 &&& (3 : Int32))), .unset, .val (.ref a321), .val (.int (p2 &&& (7 : Int32))), .val (.int (12 : Int32)), .val (.int (12 : Int32)), .val (.int ((((p4.toUInt32 >>> ((8 : Int32) &&& 31).toUInt32).toInt32) &&& (255 : Int32)).toUInt32.toUInt16.toUInt32.toInt32)), .unset]) rfl ?_
              refine own_iload X322 hx hby at_105 (pc' := 107) rfl rfl ?_
              refine own_newA X322 hx hby at_107 (pc' := 109) rfl hZ (hw _ (List.mem_of_getElem? (i := 21) rfl)) e322 (by decide) (cap := 12) (by decide) (by decide) (by decide) (by decide) (vs := List.replicate 12 (.int 0)) (by rfl) ?_
              intro T326 h326 b326 X326 e326 g326 E326 A326
              have c326 := own_Ch.new A326
              have l326 : n0 ≤ b326 := (Nat.le_trans Z0 (Nat.le_trans (Nat.le_trans (Nat.le_refl _) E321.1) (Nat.le_of_eq g326.symm)))
              refine own_astore X326 hx hby at_109 (pc' := 111) rfl rfl (Ls' := #[.val (.int p1), .val (.int p2), .val (.int p3), .val (.int p4), .val (.int (p1 &&& (3 : Int32))), .unset, .val (.ref a321), .val (.int (p2 &&& (7 : Int32))), .val (.int (12 : Int32)), .val (.int (12 : Int32)), .val (.int ((((p4.toUInt32 >>> ((8 : Int32) &&& 31).toUInt32).toInt32) &&& (255 : Int32)).toUInt32.toUInt16.toUInt32.toInt32)), .val (.ref b326)]) rfl ?_
              have hQ : ∀ h L, Fr n0 L → Qrm0 Z p1 p2 p3 p4 aV kV r0 r1 f0 f1 aE gS fm h0 n0 (some (.int 1)) h L := fun h L k => ⟨rfl, k⟩
              exact tl_m12 hx hw hEL hby hml hret hlk ((W321.ext E326)) (own_more X326 (by decide) (by decide)) e326 N322 hQ p1 p2 p3 p4 (p1 &&& (3 : Int32)) a321 (p2 &&& (7 : Int32)) (12 : Int32) ((((p4.toUInt32 >>> ((8 : Int32) &&& 31).toUInt32).toInt32) &&& (255 : Int32)).toUInt32.toUInt16.toUInt32.toInt32) b326 ([70, 73, 88, 69, 68, 95, 87, 73, 78, 68, 79, 87] : List Int32) _ aV kV r0 r1 f0 f1 aE gS fm (((O_0.ext E321).ext E326)) S_V A_V E_V FC hs F_0 F_1 T_0 T_1 S_E E_E F_E S_S hS S_F hfm S_0 S_1 (c326) l326 ((F321.ext E326)) (Nat.le_trans (Nat.le_refl _) (Nat.le_of_eq g326.symm)) (own_c255 _)
theorem own_neI {args : Array Value} {s first : State} {o : Option Outcome} {idx : List Nat} {a : Term} {x k : Int32} (ev : a.eval args first o idx s = some (.int x)) (q : (Jvm.Cond.not (.eq a (.int k))).value args first o s idx = some true) : ¬ x = k := by
  have h := not_v q
  simpa [Cond.value, Term.eval, ev] using h
theorem own_eqR {args : Array Value} {s first : State} {o : Option Outcome} {idx : List Nat} {a b : Term} {x : Addr} (q : (Jvm.Cond.eq a b).value args first o s idx = some true) (hb : b.eval args first o idx s = some (.ref x)) : a.eval args first o idx s = some (.ref x) := by
  simp only [Cond.value, hb] at q
  cases ht : a.eval args first o idx s with
  | none => simp [ht] at q
  | some y => cases y <;> simp [ht] at q ⊢ <;> exact q
theorem own_eqN {args : Array Value} {s first : State} {o : Option Outcome} {idx : List Nat} {a : Term} (q : (Jvm.Cond.eq a .null).value args first o s idx = some true) : a.eval args first o idx s = some .null := by
  have hb : Term.null.eval args first o idx s = some .null := by simp [Term.eval]
  simp only [Cond.value, hb] at q
  cases ht : a.eval args first o idx s with
  | none => simp [ht] at q
  | some y => cases y <;> simp [ht] at q ⊢
theorem own_two {A : Array Value} {v w : Value} (h1 : A.size < 2 ^ 31) (h2 : A.size.toInt32 = 2) (h0 : A[0]? = some v) (h3 : A[1]? = some w) : A.toList = [v, w] := by
  have k := len_toInt h1
  rw [h2] at k
  have : (2 : Int32).toInt = 2 := by decide
  have hs : A.size = 2 := by omega
  apply List.ext_getElem?
  intro i
  rw [Array.getElem?_toList]
  match i with
  | 0 => rw [h0]; rfl
  | 1 => rw [h3]; rfl
  | i + 2 => rw [Array.getElem?_eq_none (by omega)]; rfl
set_option maxRecDepth 65536 in
set_option maxHeartbeats 40000000 in
theorem comes_1 {Post : Tables → Env → Array Value → State → Outcome → State → Prop} (hpost : ∀ tb e args s v u, (limb_1_1.after args s (.returned v) u = true ∧ limb_1_2.after args s (.returned v) u = true ∧ True) → ReturnedEndW s (.returned v) u (Jvm.fieldLocs frame_1_writes args s ++ Jvm.arrayLocs frame_1_arrays args s ++ Jvm.staticLocs frame_1_statics s) 32 4288 → Post tb e args s (.returned v) u) :
    ArmFor flags0 classFile x code maxLocals ret World_1 tables_1 room_1 Calls_1 rest_1 Pre_1 Post := by
  intro l hfl _ _ p e ha hc hk s m args below hf hA hF happ hP
  obtain ⟨hcalls, hrest, hpre⟩ := hP
  obtain ⟨-, -, -, hnamed, -, -, -, hat⟩ := (Spec.applies_iff hf).mp happ
  obtain ⟨hg, hn⟩ := and_e (Cond.before_iff.mp (show (Jvm.Cond.and given_1 narrow_1).before args s = true from hpre))
  obtain ⟨g327, g328⟩ := and_e hg
  obtain ⟨g329, g330⟩ := and_e g328
  obtain ⟨g331, g332⟩ := and_e g330
  obtain ⟨g333, g334⟩ := and_e g332
  obtain ⟨w0, w1, w2, w3, rfl⟩ : ∃ w0 w1 w2 w3 : Value, args = #[w0, w1, w2, w3] := by
    have hs : args.size = 4 := by simpa [Cond.value, given_1] using g327
    obtain ⟨L⟩ := args
    match L, hs with
    | [w0, w1, w2, w3], _ => exact ⟨w0, w1, w2, w3, rfl⟩
  have hw := fun d (hd : d ∈ tables_1) => atoms_spec (ws := Jvm.Cond.code x code maxLocals ret :: tables_1) hat d (List.mem_cons_of_mem _ hd)
  have hfit : Fit s := fun {y c} hc i hi => by
    obtain ⟨ha, rfl⟩ := Array.getElem?_eq_some_iff.mp hc
    have q := List.all_eq_true.mp ((Array.all_eq_true_iff_forall_mem.mp hF) _ (Array.getElem_mem ha)) i (List.mem_range.mpr hi)
    simpa [Array.getElem?_eq_getElem hi] using q
  obtain ⟨hsets, hown0⟩ := atoms_of _ (rest_1_c_eq ▸ (show rest_1_c.before _ s = true from hrest))
  have hr0 := Cond.before_iff.mp hown0
  obtain ⟨a_Optional_EMPTY, ev_Optional_EMPTY⟩ := exa_v (Cond.before_iff.mp (hsets _ (List.mem_of_getElem? (i := 11) rfl)))
  have S_Optional_EMPTY : Sta s s.heap "java/util/Optional" "EMPTY" "Ljava/util/Optional;" (.ref a_Optional_EMPTY) := Sta.start ev_Optional_EMPTY (Or.inl (hsets _ (List.mem_of_getElem? (i := 10) rfl)))
  have E_Optional_EMPTY : Exa s s.heap a_Optional_EMPTY "java/util/Optional" := Exa.start ev_Optional_EMPTY (Cond.before_iff.mp (hsets _ (List.mem_of_getElem? (i := 11) rfl)))
  obtain ⟨i0, ei0⟩ := is_v g329
  obtain rfl : w0 = (.int i0) := Option.some.inj ei0
  obtain ⟨i1, ei1⟩ := is_v g331
  obtain rfl : w1 = (.int i1) := Option.some.inj ei1
  obtain ⟨i2, ei2⟩ := is_v g333
  obtain rfl : w2 = (.int i2) := Option.some.inj ei2
  obtain ⟨i3, ei3⟩ := is_v g334
  obtain rfl : w3 = (.int i3) := Option.some.inj ei3
  obtain ⟨n335, n336⟩ := and_e hn
  obtain ⟨n337, n338⟩ := and_e n336
  obtain ⟨n339, n340⟩ := and_e n338
  obtain ⟨n341, n342⟩ := and_e n340
  obtain ⟨n343, n344⟩ := and_e n342
  obtain ⟨n345, n346⟩ := and_e n344
  obtain ⟨n347, n348⟩ := and_e n346
  obtain ⟨n349, n350⟩ := and_e n348
  obtain ⟨n351, n352⟩ := and_e n350
  obtain ⟨n353, n354⟩ := and_e n352
  obtain ⟨n355, n356⟩ := and_e n354
  obtain ⟨n357, n358⟩ := and_e n356
  obtain ⟨n359, n360⟩ := and_e n358
  obtain ⟨n361, n362⟩ := and_e n360
  obtain ⟨n363, n364⟩ := and_e n362
  obtain ⟨n365, n366⟩ := and_e n364
  obtain ⟨n367, n368⟩ := and_e n366
  obtain ⟨n369, n370⟩ := and_e n368
  obtain ⟨n371, n372⟩ := and_e n370
  obtain ⟨n373, n374⟩ := and_e n372
  obtain ⟨n375, n376⟩ := and_e n374
  obtain ⟨n377, n378⟩ := and_e n376
  obtain ⟨n379, n380⟩ := and_e n378
  obtain ⟨n381, n382⟩ := and_e n380
  obtain ⟨n383, n384⟩ := and_e n382
  obtain ⟨n385, n386⟩ := and_e n384
  obtain ⟨n387, n388⟩ := and_e n386
  obtain ⟨n389, n390⟩ := and_e n388
  obtain ⟨n391, n392⟩ := and_e n390
  obtain ⟨n393, n394⟩ := and_e n392
  obtain ⟨n395, n396⟩ := and_e n394
  obtain ⟨n397, n398⟩ := and_e n396
  obtain ⟨n399, n400⟩ := and_e n398
  obtain ⟨n401, n402⟩ := and_e n400
  obtain ⟨n403, n404⟩ := and_e n402
  obtain ⟨n405, n406⟩ := and_e n404
  obtain ⟨n407, n408⟩ := and_e n406
  obtain ⟨a__VALUES, ev__VALUES⟩ := exa_v n337
  have S__VALUES : Sta s s.heap "com/example/inbound_throttle/inboundthrottle/rules/Algorithm" "$VALUES" "[Lcom/example/inbound_throttle/inboundthrottle/rules/Algorithm;" (.ref a__VALUES) := Sta.start ev__VALUES (Or.inr ⟨(hw _ (List.mem_of_getElem? (i := 51) rfl)), (hw _ (List.mem_of_getElem? (i := 57) rfl))⟩)
  have E__VALUES : Exa s s.heap a__VALUES "[Lcom/example/inbound_throttle/inboundthrottle/rules/Algorithm;" := Exa.start ev__VALUES n337
  obtain ⟨a_FIXED_WINDOW, ev_FIXED_WINDOW⟩ := exa_v n341
  have S_FIXED_WINDOW : Sta s s.heap "com/example/inbound_throttle/inboundthrottle/rules/Algorithm" "FIXED_WINDOW" "Lcom/example/inbound_throttle/inboundthrottle/rules/Algorithm;" (.ref a_FIXED_WINDOW) := Sta.start ev_FIXED_WINDOW (Or.inr ⟨(hw _ (List.mem_of_getElem? (i := 51) rfl)), (hw _ (List.mem_of_getElem? (i := 65) rfl))⟩)
  have E_FIXED_WINDOW : Exa s s.heap a_FIXED_WINDOW "com/example/inbound_throttle/inboundthrottle/rules/Algorithm" := Exa.start ev_FIXED_WINDOW n341
  obtain ⟨a_SLIDING_LOG, ev_SLIDING_LOG⟩ := exa_v n345
  have S_SLIDING_LOG : Sta s s.heap "com/example/inbound_throttle/inboundthrottle/rules/Algorithm" "SLIDING_LOG" "Lcom/example/inbound_throttle/inboundthrottle/rules/Algorithm;" (.ref a_SLIDING_LOG) := Sta.start ev_SLIDING_LOG (Or.inr ⟨(hw _ (List.mem_of_getElem? (i := 51) rfl)), (hw _ (List.mem_of_getElem? (i := 66) rfl))⟩)
  have E_SLIDING_LOG : Exa s s.heap a_SLIDING_LOG "com/example/inbound_throttle/inboundthrottle/rules/Algorithm" := Exa.start ev_SLIDING_LOG n345
  obtain ⟨gS, ev_S⟩ := is_v (Cond.before_iff.mp (hsets _ (List.mem_of_getElem? (i := 1) rfl)))
  have S_S : Sta s s.heap "java/lang/String" "COMPACT_STRINGS" "Z" (.int gS) := Sta.start ev_S (Or.inl (hsets _ (List.mem_of_getElem? (i := 0) rfl)))
  have hS : ¬ gS = 0 := own_neI ev_S (Cond.before_iff.mp (hsets _ (List.mem_of_getElem? (i := 2) rfl)))
  obtain ⟨fm, ev_F, hfm⟩ := isR_v (Cond.before_iff.mp (hsets _ (List.mem_of_getElem? (i := 8) rfl)))
  have S_F : Sta s s.heap "jdk/internal/util/Preconditions" "SIOOBE_FORMATTER" "Ljava/util/function/BiFunction;" fm := Sta.start ev_F (Or.inl (hsets _ (List.mem_of_getElem? (i := 7) rfl)))
  have F_E : Fld s s.heap a_Optional_EMPTY "java/util/Optional" "value" "Ljava/lang/Object;" .null := Fld.start ((fld_at ev_Optional_EMPTY).symm.trans (own_eqN (Cond.before_iff.mp (hsets _ (List.mem_of_getElem? (i := 12) rfl)))))
  obtain ⟨kV, A_V⟩ := Arr.start ev__VALUES n335
  obtain ⟨hz1, hz2⟩ := own_lenN ev__VALUES A_V (own_eqI n339)
  have q_0 := (elem_in (own_eqR n343 ev_FIXED_WINDOW) ev__VALUES rfl A_V.1).2
  have q_1 := (elem_in (own_eqR n347 ev_SLIDING_LOG) ev__VALUES rfl A_V.1).2
  have hs := own_two hz1 hz2 q_0 q_1
  obtain ⟨f0, ev_f0⟩ := exa_v n349
  have F_0 : Fld s s.heap a_FIXED_WINDOW "com/example/inbound_throttle/inboundthrottle/rules/Algorithm" "fileName" "Ljava/lang/String;" (.ref f0) := Fld.start ((fld_at ev_FIXED_WINDOW).symm.trans ev_f0)
  obtain ⟨b0, ev_b0⟩ := arr_v n353
  obtain ⟨kb0, A_b0⟩ := Arr.start ev_b0 n353
  have u0_0 : kb0.slots[0]? = some (.int 102) := (elem_in (own_eqI n365) ev_b0 rfl A_b0.1).2
  have u0_1 : kb0.slots[1]? = some (.int 105) := (elem_in (own_eqI n367) ev_b0 rfl A_b0.1).2
  have u0_2 : kb0.slots[2]? = some (.int 120) := (elem_in (own_eqI n369) ev_b0 rfl A_b0.1).2
  have u0_3 : kb0.slots[3]? = some (.int 101) := (elem_in (own_eqI n371) ev_b0 rfl A_b0.1).2
  have u0_4 : kb0.slots[4]? = some (.int 100) := (elem_in (own_eqI n373) ev_b0 rfl A_b0.1).2
  have u0_5 : kb0.slots[5]? = some (.int 45) := (elem_in (own_eqI n375) ev_b0 rfl A_b0.1).2
  have u0_6 : kb0.slots[6]? = some (.int 119) := (elem_in (own_eqI n377) ev_b0 rfl A_b0.1).2
  have u0_7 : kb0.slots[7]? = some (.int 105) := (elem_in (own_eqI n379) ev_b0 rfl A_b0.1).2
  have u0_8 : kb0.slots[8]? = some (.int 110) := (elem_in (own_eqI n381) ev_b0 rfl A_b0.1).2
  have u0_9 : kb0.slots[9]? = some (.int 100) := (elem_in (own_eqI n383) ev_b0 rfl A_b0.1).2
  have u0_10 : kb0.slots[10]? = some (.int 111) := (elem_in (own_eqI n385) ev_b0 rfl A_b0.1).2
  have u0_11 : kb0.slots[11]? = some (.int 119) := (elem_in (own_eqI n387) ev_b0 rfl A_b0.1).2
  have T_0 : own_Str s s.heap s.heap.size f0 own_FW := own_Str.start hfit (vs := [(.int 102), (.int 105), (.int 120), (.int 101), (.int 100), (.int 45), (.int 119), (.int 105), (.int 110), (.int 100), (.int 111), (.int 119)]) ev_f0 n349 (own_eqI n351) ev_b0 A_b0 (own_eqI n355) ⟨u0_0, u0_1, u0_2, u0_3, u0_4, u0_5, u0_6, u0_7, u0_8, u0_9, u0_10, u0_11, trivial⟩ own_FW (by decide) (by decide) (by decide) (by decide) (by decide) (by first | rfl | decide +kernel)
  obtain ⟨f1, ev_f1⟩ := exa_v n357
  have F_1 : Fld s s.heap a_SLIDING_LOG "com/example/inbound_throttle/inboundthrottle/rules/Algorithm" "fileName" "Ljava/lang/String;" (.ref f1) := Fld.start ((fld_at ev_SLIDING_LOG).symm.trans ev_f1)
  obtain ⟨b1, ev_b1⟩ := arr_v n361
  obtain ⟨kb1, A_b1⟩ := Arr.start ev_b1 n361
  have u1_0 : kb1.slots[0]? = some (.int 115) := (elem_in (own_eqI n389) ev_b1 rfl A_b1.1).2
  have u1_1 : kb1.slots[1]? = some (.int 108) := (elem_in (own_eqI n391) ev_b1 rfl A_b1.1).2
  have u1_2 : kb1.slots[2]? = some (.int 105) := (elem_in (own_eqI n393) ev_b1 rfl A_b1.1).2
  have u1_3 : kb1.slots[3]? = some (.int 100) := (elem_in (own_eqI n395) ev_b1 rfl A_b1.1).2
  have u1_4 : kb1.slots[4]? = some (.int 105) := (elem_in (own_eqI n397) ev_b1 rfl A_b1.1).2
  have u1_5 : kb1.slots[5]? = some (.int 110) := (elem_in (own_eqI n399) ev_b1 rfl A_b1.1).2
  have u1_6 : kb1.slots[6]? = some (.int 103) := (elem_in (own_eqI n401) ev_b1 rfl A_b1.1).2
  have u1_7 : kb1.slots[7]? = some (.int 45) := (elem_in (own_eqI n403) ev_b1 rfl A_b1.1).2
  have u1_8 : kb1.slots[8]? = some (.int 108) := (elem_in (own_eqI n405) ev_b1 rfl A_b1.1).2
  have u1_9 : kb1.slots[9]? = some (.int 111) := (elem_in (own_eqI n407) ev_b1 rfl A_b1.1).2
  have u1_10 : kb1.slots[10]? = some (.int 103) := (elem_in (own_eqI n408) ev_b1 rfl A_b1.1).2
  have T_1 : own_Str s s.heap s.heap.size f1 own_SL := own_Str.start hfit (vs := [(.int 115), (.int 108), (.int 105), (.int 100), (.int 105), (.int 110), (.int 103), (.int 45), (.int 108), (.int 111), (.int 103)]) ev_f1 n357 (own_eqI n359) ev_b1 A_b1 (own_eqI n363) ⟨u1_0, u1_1, u1_2, u1_3, u1_4, u1_5, u1_6, u1_7, u1_8, u1_9, u1_10, trivial⟩ own_SL (by decide) (by decide) (by decide) (by decide) (by decide) (by first | rfl | decide +kernel)
  have hEL : EW s _ own_EL := (EW.cons (hw _ (List.mem_of_getElem? (i := 0) rfl)) (by decide) (EW.cons (hw _ (List.mem_of_getElem? (i := 48) rfl)) (by decide) (EW.cons (hw _ (List.mem_of_getElem? (i := 85) rfl)) (by decide) (EW.cons (hw _ (List.mem_of_getElem? (i := 37) rfl)) (by decide) EW.nil))))
  have hCH : CHv s own_EL s.vm s.heap := CHv.start hEL (fun q hq => hcalls.1 q hq) (hsets _ (List.mem_of_getElem? (i := 2) rfl)) (hw _ (List.mem_of_getElem? (i := 3) rfl)) (hw _ (List.mem_of_getElem? (i := 2) rfl))
  obtain ⟨n, o, h1, h2, h3, _, L, rfl, ⟨rfl, N⟩, -, hq⟩ := rm0 l s _ hw tables_1 i0 i1 i2 i3 a__VALUES kV a_FIXED_WINDOW a_SLIDING_LOG f0 f1 a_Optional_EMPTY gS fm s.heap s.heap.size hEL (Old.start s) S__VALUES A_V E__VALUES (FitC.start hfit A_V) hs F_0 F_1 T_0 T_1 S_Optional_EMPTY E_Optional_EMPTY F_E S_S hS S_F hfm S_FIXED_WINDOW S_SLIDING_LOG p e ha hc hk s m _ below hf ((Spec.applies_iff_loose hf).mp happ).1 ⟨rfl, State.Warmed39.refl s, rfl, hCH⟩ trivial
  refine ⟨n, _, h1, h2, h3, hpost _ _ _ _ _ _ ⟨Cond.after_iff.mpr rfl, Cond.after_iff.mpr (eq_i res_at (Term.int_eval (1)) rfl), trivial⟩ ⟨hq.1, hq.2.1, hq.2.2.1, (hq.2.2.2.sift fun y hy => Or.inr (N y hy)).mono (by decide) (by decide)⟩⟩
theorem main_1_1 : Claimed_1_1 := comes_1 fun _ _ _ _ _ _ h hF => ⟨h.1, hF⟩
theorem main_1_2 : Claimed_1_2 := comes_1 fun _ _ _ _ _ _ h hF => ⟨h.2.1, hF⟩
end Jvm.Pilot.@@N@@
namespace Jvm.Pilot.@@N@@
open Jvm Jvm.ClassFile Sem Op Lib Jvm.Free Jvm.Stand Jvm.Pilot.@@N@@.Jvm.D
/-! MADE BY PROGRAM (witnessworld.py) out of the Statement's table words and the real class files: 24 classes; the members and pool entries that the words name. The judged class is class 1, her method 2. -/
namespace start1
open Jvm.ClassFile
def u (s : String) : CpInfo := .utf8 (stringToUtf16 s)
/-- a pool by its gaps: so many unusable entries, then the entry; so many at the end -/
def gap : Nat → List CpInfo → List CpInfo
  | 0, r => r
  | n + 1, r => .unusable :: gap n r
def poolList (es : List (Nat × CpInfo)) (last : Nat) : List CpInfo := es.foldr (fun e r => gap e.1 (e.2 :: r)) (gap last [])
def pool (es : List (Nat × CpInfo)) (last : Nat) : Array CpInfo := ⟨poolList es last⟩
def fileOf (pool : Array CpInfo) (this : Nat) (attrs : Array Attribute := #[]) (ms : Array MethodInfo := #[]) (fl : Nat := 33) (sup : Nat := 0) (ifs : Array Nat := #[]) (fds : Array FieldInfo := #[]) : ClassFile where
  minorVersion := 0
  majorVersion := 65
  constantPool := pool
  accessFlags := fl
  thisClass := this
  superClass := sup
  interfaces := ifs
  fields := fds
  methods := ms
  attributes := attrs
def plain (name : String) (sup : Option ClassId) : Class where
  name := name
  kind := .ordinary
  loader := none
  accessFlags := 33
  super := sup
  interfaces := #[]
  cf := none
  fields := #[]
  methods := #[]
  instanceTypes := #[]
  staticTypes := #[]
  resolved := #[]
  callSites := []
  init := .initialized
  statics := none
  mirror := none

def pool0 : Array CpInfo := pool [(5, u "<init>"), (0, u "()V"), (1, .class_ 10), (1, u "java/lang/Object"), (85, u "clone"), (0, u "()Ljava/lang/Object;")] 26

def k0c0 : Code := { maxStack := 0, maxLocals := 1, code := object_method_1_code, exceptionTable := #[], attributes := #[] }
def k0m0 : Method := { name := "<init>", desc := "()V", sig := { parameters := [], returnType := none }, accessFlags := 1, code := some k0c0 }
def k0m1 : Method := { name := "clone", desc := "()Ljava/lang/Object;", sig := { parameters := [], returnType := some (.object "java/lang/Object") }, accessFlags := 260, code := none }
/-- java/lang/Object -/
def k0 : Class := { plain "java/lang/Object" none with
  accessFlags := 33
  interfaces := #[]
  cf := some (fileOf pool0 8 #[] #[{ accessFlags := 1, nameIndex := 5, descriptorIndex := 6, attributes := #[] }, { accessFlags := 260, nameIndex := 96, descriptorIndex := 97, attributes := #[] }] 33 0 #[] #[])
  fields := #[]
  methods := #[k0m0, k0m1]
  instanceTypes := #[]
  staticTypes := #[]
  resolved := Array.replicate 124 none
  statics := none }

def pool1 : Array CpInfo := pool [(2, .class_ 4), (1, u "java/lang/Object"), (0, u "<init>"), (0, u "()V"), (0, .methodref 8 9), (0, .class_ 10), (0, .nameAndType 11 12), (0, u "java/lang/String"), (0, u "length"), (0, u "()I"), (0, .methodref 8 14), (0, .nameAndType 15 16), (0, u "charAt"), (0, u "(I)C"), (0, .string 18), (0, u "fixed-window"), (0, .string 20), (0, u "sliding-log"), (0, .string 22), (0, u "FIXED_WINDOW"), (0, .methodref 24 25), (0, .class_ 26), (0, .nameAndType 27 28), (0, u "com/example/inbound_throttle/inboundthrottle/rules/AlgorithmNamedPinLaw"), (0, u "put"), (0, u "([CLjava/lang/String;IC)V"), (0, .integer 2147483647), (0, .methodref 8 31), (0, .nameAndType 5 32), (0, u "([C)V"), (0, .methodref 8 34), (0, .nameAndType 35 36), (0, u "equals"), (0, u "(Ljava/lang/Object;)Z"), (0, .fieldref 38 39), (0, .class_ 40), (0, .nameAndType 22 41), (0, u "com/example/inbound_throttle/inboundthrottle/rules/Algorithm"), (0, u "Lcom/example/inbound_throttle/inboundthrottle/rules/Algorithm;"), (0, .fieldref 38 43), (0, .nameAndType 44 41), (0, u "SLIDING_LOG"), (0, .methodref 38 46), (0, .nameAndType 47 48), (0, u "named"), (0, u "(Ljava/lang/String;)Ljava/util/Optional;"), (0, .methodref 50 51), (0, .class_ 52), (0, .nameAndType 53 54), (0, u "java/util/Optional"), (0, u "isPresent"), (0, u "()Z"), (0, .methodref 50 56), (0, .nameAndType 57 58), (0, u "get"), (0, u "()Ljava/lang/Object;"), (5, u "law"), (0, u "(IIII)Z")] 2

def k1m0 : Method := { name := "<init>", desc := "()V", sig := { parameters := [], returnType := none }, accessFlags := 1, code := none }
def k1c1 : Code := { maxStack := 4, maxLocals := 4, code := method_2_code, exceptionTable := #[], attributes := #[] }
def k1m1 : Method := { name := "put", desc := "([CLjava/lang/String;IC)V", sig := { parameters := [(.array .char), (.object "java/lang/String"), .int, .char], returnType := none }, accessFlags := 10, code := some k1c1 }
def k1c2 : Code := { maxStack := 4, maxLocals := 12, code := code, exceptionTable := #[], attributes := #[] }
def k1m2 : Method := { name := "law", desc := "(IIII)Z", sig := { parameters := [.int, .int, .int, .int], returnType := some .boolean }, accessFlags := 9, code := some k1c2 }
/-- com/example/inbound_throttle/inboundthrottle/rules/AlgorithmNamedPinLaw -/
def k1 : Class := { plain "com/example/inbound_throttle/inboundthrottle/rules/AlgorithmNamedPinLaw" (some 0) with
  accessFlags := 49
  interfaces := #[]
  cf := some (fileOf pool1 24 #[] #[{ accessFlags := 1, nameIndex := 5, descriptorIndex := 6, attributes := #[] }, { accessFlags := 10, nameIndex := 27, descriptorIndex := 28, attributes := #[] }, { accessFlags := 9, nameIndex := 64, descriptorIndex := 65, attributes := #[] }] 49 2 #[] #[])
  fields := #[]
  methods := #[k1m0, k1m1, k1m2]
  instanceTypes := #[]
  staticTypes := #[]
  resolved := Array.replicate 68 none
  statics := none }

def pool2 : Array CpInfo := pool [(1, .class_ 2), (0, u "java/io/Serializable"), (0, .class_ 4), (0, u "java/lang/Object")] 2

/-- java/io/Serializable -/
def k2 : Class := { plain "java/io/Serializable" (some 0) with
  accessFlags := 1537
  interfaces := #[]
  cf := some (fileOf pool2 1 #[] #[] 1537 3 #[] #[])
  fields := #[]
  methods := #[]
  instanceTypes := #[]
  staticTypes := #[]
  resolved := Array.replicate 7 none
  statics := none }

def pool3 : Array CpInfo := pool [(1, .class_ 2), (0, u "java/lang/Comparable"), (0, .class_ 4), (0, u "java/lang/Object")] 7

/-- java/lang/Comparable -/
def k3 : Class := { plain "java/lang/Comparable" (some 0) with
  accessFlags := 1537
  interfaces := #[]
  cf := some (fileOf pool3 1 #[] #[] 1537 3 #[] #[])
  fields := #[]
  methods := #[]
  instanceTypes := #[]
  staticTypes := #[]
  resolved := Array.replicate 12 none
  statics := none }

def pool4 : Array CpInfo := pool [(2, .class_ 4), (1, u "java/lang/CharSequence"), (42, .class_ 48), (0, u "java/lang/CharSequence$1CodePointIterator"), (10, .class_ 60), (0, u "java/lang/CharSequence$1CharIterator"), (5, .class_ 67), (0, u "java/lang/Object")] 63

/-- java/lang/CharSequence -/
def k4 : Class := { plain "java/lang/CharSequence" (some 0) with
  accessFlags := 1537
  interfaces := #[]
  cf := some (fileOf pool4 2 #[.nestMembers #[47, 59]] #[] 1537 66 #[] #[])
  fields := #[]
  methods := #[]
  instanceTypes := #[]
  staticTypes := #[]
  resolved := Array.replicate 131 none
  statics := none }

def pool5 : Array CpInfo := pool [(1, .class_ 2), (0, u "java/lang/constant/Constable"), (0, .class_ 4), (0, u "java/lang/Object")] 6

/-- java/lang/constant/Constable -/
def k5 : Class := { plain "java/lang/constant/Constable" (some 0) with
  accessFlags := 1537
  interfaces := #[]
  cf := some (fileOf pool5 1 #[] #[] 1537 3 #[] #[])
  fields := #[]
  methods := #[]
  instanceTypes := #[]
  staticTypes := #[]
  resolved := Array.replicate 11 none
  statics := none }

def pool6 : Array CpInfo := pool [(1, .class_ 2), (0, u "java/lang/constant/ConstantDesc"), (0, .class_ 4), (0, u "java/lang/Object")] 32

/-- java/lang/constant/ConstantDesc -/
def k6 : Class := { plain "java/lang/constant/ConstantDesc" (some 0) with
  accessFlags := 1537
  interfaces := #[]
  cf := some (fileOf pool6 1 #[] #[] 1537 3 #[] #[])
  fields := #[]
  methods := #[]
  instanceTypes := #[]
  staticTypes := #[]
  resolved := Array.replicate 37 none
  statics := none }

def pool7 : Array CpInfo := pool [(1, .methodref 2 3), (0, .class_ 4), (0, .nameAndType 5 6), (0, u "java/lang/Object"), (0, u "<init>"), (0, u "()V"), (0, .string 8), (0, u ""), (0, .fieldref 10 11), (0, .class_ 12), (0, .nameAndType 13 14), (0, u "java/lang/String"), (0, u "value"), (0, u "[B"), (0, .fieldref 10 16), (0, .nameAndType 17 18), (0, u "coder"), (0, u "B"), (2, u "hash"), (0, u "I"), (2, u "hashIsZero"), (0, u "Z"), (0, .methodref 10 28), (0, .nameAndType 5 29), (0, u "([CIILjava/lang/Void;)V"), (8, .fieldref 10 39), (0, .nameAndType 40 26), (0, u "COMPACT_STRINGS"), (1, .class_ 44), (1, u "java/lang/StringUTF16"), (0, u "compress"), (1, .methodref 42 48), (0, .nameAndType 49 50), (0, u "coderFromArrayLen"), (0, u "([BI)B"), (56, .class_ 109), (1, u "java/lang/StringLatin1"), (32, u "()Z"), (34, .methodref 42 178), (0, .nameAndType 45 179), (0, u "([CII)[B"), (154, u "()I"), (0, .methodref 10 336), (0, .nameAndType 17 337), (0, u "()B"), (25, u "([BI)C"), (27, u "(II)V"), (35, u "(I)C"), (64, .methodref 10 493), (0, .nameAndType 494 142), (0, u "isLatin1"), (0, .methodref 107 496), (0, .nameAndType 497 363), (0, u "charAt"), (3, u "checkIndex"), (5, u "length"), (33, .methodref 107 542), (0, .nameAndType 543 544), (0, u "equals"), (0, u "([B[B)Z"), (28, u "(Ljava/lang/Object;)Z"), (1, .class_ 576), (0, u "java/lang/CharSequence"), (22, u "CASE_INSENSITIVE_ORDER"), (0, u "Ljava/util/Comparator;"), (409, u "([C)V"), (42, .fieldref 1054 1055), (0, .class_ 1056), (0, .nameAndType 1057 1058), (0, u "jdk/internal/util/Preconditions"), (0, u "SIOOBE_FORMATTER"), (0, u "Ljava/util/function/BiFunction;"), (0, .methodref 1054 1060), (0, .nameAndType 501 1061), (0, u "(IILjava/util/function/BiFunction;)I"), (39, u "serialPersistentFields"), (0, u "[Ljava/io/ObjectStreamField;"), (0, .class_ 1104), (0, u "java/lang/String$CaseInsensitiveComparator"), (1, .class_ 1107), (0, u "java/io/Serializable"), (0, .class_ 1109), (0, u "java/lang/Comparable"), (0, .class_ 1111), (0, u "java/lang/constant/Constable"), (0, .class_ 1113), (0, u "java/lang/constant/ConstantDesc"), (2, u "serialVersionUID"), (0, u "J"), (3, u "REPL"), (0, u "C"), (2, u "LATIN1"), (1, u "UTF16")] 323

def k7m0 : Method := { name := "<init>", desc := "()V", sig := { parameters := [], returnType := none }, accessFlags := 1, code := none }
def k7c1 : Code := { maxStack := 5, maxLocals := 2, code := jdk_42_method_3_code, exceptionTable := #[], attributes := #[] }
def k7m1 : Method := { name := "<init>", desc := "([C)V", sig := { parameters := [(.array .char)], returnType := none }, accessFlags := 1, code := some k7c1 }
def k7c2 : Code := { maxStack := 2, maxLocals := 1, code := jdk_42_method_54_code, exceptionTable := #[], attributes := #[] }
def k7m2 : Method := { name := "length", desc := "()I", sig := { parameters := [], returnType := some .int }, accessFlags := 1, code := some k7c2 }
def k7c3 : Code := { maxStack := 2, maxLocals := 2, code := jdk_42_method_56_code, exceptionTable := #[], attributes := #[] }
def k7m3 : Method := { name := "charAt", desc := "(I)C", sig := { parameters := [.int], returnType := some .char }, accessFlags := 1, code := some k7c3 }
def k7c4 : Code := { maxStack := 2, maxLocals := 3, code := jdk_42_method_66_code, exceptionTable := #[], attributes := #[] }
def k7m4 : Method := { name := "equals", desc := "(Ljava/lang/Object;)Z", sig := { parameters := [(.object "java/lang/Object")], returnType := some .boolean }, accessFlags := 1, code := some k7c4 }
def k7c5 : Code := { maxStack := 4, maxLocals := 6, code := jdk_42_method_149_code, exceptionTable := #[], attributes := #[] }
def k7m5 : Method := { name := "<init>", desc := "([CIILjava/lang/Void;)V", sig := { parameters := [(.array .char), .int, .int, (.object "java/lang/Void")], returnType := none }, accessFlags := 2, code := some k7c5 }
def k7c6 : Code := { maxStack := 1, maxLocals := 1, code := jdk_42_method_152_code, exceptionTable := #[], attributes := #[] }
def k7m6 : Method := { name := "coder", desc := "()B", sig := { parameters := [], returnType := some .byte }, accessFlags := 0, code := some k7c6 }
def k7c7 : Code := { maxStack := 1, maxLocals := 1, code := jdk_42_method_154_code, exceptionTable := #[], attributes := #[] }
def k7m7 : Method := { name := "isLatin1", desc := "()Z", sig := { parameters := [], returnType := some .boolean }, accessFlags := 0, code := some k7c7 }
def k7c8 : Code := { maxStack := 3, maxLocals := 2, code := jdk_42_method_155_code, exceptionTable := #[], attributes := #[] }
def k7m8 : Method := { name := "checkIndex", desc := "(II)V", sig := { parameters := [.int, .int], returnType := none }, accessFlags := 8, code := some k7c8 }
/-- java/lang/String -/
def k7 : Class := { plain "java/lang/String" (some 0) with
  accessFlags := 49
  interfaces := #[2, 3, 4, 5, 6]
  cf := some (fileOf pool7 10 #[.nestMembers #[1103]] #[{ accessFlags := 1, nameIndex := 5, descriptorIndex := 6, attributes := #[] }, { accessFlags := 1, nameIndex := 5, descriptorIndex := 1010, attributes := #[] }, { accessFlags := 1, nameIndex := 507, descriptorIndex := 334, attributes := #[] }, { accessFlags := 1, nameIndex := 497, descriptorIndex := 427, attributes := #[] }, { accessFlags := 1, nameIndex := 543, descriptorIndex := 573, attributes := #[] }, { accessFlags := 2, nameIndex := 5, descriptorIndex := 29, attributes := #[] }, { accessFlags := 0, nameIndex := 17, descriptorIndex := 337, attributes := #[] }, { accessFlags := 0, nameIndex := 494, descriptorIndex := 142, attributes := #[] }, { accessFlags := 8, nameIndex := 501, descriptorIndex := 391, attributes := #[] }] 49 2 #[1106, 1108, 575, 1110, 1112] #[{ accessFlags := 18, nameIndex := 13, descriptorIndex := 14, attributes := #[] }, { accessFlags := 18, nameIndex := 17, descriptorIndex := 18, attributes := #[] }, { accessFlags := 2, nameIndex := 21, descriptorIndex := 22, attributes := #[] }, { accessFlags := 2, nameIndex := 25, descriptorIndex := 26, attributes := #[] }, { accessFlags := 26, nameIndex := 1116, descriptorIndex := 1117, attributes := #[] }, { accessFlags := 24, nameIndex := 40, descriptorIndex := 26, attributes := #[] }, { accessFlags := 26, nameIndex := 1101, descriptorIndex := 1102, attributes := #[] }, { accessFlags := 26, nameIndex := 1121, descriptorIndex := 1122, attributes := #[] }, { accessFlags := 25, nameIndex := 599, descriptorIndex := 600, attributes := #[] }, { accessFlags := 24, nameIndex := 1125, descriptorIndex := 18, attributes := #[] }, { accessFlags := 24, nameIndex := 1127, descriptorIndex := 18, attributes := #[] }])
  fields := #[{ name := "value", type := (.array .byte), accessFlags := 18, slot := 0, constantValue := 0 }, { name := "coder", type := .byte, accessFlags := 18, slot := 1, constantValue := 0 }, { name := "hash", type := .int, accessFlags := 2, slot := 2, constantValue := 0 }, { name := "hashIsZero", type := .boolean, accessFlags := 2, slot := 3, constantValue := 0 }, { name := "serialVersionUID", type := .long, accessFlags := 26, slot := 0, constantValue := 0 }, { name := "COMPACT_STRINGS", type := .boolean, accessFlags := 24, slot := 1, constantValue := 0 }, { name := "serialPersistentFields", type := (.array (.object "java/io/ObjectStreamField")), accessFlags := 26, slot := 2, constantValue := 0 }, { name := "REPL", type := .char, accessFlags := 26, slot := 3, constantValue := 0 }, { name := "CASE_INSENSITIVE_ORDER", type := (.object "java/util/Comparator"), accessFlags := 25, slot := 4, constantValue := 0 }, { name := "LATIN1", type := .byte, accessFlags := 24, slot := 5, constantValue := 0 }, { name := "UTF16", type := .byte, accessFlags := 24, slot := 6, constantValue := 0 }]
  methods := #[k7m0, k7m1, k7m2, k7m3, k7m4, k7m5, k7m6, k7m7, k7m8]
  instanceTypes := #[(.array .byte), .byte, .int, .boolean]
  staticTypes := #[.long, .boolean, (.array (.object "java/io/ObjectStreamField")), .char, (.object "java/util/Comparator"), .byte, .byte]
  resolved := Array.replicate 1451 none
  statics := some 0 }

def pool8 : Array CpInfo := pool [(1, .class_ 2), (0, u "java/lang/String"), (1, .class_ 6), (1, u "java/lang/Object"), (0, u "<init>"), (0, u "()V"), (0, .methodref 1 10), (0, .nameAndType 11 12), (0, u "checkIndex"), (0, u "(II)V"), (1, .class_ 16), (1, u "java/lang/StringLatin1"), (36, u "([BI)C"), (67, u "$assertionsDisabled"), (0, u "Z"), (98, .class_ 223), (1, u "java/lang/StringLatin1$LinesSpliterator"), (28, u "charAt"), (28, u "equals"), (0, u "([B[B)Z"), (107, .class_ 391), (0, u "java/lang/StringLatin1$CharsSpliterator")] 3

def k8m0 : Method := { name := "<init>", desc := "()V", sig := { parameters := [], returnType := none }, accessFlags := 0, code := none }
def k8c1 : Code := { maxStack := 2, maxLocals := 2, code := jdk_43_method_2_code, exceptionTable := #[], attributes := #[] }
def k8m1 : Method := { name := "charAt", desc := "([BI)C", sig := { parameters := [(.array .byte), .int], returnType := some .char }, accessFlags := 9, code := some k8c1 }
def k8c2 : Code := { maxStack := 3, maxLocals := 3, code := jdk_43_method_13_code, exceptionTable := #[], attributes := #[] }
def k8m2 : Method := { name := "equals", desc := "([B[B)Z", sig := { parameters := [(.array .byte), (.array .byte)], returnType := some .boolean }, accessFlags := 9, code := some k8c2 }
/-- java/lang/StringLatin1 -/
def k8 : Class := { plain "java/lang/StringLatin1" (some 0) with
  accessFlags := 48
  interfaces := #[]
  cf := some (fileOf pool8 14 #[.nestMembers #[390, 221]] #[{ accessFlags := 0, nameIndex := 7, descriptorIndex := 8, attributes := #[] }, { accessFlags := 9, nameIndex := 252, descriptorIndex := 53, attributes := #[] }, { accessFlags := 9, nameIndex := 281, descriptorIndex := 282, attributes := #[] }] 48 4 #[] #[{ accessFlags := 4120, nameIndex := 121, descriptorIndex := 122, attributes := #[] }])
  fields := #[{ name := "$assertionsDisabled", type := .boolean, accessFlags := 4120, slot := 0, constantValue := 0 }]
  methods := #[k8m0, k8m1, k8m2]
  instanceTypes := #[]
  staticTypes := #[.boolean]
  resolved := Array.replicate 395 none
  statics := none }

def pool9 : Array CpInfo := pool [(2, .class_ 4), (1, u "java/lang/Enum"), (0, u "name"), (0, u "Ljava/lang/String;"), (2, u "ordinal"), (0, u "I"), (1, .class_ 14), (1, u "java/lang/Object"), (4, u "hash"), (86, .class_ 108), (1, u "java/lang/Enum$EnumDesc"), (2, .class_ 112), (0, u "java/lang/constant/Constable"), (0, .class_ 114), (0, u "java/lang/Comparable"), (0, .class_ 116), (0, u "java/io/Serializable")] 87

/-- java/lang/Enum -/
def k9 : Class := { plain "java/lang/Enum" (some 0) with
  accessFlags := 1057
  interfaces := #[5, 3, 2]
  cf := some (fileOf pool9 2 #[.nestMembers #[106]] #[] 1057 12 #[111, 113, 115] #[{ accessFlags := 18, nameIndex := 5, descriptorIndex := 6, attributes := #[] }, { accessFlags := 18, nameIndex := 9, descriptorIndex := 10, attributes := #[] }, { accessFlags := 2, nameIndex := 19, descriptorIndex := 10, attributes := #[] }])
  fields := #[{ name := "name", type := (.object "java/lang/String"), accessFlags := 18, slot := 0, constantValue := 0 }, { name := "ordinal", type := .int, accessFlags := 18, slot := 1, constantValue := 0 }, { name := "hash", type := .int, accessFlags := 2, slot := 2, constantValue := 0 }]
  methods := #[]
  instanceTypes := #[(.object "java/lang/String"), .int, .int]
  staticTypes := #[]
  resolved := Array.replicate 204 none
  statics := none }

def pool10 : Array CpInfo := pool [(1, .class_ 2), (0, u "com/example/inbound_throttle/inboundthrottle/rules/Algorithm"), (2, u "FIXED_WINDOW"), (0, u "Lcom/example/inbound_throttle/inboundthrottle/rules/Algorithm;"), (2, u "SLIDING_LOG"), (0, .fieldref 1 11), (0, .nameAndType 12 13), (0, u "$VALUES"), (0, u "[Lcom/example/inbound_throttle/inboundthrottle/rules/Algorithm;"), (0, .methodref 15 16), (0, .class_ 13), (0, .nameAndType 17 18), (0, u "clone"), (0, u "()Ljava/lang/Object;"), (1, .class_ 22), (1, u "java/lang/Enum"), (6, .fieldref 1 30), (0, .nameAndType 31 32), (0, u "fileName"), (0, u "Ljava/lang/String;"), (0, .methodref 1 34), (0, .nameAndType 35 36), (0, u "values"), (0, u "()[Lcom/example/inbound_throttle/inboundthrottle/rules/Algorithm;"), (0, .methodref 38 39), (0, .class_ 40), (0, .nameAndType 41 42), (0, u "java/lang/String"), (0, u "equals"), (0, u "(Ljava/lang/Object;)Z"), (0, .methodref 44 45), (0, .class_ 46), (0, .nameAndType 47 48), (0, u "java/util/Optional"), (0, u "of"), (0, u "(Ljava/lang/Object;)Ljava/util/Optional;"), (0, .methodref 44 50), (0, .nameAndType 51 52), (0, u "empty"), (0, u "()Ljava/util/Optional;"), (19, u "named"), (0, u "(Ljava/lang/String;)Ljava/util/Optional;")] 7

def k10c0 : Code := { maxStack := 1, maxLocals := 0, code := prog_4_method_1_code, exceptionTable := #[], attributes := #[] }
def k10m0 : Method := { name := "values", desc := "()[Lcom/example/inbound_throttle/inboundthrottle/rules/Algorithm;", sig := { parameters := [], returnType := some (.array (.object "com/example/inbound_throttle/inboundthrottle/rules/Algorithm")) }, accessFlags := 9, code := some k10c0 }
def k10c1 : Code := { maxStack := 2, maxLocals := 5, code := prog_4_method_5_code, exceptionTable := #[], attributes := #[] }
def k10m1 : Method := { name := "named", desc := "(Ljava/lang/String;)Ljava/util/Optional;", sig := { parameters := [(.object "java/lang/String")], returnType := some (.object "java/util/Optional") }, accessFlags := 9, code := some k10c1 }
/-- com/example/inbound_throttle/inboundthrottle/rules/Algorithm -/
def k10 : Class := { plain "com/example/inbound_throttle/inboundthrottle/rules/Algorithm" (some 9) with
  accessFlags := 16433
  interfaces := #[]
  cf := some (fileOf pool10 1 #[] #[{ accessFlags := 9, nameIndex := 35, descriptorIndex := 36, attributes := #[] }, { accessFlags := 9, nameIndex := 72, descriptorIndex := 73, attributes := #[] }] 16433 20 #[] #[{ accessFlags := 16409, nameIndex := 5, descriptorIndex := 6, attributes := #[] }, { accessFlags := 16409, nameIndex := 9, descriptorIndex := 6, attributes := #[] }, { accessFlags := 18, nameIndex := 31, descriptorIndex := 32, attributes := #[] }, { accessFlags := 4122, nameIndex := 12, descriptorIndex := 13, attributes := #[] }])
  fields := #[{ name := "FIXED_WINDOW", type := (.object "com/example/inbound_throttle/inboundthrottle/rules/Algorithm"), accessFlags := 16409, slot := 0, constantValue := 0 }, { name := "SLIDING_LOG", type := (.object "com/example/inbound_throttle/inboundthrottle/rules/Algorithm"), accessFlags := 16409, slot := 1, constantValue := 0 }, { name := "fileName", type := (.object "java/lang/String"), accessFlags := 18, slot := 3, constantValue := 0 }, { name := "$VALUES", type := (.array (.object "com/example/inbound_throttle/inboundthrottle/rules/Algorithm")), accessFlags := 4122, slot := 2, constantValue := 0 }]
  methods := #[k10m0, k10m1]
  instanceTypes := #[(.object "java/lang/String"), .int, .int, (.object "java/lang/String")]
  staticTypes := #[(.object "com/example/inbound_throttle/inboundthrottle/rules/Algorithm"), (.object "com/example/inbound_throttle/inboundthrottle/rules/Algorithm"), (.array (.object "com/example/inbound_throttle/inboundthrottle/rules/Algorithm"))]
  resolved := Array.replicate 81 none
  statics := some 1 }

def pool11 : Array CpInfo := pool [(1, .class_ 2), (0, u "java/lang/Cloneable"), (0, .class_ 4), (0, u "java/lang/Object")] 2

/-- java/lang/Cloneable -/
def k11 : Class := { plain "java/lang/Cloneable" (some 0) with
  accessFlags := 1537
  interfaces := #[]
  cf := some (fileOf pool11 1 #[] #[] 1537 3 #[] #[])
  fields := #[]
  methods := #[]
  instanceTypes := #[]
  staticTypes := #[]
  resolved := Array.replicate 7 none
  statics := none }

def pool12 : Array CpInfo := pool [(1, .fieldref 2 3), (0, .class_ 4), (0, .nameAndType 5 6), (0, u "java/util/Optional"), (0, u "EMPTY"), (0, u "Ljava/util/Optional;"), (0, .methodref 8 9), (0, .class_ 10), (0, .nameAndType 11 12), (0, u "java/lang/Object"), (0, u "<init>"), (0, u "()V"), (0, .fieldref 2 14), (0, .nameAndType 15 16), (0, u "value"), (0, u "Ljava/lang/Object;"), (0, .methodref 18 19), (0, .class_ 20), (0, .nameAndType 21 22), (0, u "java/util/Objects"), (0, u "requireNonNull"), (0, u "(Ljava/lang/Object;)Ljava/lang/Object;"), (0, .methodref 2 24), (0, .nameAndType 11 25), (0, u "(Ljava/lang/Object;)V"), (20, u "()Z"), (8, u "empty"), (0, u "()Ljava/util/Optional;"), (8, u "(Ljava/lang/Object;)Ljava/util/Optional;"), (2, u "isPresent"), (4, u "get"), (0, u "()Ljava/lang/Object;"), (7, u "of")] 104

def k12c0 : Code := { maxStack := 1, maxLocals := 1, code := jdk_32_method_1_code, exceptionTable := #[], attributes := #[] }
def k12m0 : Method := { name := "empty", desc := "()Ljava/util/Optional;", sig := { parameters := [], returnType := some (.object "java/util/Optional") }, accessFlags := 9, code := some k12c0 }
def k12c1 : Code := { maxStack := 2, maxLocals := 2, code := jdk_32_method_2_code, exceptionTable := #[], attributes := #[] }
def k12m1 : Method := { name := "<init>", desc := "(Ljava/lang/Object;)V", sig := { parameters := [(.object "java/lang/Object")], returnType := none }, accessFlags := 2, code := some k12c1 }
def k12c2 : Code := { maxStack := 3, maxLocals := 1, code := jdk_32_method_3_code, exceptionTable := #[], attributes := #[] }
def k12m2 : Method := { name := "of", desc := "(Ljava/lang/Object;)Ljava/util/Optional;", sig := { parameters := [(.object "java/lang/Object")], returnType := some (.object "java/util/Optional") }, accessFlags := 9, code := some k12c2 }
def k12c3 : Code := { maxStack := 3, maxLocals := 1, code := jdk_32_method_5_code, exceptionTable := #[], attributes := #[] }
def k12m3 : Method := { name := "get", desc := "()Ljava/lang/Object;", sig := { parameters := [], returnType := some (.object "java/lang/Object") }, accessFlags := 1, code := some k12c3 }
def k12c4 : Code := { maxStack := 1, maxLocals := 1, code := jdk_32_method_6_code, exceptionTable := #[], attributes := #[] }
def k12m4 : Method := { name := "isPresent", desc := "()Z", sig := { parameters := [], returnType := some .boolean }, accessFlags := 1, code := some k12c4 }
/-- java/util/Optional -/
def k12 : Class := { plain "java/util/Optional" (some 0) with
  accessFlags := 49
  interfaces := #[]
  cf := some (fileOf pool12 2 #[] #[{ accessFlags := 9, nameIndex := 55, descriptorIndex := 56, attributes := #[] }, { accessFlags := 2, nameIndex := 11, descriptorIndex := 25, attributes := #[] }, { accessFlags := 9, nameIndex := 82, descriptorIndex := 65, attributes := #[] }, { accessFlags := 1, nameIndex := 73, descriptorIndex := 74, attributes := #[] }, { accessFlags := 1, nameIndex := 68, descriptorIndex := 46, attributes := #[] }] 49 8 #[] #[{ accessFlags := 26, nameIndex := 5, descriptorIndex := 6, attributes := #[] }, { accessFlags := 18, nameIndex := 15, descriptorIndex := 16, attributes := #[] }])
  fields := #[{ name := "EMPTY", type := (.object "java/util/Optional"), accessFlags := 26, slot := 0, constantValue := 0 }, { name := "value", type := (.object "java/lang/Object"), accessFlags := 18, slot := 0, constantValue := 0 }]
  methods := #[k12m0, k12m1, k12m2, k12m3, k12m4]
  instanceTypes := #[(.object "java/lang/Object")]
  staticTypes := #[(.object "java/util/Optional")]
  resolved := Array.replicate 187 none
  statics := some 2 }

def pool13 : Array CpInfo := pool [(2, .class_ 4), (1, u "java/lang/Object"), (0, u "<init>"), (0, u "()V"), (17, .class_ 26), (1, u "jdk/internal/util/Preconditions"), (6, u "checkIndex"), (21, .class_ 56), (0, u "jdk/internal/util/Preconditions$4"), (57, .class_ 115), (0, u "jdk/internal/util/Preconditions$1"), (7, u "SIOOBE_FORMATTER"), (0, u "Ljava/util/function/BiFunction;"), (0, .class_ 126), (0, u "jdk/internal/util/Preconditions$2"), (3, u "AIOOBE_FORMATTER"), (0, .class_ 132), (0, u "jdk/internal/util/Preconditions$3"), (3, u "IOOBE_FORMATTER"), (41, u "(IILjava/util/function/BiFunction;)I")] 15

def k13m0 : Method := { name := "<init>", desc := "()V", sig := { parameters := [], returnType := none }, accessFlags := 1, code := none }
def k13c1 : Code := { maxStack := 3, maxLocals := 3, code := jdk_41_method_11_code, exceptionTable := #[], attributes := #[] }
def k13m1 : Method := { name := "checkIndex", desc := "(IILjava/util/function/BiFunction;)I", sig := { parameters := [.int, .int, (.object "java/util/function/BiFunction")], returnType := some .int }, accessFlags := 9, code := some k13c1 }
/-- jdk/internal/util/Preconditions -/
def k13 : Class := { plain "jdk/internal/util/Preconditions" (some 0) with
  accessFlags := 33
  interfaces := #[]
  cf := some (fileOf pool13 24 #[.nestMembers #[55, 131, 125, 114]] #[{ accessFlags := 1, nameIndex := 5, descriptorIndex := 6, attributes := #[] }, { accessFlags := 9, nameIndex := 33, descriptorIndex := 178, attributes := #[] }] 33 2 #[] #[{ accessFlags := 25, nameIndex := 123, descriptorIndex := 124, attributes := #[] }, { accessFlags := 25, nameIndex := 130, descriptorIndex := 124, attributes := #[] }, { accessFlags := 25, nameIndex := 136, descriptorIndex := 124, attributes := #[] }])
  fields := #[{ name := "SIOOBE_FORMATTER", type := (.object "java/util/function/BiFunction"), accessFlags := 25, slot := 0, constantValue := 0 }, { name := "AIOOBE_FORMATTER", type := (.object "java/util/function/BiFunction"), accessFlags := 25, slot := 1, constantValue := 0 }, { name := "IOOBE_FORMATTER", type := (.object "java/util/function/BiFunction"), accessFlags := 25, slot := 2, constantValue := 0 }]
  methods := #[k13m0, k13m1]
  instanceTypes := #[]
  staticTypes := #[(.object "java/util/function/BiFunction"), (.object "java/util/function/BiFunction"), (.object "java/util/function/BiFunction")]
  resolved := Array.replicate 194 none
  statics := some 3 }

def pool14 : Array CpInfo := pool [(6, .class_ 8), (1, u "java/lang/Object"), (0, u "<init>"), (0, u "()V"), (1, .class_ 14), (1, u "java/lang/StringUTF16"), (31, u "$assertionsDisabled"), (0, u "Z"), (13, u "HI_BYTE_SHIFT"), (0, u "I"), (2, u "LO_BYTE_SHIFT"), (49, .methodref 12 116), (0, .nameAndType 117 118), (0, u "compress"), (0, u "([CI[BII)I"), (3, u "([CII)[B"), (138, u "coderFromArrayLen"), (0, u "([BI)B"), (106, .class_ 371), (1, u "java/lang/StringUTF16$LinesSpliterator"), (58, u "MAX_LENGTH"), (196, .class_ 628), (0, u "java/lang/StringUTF16$CodePointsSpliterator"), (0, .class_ 630), (0, u "java/lang/StringUTF16$CharsSpliterator")] 4

def k14m0 : Method := { name := "<init>", desc := "()V", sig := { parameters := [], returnType := none }, accessFlags := 0, code := none }
def k14c1 : Code := { maxStack := 2, maxLocals := 2, code := jdk_52_method_15_code, exceptionTable := #[], attributes := #[] }
def k14m1 : Method := { name := "coderFromArrayLen", desc := "([BI)B", sig := { parameters := [(.array .byte), .int], returnType := some .byte }, accessFlags := 8, code := some k14c1 }
def k14c2 : Code := { maxStack := 5, maxLocals := 6, code := jdk_52_method_16_code, exceptionTable := #[], attributes := #[] }
def k14m2 : Method := { name := "compress", desc := "([CII)[B", sig := { parameters := [(.array .char), .int, .int], returnType := some (.array .byte) }, accessFlags := 9, code := some k14c2 }
def k14c3 : Code := { maxStack := 3, maxLocals := 7, code := jdk_52_method_21_code, exceptionTable := #[], attributes := #[] }
def k14m3 : Method := { name := "compress", desc := "([CI[BII)I", sig := { parameters := [(.array .char), .int, (.array .byte), .int, .int], returnType := some .int }, accessFlags := 9, code := some k14c3 }
/-- java/lang/StringUTF16 -/
def k14 : Class := { plain "java/lang/StringUTF16" (some 0) with
  accessFlags := 48
  interfaces := #[]
  cf := some (fileOf pool14 12 #[.nestMembers #[627, 629, 369]] #[{ accessFlags := 0, nameIndex := 9, descriptorIndex := 10, attributes := #[] }, { accessFlags := 8, nameIndex := 261, descriptorIndex := 262, attributes := #[] }, { accessFlags := 9, nameIndex := 117, descriptorIndex := 122, attributes := #[] }, { accessFlags := 9, nameIndex := 117, descriptorIndex := 118, attributes := #[] }] 48 6 #[] #[{ accessFlags := 26, nameIndex := 61, descriptorIndex := 62, attributes := #[] }, { accessFlags := 26, nameIndex := 65, descriptorIndex := 62, attributes := #[] }, { accessFlags := 24, nameIndex := 430, descriptorIndex := 62, attributes := #[] }, { accessFlags := 4120, nameIndex := 46, descriptorIndex := 47, attributes := #[] }])
  fields := #[{ name := "HI_BYTE_SHIFT", type := .int, accessFlags := 26, slot := 0, constantValue := 0 }, { name := "LO_BYTE_SHIFT", type := .int, accessFlags := 26, slot := 1, constantValue := 0 }, { name := "MAX_LENGTH", type := .int, accessFlags := 24, slot := 2, constantValue := 0 }, { name := "$assertionsDisabled", type := .boolean, accessFlags := 4120, slot := 3, constantValue := 0 }]
  methods := #[k14m0, k14m1, k14m2, k14m3]
  instanceTypes := #[]
  staticTypes := #[.int, .int, .int, .boolean]
  resolved := Array.replicate 635 none
  statics := none }

def pool15 : Array CpInfo := pool [(2, .class_ 4), (1, u "java/lang/Object"), (0, u "<init>"), (0, u "()V"), (35, .class_ 44), (1, u "java/util/Objects"), (0, u "requireNonNull"), (0, u "(Ljava/lang/Object;)Ljava/lang/Object;")] 137

def k15m0 : Method := { name := "<init>", desc := "()V", sig := { parameters := [], returnType := none }, accessFlags := 2, code := none }
def k15c1 : Code := { maxStack := 2, maxLocals := 1, code := jdk_31_method_10_code, exceptionTable := #[], attributes := #[] }
def k15m1 : Method := { name := "requireNonNull", desc := "(Ljava/lang/Object;)Ljava/lang/Object;", sig := { parameters := [(.object "java/lang/Object")], returnType := some (.object "java/lang/Object") }, accessFlags := 9, code := some k15c1 }
/-- java/util/Objects -/
def k15 : Class := { plain "java/util/Objects" (some 0) with
  accessFlags := 49
  interfaces := #[]
  cf := some (fileOf pool15 42 #[] #[{ accessFlags := 2, nameIndex := 5, descriptorIndex := 6, attributes := #[] }, { accessFlags := 9, nameIndex := 45, descriptorIndex := 46, attributes := #[] }] 49 2 #[] #[])
  fields := #[]
  methods := #[k15m0, k15m1]
  instanceTypes := #[]
  staticTypes := #[]
  resolved := Array.replicate 184 none
  statics := none }

def pool16 : Array CpInfo := pool [(9, u "<init>"), (6, .class_ 18), (1, u "java/lang/Object"), (0, u "()V"), (1, .class_ 23), (1, u "jdk/internal/util/ArraysSupport"), (0, u "LOG2_ARRAY_LONG_INDEX_SCALE"), (0, u "I"), (2, u "U"), (0, u "Ljdk/internal/misc/Unsafe;"), (8, u "BIG_ENDIAN"), (0, u "Z"), (8, u "LOG2_BYTE_BIT_SIZE"), (4, u "LOG2_ARRAY_INT_INDEX_SCALE"), (54, u "JLA"), (0, u "Ljdk/internal/access/JavaLangAccess;"), (11, u "LOG2_ARRAY_BOOLEAN_INDEX_SCALE"), (9, u "LOG2_ARRAY_BYTE_INDEX_SCALE"), (5, u "LOG2_ARRAY_CHAR_INDEX_SCALE"), (5, u "LOG2_ARRAY_SHORT_INDEX_SCALE"), (18, u "LOG2_ARRAY_FLOAT_INDEX_SCALE"), (24, u "LOG2_ARRAY_DOUBLE_INDEX_SCALE"), (89, u "T_BOOLEAN"), (2, u "T_CHAR"), (1, u "T_FLOAT"), (1, u "T_DOUBLE"), (1, u "T_BYTE"), (1, u "T_SHORT"), (1, u "T_INT"), (1, u "T_LONG"), (1, u "SOFT_MAX_ARRAY_LENGTH")] 83

def k16m0 : Method := { name := "<init>", desc := "()V", sig := { parameters := [], returnType := none }, accessFlags := 2, code := none }
/-- jdk/internal/util/ArraysSupport -/
def k16 : Class := { plain "jdk/internal/util/ArraysSupport" (some 0) with
  accessFlags := 33
  interfaces := #[]
  cf := some (fileOf pool16 21 #[] #[{ accessFlags := 2, nameIndex := 9, descriptorIndex := 19, attributes := #[] }] 33 16 #[] #[{ accessFlags := 24, nameIndex := 28, descriptorIndex := 29, attributes := #[] }, { accessFlags := 26, nameIndex := 38, descriptorIndex := 39, attributes := #[] }, { accessFlags := 25, nameIndex := 121, descriptorIndex := 25, attributes := #[] }, { accessFlags := 25, nameIndex := 131, descriptorIndex := 25, attributes := #[] }, { accessFlags := 25, nameIndex := 137, descriptorIndex := 25, attributes := #[] }, { accessFlags := 25, nameIndex := 143, descriptorIndex := 25, attributes := #[] }, { accessFlags := 25, nameIndex := 53, descriptorIndex := 25, attributes := #[] }, { accessFlags := 25, nameIndex := 24, descriptorIndex := 25, attributes := #[] }, { accessFlags := 25, nameIndex := 162, descriptorIndex := 25, attributes := #[] }, { accessFlags := 25, nameIndex := 187, descriptorIndex := 25, attributes := #[] }, { accessFlags := 26, nameIndex := 48, descriptorIndex := 25, attributes := #[] }, { accessFlags := 25, nameIndex := 277, descriptorIndex := 25, attributes := #[] }, { accessFlags := 25, nameIndex := 280, descriptorIndex := 25, attributes := #[] }, { accessFlags := 25, nameIndex := 282, descriptorIndex := 25, attributes := #[] }, { accessFlags := 25, nameIndex := 284, descriptorIndex := 25, attributes := #[] }, { accessFlags := 25, nameIndex := 286, descriptorIndex := 25, attributes := #[] }, { accessFlags := 25, nameIndex := 288, descriptorIndex := 25, attributes := #[] }, { accessFlags := 25, nameIndex := 290, descriptorIndex := 25, attributes := #[] }, { accessFlags := 25, nameIndex := 292, descriptorIndex := 25, attributes := #[] }, { accessFlags := 26, nameIndex := 108, descriptorIndex := 109, attributes := #[] }, { accessFlags := 25, nameIndex := 294, descriptorIndex := 25, attributes := #[] }])
  fields := #[{ name := "U", type := (.object "jdk/internal/misc/Unsafe"), accessFlags := 24, slot := 0, constantValue := 0 }, { name := "BIG_ENDIAN", type := .boolean, accessFlags := 26, slot := 1, constantValue := 0 }, { name := "LOG2_ARRAY_BOOLEAN_INDEX_SCALE", type := .int, accessFlags := 25, slot := 2, constantValue := 0 }, { name := "LOG2_ARRAY_BYTE_INDEX_SCALE", type := .int, accessFlags := 25, slot := 3, constantValue := 0 }, { name := "LOG2_ARRAY_CHAR_INDEX_SCALE", type := .int, accessFlags := 25, slot := 4, constantValue := 0 }, { name := "LOG2_ARRAY_SHORT_INDEX_SCALE", type := .int, accessFlags := 25, slot := 5, constantValue := 0 }, { name := "LOG2_ARRAY_INT_INDEX_SCALE", type := .int, accessFlags := 25, slot := 6, constantValue := 0 }, { name := "LOG2_ARRAY_LONG_INDEX_SCALE", type := .int, accessFlags := 25, slot := 7, constantValue := 0 }, { name := "LOG2_ARRAY_FLOAT_INDEX_SCALE", type := .int, accessFlags := 25, slot := 8, constantValue := 0 }, { name := "LOG2_ARRAY_DOUBLE_INDEX_SCALE", type := .int, accessFlags := 25, slot := 9, constantValue := 0 }, { name := "LOG2_BYTE_BIT_SIZE", type := .int, accessFlags := 26, slot := 10, constantValue := 0 }, { name := "T_BOOLEAN", type := .int, accessFlags := 25, slot := 11, constantValue := 0 }, { name := "T_CHAR", type := .int, accessFlags := 25, slot := 12, constantValue := 0 }, { name := "T_FLOAT", type := .int, accessFlags := 25, slot := 13, constantValue := 0 }, { name := "T_DOUBLE", type := .int, accessFlags := 25, slot := 14, constantValue := 0 }, { name := "T_BYTE", type := .int, accessFlags := 25, slot := 15, constantValue := 0 }, { name := "T_SHORT", type := .int, accessFlags := 25, slot := 16, constantValue := 0 }, { name := "T_INT", type := .int, accessFlags := 25, slot := 17, constantValue := 0 }, { name := "T_LONG", type := .int, accessFlags := 25, slot := 18, constantValue := 0 }, { name := "JLA", type := (.object "jdk/internal/access/JavaLangAccess"), accessFlags := 26, slot := 19, constantValue := 0 }, { name := "SOFT_MAX_ARRAY_LENGTH", type := .int, accessFlags := 25, slot := 20, constantValue := 0 }]
  methods := #[k16m0]
  instanceTypes := #[]
  staticTypes := #[(.object "jdk/internal/misc/Unsafe"), .boolean, .int, .int, .int, .int, .int, .int, .int, .int, .int, .int, .int, .int, .int, .int, .int, .int, .int, (.object "jdk/internal/access/JavaLangAccess"), .int]
  resolved := Array.replicate 378 none
  statics := none }

/-- the primitive byte -/
def k17 : Class := { plain "byte" none with kind := .primitive 'B', accessFlags := 0x411 }
/-- [B -/
def k18 : Class := { plain "[B" (some 0) with kind := .array 17 .byte, interfaces := #[11, 2], accessFlags := 1041 }

/-- the primitive char -/
def k19 : Class := { plain "char" none with kind := .primitive 'C', accessFlags := 0x411 }
/-- [C -/
def k20 : Class := { plain "[C" (some 0) with kind := .array 19 .char, interfaces := #[11, 2], accessFlags := 1041 }

/-- the primitive int -/
def k21 : Class := { plain "int" none with kind := .primitive 'I', accessFlags := 0x411 }
/-- [I -/
def k22 : Class := { plain "[I" (some 0) with kind := .array 21 .int, interfaces := #[11, 2], accessFlags := 1041 }

/-- [Lcom/example/inbound_throttle/inboundthrottle/rules/Algorithm; -/
def k23 : Class := { plain "[Lcom/example/inbound_throttle/inboundthrottle/rules/Algorithm;" (some 0) with kind := .array 10 (.object "com/example/inbound_throttle/inboundthrottle/rules/Algorithm"), interfaces := #[11, 2], accessFlags := 1041 }

def heap : Heap := #[{ cls := 7, slots := #[.long 0, .int 1, .null, .int 0, .null, .int 0, .int 0], vm := .statics 7 },
  { cls := 10, slots := #[.ref 5, .ref 6, .ref 4], vm := .statics 10 },
  { cls := 12, slots := #[.ref 11], vm := .statics 12 },
  { cls := 13, slots := #[.null, .null, .null], vm := .statics 13 },
  { cls := 23, slots := #[.ref 5, .ref 6], vm := .none },
  { cls := 10, slots := #[.null, .int 0, .int 0, .ref 7], vm := .none },
  { cls := 10, slots := #[.null, .int 1, .int 0, .ref 8], vm := .none },
  { cls := 7, slots := #[.ref 9, .int 0, .int 0, .int 0], vm := .none },
  { cls := 7, slots := #[.ref 10, .int 0, .int 0, .int 0], vm := .none },
  { cls := 18, slots := #[.int 102, .int 105, .int 120, .int 101, .int 100, .int 45, .int 119, .int 105, .int 110, .int 100, .int 111, .int 119], vm := .none },
  { cls := 18, slots := #[.int 115, .int 108, .int 105, .int 100, .int 105, .int 110, .int 103, .int 45, .int 108, .int 111, .int 103], vm := .none },
  { cls := 12, slots := #[.null], vm := .none }]
def classes : Array Class := #[k0, k1, k2, k3, k4, k5, k6, k7, k8, k9, k10, k11, k12, k13, k14, k15, k16, k17, k18, k19, k20, k21, k22, k23]
def interned : List (Array UInt16 × Addr) := []
def slotsUsed : Nat := 56
def theMethod : MethodId := ⟨1, 2⟩
def args0 : Array Value := #[.int 3, .int 1, .int 2, .int 0]
def aboutOver (below : List Frame) : State where
  vm := { classes := classes, interned := interned.toArray }
  heap := heap
  slotsUsed := slotsUsed
  threads := #[{ frames := .invoking theMethod args0 :: below }]
def below0 : List Frame := [.native { method := ⟨0, 0⟩, args := #[] }]
def about1 : State := aboutOver below0
def p0 : Program := .bare "" "" ""
def e0 : Env := launch0.env 0 0 0
theorem w_frames : about1.frames = Frame.invoking theMethod args0 :: below0 := rfl
set_option maxRecDepth 65536 in
theorem w_args : argsFit about1.vm theMethod args0 = true := by decide +kernel
set_option maxRecDepth 65536 in
theorem w_heap : heapFits about1 = true := by decide +kernel
set_option maxRecDepth 65536 in
theorem w_runnable : about1.curStatus? = some .runnable := by decide +kernel
set_option maxRecDepth 65536 in
theorem w_alone : about1.alone = true := by decide +kernel
set_option maxRecDepth 65536 in
theorem w_named : about1.methodNamed? x = some theMethod := by decide +kernel
set_option maxRecDepth 65536 in
theorem w_hears : about1.hears theMethod below0 = true := by decide +kernel
set_option maxRecDepth 65536 in
theorem w_ripe : about1.ripe theMethod args0 below0 = true := by decide +kernel
theorem w_running : about1.status = .running := rfl
set_option maxRecDepth 65536 in
theorem w_room : about1.hasRoom e0.platform room_1 = true :=
  launch0.hasRoom_least _ room_1 (by decide +kernel) (by decide +kernel) (by decide +kernel) (by decide +kernel) (by decide +kernel) (by decide +kernel)
theorem allAtoms_all (ts : List Jvm.Cond) (a : Array Jvm.Value) (st : Jvm.State) : (allAtoms ts).before a st = ts.all (fun c => c.before a st) := by
  induction ts with
  | nil => rfl
  | cons c t ih =>
    show (Jvm.Cond.and c (allAtoms t)).before a st = _
    rw [Jvm.Cond.before_and, ih, List.all_cons]
def words1 : List Jvm.Cond := Jvm.Cond.code x code maxLocals ret :: tables_1
/-- a 'code' word, met by the world's own term for the bytes: nothing is compared byte by byte -/
theorem code_word {y : MethodName} {bytes : ByteArray} {mx : Nat} {rt : Option FieldType} {a : Array Value} {s : State} {m : MethodId} {meth : Method} {c : Code} (h1 : s.methodNamed? y = some m) (h2 : s.vm.method? m = some meth) (h3 : meth.code = some c) (h4 : c.code = bytes)
    (h5 : (c.maxLocals == mx && c.exceptionTable.isEmpty && decide (c.maxStack ≤ mostOperands) && decide (meth.sig.returnType = rt) && !meth.locks && decide (parseMethodDescriptor y.desc = some meth.sig)) = true) : (Jvm.Cond.code y bytes mx rt).before a s = true := by
  simp only [Bool.and_eq_true, beq_iff_eq, Bool.not_eq_true', decide_eq_true_eq] at h5
  obtain ⟨⟨⟨⟨⟨g1, g2⟩, g3⟩, g4⟩, g5⟩, g6⟩ := h5
  simp [Cond.before, Cond.holds, Cond.value, h1, h2, h3, h4, g1, g2, g3, g4, g5, g6]
def isCode : Jvm.Cond → Bool
  | .code _ _ _ _ => true
  | _ => false
theorem all_split {L : List Jvm.Cond} {P : Jvm.Cond → Bool} (h1 : L.all (fun c => isCode c || P c) = true) (h2 : ∀ c ∈ L.filter isCode, P c = true) : L.all P = true := by
  refine List.all_eq_true.mpr fun c hc => ?_
  have h := List.all_eq_true.mp h1 c hc
  rcases Bool.eq_false_or_eq_true (isCode c) with hi | hi
  · exact h2 c (List.mem_filter.mpr ⟨hc, hi⟩)
  · simpa [hi] using h
set_option maxRecDepth 65536 in
theorem w_c0 : (Jvm.Cond.code x code maxLocals ret).before args0 about1 = true := code_word (m := ⟨1, 2⟩) (meth := k1m2) (c := k1c2) (by decide +kernel) rfl rfl rfl (by decide +kernel)
set_option maxRecDepth 65536 in
theorem w_c1 : (Jvm.Cond.code ({ cls := "java/lang/String", name := "length", desc := "()I" } : Jvm.MethodName) jdk_42_method_54_code (1 : Nat) (Option.some Jvm.ClassFile.FieldType.int)).before args0 about1 = true := code_word (m := ⟨7, 2⟩) (meth := k7m2) (c := k7c2) (by decide +kernel) rfl rfl rfl (by decide +kernel)
set_option maxRecDepth 65536 in
theorem w_c2 : (Jvm.Cond.code ({ cls := "java/lang/String", name := "coder", desc := "()B" } : Jvm.MethodName) jdk_42_method_152_code (1 : Nat) (Option.some Jvm.ClassFile.FieldType.byte)).before args0 about1 = true := code_word (m := ⟨7, 6⟩) (meth := k7m6) (c := k7c6) (by decide +kernel) rfl rfl rfl (by decide +kernel)
set_option maxRecDepth 65536 in
theorem w_c3 : (Jvm.Cond.code ({ cls := "com/example/inbound_throttle/inboundthrottle/rules/AlgorithmNamedPinLaw", name := "put", desc := "([CLjava/lang/String;IC)V" } : Jvm.MethodName) method_2_code (4 : Nat) (Option.none : Option Jvm.ClassFile.FieldType)).before args0 about1 = true := code_word (m := ⟨1, 1⟩) (meth := k1m1) (c := k1c1) (by decide +kernel) rfl rfl rfl (by decide +kernel)
set_option maxRecDepth 65536 in
theorem w_c4 : (Jvm.Cond.code ({ cls := "java/lang/String", name := "<init>", desc := "([C)V" } : Jvm.MethodName) jdk_42_method_3_code (2 : Nat) (Option.none : Option Jvm.ClassFile.FieldType)).before args0 about1 = true := code_word (m := ⟨7, 1⟩) (meth := k7m1) (c := k7c1) (by decide +kernel) rfl rfl rfl (by decide +kernel)
set_option maxRecDepth 65536 in
theorem w_c5 : (Jvm.Cond.code ({ cls := "java/lang/String", name := "<init>", desc := "([CIILjava/lang/Void;)V" } : Jvm.MethodName) jdk_42_method_149_code (6 : Nat) (Option.none : Option Jvm.ClassFile.FieldType)).before args0 about1 = true := code_word (m := ⟨7, 5⟩) (meth := k7m5) (c := k7c5) (by decide +kernel) rfl rfl rfl (by decide +kernel)
set_option maxRecDepth 65536 in
theorem w_c6 : (Jvm.Cond.code ({ cls := "java/lang/Object", name := "<init>", desc := "()V" } : Jvm.MethodName) object_method_1_code (1 : Nat) (Option.none : Option Jvm.ClassFile.FieldType)).before args0 about1 = true := code_word (m := ⟨0, 0⟩) (meth := k0m0) (c := k0c0) (by decide +kernel) rfl rfl rfl (by decide +kernel)
set_option maxRecDepth 65536 in
theorem w_c7 : (Jvm.Cond.code ({ cls := "java/lang/String", name := "equals", desc := "(Ljava/lang/Object;)Z" } : Jvm.MethodName) jdk_42_method_66_code (3 : Nat) (Option.some Jvm.ClassFile.FieldType.boolean)).before args0 about1 = true := code_word (m := ⟨7, 4⟩) (meth := k7m4) (c := k7c4) (by decide +kernel) rfl rfl rfl (by decide +kernel)
set_option maxRecDepth 65536 in
theorem w_c8 : (Jvm.Cond.code ({ cls := "java/lang/StringLatin1", name := "equals", desc := "([B[B)Z" } : Jvm.MethodName) jdk_43_method_13_code (3 : Nat) (Option.some Jvm.ClassFile.FieldType.boolean)).before args0 about1 = true := code_word (m := ⟨8, 2⟩) (meth := k8m2) (c := k8c2) (by decide +kernel) rfl rfl rfl (by decide +kernel)
set_option maxRecDepth 65536 in
theorem w_c9 : (Jvm.Cond.code ({ cls := "com/example/inbound_throttle/inboundthrottle/rules/Algorithm", name := "named", desc := "(Ljava/lang/String;)Ljava/util/Optional;" } : Jvm.MethodName) prog_4_method_5_code (5 : Nat) (Option.some (Jvm.ClassFile.FieldType.object "java/util/Optional"))).before args0 about1 = true := code_word (m := ⟨10, 1⟩) (meth := k10m1) (c := k10c1) (by decide +kernel) rfl rfl rfl (by decide +kernel)
set_option maxRecDepth 65536 in
theorem w_c10 : (Jvm.Cond.code ({ cls := "com/example/inbound_throttle/inboundthrottle/rules/Algorithm", name := "values", desc := "()[Lcom/example/inbound_throttle/inboundthrottle/rules/Algorithm;" } : Jvm.MethodName) prog_4_method_1_code (0 : Nat) (Option.some (Jvm.ClassFile.FieldType.array (Jvm.ClassFile.FieldType.object "com/example/inbound_throttle/inboundthrottle/rules/Algorithm")))).before args0 about1 = true := code_word (m := ⟨10, 0⟩) (meth := k10m0) (c := k10c0) (by decide +kernel) rfl rfl rfl (by decide +kernel)
set_option maxRecDepth 65536 in
theorem w_c11 : (Jvm.Cond.code ({ cls := "java/util/Optional", name := "empty", desc := "()Ljava/util/Optional;" } : Jvm.MethodName) jdk_32_method_1_code (1 : Nat) (Option.some (Jvm.ClassFile.FieldType.object "java/util/Optional"))).before args0 about1 = true := code_word (m := ⟨12, 0⟩) (meth := k12m0) (c := k12c0) (by decide +kernel) rfl rfl rfl (by decide +kernel)
set_option maxRecDepth 65536 in
theorem w_c12 : (Jvm.Cond.code ({ cls := "java/util/Optional", name := "isPresent", desc := "()Z" } : Jvm.MethodName) jdk_32_method_6_code (1 : Nat) (Option.some Jvm.ClassFile.FieldType.boolean)).before args0 about1 = true := code_word (m := ⟨12, 4⟩) (meth := k12m4) (c := k12c4) (by decide +kernel) rfl rfl rfl (by decide +kernel)
set_option maxRecDepth 65536 in
theorem w_c13 : (Jvm.Cond.code ({ cls := "java/lang/String", name := "charAt", desc := "(I)C" } : Jvm.MethodName) jdk_42_method_56_code (2 : Nat) (Option.some Jvm.ClassFile.FieldType.char)).before args0 about1 = true := code_word (m := ⟨7, 3⟩) (meth := k7m3) (c := k7c3) (by decide +kernel) rfl rfl rfl (by decide +kernel)
set_option maxRecDepth 65536 in
theorem w_c14 : (Jvm.Cond.code ({ cls := "java/lang/String", name := "isLatin1", desc := "()Z" } : Jvm.MethodName) jdk_42_method_154_code (1 : Nat) (Option.some Jvm.ClassFile.FieldType.boolean)).before args0 about1 = true := code_word (m := ⟨7, 7⟩) (meth := k7m7) (c := k7c7) (by decide +kernel) rfl rfl rfl (by decide +kernel)
set_option maxRecDepth 65536 in
theorem w_c15 : (Jvm.Cond.code ({ cls := "java/lang/StringLatin1", name := "charAt", desc := "([BI)C" } : Jvm.MethodName) jdk_43_method_2_code (2 : Nat) (Option.some Jvm.ClassFile.FieldType.char)).before args0 about1 = true := code_word (m := ⟨8, 1⟩) (meth := k8m1) (c := k8c1) (by decide +kernel) rfl rfl rfl (by decide +kernel)
set_option maxRecDepth 65536 in
theorem w_c16 : (Jvm.Cond.code ({ cls := "java/lang/String", name := "checkIndex", desc := "(II)V" } : Jvm.MethodName) jdk_42_method_155_code (2 : Nat) (Option.none : Option Jvm.ClassFile.FieldType)).before args0 about1 = true := code_word (m := ⟨7, 8⟩) (meth := k7m8) (c := k7c8) (by decide +kernel) rfl rfl rfl (by decide +kernel)
set_option maxRecDepth 65536 in
theorem w_c17 : (Jvm.Cond.code ({ cls := "jdk/internal/util/Preconditions", name := "checkIndex", desc := "(IILjava/util/function/BiFunction;)I" } : Jvm.MethodName) jdk_41_method_11_code (3 : Nat) (Option.some Jvm.ClassFile.FieldType.int)).before args0 about1 = true := code_word (m := ⟨13, 1⟩) (meth := k13m1) (c := k13c1) (by decide +kernel) rfl rfl rfl (by decide +kernel)
set_option maxRecDepth 65536 in
theorem w_c18 : (Jvm.Cond.code ({ cls := "java/lang/StringUTF16", name := "compress", desc := "([CII)[B" } : Jvm.MethodName) jdk_52_method_16_code (6 : Nat) (Option.some (Jvm.ClassFile.FieldType.array Jvm.ClassFile.FieldType.byte))).before args0 about1 = true := code_word (m := ⟨14, 2⟩) (meth := k14m2) (c := k14c2) (by decide +kernel) rfl rfl rfl (by decide +kernel)
set_option maxRecDepth 65536 in
theorem w_c19 : (Jvm.Cond.code ({ cls := "java/lang/StringUTF16", name := "compress", desc := "([CI[BII)I" } : Jvm.MethodName) jdk_52_method_21_code (7 : Nat) (Option.some Jvm.ClassFile.FieldType.int)).before args0 about1 = true := code_word (m := ⟨14, 3⟩) (meth := k14m3) (c := k14c3) (by decide +kernel) rfl rfl rfl (by decide +kernel)
set_option maxRecDepth 65536 in
theorem w_c20 : (Jvm.Cond.code ({ cls := "java/lang/StringUTF16", name := "coderFromArrayLen", desc := "([BI)B" } : Jvm.MethodName) jdk_52_method_15_code (2 : Nat) (Option.some Jvm.ClassFile.FieldType.byte)).before args0 about1 = true := code_word (m := ⟨14, 1⟩) (meth := k14m1) (c := k14c1) (by decide +kernel) rfl rfl rfl (by decide +kernel)
set_option maxRecDepth 65536 in
theorem w_c21 : (Jvm.Cond.code ({ cls := "java/util/Optional", name := "of", desc := "(Ljava/lang/Object;)Ljava/util/Optional;" } : Jvm.MethodName) jdk_32_method_3_code (1 : Nat) (Option.some (Jvm.ClassFile.FieldType.object "java/util/Optional"))).before args0 about1 = true := code_word (m := ⟨12, 2⟩) (meth := k12m2) (c := k12c2) (by decide +kernel) rfl rfl rfl (by decide +kernel)
set_option maxRecDepth 65536 in
theorem w_c22 : (Jvm.Cond.code ({ cls := "java/util/Objects", name := "requireNonNull", desc := "(Ljava/lang/Object;)Ljava/lang/Object;" } : Jvm.MethodName) jdk_31_method_10_code (1 : Nat) (Option.some (Jvm.ClassFile.FieldType.object "java/lang/Object"))).before args0 about1 = true := code_word (m := ⟨15, 1⟩) (meth := k15m1) (c := k15c1) (by decide +kernel) rfl rfl rfl (by decide +kernel)
set_option maxRecDepth 65536 in
theorem w_c23 : (Jvm.Cond.code ({ cls := "java/util/Optional", name := "<init>", desc := "(Ljava/lang/Object;)V" } : Jvm.MethodName) jdk_32_method_2_code (2 : Nat) (Option.none : Option Jvm.ClassFile.FieldType)).before args0 about1 = true := code_word (m := ⟨12, 1⟩) (meth := k12m1) (c := k12c1) (by decide +kernel) rfl rfl rfl (by decide +kernel)
set_option maxRecDepth 65536 in
theorem w_c24 : (Jvm.Cond.code ({ cls := "java/util/Optional", name := "get", desc := "()Ljava/lang/Object;" } : Jvm.MethodName) jdk_32_method_5_code (1 : Nat) (Option.some (Jvm.ClassFile.FieldType.object "java/lang/Object"))).before args0 about1 = true := code_word (m := ⟨12, 3⟩) (meth := k12m3) (c := k12c3) (by decide +kernel) rfl rfl rfl (by decide +kernel)
def codes1 : List Jvm.Cond := [Jvm.Cond.code x code maxLocals ret, Jvm.Cond.code ({ cls := "java/lang/String", name := "length", desc := "()I" } : Jvm.MethodName) jdk_42_method_54_code (1 : Nat) (Option.some Jvm.ClassFile.FieldType.int), Jvm.Cond.code ({ cls := "java/lang/String", name := "coder", desc := "()B" } : Jvm.MethodName) jdk_42_method_152_code (1 : Nat) (Option.some Jvm.ClassFile.FieldType.byte), Jvm.Cond.code ({ cls := "com/example/inbound_throttle/inboundthrottle/rules/AlgorithmNamedPinLaw", name := "put", desc := "([CLjava/lang/String;IC)V" } : Jvm.MethodName) method_2_code (4 : Nat) (Option.none : Option Jvm.ClassFile.FieldType), Jvm.Cond.code ({ cls := "java/lang/String", name := "<init>", desc := "([C)V" } : Jvm.MethodName) jdk_42_method_3_code (2 : Nat) (Option.none : Option Jvm.ClassFile.FieldType), Jvm.Cond.code ({ cls := "java/lang/String", name := "<init>", desc := "([CIILjava/lang/Void;)V" } : Jvm.MethodName) jdk_42_method_149_code (6 : Nat) (Option.none : Option Jvm.ClassFile.FieldType), Jvm.Cond.code ({ cls := "java/lang/Object", name := "<init>", desc := "()V" } : Jvm.MethodName) object_method_1_code (1 : Nat) (Option.none : Option Jvm.ClassFile.FieldType), Jvm.Cond.code ({ cls := "java/lang/String", name := "equals", desc := "(Ljava/lang/Object;)Z" } : Jvm.MethodName) jdk_42_method_66_code (3 : Nat) (Option.some Jvm.ClassFile.FieldType.boolean), Jvm.Cond.code ({ cls := "java/lang/StringLatin1", name := "equals", desc := "([B[B)Z" } : Jvm.MethodName) jdk_43_method_13_code (3 : Nat) (Option.some Jvm.ClassFile.FieldType.boolean), Jvm.Cond.code ({ cls := "com/example/inbound_throttle/inboundthrottle/rules/Algorithm", name := "named", desc := "(Ljava/lang/String;)Ljava/util/Optional;" } : Jvm.MethodName) prog_4_method_5_code (5 : Nat) (Option.some (Jvm.ClassFile.FieldType.object "java/util/Optional")), Jvm.Cond.code ({ cls := "com/example/inbound_throttle/inboundthrottle/rules/Algorithm", name := "values", desc := "()[Lcom/example/inbound_throttle/inboundthrottle/rules/Algorithm;" } : Jvm.MethodName) prog_4_method_1_code (0 : Nat) (Option.some (Jvm.ClassFile.FieldType.array (Jvm.ClassFile.FieldType.object "com/example/inbound_throttle/inboundthrottle/rules/Algorithm"))), Jvm.Cond.code ({ cls := "java/util/Optional", name := "empty", desc := "()Ljava/util/Optional;" } : Jvm.MethodName) jdk_32_method_1_code (1 : Nat) (Option.some (Jvm.ClassFile.FieldType.object "java/util/Optional")), Jvm.Cond.code ({ cls := "java/util/Optional", name := "isPresent", desc := "()Z" } : Jvm.MethodName) jdk_32_method_6_code (1 : Nat) (Option.some Jvm.ClassFile.FieldType.boolean), Jvm.Cond.code ({ cls := "java/lang/String", name := "charAt", desc := "(I)C" } : Jvm.MethodName) jdk_42_method_56_code (2 : Nat) (Option.some Jvm.ClassFile.FieldType.char), Jvm.Cond.code ({ cls := "java/lang/String", name := "isLatin1", desc := "()Z" } : Jvm.MethodName) jdk_42_method_154_code (1 : Nat) (Option.some Jvm.ClassFile.FieldType.boolean), Jvm.Cond.code ({ cls := "java/lang/StringLatin1", name := "charAt", desc := "([BI)C" } : Jvm.MethodName) jdk_43_method_2_code (2 : Nat) (Option.some Jvm.ClassFile.FieldType.char), Jvm.Cond.code ({ cls := "java/lang/String", name := "checkIndex", desc := "(II)V" } : Jvm.MethodName) jdk_42_method_155_code (2 : Nat) (Option.none : Option Jvm.ClassFile.FieldType), Jvm.Cond.code ({ cls := "jdk/internal/util/Preconditions", name := "checkIndex", desc := "(IILjava/util/function/BiFunction;)I" } : Jvm.MethodName) jdk_41_method_11_code (3 : Nat) (Option.some Jvm.ClassFile.FieldType.int), Jvm.Cond.code ({ cls := "java/lang/StringUTF16", name := "compress", desc := "([CII)[B" } : Jvm.MethodName) jdk_52_method_16_code (6 : Nat) (Option.some (Jvm.ClassFile.FieldType.array Jvm.ClassFile.FieldType.byte)), Jvm.Cond.code ({ cls := "java/lang/StringUTF16", name := "compress", desc := "([CI[BII)I" } : Jvm.MethodName) jdk_52_method_21_code (7 : Nat) (Option.some Jvm.ClassFile.FieldType.int), Jvm.Cond.code ({ cls := "java/lang/StringUTF16", name := "coderFromArrayLen", desc := "([BI)B" } : Jvm.MethodName) jdk_52_method_15_code (2 : Nat) (Option.some Jvm.ClassFile.FieldType.byte), Jvm.Cond.code ({ cls := "java/util/Optional", name := "of", desc := "(Ljava/lang/Object;)Ljava/util/Optional;" } : Jvm.MethodName) jdk_32_method_3_code (1 : Nat) (Option.some (Jvm.ClassFile.FieldType.object "java/util/Optional")), Jvm.Cond.code ({ cls := "java/util/Objects", name := "requireNonNull", desc := "(Ljava/lang/Object;)Ljava/lang/Object;" } : Jvm.MethodName) jdk_31_method_10_code (1 : Nat) (Option.some (Jvm.ClassFile.FieldType.object "java/lang/Object")), Jvm.Cond.code ({ cls := "java/util/Optional", name := "<init>", desc := "(Ljava/lang/Object;)V" } : Jvm.MethodName) jdk_32_method_2_code (2 : Nat) (Option.none : Option Jvm.ClassFile.FieldType), Jvm.Cond.code ({ cls := "java/util/Optional", name := "get", desc := "()Ljava/lang/Object;" } : Jvm.MethodName) jdk_32_method_5_code (1 : Nat) (Option.some (Jvm.ClassFile.FieldType.object "java/lang/Object"))]
set_option maxRecDepth 65536 in
theorem codes_eq : words1.filter isCode = codes1 := rfl
theorem w_codes : ∀ c ∈ words1.filter isCode, c.before args0 about1 = true := by
  rw [codes_eq]
  intro c hc
  simp only [codes1, List.mem_cons, List.not_mem_nil, or_false] at hc
  rcases hc with rfl | rfl | rfl | rfl | rfl | rfl | rfl | rfl | rfl | rfl | rfl | rfl | rfl | rfl | rfl | rfl | rfl | rfl | rfl | rfl | rfl | rfl | rfl | rfl | rfl
  · exact w_c0
  · exact w_c1
  · exact w_c2
  · exact w_c3
  · exact w_c4
  · exact w_c5
  · exact w_c6
  · exact w_c7
  · exact w_c8
  · exact w_c9
  · exact w_c10
  · exact w_c11
  · exact w_c12
  · exact w_c13
  · exact w_c14
  · exact w_c15
  · exact w_c16
  · exact w_c17
  · exact w_c18
  · exact w_c19
  · exact w_c20
  · exact w_c21
  · exact w_c22
  · exact w_c23
  · exact w_c24
set_option maxRecDepth 65536 in
theorem w_t1 : (words1.take 24).all (fun c => isCode c || c.before args0 about1) = true := by decide +kernel
set_option maxRecDepth 65536 in
theorem w_t2 : ((words1.drop 24).take 24).all (fun c => isCode c || c.before args0 about1) = true := by decide +kernel
set_option maxRecDepth 65536 in
theorem w_t3 : (((words1.drop 24).drop 24).take 24).all (fun c => isCode c || c.before args0 about1) = true := by decide +kernel
set_option maxRecDepth 65536 in
theorem w_t4 : ((((words1.drop 24).drop 24).drop 24).take 24).all (fun c => isCode c || c.before args0 about1) = true := by decide +kernel
set_option maxRecDepth 65536 in
theorem w_t5 : (((((words1.drop 24).drop 24).drop 24).drop 24).take 24).all (fun c => isCode c || c.before args0 about1) = true := by decide +kernel
set_option maxRecDepth 65536 in
theorem w_t6 : (((((words1.drop 24).drop 24).drop 24).drop 24).drop 24).all (fun c => isCode c || c.before args0 about1) = true := by decide +kernel
theorem w_tables : (allAtoms (Jvm.Cond.code x code maxLocals ret :: tables_1)).before args0 about1 = true := by
  rw [allAtoms_all]
  show words1.all (fun c => c.before args0 about1) = true
  refine all_split ?_ w_codes
  rw [← List.take_append_drop 24 words1, List.all_append, w_t1, ← List.take_append_drop 24 (words1.drop 24), List.all_append, w_t2, ← List.take_append_drop 24 ((words1.drop 24).drop 24), List.all_append, w_t3, ← List.take_append_drop 24 (((words1.drop 24).drop 24).drop 24), List.all_append, w_t4, ← List.take_append_drop 24 ((((words1.drop 24).drop 24).drop 24).drop 24), List.all_append, w_t5, w_t6]
  rfl
set_option maxRecDepth 65536 in
theorem w_rest : rest_1_c.before args0 about1 = true := by decide +kernel
set_option maxRecDepth 65536 in
theorem w_case : (Jvm.Cond.and given_1 narrow_1).before args0 about1 = true := by decide +kernel
set_option maxRecDepth 65536 in
theorem w_consts : constsHeld consts_1 about1 := Jvm.Lit.constsHeldB_iff.mp (by decide +kernel)
theorem w_applies : (headSpec (Jvm.Cond.code x code maxLocals ret :: tables_1) room_1).applies x e0.platform about1 = true :=
  (Spec.applies_iff w_frames).mpr ⟨w_running, w_runnable, w_alone, w_named, w_hears, w_ripe, w_room, w_tables⟩
theorem atStart : AtStart classFile x code maxLocals ret World_1 tables_1 room_1 Calls_1 rest_1 Pre_1 launch0 p0 e0 about1 theMethod args0 below0 :=
  ⟨lists_1, trivial, launch0.admits_env _ _ _, launch0.least_env, fairChoices_fair.cas, fairChoices_fair.clock, w_frames, w_args, w_heap, w_applies, ⟨w_consts, trivial⟩, w_rest, w_case⟩
end start1
theorem witness_1 : WitnessClaimed_1 := ⟨start1.p0, start1.e0, start1.about1, start1.theMethod, start1.args0, start1.below0, start1.atStart⟩
end Jvm.Pilot.@@N@@
