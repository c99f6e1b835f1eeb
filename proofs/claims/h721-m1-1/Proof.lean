import JvmDerived
import JvmDerived.Pilot.@@N@@Statement
import JvmDerived.Pilot.@@N@@Code
set_option linter.unusedVariables false
set_option linter.unusedSimpArgs false
/- laws to paste: Road.backV, eqW (cut by pick.py; bodies as the Statement names them) -/
namespace Jvm.Pilot.@@N@@
namespace StrChars
open Jvm Sem ClassFile Op Lib Jvm.Stand Jvm.Free.XT Jvm.Free.ALB Jvm.Free.JM Jvm.Free
open Jvm.Lib.Cold (StaticIs)
/-- a char array whose places are chars -/
def Ch (a : Addr) (A : Cell) (U : State) : Prop := Arr .char a A U ∧ Typed .char A
theorem Ch.mv {a : Addr} {A : Cell} {U U' : State} (h : Ch a A U) (hal : U.vm.Alike U'.vm) (hh : U'.heap = U.heap) : Ch a A U' := ⟨h.1.mv hal hh, h.2⟩
theorem Ch.keep {a : Addr} {A : Cell} {U U' : State} (h : Ch a A U) (hal : U.vm.Alike U'.vm) (hk : U'.heap[a]? = some A) : Ch a A U' := ⟨h.1.keep hal hk, h.2⟩
/-- what place i of a char[]'s cell holds -/
def cv (A : Cell) (i : Nat) : Int32 := match A.slots[i]? with | some (.int x) => x | _ => 0
theorem Ch.get {a : Addr} {A : Cell} {U : State} (h : Ch a A U) {i : Nat} (hi : i < A.slots.size) : A.slots[i]? = some (.int (cv A i)) := by
  have e := Array.getElem?_eq_getElem hi
  have f := h.2 i _ e
  unfold cv; rw [e]
  generalize A.slots[i] = v at f
  cases v <;> simp [fits] at f ⊢
/-- the byte that i2b leaves of a char -/
def lo8 (x : Int32) : Int32 := x.toInt8.toInt32
theorem fits_lo8 (y : Int32) : fits .byte (.int (lo8 y)) = true := by
  have h1 := y.toInt8.le_toInt
  have h2 := y.toInt8.toInt_lt
  simp only [lo8, fits, Bool.and_eq_true, decide_eq_true_eq, Int32.le_iff_toInt_le, Int8.toInt_toInt32, show (-128 : Int32).toInt = -128 from by decide, show (127 : Int32).toInt = 127 from by decide]
  omega
/-- A' is A but that each place j of lo .. hi - 1 holds f j -/
def Laid (A A' : Cell) (lo hi : Nat) (f : Nat → Value) : Prop := A'.cls = A.cls ∧ A'.vm = A.vm ∧ A'.slots.size = A.slots.size ∧ ∀ i, A'.slots[i]? = if lo ≤ i ∧ i < hi then some (f i) else A.slots[i]?
theorem Laid.zero (A : Cell) (lo : Nat) (f : Nat → Value) : Laid A A lo (lo + 0) f := ⟨rfl, rfl, rfl, fun i => by rw [if_neg (by omega)]⟩
theorem Laid.step {A Ak : Cell} {lo k : Nat} {f : Nat → Value} {v : Value} (h : Laid A Ak lo k f) (hlo : lo ≤ k) (hk : k < Ak.slots.size) (hv : v = f k) : Laid A (Ak.setSlot k v) lo (k + 1) f := by
  refine ⟨h.1, h.2.1, by simpa [Cell.setSlot] using h.2.2.1, fun i => ?_⟩
  by_cases e : k = i
  · subst e; rw [Cell.slots_setSlot_self v hk, if_pos (by omega), hv]
  · rw [Cell.slots_setSlot_ne v e, h.2.2.2 i]
    by_cases q : lo ≤ i ∧ i < k
    · rw [if_pos q, if_pos (by omega)]
    · rw [if_neg q, if_neg (by omega)]
def U16 : String := "java/lang/StringUTF16"
namespace Cmp5
def yN : MethodName := ⟨"java/lang/StringUTF16", "compress", "([CI[BII)I"⟩
abbrev yB : ByteArray := jdk_52_method_21_code
theorem d0 : decode yB 0 = .ok (.iconst 0, 1) := by decide +kernel
theorem d1 : decode yB 1 = .ok (.istore 5, 2) := by decide +kernel
theorem d3 : decode yB 3 = .ok (.iload 5, 2) := by decide +kernel
theorem d5 : decode yB 5 = .ok (.iload 4, 2) := by decide +kernel
theorem d7 : decode yB 7 = .ok (.if_icmp (.ge) 37, 3) := by decide +kernel
theorem d10 : decode yB 10 = .ok (.aload_n 0, 1) := by decide +kernel
theorem d11 : decode yB 11 = .ok (.iload_n 1, 1) := by decide +kernel
theorem d12 : decode yB 12 = .ok (.caload, 1) := by decide +kernel
theorem d13 : decode yB 13 = .ok (.istore 6, 2) := by decide +kernel
theorem d15 : decode yB 15 = .ok (.iload 6, 2) := by decide +kernel
theorem d17 : decode yB 17 = .ok (.sipush 255, 3) := by decide +kernel
theorem d20 : decode yB 20 = .ok (.if_icmp (.le) 6, 3) := by decide +kernel
theorem d26 : decode yB 26 = .ok (.aload_n 2, 1) := by decide +kernel
theorem d27 : decode yB 27 = .ok (.iload_n 3, 1) := by decide +kernel
theorem d28 : decode yB 28 = .ok (.iload 6, 2) := by decide +kernel
theorem d30 : decode yB 30 = .ok (.i2b, 1) := by decide +kernel
theorem d31 : decode yB 31 = .ok (.bastore, 1) := by decide +kernel
theorem d32 : decode yB 32 = .ok (.iinc 1 1, 3) := by decide +kernel
theorem d35 : decode yB 35 = .ok (.iinc 3 1, 3) := by decide +kernel
theorem d38 : decode yB 38 = .ok (.iinc 5 1, 3) := by decide +kernel
theorem d41 : decode yB 41 = .ok (.goto (-38), 3) := by decide +kernel
theorem d44 : decode yB 44 = .ok (.iload 4, 2) := by decide +kernel
theorem d46 : decode yB 46 = .ok (.ireturn, 1) := by decide +kernel
def site : List Cond := []
def tab : Cond := tabOf yN yB 7 (some .int) site
def P (b : Addr) (A : Cell) (d : Addr) (B : Cell) (o q len : Nat) (args : Array Value) (s : State) : Prop := args = #[.ref b, .int (Int32.ofNat o), .ref d, .int (Int32.ofNat q), .int (Int32.ofNat len)] ∧ Ch b A s ∧ Arr .byte d B s ∧ b ≠ d ∧ o + len ≤ A.slots.size ∧ q + len ≤ B.slots.size ∧ ∀ i, i < len → ¬ 255 < cv A (o + i)
def E (b : Addr) (A : Cell) (d : Addr) (B : Cell) (o q len : Nat) (r : Option Value) (s u : State) : Prop := r = some (.int (Int32.ofNat len)) ∧ ∃ B', Put d B' s u ∧ Laid B B' q (q + len) (fun j => Value.int (lo8 (cv A (o + (j - q)))))
/-- no char of the range above 255: len; the places written hold each char's low byte -/
theorem law (l : Launch) (b : Addr) (A : Cell) (d : Addr) (B : Cell) (o q len : Nat) : Law l yN 5 5 0 0 yB 7 (some .int) site (P b A d B o q len) (E b A d B o q len) (copyLocs d q len) 0 0 := by
  refine Law.of_walk (plainFor_of_name (by decide +kernel)) (by decide +kernel) (by decide +kernel) (by decide) (fun _ _ h => by rw [h.1]; rfl) (fun _ U U' hal hh h => ⟨h.1, h.2.1.mv hal hh, h.2.2.1.mv hal hh, h.2.2.2⟩) (fun r U U' V V' h1 hal h2 h => ⟨h.1, h.2.elim fun B' q => ⟨B', q.1.mv h1 h2, q.2⟩⟩) ?_
  intro p e s m args below meth c s₁ X0 hexec hbytes hml hret hlk hnm hown hh0 W hP
  obtain ⟨rfl, hA, hB, hne, l1, l2, hp⟩ := hP
  have c1 : Steps p.tables e below (s₁.setTop (entryFrame m #[.ref b, .int (Int32.ofNat o), .ref d, .int (Int32.ofNat q), .int (Int32.ofNat len)] 7)) (s₁.setTop (mkF m 0 #[.val (.ref b), .val (.int (Int32.ofNat o)), .val (.ref d), .val (.int (Int32.ofNat q)), .val (.int (Int32.ofNat len)), .unset, .unset] [])) := entry rfl
  have hA0 := hA.1.mv X0.warmed.alike hh0
  have hB0 := hB.mv X0.warmed.alike hh0
  have a31 := hA.1.2.2.2
  have c2 : Steps p.tables e below (s₁.setTop (entryFrame m #[.ref b, .int (Int32.ofNat o), .ref d, .int (Int32.ofNat q), .int (Int32.ofNat len)] 7)) (s₁.setTop (mkF m 3 #[.val (.ref b), .val (.int (Int32.ofNat o)), .val (.ref d), .val (.int (Int32.ofNat q)), .val (.int (Int32.ofNat len)), .val (.int 0), .unset] [])) := c1.trans (by
    refine iconstV X0.here hexec rfl 0 (hb hbytes d0) (by decide) ?_
    refine XS.istore X0.here hexec rfl (hb hbytes d1) rfl rfl ?_
    exact Steps.refl _)
  have loop : ∀ (r i : Nat), i + r = len → ∀ (z : Slot), (z = .unset ∨ ∃ w, z = .val w ∧ w.category = 1) → ∀ (Tl : State) (Bk : Cell), Stand p l e { frames := 0, locals := 0, cells := 0, slots := 0 } s m #[.ref b, .int (Int32.ofNat o), .ref d, .int (Int32.ofNat q), .int (Int32.ofNat len)] below meth c Tl ([] ++ copyLocs d q i) 0 0 → Put d Bk s₁ Tl → Laid B Bk q (q + i) (fun j => Value.int (lo8 (cv A (o + (j - q))))) →
      Steps p.tables e below (s₁.setTop (entryFrame m #[.ref b, .int (Int32.ofNat o), .ref d, .int (Int32.ofNat q), .int (Int32.ofNat len)] 7)) (Tl.setTop (mkF m 3 #[.val (.ref b), .val (.int (Int32.ofNat (o + i))), .val (.ref d), .val (.int (Int32.ofNat (q + i))), .val (.int (Int32.ofNat len)), .val (.int (Int32.ofNat i)), z] [])) → ∃ (T' : State) (B' : Cell) (z' : Slot), Stand p l e { frames := 0, locals := 0, cells := 0, slots := 0 } s m #[.ref b, .int (Int32.ofNat o), .ref d, .int (Int32.ofNat q), .int (Int32.ofNat len)] below meth c T' ([] ++ copyLocs d q len) 0 0 ∧ Put d B' s₁ T' ∧ Laid B B' q (q + len) (fun j => Value.int (lo8 (cv A (o + (j - q))))) ∧
      Steps p.tables e below (s₁.setTop (entryFrame m #[.ref b, .int (Int32.ofNat o), .ref d, .int (Int32.ofNat q), .int (Int32.ofNat len)] 7)) (T'.setTop (mkF m 3 #[.val (.ref b), .val (.int (Int32.ofNat (o + len))), .val (.ref d), .val (.int (Int32.ofNat (q + len))), .val (.int (Int32.ofNat len)), .val (.int (Int32.ofNat len)), z'] [])) := by
    intro r
    induction r with
    | zero =>
      intro i hi z hz Tl Bk Xl pl fl cl
      have hil : i = len := by omega
      rw [hil] at Xl fl cl
      exact ⟨Tl, Bk, z, Xl, pl, fl, cl⟩
    | succ r ih =>
      intro i hi z hz Tl Bk Xl pl fl cl
      have all := X0.warmed.alike.symm.trans Xl.warmed.alike
      have hAl := hA0.keep all (pl.other hne hA0.1)
      have hBk := hB0.like all pl.1 fl.1 fl.2.1 fl.2.2.1
      have hlt : q + i < Bk.slots.size := by rw [fl.2.2.1]; omega
      have c3 : Steps p.tables e below (s₁.setTop (entryFrame m #[.ref b, .int (Int32.ofNat o), .ref d, .int (Int32.ofNat q), .int (Int32.ofNat len)] 7)) (Tl.setTop (mkF m 12 #[.val (.ref b), .val (.int (Int32.ofNat (o + i))), .val (.ref d), .val (.int (Int32.ofNat (q + i))), .val (.int (Int32.ofNat len)), .val (.int (Int32.ofNat i)), z] [.int (Int32.ofNat (o + i)), .ref b])) := cl.trans (by
        refine XS.iload Xl.here hexec rfl (hb hbytes d3) rfl ?_
        refine XS.iload Xl.here hexec rfl (hb hbytes d5) rfl ?_
        refine XS.icmpNo Xl.here hexec rfl (hb hbytes d7) rfl (ii_ge_f (lt32 (by omega) (by omega))) ?_
        refine XS.aloadN Xl.here hexec rfl (hb hbytes d10) rfl rfl ?_
        refine XS.iloadN Xl.here hexec rfl (hb hbytes d11) rfl ?_
        exact Steps.refl _)
      have c4 : Steps p.tables e below (s₁.setTop (entryFrame m #[.ref b, .int (Int32.ofNat o), .ref d, .int (Int32.ofNat q), .int (Int32.ofNat len)] 7)) (Tl.setTop (mkF m 13 #[.val (.ref b), .val (.int (Int32.ofNat (o + i))), .val (.ref d), .val (.int (Int32.ofNat (q + i))), .val (.int (Int32.ofNat len)), .val (.int (Int32.ofNat i)), z] [.int (cv A (o + i))])) := c3.trans (by
        refine Xl.aget hexec hAl rfl (hA.get (i := o + i) (by omega)) rfl rfl (hb hbytes d12) ?_
        exact Steps.refl _)
      have c5 : Steps p.tables e below (s₁.setTop (entryFrame m #[.ref b, .int (Int32.ofNat o), .ref d, .int (Int32.ofNat q), .int (Int32.ofNat len)] 7)) (Tl.setTop (mkF m 15 #[.val (.ref b), .val (.int (Int32.ofNat (o + i))), .val (.ref d), .val (.int (Int32.ofNat (q + i))), .val (.int (Int32.ofNat len)), .val (.int (Int32.ofNat i)), .val (.int (cv A (o + i)))] [])) := c4.trans (by
        refine XS.istoreS Xl.here hexec rfl (hb hbytes d13) rfl rfl hz ?_
        exact Steps.refl _)
      have c6 : Steps p.tables e below (s₁.setTop (entryFrame m #[.ref b, .int (Int32.ofNat o), .ref d, .int (Int32.ofNat q), .int (Int32.ofNat len)] 7)) (Tl.setTop (mkF m 31 #[.val (.ref b), .val (.int (Int32.ofNat (o + i))), .val (.ref d), .val (.int (Int32.ofNat (q + i))), .val (.int (Int32.ofNat len)), .val (.int (Int32.ofNat i)), .val (.int (cv A (o + i)))] [.int (lo8 (cv A (o + i))), .int (Int32.ofNat (q + i)), .ref d])) := c5.trans (by
        refine XS.iload Xl.here hexec rfl (hb hbytes d15) rfl ?_
        refine sipushV Xl.here hexec rfl 255 (hb hbytes d17) (by decide) ?_
        refine XS.icmpYes Xl.here hexec rfl (pc0 := 20) rfl (hb hbytes d20) rfl (ii_le_t (hp i (by omega))) (by decide) rfl ?_
        refine XS.aloadN Xl.here hexec rfl (hb hbytes d26) rfl rfl ?_
        refine XS.iloadN Xl.here hexec rfl (hb hbytes d27) rfl ?_
        refine XS.iload Xl.here hexec rfl (hb hbytes d28) rfl ?_
        refine i2b Xl.here hexec rfl (hb hbytes d30) rfl ?_
        exact Steps.refl _)
      obtain ⟨T7, X7, p7, st7⟩ := Xl.aput hexec hBk rfl hlt rfl (fits_lo8 (cv A (o + i))) (g := (mkF m 31 #[.val (.ref b), .val (.int (Int32.ofNat (o + i))), .val (.ref d), .val (.int (Int32.ofNat (q + i))), .val (.int (Int32.ofNat len)), .val (.int (Int32.ofNat i)), .val (.int (cv A (o + i)))] [.int (lo8 (cv A (o + i))), .int (Int32.ofNat (q + i)), .ref d])) rfl (rest := []) rfl (hb hbytes d31)
      have c8 : Steps p.tables e below (s₁.setTop (entryFrame m #[.ref b, .int (Int32.ofNat o), .ref d, .int (Int32.ofNat q), .int (Int32.ofNat len)] 7)) (T7.setTop (mkF m 32 #[.val (.ref b), .val (.int (Int32.ofNat (o + i))), .val (.ref d), .val (.int (Int32.ofNat (q + i))), .val (.int (Int32.ofNat len)), .val (.int (Int32.ofNat i)), .val (.int (cv A (o + i)))] [])) := c6.trans (st7 _ (Steps.refl _))
      have c9 : Steps p.tables e below (s₁.setTop (entryFrame m #[.ref b, .int (Int32.ofNat o), .ref d, .int (Int32.ofNat q), .int (Int32.ofNat len)] 7)) (T7.setTop (mkF m 3 #[.val (.ref b), .val (.int (Int32.ofNat (o + i) + 1)), .val (.ref d), .val (.int (Int32.ofNat (q + i) + 1)), .val (.int (Int32.ofNat len)), .val (.int (Int32.ofNat i + 1)), .val (.int (cv A (o + i)))] [])) := c8.trans (by
        refine iincV X7.here hexec rfl 1 (hb hbytes d32) (by decide) rfl rfl ?_
        refine iincV X7.here hexec rfl 1 (hb hbytes d35) (by decide) rfl rfl ?_
        refine iincV X7.here hexec rfl 1 (hb hbytes d38) (by decide) rfl rfl ?_
        refine XS.goto X7.here hexec rfl (pc0 := 41) rfl (hb hbytes d41) (by decide) rfl ?_
        exact Steps.refl _)
      have c10 : Steps p.tables e below (s₁.setTop (entryFrame m #[.ref b, .int (Int32.ofNat o), .ref d, .int (Int32.ofNat q), .int (Int32.ofNat len)] 7)) (T7.setTop (mkF m 3 #[.val (.ref b), .val (.int (Int32.ofNat (o + (i + 1)))), .val (.ref d), .val (.int (Int32.ofNat (q + (i + 1)))), .val (.int (Int32.ofNat len)), .val (.int (Int32.ofNat (i + 1))), .val (.int (cv A (o + i)))] [])) := by
        have := c9
        rw [succ32, succ32, succ32] at this
        exact this
      exact ih (i + 1) (by omega) _ (Or.inr ⟨_, rfl, rfl⟩) T7 _ (by rw [copyLocs_step, ← List.append_assoc]; exact X7) (pl.trans p7) (fl.step (by omega) hlt (by simp)) c10
  obtain ⟨T9, B9, z9, X9, p9, f9, g9⟩ := loop len 0 (by omega) .unset (Or.inl rfl) s₁ B (by simpa [copyLocs] using X0) ⟨hB0.1, fun _ _ => rfl, rfl⟩ (Laid.zero _ _ _) c2
  have c11 : Steps p.tables e below (s₁.setTop (entryFrame m #[.ref b, .int (Int32.ofNat o), .ref d, .int (Int32.ofNat q), .int (Int32.ofNat len)] 7)) (T9.setTop (mkF m 46 #[.val (.ref b), .val (.int (Int32.ofNat (o + len))), .val (.ref d), .val (.int (Int32.ofNat (q + len))), .val (.int (Int32.ofNat len)), .val (.int (Int32.ofNat len)), z9] [.int (Int32.ofNat len)])) := g9.trans (by
    refine XS.iload X9.here hexec rfl (hb hbytes d3) rfl ?_
    refine XS.iload X9.here hexec rfl (hb hbytes d5) rfl ?_
    refine XS.icmpYes X9.here hexec rfl (pc0 := 7) rfl (hb hbytes d7) rfl (ii_ge_t (nlt32 (by omega) (Nat.le_refl _))) (by decide) rfl ?_
    refine XS.iload X9.here hexec rfl (hb hbytes d44) rfl ?_
    exact Steps.refl _)
  exact ⟨T9, some (.int (Int32.ofNat len)), _, _, _, X9, by simp, rfl, rfl, (fun h => by cases h), ⟨rfl, B9, p9.from hh0, f9⟩, fun fs hl => c11.trans (X9.ireturnOut hexec hret rfl (Or.inl rfl) (hb hbytes d46) hl)⟩
end Cmp5
namespace Cmp3
def yN : MethodName := ⟨"java/lang/StringUTF16", "compress", "([CII)[B"⟩
abbrev yB : ByteArray := jdk_52_method_16_code
theorem d0 : decode yB 0 = .ok (.iload_n 2, 1) := by decide +kernel
theorem d1 : decode yB 1 = .ok (.newarray .byte, 2) := by decide +kernel
theorem d3 : decode yB 3 = .ok (.astore_n 3, 1) := by decide +kernel
theorem d4 : decode yB 4 = .ok (.aload_n 0, 1) := by decide +kernel
theorem d5 : decode yB 5 = .ok (.iload_n 1, 1) := by decide +kernel
theorem d6 : decode yB 6 = .ok (.aload_n 3, 1) := by decide +kernel
theorem d7 : decode yB 7 = .ok (.iconst 0, 1) := by decide +kernel
theorem d8 : decode yB 8 = .ok (.iload_n 2, 1) := by decide +kernel
theorem d9 : decode yB 9 = .ok (.invokestatic 115, 3) := by decide +kernel
theorem d12 : decode yB 12 = .ok (.istore 4, 2) := by decide +kernel
theorem d14 : decode yB 14 = .ok (.iload 4, 2) := by decide +kernel
theorem d16 : decode yB 16 = .ok (.iload_n 2, 1) := by decide +kernel
theorem d17 : decode yB 17 = .ok (.if_icmp (.eq) 40, 3) := by decide +kernel
theorem d57 : decode yB 57 = .ok (.aload_n 3, 1) := by decide +kernel
theorem d58 : decode yB 58 = .ok (.areturn, 1) := by decide +kernel
def site : List Cond := [.arrayClass .byte, Cmp5.tab] ++ staticW U16 115 Cmp5.yN
def tab : Cond := tabOf yN yB 6 (some (.array .byte)) site
def P (b : Addr) (A : Cell) (o len : Nat) (args : Array Value) (s : State) : Prop := args = #[.ref b, .int (Int32.ofNat o), .int (Int32.ofNat len)] ∧ Ch b A s ∧ o + len ≤ A.slots.size ∧ len ≤ 536870912 ∧ ∀ i, i < len → ¬ 255 < cv A (o + i)
def E (b : Addr) (A : Cell) (o len : Nat) (r : Option Value) (s u : State) : Prop := NewArr .byte "[B" len (fun j => .int (lo8 (cv A (o + j)))) r s u ∧ u.heap.size = s.heap.size + 1
/-- no char of the range above 255: a new byte[] of their low bytes -/
theorem law (l : Launch) (b : Addr) (A : Cell) (o len : Nat) : Law l yN 3 3 1 18 yB 6 (some (.array .byte)) site (P b A o len) (E b A o len) [] 1 len := by
  refine Law.of_walk (plainFor_of_name (by decide +kernel)) (by decide +kernel) (by decide +kernel) (by decide) (fun _ _ h => by rw [h.1]; rfl) (fun _ U U' hal hh h => ⟨h.1, h.2.1.mv hal hh, h.2.2⟩) (fun r U U' V V' h1 hal h2 h => ⟨NewArr.mv r U U' V V' h1 hal h2 h.1, by rw [h1, h2]; exact h.2⟩) ?_
  intro p e s m args below meth c s₁ X0 hexec hbytes hml hret hlk hnm hown hh0 W hP
  obtain ⟨rfl, hA, l1, l2, hp⟩ := hP
  have a31 := hA.1.2.2.2
  have c1 : Steps p.tables e below (s₁.setTop (entryFrame m #[.ref b, .int (Int32.ofNat o), .int (Int32.ofNat len)] 6)) (s₁.setTop (mkF m 0 #[.val (.ref b), .val (.int (Int32.ofNat o)), .val (.int (Int32.ofNat len)), .unset, .unset, .unset] [])) := entry rfl
  have c2 : Steps p.tables e below (s₁.setTop (entryFrame m #[.ref b, .int (Int32.ofNat o), .int (Int32.ofNat len)] 6)) (s₁.setTop (mkF m 1 #[.val (.ref b), .val (.int (Int32.ofNat o)), .val (.int (Int32.ofNat len)), .unset, .unset, .unset] [.int (Int32.ofNat len)])) := c1.trans (by
    refine XS.iloadN X0.here hexec rfl (hb hbytes d0) rfl ?_
    exact Steps.refl _)
  obtain ⟨T3, B3, X3, ba3, bs3, bv3, bh3, bf3, st3⟩ := X0.anew hexec (atype := .byte) (wk W (.arrayClass .byte)) rfl (by show len * 1 ≤ _; omega) (by omega) (g := (mkF m 1 #[.val (.ref b), .val (.int (Int32.ofNat o)), .val (.int (Int32.ofNat len)), .unset, .unset, .unset] [.int (Int32.ofNat len)])) rfl (hb hbytes d1) (rest := []) rfl (Nat.le_refl _) (by show 0 + len ≤ len; omega)
  rw [hh0] at ba3 st3
  have kp3 : XT.Kept s T3 := (XT.Kept.of_eq hh0).push bh3
  have hA3 := hA.keep X3.warmed.alike (kp3 _ _ hA.1.1)
  have hne : b ≠ s.heap.size := hA.1.ne
  have c4 : Steps p.tables e below (s₁.setTop (entryFrame m #[.ref b, .int (Int32.ofNat o), .int (Int32.ofNat len)] 6)) (T3.setTop (mkF m 3 #[.val (.ref b), .val (.int (Int32.ofNat o)), .val (.int (Int32.ofNat len)), .unset, .unset, .unset] [.ref s.heap.size])) := c2.trans (st3 _ (Steps.refl _))
  have c5 : Steps p.tables e below (s₁.setTop (entryFrame m #[.ref b, .int (Int32.ofNat o), .int (Int32.ofNat len)] 6)) (T3.setTop (mkF m 9 #[.val (.ref b), .val (.int (Int32.ofNat o)), .val (.int (Int32.ofNat len)), .val (.ref s.heap.size), .unset, .unset] [.int (Int32.ofNat len), .int 0, .ref s.heap.size, .int (Int32.ofNat o), .ref b])) := c4.trans (by
    refine XS.astoreN X3.here hexec rfl (hb hbytes d3) rfl rfl rfl ?_
    refine XS.aloadN X3.here hexec rfl (hb hbytes d4) rfl rfl ?_
    refine XS.iloadN X3.here hexec rfl (hb hbytes d5) rfl ?_
    refine XS.aloadN X3.here hexec rfl (hb hbytes d6) rfl rfl ?_
    refine iconstV X3.here hexec rfl 0 (hb hbytes d7) (by decide) ?_
    refine XS.iloadN X3.here hexec rfl (hb hbytes d8) rfl ?_
    exact Steps.refl _)
  obtain ⟨v6, T6, X6, E6, g6⟩ := X3.callS hexec (Cmp5.law l b A s.heap.size B3 o 0 len) hown (wks W (staticW U16 115 Cmp5.yN)) (wk W Cmp5.tab) (W := 0) (Nat.le_of_ble_eq_true rfl) (Nat.le_of_ble_eq_true rfl) (Nat.le_refl _) (by show 0 + len + 0 ≤ len; omega) (g := (mkF m 9 #[.val (.ref b), .val (.int (Int32.ofNat o)), .val (.int (Int32.ofNat len)), .val (.ref s.heap.size), .unset, .unset] [.int (Int32.ofNat len), .int (Int32.ofNat 0), .ref s.heap.size, .int (Int32.ofNat o), .ref b])) rfl (by rw [hml]; rfl) c5 (argsL := [.ref b, .int (Int32.ofNat o), .ref s.heap.size, .int (Int32.ofNat 0), .int (Int32.ofNat len)]) (rest := []) rfl rfl (by show 2 * 0 + 0 ≤ _; decide) (hb hbytes d9) (⟨rfl, hA3, ba3, hne, l1, by rw [bs3]; simp, hp⟩)
  obtain ⟨rfl, B6, p6, f6⟩ := E6
  have c7 : Steps p.tables e below (s₁.setTop (entryFrame m #[.ref b, .int (Int32.ofNat o), .int (Int32.ofNat len)] 6)) (T6.setTop (mkF m 12 #[.val (.ref b), .val (.int (Int32.ofNat o)), .val (.int (Int32.ofNat len)), .val (.ref s.heap.size), .unset, .unset] [.int (Int32.ofNat len)])) := g6
  have c8 : Steps p.tables e below (s₁.setTop (entryFrame m #[.ref b, .int (Int32.ofNat o), .int (Int32.ofNat len)] 6)) (T6.setTop (mkF m 58 #[.val (.ref b), .val (.int (Int32.ofNat o)), .val (.int (Int32.ofNat len)), .val (.ref s.heap.size), .val (.int (Int32.ofNat len)), .unset] [.ref s.heap.size])) := c7.trans (by
    refine XS.istore X6.here hexec rfl (hb hbytes d12) rfl rfl ?_
    refine XS.iload X6.here hexec rfl (hb hbytes d14) rfl ?_
    refine XS.iloadN X6.here hexec rfl (hb hbytes d16) rfl ?_
    refine XS.icmpYes X6.here hexec rfl (pc0 := 17) rfl (hb hbytes d17) rfl (ii_eq_t rfl) (by decide) rfl ?_
    refine XS.aloadN X6.here hexec rfl (hb hbytes d57) rfl rfl ?_
    exact Steps.refl _)
  have X8 := X6.wide (L' := []) (cells' := 1) (slots' := len) (fun x hx hlt => by
    simp only [List.nil_append, copyLocs, List.mem_map, List.mem_range] at hx
    obtain ⟨i, -, rfl⟩ := hx
    exact absurd hlt (Nat.lt_irrefl _)) (Nat.le_refl _) (by omega)
  exact ⟨T6, some (.ref s.heap.size), _, _, _, X8, rfl, rfl, rfl, (fun h => by cases h), ⟨⟨rfl, B6, ba3.like (X3.warmed.alike.symm.trans X6.warmed.alike) p6.1 f6.1 f6.2.1 f6.2.2.1, f6.2.1.trans bv3, by rw [X6.warmed.alike.findClass, f6.1]; exact bf3, by rw [f6.2.2.1, bs3]; simp, fun j hj => by rw [f6.2.2.2 j, if_pos (by omega)]; rfl, kp3.put p6 (Nat.le_refl _)⟩, by rw [p6.2.2, bh3, hh0]; simp⟩, fun fs hl => c8.trans (X8.areturnOut hexec rfl hret rfl (hb hbytes d58) hl)⟩
end Cmp3
namespace CodL
def yN : MethodName := ⟨"java/lang/StringUTF16", "coderFromArrayLen", "([BI)B"⟩
abbrev yB : ByteArray := jdk_52_method_15_code
theorem d0 : decode yB 0 = .ok (.iload_n 1, 1) := by decide +kernel
theorem d1 : decode yB 1 = .ok (.aload_n 0, 1) := by decide +kernel
theorem d2 : decode yB 2 = .ok (.arraylength, 1) := by decide +kernel
theorem d3 : decode yB 3 = .ok (.isub, 1) := by decide +kernel
theorem d4 : decode yB 4 = .ok (.bipush 31, 2) := by decide +kernel
theorem d6 : decode yB 6 = .ok (.iushr, 1) := by decide +kernel
theorem d7 : decode yB 7 = .ok (.i2b, 1) := by decide +kernel
theorem d8 : decode yB 8 = .ok (.ireturn, 1) := by decide +kernel
def site : List Cond := []
def tab : Cond := tabOf yN yB 2 (some .byte) site
def P (d : Addr) (B : Cell) (args : Array Value) (s : State) : Prop := args = #[.ref d, .int (Int32.ofNat B.slots.size)] ∧ Arr .byte d B s
def E (r : Option Value) (s u : State) : Prop := XT.PureE (some (.int 0)) r s u
/-- an array as long as the number of chars: LATIN1 -/
theorem law (l : Launch) (d : Addr) (B : Cell) : Law l yN 2 2 0 0 yB 2 (some .byte) site (P d B) E [] 0 0 := by
  refine Law.of_walk (plainFor_of_name (by decide +kernel)) (by decide +kernel) (by decide +kernel) (by decide) (fun _ _ h => by rw [h.1]; rfl) (fun _ U U' hal hh h => ⟨h.1, h.2.mv hal hh⟩) (fun r U U' V V' h1 hal h2 h => XT.PureE.mv r U U' V V' h1 hal h2 h) ?_
  intro p e s m args below meth c s₁ X0 hexec hbytes hml hret hlk hnm hown hh0 W hP
  obtain ⟨rfl, hB⟩ := hP
  have hB0 := hB.mv X0.warmed.alike hh0
  have c1 : Steps p.tables e below (s₁.setTop (entryFrame m #[.ref d, .int (Int32.ofNat B.slots.size)] 2)) (s₁.setTop (mkF m 0 #[.val (.ref d), .val (.int (Int32.ofNat B.slots.size))] [])) := entry rfl
  have c2 : Steps p.tables e below (s₁.setTop (entryFrame m #[.ref d, .int (Int32.ofNat B.slots.size)] 2)) (s₁.setTop (mkF m 2 #[.val (.ref d), .val (.int (Int32.ofNat B.slots.size))] [.ref d, .int (Int32.ofNat B.slots.size)])) := c1.trans (by
    refine XS.iloadN X0.here hexec rfl (hb hbytes d0) rfl ?_
    refine XS.aloadN X0.here hexec rfl (hb hbytes d1) rfl rfl ?_
    exact Steps.refl _)
  have c3 : Steps p.tables e below (s₁.setTop (entryFrame m #[.ref d, .int (Int32.ofNat B.slots.size)] 2)) (s₁.setTop (mkF m 8 #[.val (.ref d), .val (.int (Int32.ofNat B.slots.size))] [.int (lo8 (ushr (Int32.ofNat B.slots.size - Int32.ofNat B.slots.size) 31))])) := c2.trans (by
    refine X0.alen hexec hB0 rfl rfl (hb hbytes d2) ?_
    refine XS.isub X0.here hexec rfl (hb hbytes d3) rfl ?_
    refine bipushV X0.here hexec rfl 31 (hb hbytes d4) (by decide) ?_
    refine iushr X0.here hexec rfl (hb hbytes d6) rfl ?_
    refine i2b X0.here hexec rfl (hb hbytes d7) rfl ?_
    exact Steps.refl _)
  have e0 : lo8 (ushr (Int32.ofNat B.slots.size - Int32.ofNat B.slots.size) 31) = 0 := by rw [Int32.sub_self]; decide
  rw [e0] at c3
  exact ⟨s₁, some (.int 0), _, _, _, X0, rfl, rfl, rfl, (fun h => by cases h), ⟨rfl, hh0⟩, fun fs hl => c3.trans (X0.ireturnOut hexec hret rfl (Or.inr (Or.inr (Or.inl rfl))) (hb hbytes d8) hl)⟩
end CodL
/-- the String at a is Latin-1 over a new byte[] (the heap's one new cell): the low bytes of the len chars of A from o on; every cell but a is kept -/
def Got (a : Addr) (D : Cell) (fV fC : Field) (A : Cell) (o len : Nat) (r : Option Value) (s u : State) : Prop := r = none ∧ ∃ D' V : Cell, Blank "java/lang/String" a D' u ∧ Same D D' [fV.slot, fC.slot] ∧ D'.slots[fV.slot]? = some (.ref s.heap.size) ∧ D'.slots[fC.slot]? = some (.int 0) ∧ Arr .byte s.heap.size V u ∧ V.vm = .none ∧ u.vm.findClass "[B" = some V.cls ∧ V.slots.size = len ∧ (∀ j, j < len → V.slots[j]? = some (.int (lo8 (cv A (o + j))))) ∧ (∀ (y : Addr) (c : Cell), y ≠ a → s.heap[y]? = some c → u.heap[y]? = some c) ∧ u.heap.size = s.heap.size + 1
theorem Got.mv {a : Addr} {D A : Cell} {fV fC : Field} {o len : Nat} : ∀ r (U U' V V' : State), U'.heap = U.heap → V.vm.Alike V'.vm → V'.heap = V.heap → Got a D fV fC A o len r U V → Got a D fV fC A o len r U' V' :=
  fun r U U' V V' h1 hal h2 ⟨e0, D', X, a1, a2, a3, a4, a5, a6, a7, a8, a9, a10, a11⟩ => ⟨e0, D', X, a1.mv hal h2, a2, by rw [h1]; exact a3, a4, by rw [h1]; exact a5.mv hal h2, a6, by rw [hal.findClass]; exact a7, a8, a9, by rw [h1, h2]; exact a10, by rw [h1, h2]; exact a11⟩
namespace New4
def yN : MethodName := ⟨"java/lang/String", "<init>", "([CIILjava/lang/Void;)V"⟩
abbrev yB : ByteArray := jdk_42_method_149_code
theorem d0 : decode yB 0 = .ok (.aload_n 0, 1) := by decide +kernel
theorem d1 : decode yB 1 = .ok (.invokespecial 1, 3) := by decide +kernel
theorem d4 : decode yB 4 = .ok (.iload_n 3, 1) := by decide +kernel
theorem d5 : decode yB 5 = .ok (.ifCond (.ne) 22, 3) := by decide +kernel
theorem d27 : decode yB 27 = .ok (.getstatic 38, 3) := by decide +kernel
theorem d30 : decode yB 30 = .ok (.ifCond (.eq) 28, 3) := by decide +kernel
theorem d33 : decode yB 33 = .ok (.aload_n 1, 1) := by decide +kernel
theorem d34 : decode yB 34 = .ok (.iload_n 2, 1) := by decide +kernel
theorem d35 : decode yB 35 = .ok (.iload_n 3, 1) := by decide +kernel
theorem d36 : decode yB 36 = .ok (.invokestatic 177, 3) := by decide +kernel
theorem d39 : decode yB 39 = .ok (.astore 5, 2) := by decide +kernel
theorem d41 : decode yB 41 = .ok (.aload_n 0, 1) := by decide +kernel
theorem d42 : decode yB 42 = .ok (.aload 5, 2) := by decide +kernel
theorem d44 : decode yB 44 = .ok (.iload_n 3, 1) := by decide +kernel
theorem d45 : decode yB 45 = .ok (.invokestatic 47, 3) := by decide +kernel
theorem d48 : decode yB 48 = .ok (.putfield 15, 3) := by decide +kernel
theorem d51 : decode yB 51 = .ok (.aload_n 0, 1) := by decide +kernel
theorem d52 : decode yB 52 = .ok (.aload 5, 2) := by decide +kernel
theorem d54 : decode yB 54 = .ok (.putfield 9, 3) := by decide +kernel
theorem d57 : decode yB 57 = .ok (.return_, 1) := by decide +kernel
def site : List Cond := [.fieldLink "java/lang/String" 38 "java/lang/String" "COMPACT_STRINGS" "Z", Cmp3.tab, CodL.tab, .laysFinal "java/lang/String" "java/lang/String" "value" "[B", .fieldLink "java/lang/String" 9 "java/lang/String" "value" "[B", .laysFinal "java/lang/String" "java/lang/String" "coder" "B", .fieldLink "java/lang/String" 15 "java/lang/String" "coder" "B"] ++ objW "java/lang/String" 1 ++ staticW "java/lang/String" 177 Cmp3.yN ++ staticW "java/lang/String" 47 CodL.yN
def tab : Cond := tabOf yN yB 6 none site
def P (a : Addr) (D : Cell) (fV fC : Field) (b : Addr) (A : Cell) (z : Int32) (o len : Nat) (args : Array Value) (s : State) : Prop := args = #[.ref a, .ref b, .int (Int32.ofNat o), .int (Int32.ofNat len), .null] ∧ Blank "java/lang/String" a D s ∧ Found "java/lang/String" "value" "[B" fV s ∧ Found "java/lang/String" "coder" "B" fC s ∧ Ch b A s ∧ StaticIs s "java/lang/String" "COMPACT_STRINGS" "Z" (.int z) ∧ ¬ z = 0 ∧ 0 < len ∧ o + len ≤ A.slots.size ∧ len ≤ 536870912 ∧ ∀ i, i < len → ¬ 255 < cv A (o + i)
def E (a : Addr) (D : Cell) (fV fC : Field) (A : Cell) (o len : Nat) (r : Option Value) (s u : State) : Prop := Got a D fV fC A o len r s u
/-- len > 0, no char of the range above 255: a Latin-1 String of their low bytes -/
theorem law (l : Launch) (a : Addr) (D : Cell) (fV fC : Field) (b : Addr) (A : Cell) (z : Int32) (o len : Nat) : Law l yN 5 4 2 35 yB 6 none site (P a D fV fC b A z o len) (E a D fV fC A o len) [⟨a, fC.slot⟩, ⟨a, fV.slot⟩] 1 len := by
  refine Law.of_walk (plainFor_of_name (by decide +kernel)) (by decide +kernel) (by decide +kernel) (by decide) (fun _ _ h => by rw [h.1]; rfl) (fun _ U U' hal hh h => ⟨h.1, h.2.1.mv hal hh, h.2.2.1.al hal, h.2.2.2.1.al hal, h.2.2.2.2.1.mv hal hh, h.2.2.2.2.2.1.there hal hh, h.2.2.2.2.2.2⟩) (fun r U U' V V' h1 hal h2 h => Got.mv r U U' V V' h1 hal h2 h) ?_
  intro p e s m args below meth c s₁ X0 hexec hbytes hml hret hlk hnm hown hh0 W hP
  obtain ⟨rfl, hB, f1, f2, hA, s1, hz, l0, l1, l2, hp⟩ := hP
  have a31 := hA.1.2.2.2
  have c1 : Steps p.tables e below (s₁.setTop (entryFrame m #[.ref a, .ref b, .int (Int32.ofNat o), .int (Int32.ofNat len), .null] 6)) (s₁.setTop (mkF m 0 #[.val (.ref a), .val (.ref b), .val (.int (Int32.ofNat o)), .val (.int (Int32.ofNat len)), .val .null, .unset] [])) := entry rfl
  have c2 : Steps p.tables e below (s₁.setTop (entryFrame m #[.ref a, .ref b, .int (Int32.ofNat o), .int (Int32.ofNat len), .null] 6)) (s₁.setTop (mkF m 1 #[.val (.ref a), .val (.ref b), .val (.int (Int32.ofNat o)), .val (.int (Int32.ofNat len)), .val .null, .unset] [.ref a])) := c1.trans (by
    refine XS.aloadN X0.here hexec rfl (hb hbytes d0) rfl rfl ?_
    exact Steps.refl _)
  obtain ⟨T3, X3, q3, st3⟩ := X0.oinit hexec hown (wks W (objW "java/lang/String" 1)) (g := (mkF m 1 #[.val (.ref a), .val (.ref b), .val (.int (Int32.ofNat o)), .val (.int (Int32.ofNat len)), .val .null, .unset] [.ref a])) rfl (by rw [hml]; rfl) (rest := []) rfl (hb hbytes d1) (W := 0) (by show 2 * 0 + 0 ≤ _; decide) (Nat.le_of_ble_eq_true rfl) (Nat.le_of_ble_eq_true rfl)
  have hh3 := q3.trans hh0
  have c4 : Steps p.tables e below (s₁.setTop (entryFrame m #[.ref a, .ref b, .int (Int32.ofNat o), .int (Int32.ofNat len), .null] 6)) (T3.setTop (mkF m 27 #[.val (.ref a), .val (.ref b), .val (.int (Int32.ofNat o)), .val (.int (Int32.ofNat len)), .val .null, .unset] [])) := (c2.trans (st3 _ (Steps.refl _))).trans (by
    refine XS.iloadN X3.here hexec rfl (hb hbytes d4) rfl ?_
    refine XS.ifYes X3.here hexec rfl (pc0 := 5) rfl (hb hbytes d5) rfl (i0_ne_t (nz32 (by omega) l0)) (by decide) rfl ?_
    exact Steps.refl _)
  obtain ⟨T5, X5, q5, st5⟩ := X3.sget hexec hown (wk W (.fieldLink "java/lang/String" 38 "java/lang/String" "COMPACT_STRINGS" "Z")) s1 (fun _ _ h => by rw [hh3]; exact h) (g := (mkF m 27 #[.val (.ref a), .val (.ref b), .val (.int (Int32.ofNat o)), .val (.int (Int32.ofNat len)), .val .null, .unset] [])) rfl (hb hbytes d27)
  have hh5 := q5.trans hh3
  have c6 : Steps p.tables e below (s₁.setTop (entryFrame m #[.ref a, .ref b, .int (Int32.ofNat o), .int (Int32.ofNat len), .null] 6)) (T5.setTop (mkF m 30 #[.val (.ref a), .val (.ref b), .val (.int (Int32.ofNat o)), .val (.int (Int32.ofNat len)), .val .null, .unset] [.int z])) := c4.trans (st5 _ (Steps.refl _))
  have c7 : Steps p.tables e below (s₁.setTop (entryFrame m #[.ref a, .ref b, .int (Int32.ofNat o), .int (Int32.ofNat len), .null] 6)) (T5.setTop (mkF m 36 #[.val (.ref a), .val (.ref b), .val (.int (Int32.ofNat o)), .val (.int (Int32.ofNat len)), .val .null, .unset] [.int (Int32.ofNat len), .int (Int32.ofNat o), .ref b])) := c6.trans (by
    refine XS.ifNo X5.here hexec rfl (hb hbytes d30) rfl (i0_eq_f hz) ?_
    refine XS.aloadN X5.here hexec rfl (hb hbytes d33) rfl rfl ?_
    refine XS.iloadN X5.here hexec rfl (hb hbytes d34) rfl ?_
    refine XS.iloadN X5.here hexec rfl (hb hbytes d35) rfl ?_
    exact Steps.refl _)
  obtain ⟨v8, T8, X8, E8, g8⟩ := X5.callS hexec (Cmp3.law l b A o len) hown (wks W (staticW "java/lang/String" 177 Cmp3.yN)) (wk W Cmp3.tab) (W := 0) (Nat.le_of_ble_eq_true rfl) (Nat.le_of_ble_eq_true rfl) (Nat.le_refl _) (by show 0 + len ≤ len; omega) (g := (mkF m 36 #[.val (.ref a), .val (.ref b), .val (.int (Int32.ofNat o)), .val (.int (Int32.ofNat len)), .val .null, .unset] [.int (Int32.ofNat len), .int (Int32.ofNat o), .ref b])) rfl (by rw [hml]; rfl) c7 (argsL := [.ref b, .int (Int32.ofNat o), .int (Int32.ofNat len)]) (rest := []) rfl rfl (by show 2 * 0 + 0 ≤ _; decide) (hb hbytes d36) (⟨rfl, hA.mv X5.warmed.alike hh5, l1, l2, hp⟩)
  obtain ⟨e8, z8⟩ := E8
  obtain ⟨rfl, N, n1, n2, n3, n4, n5, n6⟩ := NewArr.mv _ T5 s _ _ hh5.symm (Vm.Alike.refl _) rfl e8
  rw [hh5] at z8
  have hB1 := hB.keep X8.warmed.alike (n6 _ _ hB.1)
  have hne : s.heap.size ≠ a := (Nat.ne_of_lt (Array.getElem?_eq_some_iff.mp hB.1).1).symm
  have c9 : Steps p.tables e below (s₁.setTop (entryFrame m #[.ref a, .ref b, .int (Int32.ofNat o), .int (Int32.ofNat len), .null] 6)) (T8.setTop (mkF m 39 #[.val (.ref a), .val (.ref b), .val (.int (Int32.ofNat o)), .val (.int (Int32.ofNat len)), .val .null, .unset] [.ref s.heap.size])) := g8
  have c10 : Steps p.tables e below (s₁.setTop (entryFrame m #[.ref a, .ref b, .int (Int32.ofNat o), .int (Int32.ofNat len), .null] 6)) (T8.setTop (mkF m 45 #[.val (.ref a), .val (.ref b), .val (.int (Int32.ofNat o)), .val (.int (Int32.ofNat len)), .val .null, .val (.ref s.heap.size)] [.int (Int32.ofNat N.slots.size), .ref s.heap.size, .ref a])) := by
    have hc : Steps p.tables e below (s₁.setTop (entryFrame m #[.ref a, .ref b, .int (Int32.ofNat o), .int (Int32.ofNat len), .null] 6)) (T8.setTop (mkF m 45 #[.val (.ref a), .val (.ref b), .val (.int (Int32.ofNat o)), .val (.int (Int32.ofNat len)), .val .null, .val (.ref s.heap.size)] [.int (Int32.ofNat len), .ref s.heap.size, .ref a])) := c9.trans (by
      refine XS.astore X8.here hexec rfl (hb hbytes d39) rfl rfl rfl ?_
      refine XS.aloadN X8.here hexec rfl (hb hbytes d41) rfl rfl ?_
      refine XS.aload X8.here hexec rfl (hb hbytes d42) rfl rfl ?_
      refine XS.iloadN X8.here hexec rfl (hb hbytes d44) rfl ?_
      exact Steps.refl _)
    rw [n4]; exact hc
  obtain ⟨v11, T11, X11, E11, g11⟩ := X8.callS hexec (CodL.law l s.heap.size N) hown (wks W (staticW "java/lang/String" 47 CodL.yN)) (wk W CodL.tab) (W := 1) (Nat.le_of_ble_eq_true rfl) (Nat.le_of_ble_eq_true rfl) (Nat.le_refl _) (by show 0 + len + 0 ≤ len; omega) (g := (mkF m 45 #[.val (.ref a), .val (.ref b), .val (.int (Int32.ofNat o)), .val (.int (Int32.ofNat len)), .val .null, .val (.ref s.heap.size)] [.int (Int32.ofNat N.slots.size), .ref s.heap.size, .ref a])) rfl (by rw [hml]; rfl) c10 (argsL := [.ref s.heap.size, .int (Int32.ofNat N.slots.size)]) (rest := [.ref a]) rfl rfl (by show 2 * 0 + (1 + 0) ≤ _; decide) (hb hbytes d45) (⟨rfl, n1⟩)
  obtain ⟨rfl, q11⟩ := E11
  have hB11 := hB1.mv (X8.warmed.alike.symm.trans X11.warmed.alike) q11
  have c12 : Steps p.tables e below (s₁.setTop (entryFrame m #[.ref a, .ref b, .int (Int32.ofNat o), .int (Int32.ofNat len), .null] 6)) (T11.setTop (mkF m 48 #[.val (.ref a), .val (.ref b), .val (.int (Int32.ofNat o)), .val (.int (Int32.ofNat len)), .val .null, .val (.ref s.heap.size)] [.int 0, .ref a])) := g11
  obtain ⟨T13, X13, p13, bl13, sl13, st13⟩ := X11.finit hexec hown (wk W (.fieldLink "java/lang/String" 15 "java/lang/String" "coder" "B")) (Or.inr ⟨_, (wk W (.laysFinal "java/lang/String" "java/lang/String" "coder" "B"))⟩) (Or.inl ⟨rfl, hnm⟩) f2 (Or.inl rfl) hB11 (t := .byte) (by decide +kernel) rfl (g := (mkF m 48 #[.val (.ref a), .val (.ref b), .val (.int (Int32.ofNat o)), .val (.int (Int32.ofNat len)), .val .null, .val (.ref s.heap.size)] [.int 0, .ref a])) rfl (rest := []) rfl (hb hbytes d48)
  have c14 : Steps p.tables e below (s₁.setTop (entryFrame m #[.ref a, .ref b, .int (Int32.ofNat o), .int (Int32.ofNat len), .null] 6)) (T13.setTop (mkF m 54 #[.val (.ref a), .val (.ref b), .val (.int (Int32.ofNat o)), .val (.int (Int32.ofNat len)), .val .null, .val (.ref s.heap.size)] [.ref s.heap.size, .ref a])) := (c12.trans (st13 _ (Steps.refl _))).trans (by
    refine XS.aloadN X13.here hexec rfl (hb hbytes d51) rfl rfl ?_
    refine XS.aload X13.here hexec rfl (hb hbytes d52) rfl rfl ?_
    exact Steps.refl _)
  obtain ⟨T15, X15, p15, bl15, sl15, st15⟩ := X13.finit hexec hown (wk W (.fieldLink "java/lang/String" 9 "java/lang/String" "value" "[B")) (Or.inr ⟨_, (wk W (.laysFinal "java/lang/String" "java/lang/String" "value" "[B"))⟩) (Or.inl ⟨rfl, hnm⟩) f1 (Or.inl rfl) bl13 (t := (.array .byte)) (by decide +kernel) rfl (g := (mkF m 54 #[.val (.ref a), .val (.ref b), .val (.int (Int32.ofNat o)), .val (.int (Int32.ofNat len)), .val .null, .val (.ref s.heap.size)] [.ref s.heap.size, .ref a])) rfl (rest := []) rfl (hb hbytes d54)
  have c16 : Steps p.tables e below (s₁.setTop (entryFrame m #[.ref a, .ref b, .int (Int32.ofNat o), .int (Int32.ofNat len), .null] 6)) (T15.setTop (mkF m 57 #[.val (.ref a), .val (.ref b), .val (.int (Int32.ofNat o)), .val (.int (Int32.ofNat len)), .val .null, .val (.ref s.heap.size)] [])) := c14.trans (st15 _ (Steps.refl _))
  have ap := apart (Or.inr ⟨_, (wk W (.laysFinal "java/lang/String" "java/lang/String" "value" "[B"))⟩) (Or.inr ⟨_, (wk W (.laysFinal "java/lang/String" "java/lang/String" "coder" "B"))⟩) f1 f2 (t₁ := .array .byte) (t₂ := .byte) (by decide +kernel) (by decide +kernel) (by decide)
  have al := X8.warmed.alike.symm.trans X15.warmed.alike
  have n7 : T11.heap[s.heap.size]? = some N := by rw [q11]; exact n1.1
  exact ⟨T15, none, _, _, _, X15, by simp, rfl, by omega, (fun _ => rfl), ⟨rfl, _, N, bl15, ((Same.refl D _).set _ (by simp)).set _ (by simp), sl15, (Cell.slots_setSlot_ne _ ap).trans sl13, n1.keep al (p15.other hne (p13.other hne n7)), n2, by rw [al.findClass]; exact n3, n4, n5, fun y c h1 h2 => p15.other h1 (p13.other h1 (by rw [q11]; exact n6 y c h2)), by rw [p15.2.2, p13.2.2, q11]; exact z8⟩, fun fs hl => c16.trans (X15.returnOut hexec hret (hb hbytes d57) hl)⟩
end New4
namespace New1
def yN : MethodName := ⟨"java/lang/String", "<init>", "([C)V"⟩
abbrev yB : ByteArray := jdk_42_method_3_code
theorem d0 : decode yB 0 = .ok (.aload_n 0, 1) := by decide +kernel
theorem d1 : decode yB 1 = .ok (.aload_n 1, 1) := by decide +kernel
theorem d2 : decode yB 2 = .ok (.iconst 0, 1) := by decide +kernel
theorem d3 : decode yB 3 = .ok (.aload_n 1, 1) := by decide +kernel
theorem d4 : decode yB 4 = .ok (.arraylength, 1) := by decide +kernel
theorem d5 : decode yB 5 = .ok (.aconst_null, 1) := by decide +kernel
theorem d6 : decode yB 6 = .ok (.invokespecial 27, 3) := by decide +kernel
theorem d9 : decode yB 9 = .ok (.return_, 1) := by decide +kernel
def site : List Cond := [New4.tab] ++ initW "java/lang/String" 27 New4.yN
def tab : Cond := tabOf yN yB 2 none site
def P (a : Addr) (D : Cell) (fV fC : Field) (b : Addr) (A : Cell) (z : Int32) (args : Array Value) (s : State) : Prop := args = #[.ref a, .ref b] ∧ Blank "java/lang/String" a D s ∧ Found "java/lang/String" "value" "[B" fV s ∧ Found "java/lang/String" "coder" "B" fC s ∧ Ch b A s ∧ StaticIs s "java/lang/String" "COMPACT_STRINGS" "Z" (.int z) ∧ ¬ z = 0 ∧ 0 < A.slots.size ∧ A.slots.size ≤ 536870912 ∧ ∀ i, i < A.slots.size → ¬ 255 < cv A i
def E (a : Addr) (D : Cell) (fV fC : Field) (A : Cell) (r : Option Value) (s u : State) : Prop := Got a D fV fC A 0 A.slots.size r s u
/-- new String(chars), not empty, no char above 255: a Latin-1 String of their low bytes -/
theorem law (l : Launch) (a : Addr) (D : Cell) (fV fC : Field) (b : Addr) (A : Cell) (z : Int32) : Law l yN 2 1 3 52 yB 2 none site (P a D fV fC b A z) (E a D fV fC A) [⟨a, fC.slot⟩, ⟨a, fV.slot⟩] 1 A.slots.size := by
  refine Law.of_walk (plainFor_of_name (by decide +kernel)) (by decide +kernel) (by decide +kernel) (by decide) (fun _ _ h => by rw [h.1]; rfl) (fun _ U U' hal hh h => ⟨h.1, h.2.1.mv hal hh, h.2.2.1.al hal, h.2.2.2.1.al hal, h.2.2.2.2.1.mv hal hh, h.2.2.2.2.2.1.there hal hh, h.2.2.2.2.2.2⟩) (fun r U U' V V' h1 hal h2 h => Got.mv r U U' V V' h1 hal h2 h) ?_
  intro p e s m args below meth c s₁ X0 hexec hbytes hml hret hlk hnm hown hh0 W hP
  obtain ⟨rfl, hB, f1, f2, hA, s1, hz, l0, l2, hp⟩ := hP
  have c1 : Steps p.tables e below (s₁.setTop (entryFrame m #[.ref a, .ref b] 2)) (s₁.setTop (mkF m 0 #[.val (.ref a), .val (.ref b)] [])) := entry rfl
  have c2 : Steps p.tables e below (s₁.setTop (entryFrame m #[.ref a, .ref b] 2)) (s₁.setTop (mkF m 6 #[.val (.ref a), .val (.ref b)] [.null, .int (Int32.ofNat A.slots.size), .int 0, .ref b, .ref a])) := c1.trans (by
    refine XS.aloadN X0.here hexec rfl (hb hbytes d0) rfl rfl ?_
    refine XS.aloadN X0.here hexec rfl (hb hbytes d1) rfl rfl ?_
    refine iconstV X0.here hexec rfl 0 (hb hbytes d2) (by decide) ?_
    refine XS.aloadN X0.here hexec rfl (hb hbytes d3) rfl rfl ?_
    refine X0.alen hexec (hA.1.mv X0.warmed.alike hh0) rfl rfl (hb hbytes d4) ?_
    refine XS.aconstNull X0.here hexec rfl (hb hbytes d5) ?_
    exact Steps.refl _)
  obtain ⟨v3, T3, X3, E3, g3⟩ := X0.callN hexec (New4.law l a D fV fC b A z 0 A.slots.size) rfl hown (wks W (initW "java/lang/String" 27 New4.yN)) (W New4.tab (by simp only [site, List.mem_cons, List.mem_append, true_or, or_true])) (W := 0) (Nat.le_of_ble_eq_true rfl) (Nat.le_of_ble_eq_true rfl) (Nat.le_refl _) (by show 0 + A.slots.size ≤ A.slots.size; omega) (g := (mkF m 6 #[.val (.ref a), .val (.ref b)] [.null, .int (Int32.ofNat A.slots.size), .int (Int32.ofNat 0), .ref b, .ref a])) rfl (by rw [hml]; rfl) c2 (argsL := [.ref b, .int (Int32.ofNat 0), .int (Int32.ofNat A.slots.size), .null]) (rest := []) rfl rfl (by show 2 * 0 + 0 ≤ _; decide) (hb hbytes d6) (⟨rfl, hB.mv X0.warmed.alike hh0, f1.al X0.warmed.alike, f2.al X0.warmed.alike, hA.mv X0.warmed.alike hh0, s1.there X0.warmed.alike hh0, hz, l0, by omega, l2, fun i hi => by rw [Nat.zero_add]; exact hp i hi⟩)
  have e0 := Got.mv _ s₁ s _ _ hh0.symm (Vm.Alike.refl _) rfl E3
  obtain rfl := e0.1
  have c4 : Steps p.tables e below (s₁.setTop (entryFrame m #[.ref a, .ref b] 2)) (T3.setTop (mkF m 9 #[.val (.ref a), .val (.ref b)] [])) := g3
  exact ⟨T3, none, _, _, _, X3, by simp, rfl, by omega, (fun _ => rfl), e0, fun fs hl => c4.trans (X3.returnOut hexec hret (hb hbytes d9) hl)⟩
theorem pays {l : Launch} {R : Room} {p : Program} {e : Env} {below : List Frame} {s : State} {sargs : Array Value} {len W : Nat} (a : Addr) (D : Cell) (fV fC : Field) (b : Addr) (A : Cell) (z : Int32) (htab : tab.before sargs s = true) (hfr : 4 ≤ R.frames) (hlo : W + 65 ≤ R.locals) :
    Back l R p e below s sargs yN len W (fun A₁ a₁ => A₁.cells + 1 ≤ R.cells ∧ A₁.slots + A.slots.size ≤ R.slots ∧ P a D fV fC b A z a₁ A₁.U) (fun A₁ _ v₁ B₁ => E a D fV fC A v₁ A₁.U B₁.U ∧ B₁.locs = A₁.locs ++ [⟨a, fC.slot⟩, ⟨a, fV.slot⟩] ∧ B₁.cells = A₁.cells + 1 ∧ B₁.slots = A₁.slots + A.slots.size) :=
  (law l a D fV fC b A z).pays htab hfr (by omega)
end New1
/-- the byte, read back as charAt reads it, is the char -/
theorem lo8_mask {x : Int32} (h0 : ¬ x < 0) (h1 : ¬ 255 < x) : lo8 x &&& 255 = x := by
  have t : ∀ k : Fin 256, lo8 (Int32.ofNat k.val) &&& 255 = Int32.ofNat k.val := by decide +kernel
  rw [Int32.lt_iff_toInt_lt] at h0 h1
  have e0 : (0 : Int32).toInt = 0 := rfl
  have e1 : (255 : Int32).toInt = 255 := rfl
  obtain ⟨k, hk⟩ : ∃ k : Nat, x.toInt = k := ⟨x.toInt.toNat, by omega⟩
  have hx : x = Int32.ofNat k := Int32.toInt_inj.mp (by rw [hk, Int32.toInt_ofNat_small (by omega)])
  rw [hx]
  exact t ⟨k, by omega⟩
end StrChars
namespace StrChars.Road
open Jvm Sem ClassFile Op Lib Jvm.Stand Jvm.Free Jvm.Free.XT
open Jvm.Lib.Cold (StaticIs)
abbrev ST : String := "java/lang/String"
/-- every table word that New1's law asks, flat -/
abbrev words : List Jvm.Cond := [.code New1.yN New1.yB 2 none, .initialized ST, .methodLink ST 27 New4.yN, .instanceMethod New4.yN,
  .code New4.yN New4.yB 6 none, .fieldLink ST 38 ST "COMPACT_STRINGS" "Z", .laysFinal ST ST "value" "[B", .fieldLink ST 9 ST "value" "[B", .laysFinal ST ST "coder" "B", .fieldLink ST 15 ST "coder" "B",
  .methodLink ST 1 Lib.objectInit, .instanceMethod Lib.objectInit, .code Lib.objectInit ⟨#[0xb1]⟩ 1 none, .methodLink ST 177 Cmp3.yN, .static Cmp3.yN, .methodLink ST 47 CodL.yN, .static CodL.yN,
  .code Cmp3.yN Cmp3.yB 6 (some (.array .byte)), .initialized U16, .arrayClass .byte, .methodLink U16 115 Cmp5.yN, .static Cmp5.yN, .code Cmp5.yN Cmp5.yB 7 (some .int), .code CodL.yN CodL.yB 2 (some .byte)]
theorem tab_of {a : Array Value} {s : State} (h : ∀ w ∈ words, w.before a s = true) : New1.tab.before a s = true := by
  have h5 : Cmp5.tab.before a s = true := unparts (wk h (.code Cmp5.yN Cmp5.yB 7 (some .int))) (wks h (.initialized Cmp5.yN.cls :: Cmp5.site))
  have hc : CodL.tab.before a s = true := unparts (wk h (.code CodL.yN CodL.yB 2 (some .byte))) (wks h (.initialized CodL.yN.cls :: CodL.site))
  have q5 : ∀ w ∈ Cmp5.tab :: words, w.before a s = true := fun w hw => (List.mem_cons.mp hw).elim (fun e => e ▸ h5) (h w)
  have h3 : Cmp3.tab.before a s = true := unparts (wk q5 (.code Cmp3.yN Cmp3.yB 6 (some (.array .byte)))) (wks q5 (.initialized Cmp3.yN.cls :: Cmp3.site))
  have q3 : ∀ w ∈ Cmp3.tab :: CodL.tab :: words, w.before a s = true := fun w hw => (List.mem_cons.mp hw).elim (fun e => e ▸ h3) fun hw => (List.mem_cons.mp hw).elim (fun e => e ▸ hc) (h w)
  have h4 : New4.tab.before a s = true := unparts (wk q3 (.code New4.yN New4.yB 6 none)) (wks q3 (.initialized New4.yN.cls :: New4.site))
  have q4 : ∀ w ∈ New4.tab :: words, w.before a s = true := fun w hw => (List.mem_cons.mp hw).elim (fun e => e ▸ h4) (h w)
  exact unparts (wk q4 (.code New1.yN New1.yB 2 none)) (wks q4 (.initialized New1.yN.cls :: New1.site))
/-- the words ride from the start Z to the walk's own state -/
theorem moved {Z s : State} {a0 args : Array Value} (hZ : Z.Warmed39 s.vm) (hw : ∀ d ∈ words, d.before a0 Z = true) : ∀ d ∈ words, d.before args s = true := fun d hd => by
  have q := hw d hd
  have t : ∀ d ∈ words, d = .arrayClass .byte ∨ (d.onTables && d.keepsFace) = true := by decide +kernel
  rcases t d hd with rfl | t
  · exact RoadKit.mvA hZ q
  · exact RoadKit.mv hZ q t
/-- WHAT COMES BACK, over the tables of the start Z: h the heap at the call, h' behind it -/
def Q (Z : State) (x : Addr) (A : Cell) (h : Heap) (v : Option Value) (h' : Heap) (L : List Loc) : Prop := v = none ∧ (∀ y ∈ L, y.base = x) ∧ RoadKit.Keep h h' [x] ∧ h'.size = h.size + 1 ∧ RoadKit.Exa Z h' x ST ∧ RoadKit.Fld Z h' x ST "value" "[B" (.ref h.size) ∧ RoadKit.Fld Z h' x ST "coder" "B" (.int 0) ∧
  (∃ V : Cell, RoadKit.Arr Z h' h.size V .byte ∧ V.vm = .none ∧ Z.vm.findClass "[B" = some V.cls ∧ V.slots.size = A.slots.size ∧ ∀ j, j < A.slots.size → V.slots[j]? = some (.int (lo8 (cv A j)))) ∧
  ∀ (O n d : String) (w : Value), RoadKit.Fld Z h x O n d w → RoadKit.slotOf Z O n d ≠ RoadKit.slotOf Z ST "value" "[B" → RoadKit.slotOf Z O n d ≠ RoadKit.slotOf Z ST "coder" "B" → RoadKit.Fld Z h' x O n d w
/-- **new String(chars) AT A CALL, IN THE ROAD'S FORM**: for specialBack behind newO: x the fresh String, b the char[] with the cell A -/
theorem back {p : Program} {l : Launch} {e : Env} {R : Room} {s : State} {args : Array Value} {below : List Frame} {len W : Nat} {Z : State} {a0 : Array Value} {h : Heap} (hZ : Z.Warmed39 s.vm) (hw : ∀ d ∈ words, d.before a0 Z = true) {kI : Nat} (wi : (Jvm.Cond.instantiable ST kI).before a0 Z = true)
    {x b : Addr} {A : Cell} {z : Int32} {v0 c0 : Value} (E : RoadKit.Exa Z h x ST) (V : RoadKit.Fld Z h x ST "value" "[B" v0) (C : RoadKit.Fld Z h x ST "coder" "B" c0) (K : RoadKit.Arr Z h b A .char) (hty : Typed .char A) (S : RoadKit.Sta Z h ST "COMPACT_STRINGS" "Z" (.int z)) (hz : ¬ z = 0)
    (l0 : 0 < A.slots.size) (l2 : A.slots.size ≤ 536870912) (hp : ∀ i, i < A.slots.size → ¬ 255 < cv A i) (hfr : 4 ≤ R.frames) (hlo : W + 65 ≤ R.locals) :
    Back l R p e below s args New1.yN len W (fun P a => a = #[.ref x, .ref b] ∧ P.U.heap = h ∧ P.cells + 1 ≤ R.cells ∧ P.slots + A.slots.size ≤ R.slots)
      (fun P _ v B => ∃ L, Q Z x A h v B.U.heap L ∧ B.locs = P.locs ++ L ∧ B.cells = P.cells + 1 ∧ B.slots = P.slots + A.slots.size) := by
  intro m meth c P g ig mk a X hg hsize hdg hW hn hp'
  obtain ⟨rfl, rfl, r1, r2⟩ := hp'
  have al : Z.vm.Alike P.U.vm := hZ.alike.trans X.warmed.alike
  obtain ⟨D, cfV, kV, iV, fV, hD, gV, stV, knV, obV, asV, slV⟩ := id V
  obtain ⟨D', cfC, kC, iC, fC, hD', gC, stC, -, -, asC, slC⟩ := id C
  cases hD.symm.trans hD'
  obtain ⟨D2, kD, e1, e2, e3, e4, e5⟩ := id E
  cases hD.symm.trans e1
  obtain ⟨c2, k2, i1, i2, i3, -⟩ := Cond.instantiable_spec wi
  cases e2.symm.trans i1
  cases e3.symm.trans i2
  obtain ⟨kU, u1, u2⟩ := al.2.2 _ _ e3
  have hB : Blank ST x D P.U := ⟨hD, ⟨knV, fun q hq => by rw [hq] at obV; cases obV⟩, by rw [al.findClass]; exact e2, kU, u1, by rw [u2]; exact i3, by rw [u2]; exact e5 i3⟩
  have F1 : Found ST "value" "[B" fV P.U := ⟨SBG.found_only al ⟨cfV, kV, iV, gV⟩, stV⟩
  have F2 : Found ST "coder" "B" fC P.U := ⟨SBG.found_only al ⟨cfC, kC, iC, gC⟩, stC⟩
  have hA : Ch b A P.U := ⟨⟨K.1, State.isArrayOf_alike al K.2.1, K.2.2, by omega⟩, hty⟩
  have hS : StaticIs P.U ST "COMPACT_STRINGS" "Z" (.int z) := by
    obtain ⟨cfS, iS, kS, fS, st, cS, t1, t2, t3, t4, t5, t6, t7⟩ := S
    exact StaticIs.there (s := { Z with heap := P.U.heap }) ⟨cfS, iS, kS, fS, st, cS, t1, t2, t3, t4, t5, (fun q => by rw [q] at t6; cases t6), t7⟩ al rfl
  obtain ⟨v, B, X', ⟨⟨hv, E', V', q1, q2, q3, q4, q5, q6, q7, q8, q9, q10, q11⟩, hl, hc, hs⟩, st⟩ := New1.pays x D fV fC b A z (tab_of (moved hZ hw)) hfr hlo m meth c P g ig mk _ X hg hsize hdg hW hn ⟨r1, r2, rfl, hB, F1, F2, hA, hS, hz, l0, l2, hp⟩
  have al' : Z.vm.Alike B.U.vm := hZ.alike.trans X'.warmed.alike
  have hsz : E'.slots.size = D.slots.size := by
    obtain ⟨-, -, -, kB, w1, w2, w3⟩ := q1
    obtain ⟨kB', y1, y2⟩ := al'.2.2 _ _ e3
    rw [q2.2.1] at w1
    cases w1.symm.trans y1
    rw [w3, e5 i3, y2]
  refine ⟨v, B, X', ⟨_, ⟨hv, ?_, ⟨by omega, fun y cy hy hn' => q10 y cy (by simpa using hn') hy, fun y cy hy => ?_⟩, q11, ⟨E', _, q1.1, by rw [q2.2.1]; exact e2, by rw [q2.2.1]; exact e3, by rw [q2.1]; exact obV, fun _ => by rw [hsz]; exact e5 i3⟩,
    ⟨E', cfV, kV, iV, fV, q1.1, gV, stV, by rw [q2.1]; exact knV, by rw [q2.1]; exact obV, by rw [q2.2.1]; exact asV, q3⟩, ⟨E', cfC, kC, iC, fC, q1.1, gC, stC, by rw [q2.1]; exact knV, by rw [q2.1]; exact obV, by rw [q2.2.1]; exact asC, q4⟩,
    ⟨V', ⟨q5.1, State.isArrayOf_alike al'.symm q5.2.1, q5.2.2.1⟩, q6, by rw [← al'.findClass]; exact q7, q8, fun j hj => by have := q9 j hj; rwa [Nat.zero_add] at this⟩, fun O n d w F n1 n2 => ?_⟩, hl, hc, hs⟩, st⟩
  · intro y hy
    simp only [List.mem_cons, List.not_mem_nil, or_false] at hy
    rcases hy with rfl | rfl <;> rfl
  · by_cases q : y = x
    · subst q
      cases hD.symm.trans hy
      exact ⟨E', q1.1, q2.2.1, q2.1, hsz⟩
    · exact ⟨cy, q10 y cy q hy, rfl, rfl, rfl⟩
  · obtain ⟨D3, cf, k, i, f, g1, g2, g3, g4, g5, g6, g7⟩ := F
    cases hD.symm.trans g1
    simp only [RoadKit.slotOf, g2, gV, gC, Option.map_some, Option.getD_some] at n1 n2
    exact ⟨E', cf, k, i, f, q1.1, g2, g3, by rw [q2.1]; exact g4, by rw [q2.1]; exact g5, by rw [q2.2.1]; exact g6, by rw [q2.2.2 f.slot (by simp [n1, n2])]; exact g7⟩
end StrChars.Road
namespace StrChars.Road
open Jvm Sem ClassFile Op Lib Jvm.Stand Jvm.Free Jvm.Free.XT
/-- WHAT COMES BACK, the byte[] as a list of values -/
def QA (Z : State) (x : Addr) (zn : Int32) (cs : List Int32) (h : Heap) (v : Option Value) (h' : Heap) (L : List Loc) : Prop := v = none ∧ (∀ y ∈ L, y.base = x) ∧ RoadKit.Keep h h' [x] ∧ h'.size = h.size + 1 ∧ RoadKit.Exa Z h' x ST ∧ RoadKit.Fld Z h' x ST "value" "[B" (.ref h.size) ∧ RoadKit.Fld Z h' x ST "coder" "B" (.int 0) ∧
  (∃ kb, Z.vm.findClass "[B" = some kb ∧ RoadKit.Arv Z h' h.size kb .byte zn (cs.map fun c => .int (lo8 c)) (.int 0)) ∧
  ∀ (O n d : String) (w : Value), RoadKit.Fld Z h x O n d w → RoadKit.slotOf Z O n d ≠ RoadKit.slotOf Z ST "value" "[B" → RoadKit.slotOf Z O n d ≠ RoadKit.slotOf Z ST "coder" "B" → RoadKit.Fld Z h' x O n d w
/-- **new String(chars) AT A CALL, THE ARRAYS AS LISTS**: the char[] at b holds cs, not empty, no char above 255 -/
theorem backArv {p : Program} {l : Launch} {e : Env} {R : Room} {s : State} {args : Array Value} {below : List Frame} {len W : Nat} {Z : State} {a0 : Array Value} {h : Heap} (hZ : Z.Warmed39 s.vm) (hw : ∀ d ∈ words, d.before a0 Z = true) {kI : Nat} (wi : (Jvm.Cond.instantiable ST kI).before a0 Z = true)
    {x b : Addr} {k : ClassId} {zn z : Int32} {cs : List Int32} {dv v0 c0 : Value} (E : RoadKit.Exa Z h x ST) (V : RoadKit.Fld Z h x ST "value" "[B" v0) (C : RoadKit.Fld Z h x ST "coder" "B" c0) (K : RoadKit.Arv Z h b k .char zn (cs.map Value.int) dv) (S : RoadKit.Sta Z h ST "COMPACT_STRINGS" "Z" (.int z)) (hz : ¬ z = 0)
    (hlen : zn.toNatClampNeg = cs.length) (h0 : 0 < cs.length) (hbig : cs.length ≤ 536870912) (hall : ∀ c ∈ cs, ¬ 255 < c) (hfr : 4 ≤ R.frames) (hlo : W + 65 ≤ R.locals) :
    Back l R p e below s args New1.yN len W (fun P a => a = #[.ref x, .ref b] ∧ P.U.heap = h ∧ P.cells + 1 ≤ R.cells ∧ P.slots + cs.length ≤ R.slots)
      (fun P _ v B => ∃ L, QA Z x zn cs h v B.U.heap L ∧ B.locs = P.locs ++ L ∧ B.cells = P.cells + 1 ∧ B.slots = P.slots + cs.length) := by
  obtain ⟨A, K1, K2, K3, K4, K5, K6⟩ := K
  have e : A.slots.size = cs.length := K3.trans hlen
  have hat : ∀ (i : Nat) (hi : i < cs.length), A.slots[i]? = some (.int cs[i]) := fun i hi => by rw [K5 i (by omega)]; simp [List.getD_eq_getElem?_getD, hi]
  have hcv : ∀ (i : Nat) (hi : i < cs.length), cv A i = cs[i] := fun i hi => by unfold cv; rw [hat i hi]
  have hty : Typed .char A := fun i v hv => by
    have hi : i < A.slots.size := (Array.getElem?_eq_some_iff.mp hv).1
    have q := K5 i hi
    rw [hv] at q
    rw [Option.some.inj q]
    exact K6 i hi
  refine Back.mono (back hZ hw wi E V C K1 hty S hz (by omega) (by omega) (fun i hi => by rw [hcv i (by omega)]; exact hall _ (List.getElem_mem _)) hfr hlo) (fun P a hp => ⟨hp.1, hp.2.1, hp.2.2.1, by rw [e]; exact hp.2.2.2⟩) (fun P a v B hp hq => ?_)
  obtain ⟨L, ⟨q1, q2, q3, q4, q5, q6, q7, ⟨V', v1, v2, v3, v4, v5⟩, q9⟩, hl, hc, hs⟩ := hq
  refine ⟨L, ⟨q1, q2, q3, q4, q5, q6, q7, ⟨V'.cls, v3, V', v1, rfl, by rw [v4, e, hlen], K4, fun i hi => ?_, fun i hi => ?_⟩, q9⟩, hl, hc, by rw [hs, e]⟩
  · have hi' : i < cs.length := by omega
    rw [v5 i (by omega), hcv i hi']; simp [List.getD_eq_getElem?_getD, hi']
  · have hi' : i < cs.length := by omega
    simp only [List.getD_eq_getElem?_getD, List.getElem?_map, List.getElem?_eq_getElem hi', Option.map_some, Option.getD_some]
    exact fits_lo8 _
end StrChars.Road
namespace StrChars.Road
open Jvm Sem ClassFile Op Lib Jvm.Stand Jvm.Free Jvm.Free.XT
/-- WHAT COMES BACK, in the writer's own shape -/
def QV (Z : State) (x : Addr) (N : Int32) (bs : List Int32) (h : Heap) (n0 : Nat) (v : Option Value) (h' : Heap) (L : List Loc) : Prop := v = none ∧ RoadKit.Fr n0 L ∧ RoadKit.Keep h h' [x] ∧ RoadKit.Exa Z h' x ST ∧ RoadKit.Fld Z h' x ST "coder" "B" (.int 0) ∧
  ∃ (t : Addr) (kb : ClassId), n0 ≤ t ∧ h.size ≤ t ∧ ¬ t = x ∧ RoadKit.Fld Z h' x ST "value" "[B" (.ref t) ∧ RoadKit.Arv Z h' t kb .byte N (bs.map Value.int) (.int 0)
/-- **new String(chars) AT A CALL, FOR THE WRITER**: a char[] of n known ints, each 0 to 255 -/
theorem backV {p : Program} {l : Launch} {e : Env} {R : Room} {s : State} {args : Array Value} {below : List Frame} {len W : Nat} {Z : State} {a0 : Array Value} {h : Heap} (hZ : Z.Warmed39 s.vm) (hw : ∀ d ∈ words, d.before a0 Z = true) {kI : Nat} (wi : (Jvm.Cond.instantiable ST kI).before a0 Z = true)
    {x b : Addr} {kC : ClassId} {cs bs : List Int32} {d v0 c0 : Value} {z N : Int32} {n n0 : Nat} (hx0 : n0 ≤ x) (hh0 : n0 ≤ h.size) (E : RoadKit.Exa Z h x ST) (V : RoadKit.Fld Z h x ST "value" "[B" v0) (C : RoadKit.Fld Z h x ST "coder" "B" c0) (K : RoadKit.Arv Z h b kC .char N (cs.map Value.int) d) (S : RoadKit.Sta Z h ST "COMPACT_STRINGS" "Z" (.int z)) (hz : ¬ z = 0)
    (hn : cs.length = n) (hN : N = Int32.ofNat n) (l0 : 0 < n) (l2 : n ≤ 4000) (hp : ∀ c ∈ cs, ¬ c < 0 ∧ ¬ (255 : Int32) < c) (hb : bs = cs.map (fun c => c.toInt8.toInt32)) (hfr : 4 ≤ R.frames) (hlo : W + 65 ≤ R.locals) :
    Back l R p e below s args (⟨"java/lang/String", "<init>", "([C)V"⟩ : MethodName) len W (fun P a => a = #[.ref x, .ref b] ∧ P.U.heap = h ∧ P.cells + 1 ≤ R.cells ∧ P.slots + n ≤ R.slots)
      (fun P _ v B => ∃ L, QV Z x N bs h n0 v B.U.heap L ∧ B.locs = P.locs ++ L ∧ B.cells = P.cells + 1 ∧ B.slots = P.slots + n) := by
  subst hn hN hb
  refine Back.mono (backArv hZ hw wi E V C K S hz (n32 (by omega)) l0 (by omega) (fun c hc => (hp c hc).2) hfr hlo) (fun P a hp => hp) (fun P a v B hp hq => ?_)
  obtain ⟨L, ⟨q1, q2, q3, q4, q5, q6, q7, ⟨kb, v1, v2⟩, q9⟩, hl, hc, hs⟩ := hq
  exact ⟨L, ⟨q1, fun y hy => by rw [q2 y hy]; exact hx0, q3, q5, q7, h.size, kb, hh0, Nat.le_refl _, Nat.ne_of_gt E.lt, q6, by rw [List.map_map]; exact v2⟩, hl, hc, hs⟩
end StrChars.Road
namespace StrChars
open Jvm Sem ClassFile Op Lib Jvm.Stand Jvm.Free.XT Jvm.Free.ALB Jvm.Free.JM Jvm.Free
open Jvm.Lib.Cold (StaticIs)
def hi8 (x : Int32) : Int32 := lo8 (x >>> ((8 : Int32) &&& 31))
/-- what StringUTF16.getChar makes of two bytes -/
def pairCh (u v : Int32) : Int32 := (((u &&& 255) <<< ((0 : Int32) &&& 31)) ||| ((v &&& 255) <<< ((8 : Int32) &&& 31))).toUInt32.toUInt16.toUInt32.toInt32
theorem lo8_and (x : Int32) : (lo8 x &&& 255).toBitVec.toNat = x.toBitVec.toNat % 256 := by
  have h : (lo8 x).toBitVec = (x.toBitVec.signExtend 8).signExtend 32 := by rw [lo8, Int8.toBitVec_toInt32, Int32.toBitVec_toInt8]
  rw [Int32.toBitVec_and, BitVec.toNat_and, h]
  have e : ((x.toBitVec.signExtend 8).signExtend 32).toNat % 256 = x.toBitVec.toNat % 256 := by
    rw [BitVec.toNat_signExtend]
    have hlt := x.toBitVec.isLt
    simp only [BitVec.toNat_setWidth, BitVec.toNat_signExtend]
    split <;> split <;> omega
  rw [← e]
  exact Nat.and_two_pow_sub_one_eq_mod _ 8
theorem pair_says {c : Int32} (h0 : ¬ c < 0) (h1 : ¬ 65535 < c) : pairCh (lo8 c) (hi8 c) = c := by
  rw [Int32.lt_iff_toInt_lt] at h0 h1
  have e0 : (0 : Int32).toInt = 0 := rfl
  have e1 : (65535 : Int32).toInt = 65535 := rfl
  have hc : c.toInt = c.toBitVec.toNat := by
    have := c.toBitVec.isLt
    have e : c.toInt = c.toBitVec.toInt := rfl
    rw [e] at h0 h1
    rw [e]
    rw [BitVec.toInt_eq_toNat_cond] at h0 h1 ⊢
    split at h0 <;> split <;> omega
  have hn : c.toBitVec.toNat < 65536 := by omega
  have a1 := lo8_and c
  have a2 : (hi8 c &&& 255).toBitVec.toNat = c.toBitVec.toNat / 256 := by
    rw [hi8, lo8_and]
    have e : ((8 : Int32) &&& 31) = 8 := by decide
    rw [e, Int32.toBitVec_shiftRight]
    have e2 : ((8 : Int32).toBitVec.smod 32) = 8#32 := by decide
    rw [e2, BitVec.sshiftRight_eq', BitVec.toNat_sshiftRight_of_msb_false (by rw [BitVec.msb_eq_false_iff_two_mul_lt]; omega)]
    show c.toBitVec.toNat >>> 8 % 256 = _
    rw [Nat.shiftRight_eq_div_pow]
    omega
  unfold pairCh
  apply Int32.toBitVec_inj.mp
  apply BitVec.eq_of_toNat_eq
  have f0 : ((0 : Int32) &&& 31) = 0 := by decide
  have f8 : ((8 : Int32) &&& 31) = 8 := by decide
  rw [f0, f8]
  have g : (((lo8 c &&& 255) <<< (0 : Int32)) ||| ((hi8 c &&& 255) <<< (8 : Int32))).toBitVec.toNat = c.toBitVec.toNat := by
    rw [Int32.toBitVec_or, Int32.toBitVec_shiftLeft, Int32.toBitVec_shiftLeft]
    have s0 : ((0 : Int32).toBitVec.smod 32) = 0#32 := by decide
    have s8 : ((8 : Int32).toBitVec.smod 32) = 8#32 := by decide
    rw [s0, s8, BitVec.toNat_or]
    simp only [BitVec.shiftLeft_eq', BitVec.toNat_shiftLeft, a1, a2]
    show (c.toBitVec.toNat % 256) <<< 0 % 2 ^ 32 ||| (c.toBitVec.toNat / 256) <<< 8 % 2 ^ 32 = _
    rw [Nat.shiftLeft_zero, Nat.mod_eq_of_lt (show c.toBitVec.toNat % 256 < 2 ^ 32 by omega), Nat.mod_eq_of_lt (show (c.toBitVec.toNat / 256) <<< 8 < 2 ^ 32 by rw [Nat.shiftLeft_eq]; omega), Nat.or_comm, ← Nat.shiftLeft_add_eq_or_of_lt (by omega), Nat.shiftLeft_eq]
    omega
  show BitVec.toNat (((((lo8 c &&& 255) <<< (0 : Int32)) ||| ((hi8 c &&& 255) <<< (8 : Int32))).toBitVec.setWidth 16).setWidth 32) = _
  rw [BitVec.toNat_setWidth, BitVec.toNat_setWidth, g]
  omega
end StrChars
namespace StrChars
open Jvm Sem ClassFile Op Lib Jvm.Stand Jvm.Free.XT Jvm.Free.ALB Jvm.Free.JM Jvm.Free
open Jvm.Lib.Cold (StaticIs)
/-- the array's cell V codes the n chars f 0 .. f (n - 1) by the coder cd, as the JDK does: coder 1 just where some char is above 255 -/
def Cod (cd : Int32) (n : Nat) (f : Nat → Int32) (V : Cell) : Prop := (cd = 0 ∧ V.slots.size = n ∧ ∀ j, j < n → V.slots[j]? = some (.int (lo8 (f j))) ∧ ¬ 255 < f j) ∨ (cd = 1 ∧ V.slots.size = 2 * n ∧ (∀ j, j < n → V.slots[2 * j]? = some (.int (lo8 (f j))) ∧ V.slots[2 * j + 1]? = some (.int (hi8 (f j)))) ∧ ∃ j, j < n ∧ 255 < f j)
/-- **x is a String of the n chars f 0 .. f (n - 1)**, Latin-1 or UTF-16; its array at t has the cell V -/
def Txt (x t : Addr) (V : Cell) (cd : Int32) (n : Nat) (f : Nat → Int32) (U : State) : Prop := Exact "java/lang/String" x U ∧ Has x "java/lang/String" "value" "[B" (.ref t) U ∧ Has x "java/lang/String" "coder" "B" (.int cd) U ∧ XT.Arr .byte t V U ∧ Cod cd n f V ∧ ∀ j, j < n → ¬ f j < 0 ∧ ¬ 65535 < f j
theorem Txt.mv {x t : Addr} {V : Cell} {cd : Int32} {n : Nat} {f : Nat → Int32} {U U' : State} (h : Txt x t V cd n f U) (hal : U.vm.Alike U'.vm) (hh : U'.heap = U.heap) : Txt x t V cd n f U' := ⟨h.1.mv hal hh, h.2.1.mv hal hh, h.2.2.1.mv hal hh, h.2.2.2.1.mv hal hh, h.2.2.2.2⟩
end StrChars
namespace StrChars.Road
open Jvm Sem ClassFile Op Lib Jvm.Stand Jvm.Free Jvm.Free.XT
open Jvm.Lib.Cold (StaticIs)
theorem consq {a : Array Value} {s : State} {c : Jvm.Cond} {L : List Jvm.Cond} (h0 : c.before a s = true) (h : ∀ w ∈ L, w.before a s = true) : ∀ w ∈ c :: L, w.before a s = true := fun w hw => (List.mem_cons.mp hw).elim (fun e => e ▸ h0) (h w)
/-- the bytes of the chars cs, low before high -/
def wideBytes : List Int32 → List Value
  | [] => []
  | c :: cs => .int (lo8 c) :: .int (hi8 c) :: wideBytes cs
theorem wide_lo (d : Value) : ∀ (cs : List Int32) (j : Nat), j < cs.length → (wideBytes cs).getD (2 * j) d = .int (lo8 (cs.getD j 0))
  | [], j, h => absurd h (Nat.not_lt_zero j)
  | c :: cs, 0, _ => rfl
  | c :: cs, j + 1, h => by
    have q := wide_lo d cs j (by simpa using h)
    rw [show 2 * (j + 1) = 2 * j + 1 + 1 from by omega]
    simpa [wideBytes] using q
theorem wide_hi (d : Value) : ∀ (cs : List Int32) (j : Nat), j < cs.length → (wideBytes cs).getD (2 * j + 1) d = .int (hi8 (cs.getD j 0))
  | [], j, h => absurd h (Nat.not_lt_zero j)
  | c :: cs, 0, _ => rfl
  | c :: cs, j + 1, h => by
    have q := wide_hi d cs j (by simpa using h)
    rw [show 2 * (j + 1) + 1 = 2 * j + 1 + 1 + 1 from by omega]
    simpa [wideBytes] using q
theorem low_at (d : Value) (cs : List Int32) (j : Nat) (h : j < cs.length) : (cs.map fun c => Value.int (lo8 c)).getD j d = .int (lo8 (cs.getD j 0)) := by
  simp [List.getD_eq_getElem?_getD, h]
/-- an array of N2 bytes vs codes the chars cs by the coder cd -/
def CodA (cs : List Int32) (cd N2 : Int32) (vs : List Value) : Prop := (cd = 0 ∧ N2 = Int32.ofNat cs.length ∧ vs = (cs.map fun c => Value.int (lo8 c)) ∧ ∀ c ∈ cs, ¬ 255 < c) ∨ (cd = 1 ∧ N2 = Int32.ofNat (2 * cs.length) ∧ vs = wideBytes cs ∧ ∃ c ∈ cs, 255 < c)
theorem CodA.cod {cs : List Int32} {cd N2 : Int32} {vs : List Value} {V : Cell} (h : CodA cs cd N2 vs) (hn : 2 * cs.length < 2 ^ 31) (hs : V.slots.size = N2.toNatClampNeg) (hv : RoadKit.Has V vs (.int 0)) : Cod cd cs.length (fun j => cs.getD j 0) V := by
  rcases h with ⟨rfl, rfl, rfl, h⟩ | ⟨rfl, rfl, rfl, c, hc, hw⟩
  · rw [n32 (by omega)] at hs
    exact Or.inl ⟨rfl, hs, fun j hj => ⟨by rw [hv j (by omega), low_at _ _ _ hj], by
      have e : cs.getD j 0 = cs[j] := by simp [List.getD_eq_getElem?_getD, hj]
      show ¬ 255 < cs.getD j 0
      rw [e]; exact h _ (List.getElem_mem _)⟩⟩
  · rw [n32 (by omega)] at hs
    obtain ⟨j, hj, rfl⟩ := List.getElem_of_mem hc
    exact Or.inr ⟨rfl, hs, fun j hj => ⟨by rw [hv _ (by omega), wide_lo _ _ _ hj], by rw [hv _ (by omega), wide_hi _ _ _ hj]⟩, j, hj, by
      have e : cs.getD j 0 = cs[j] := by simp [List.getD_eq_getElem?_getD, hj]
      show 255 < cs.getD j 0
      rw [e]; exact hw⟩
/-- an object of exactly java/lang/String, its two fields found: as the laws ask it -/
theorem strObj {Z U : State} {a0 : Array Value} {kI : Nat} (wi : (Jvm.Cond.instantiable ST kI).before a0 Z = true) (al : Z.vm.Alike U.vm) {x : Addr} {v0 c0 : Value} (E : RoadKit.Exa Z U.heap x ST) (V : RoadKit.Fld Z U.heap x ST "value" "[B" v0) (C : RoadKit.Fld Z U.heap x ST "coder" "B" c0) :
    ∃ (D : Cell) (fV fC : Field), Blank ST x D U ∧ Found ST "value" "[B" fV U ∧ Found ST "coder" "B" fC U ∧ D.slots[fV.slot]? = some v0 ∧ D.slots[fC.slot]? = some c0 ∧ RoadKit.slotOf Z ST "value" "[B" = fV.slot ∧ RoadKit.slotOf Z ST "coder" "B" = fC.slot := by
  obtain ⟨D, cfV, kV, iV, fV, hD, gV, stV, knV, obV, asV, slV⟩ := V
  obtain ⟨D', cfC, kC, iC, fC, hD', gC, stC, -, -, asC, slC⟩ := C
  cases hD.symm.trans hD'
  obtain ⟨D2, kD, e1, e2, e3, e4, e5⟩ := E
  cases hD.symm.trans e1
  obtain ⟨c2, k2, i1, i2, i3, -⟩ := Cond.instantiable_spec wi
  cases e2.symm.trans i1
  cases e3.symm.trans i2
  obtain ⟨kU, u1, u2⟩ := al.2.2 _ _ e3
  exact ⟨D, fV, fC, ⟨hD, ⟨knV, fun q hq => by rw [hq] at obV; cases obV⟩, by rw [al.findClass]; exact e2, kU, u1, by rw [u2]; exact i3, by rw [u2]; exact e5 i3⟩, ⟨SBG.found_only al ⟨cfV, kV, iV, gV⟩, stV⟩, ⟨SBG.found_only al ⟨cfC, kC, iC, gC⟩, stC⟩, slV, slC, by simp [RoadKit.slotOf, gV], by simp [RoadKit.slotOf, gC]⟩
theorem sta_is {Z U : State} (al : Z.vm.Alike U.vm) {C n d : String} {v : Value} (S : RoadKit.Sta Z U.heap C n d v) : StaticIs U C n d v := by
  obtain ⟨cfS, iS, kS, fS, st, cS, t1, t2, t3, t4, t5, t6, t7⟩ := S
  exact StaticIs.there (s := { Z with heap := U.heap }) ⟨cfS, iS, kS, fS, st, cS, t1, t2, t3, t4, t5, (fun q => by rw [q] at t6; cases t6), t7⟩ al rfl
end StrChars.Road
namespace StrChars
open Jvm Sem ClassFile Op Lib Jvm.Stand Jvm.Free.XT Jvm.Free.ALB Jvm.Free.JM Jvm.Free
open Jvm.Lib.Cold (StaticIs)
/-- what place i of a byte[]'s cell holds -/
def yv (A : Cell) (i : Nat) : Int32 := match A.slots[i]? with | some (.int x) => x | _ => 0
theorem yv_get {a : Addr} {A : Cell} {U : State} (h : XT.Arr .byte a A U) (ht : Typed .byte A) {i : Nat} (hi : i < A.slots.size) : A.slots[i]? = some (.int (yv A i)) := by
  have e := Array.getElem?_eq_getElem hi
  have f := ht i _ e
  unfold yv; rw [e]
  generalize A.slots[i] = v at f
  cases v <;> simp [fits] at f ⊢
/-- the two arrays are equal, place for place -/
def EqC (A B : Cell) : Prop := A.slots.size = B.slots.size ∧ ∀ i, i < A.slots.size → yv A i = yv B i
/-- a boolean that says whether p -/
def Says01 (q : Prop) (r : Option Value) (s u : State) : Prop := ∃ v : Int32, r = some (.int v) ∧ u.heap = s.heap ∧ ((v = 1 ∧ q) ∨ (v = 0 ∧ ¬ q))
theorem Says01.mv {q : Prop} : ∀ r (U U' V V' : State), U'.heap = U.heap → V.vm.Alike V'.vm → V'.heap = V.heap → Says01 q r U V → Says01 q r U' V' :=
  fun r U U' V V' h1 _ h2 ⟨v, a, b, c⟩ => ⟨v, a, by rw [h1, h2]; exact b, c⟩
namespace LEq
def yN : MethodName := ⟨"java/lang/StringLatin1", "equals", "([B[B)Z"⟩
abbrev yB : ByteArray := jdk_43_method_13_code
theorem d0 : decode yB 0 = .ok (.aload_n 0, 1) := by decide +kernel
theorem d1 : decode yB 1 = .ok (.arraylength, 1) := by decide +kernel
theorem d2 : decode yB 2 = .ok (.aload_n 1, 1) := by decide +kernel
theorem d3 : decode yB 3 = .ok (.arraylength, 1) := by decide +kernel
theorem d4 : decode yB 4 = .ok (.if_icmp (.ne) 30, 3) := by decide +kernel
theorem d7 : decode yB 7 = .ok (.iconst 0, 1) := by decide +kernel
theorem d8 : decode yB 8 = .ok (.istore_n 2, 1) := by decide +kernel
theorem d9 : decode yB 9 = .ok (.iload_n 2, 1) := by decide +kernel
theorem d10 : decode yB 10 = .ok (.aload_n 0, 1) := by decide +kernel
theorem d11 : decode yB 11 = .ok (.arraylength, 1) := by decide +kernel
theorem d12 : decode yB 12 = .ok (.if_icmp (.ge) 20, 3) := by decide +kernel
theorem d15 : decode yB 15 = .ok (.aload_n 0, 1) := by decide +kernel
theorem d16 : decode yB 16 = .ok (.iload_n 2, 1) := by decide +kernel
theorem d17 : decode yB 17 = .ok (.baload, 1) := by decide +kernel
theorem d18 : decode yB 18 = .ok (.aload_n 1, 1) := by decide +kernel
theorem d19 : decode yB 19 = .ok (.iload_n 2, 1) := by decide +kernel
theorem d20 : decode yB 20 = .ok (.baload, 1) := by decide +kernel
theorem d21 : decode yB 21 = .ok (.if_icmp (.eq) 5, 3) := by decide +kernel
theorem d24 : decode yB 24 = .ok (.iconst 0, 1) := by decide +kernel
theorem d25 : decode yB 25 = .ok (.ireturn, 1) := by decide +kernel
theorem d26 : decode yB 26 = .ok (.iinc 2 1, 3) := by decide +kernel
theorem d29 : decode yB 29 = .ok (.goto (-20), 3) := by decide +kernel
theorem d32 : decode yB 32 = .ok (.iconst 1, 1) := by decide +kernel
theorem d33 : decode yB 33 = .ok (.ireturn, 1) := by decide +kernel
theorem d34 : decode yB 34 = .ok (.iconst 0, 1) := by decide +kernel
theorem d35 : decode yB 35 = .ok (.ireturn, 1) := by decide +kernel
def site : List Cond := []
def tab : Cond := tabOf yN yB 3 (some .boolean) site
def P (a : Addr) (A : Cell) (b : Addr) (B : Cell) (args : Array Value) (s : State) : Prop := args = #[.ref a, .ref b] ∧ XT.Arr .byte a A s ∧ Typed .byte A ∧ XT.Arr .byte b B s ∧ Typed .byte B
/-- whether two byte[] are equal, place for place -/
theorem law (l : Launch) (a : Addr) (A : Cell) (b : Addr) (B : Cell) : Law l yN 2 2 0 0 yB 3 (some .boolean) site (P a A b B) (Says01 (EqC A B)) [] 0 0 := by
  refine Law.of_walk (plainFor_of_name (by decide +kernel)) (by decide +kernel) (by decide +kernel) (by decide) (fun _ _ h => by rw [h.1]; rfl) (fun _ U U' hal hh h => ⟨h.1, h.2.1.mv hal hh, h.2.2.1, h.2.2.2.1.mv hal hh, h.2.2.2.2⟩) (fun r U U' V V' h1 hal h2 h => Says01.mv r U U' V V' h1 hal h2 h) ?_
  intro p e s m args below meth c s₁ X0 hexec hbytes hml hret hlk hnm hown hh0 W hP
  obtain ⟨rfl, hA, tA, hB, tB⟩ := hP
  have a31 := hA.2.2.2
  have b31 := hB.2.2.2
  have hA0 := hA.mv X0.warmed.alike hh0
  have hB0 := hB.mv X0.warmed.alike hh0
  have c1 : Steps p.tables e below (s₁.setTop (entryFrame m #[.ref a, .ref b] 3)) (s₁.setTop (mkF m 0 #[.val (.ref a), .val (.ref b), .unset] [])) := entry rfl
  have c2 : Steps p.tables e below (s₁.setTop (entryFrame m #[.ref a, .ref b] 3)) (s₁.setTop (mkF m 4 #[.val (.ref a), .val (.ref b), .unset] [.int (Int32.ofNat B.slots.size), .int (Int32.ofNat A.slots.size)])) := c1.trans (by
    refine XS.aloadN X0.here hexec rfl (hb hbytes d0) rfl rfl ?_
    refine X0.alen hexec hA0 rfl rfl (hb hbytes d1) ?_
    refine XS.aloadN X0.here hexec rfl (hb hbytes d2) rfl rfl ?_
    refine X0.alen hexec hB0 rfl rfl (hb hbytes d3) ?_
    exact Steps.refl _)
  by_cases hs : A.slots.size = B.slots.size
  · have c3 : Steps p.tables e below (s₁.setTop (entryFrame m #[.ref a, .ref b] 3)) (s₁.setTop (mkF m 9 #[.val (.ref a), .val (.ref b), .val (.int 0)] [])) := c2.trans (by
      refine XS.icmpNo X0.here hexec rfl (hb hbytes d4) rfl (ii_ne_f (by rw [hs])) ?_
      refine iconstV X0.here hexec rfl 0 (hb hbytes d7) (by decide) ?_
      refine XS.istoreN X0.here hexec rfl (hb hbytes d8) rfl rfl ?_
      exact Steps.refl _)
    have loop : ∀ (r i : Nat), i + r = A.slots.size → (∀ j, j < i → yv A j = yv B j) → Steps p.tables e below (s₁.setTop (entryFrame m #[.ref a, .ref b] 3)) (s₁.setTop (mkF m 9 #[.val (.ref a), .val (.ref b), .val (.int (Int32.ofNat i))] [])) → ∃ (pc : Nat) (Ls : Array Slot) (v : Int32), (pc = 25 ∨ pc = 33) ∧ ((v = 1 ∧ EqC A B) ∨ (v = 0 ∧ ¬ EqC A B)) ∧ Steps p.tables e below (s₁.setTop (entryFrame m #[.ref a, .ref b] 3)) (s₁.setTop (mkF m pc Ls [.int v])) := by
      intro r
      induction r with
      | zero =>
        intro i hi he cl
        exact ⟨33, _, 1, Or.inr rfl, Or.inl ⟨rfl, hs, fun j hj => he j (by omega)⟩, cl.trans (by
          refine XS.iloadN X0.here hexec rfl (hb hbytes d9) rfl ?_
          refine XS.aloadN X0.here hexec rfl (hb hbytes d10) rfl rfl ?_
          refine X0.alen hexec hA0 rfl rfl (hb hbytes d11) ?_
          refine XS.icmpYes X0.here hexec rfl (pc0 := 12) rfl (hb hbytes d12) rfl (ii_ge_t (nlt32 (by omega) (by omega))) (by decide) rfl ?_
          refine iconstV X0.here hexec rfl 1 (hb hbytes d32) (by decide) ?_
          exact Steps.refl _)⟩
      | succ r ih =>
        intro i hi he cl
        have c4 : Steps p.tables e below (s₁.setTop (entryFrame m #[.ref a, .ref b] 3)) (s₁.setTop (mkF m 21 #[.val (.ref a), .val (.ref b), .val (.int (Int32.ofNat i))] [.int (yv B i), .int (yv A i)])) := cl.trans (by
          refine XS.iloadN X0.here hexec rfl (hb hbytes d9) rfl ?_
          refine XS.aloadN X0.here hexec rfl (hb hbytes d10) rfl rfl ?_
          refine X0.alen hexec hA0 rfl rfl (hb hbytes d11) ?_
          refine XS.icmpNo X0.here hexec rfl (hb hbytes d12) rfl (ii_ge_f (lt32 (by omega) (by omega))) ?_
          refine XS.aloadN X0.here hexec rfl (hb hbytes d15) rfl rfl ?_
          refine XS.iloadN X0.here hexec rfl (hb hbytes d16) rfl ?_
          refine X0.aget hexec hA0 rfl (yv_get hA tA (i := i) (by omega)) rfl rfl (hb hbytes d17) ?_
          refine XS.aloadN X0.here hexec rfl (hb hbytes d18) rfl rfl ?_
          refine XS.iloadN X0.here hexec rfl (hb hbytes d19) rfl ?_
          refine X0.aget hexec hB0 rfl (yv_get hB tB (i := i) (by omega)) rfl rfl (hb hbytes d20) ?_
          exact Steps.refl _)
        by_cases hv : yv A i = yv B i
        · have c5 : Steps p.tables e below (s₁.setTop (entryFrame m #[.ref a, .ref b] 3)) (s₁.setTop (mkF m 9 #[.val (.ref a), .val (.ref b), .val (.int (Int32.ofNat i + 1))] [])) := c4.trans (by
            refine XS.icmpYes X0.here hexec rfl (pc0 := 21) rfl (hb hbytes d21) rfl (ii_eq_t hv) (by decide) rfl ?_
            refine iincV X0.here hexec rfl 1 (hb hbytes d26) (by decide) rfl rfl ?_
            refine XS.goto X0.here hexec rfl (pc0 := 29) rfl (hb hbytes d29) (by decide) rfl ?_
            exact Steps.refl _)
          rw [succ32] at c5
          exact ih (i + 1) (by omega) (fun j hj => by
            by_cases e : j = i
            · rw [e]; exact hv
            · exact he j (by omega)) c5
        · exact ⟨25, _, 0, Or.inl rfl, Or.inr ⟨rfl, fun q => hv (q.2 i (by omega))⟩, c4.trans (by
            refine XS.icmpNo X0.here hexec rfl (hb hbytes d21) rfl (ii_eq_f hv) ?_
            refine iconstV X0.here hexec rfl 0 (hb hbytes d24) (by decide) ?_
            exact Steps.refl _)⟩
    obtain ⟨pc, Ls, v, hpc, hv, cz⟩ := loop A.slots.size 0 (by omega) (fun j hj => absurd hj (Nat.not_lt_zero j)) c3
    have nv : narrow .boolean (.int v) = .int v := by rcases hv with ⟨rfl, -⟩ | ⟨rfl, -⟩ <;> rfl
    rcases hpc with rfl | rfl
    · exact ⟨s₁, some (.int v), _, _, _, X0, rfl, rfl, rfl, (fun h => by cases h), ⟨v, rfl, hh0, hv⟩, fun fs hl => cz.trans (X0.ireturnOut hexec hret nv (Or.inr (Or.inl rfl)) (hb hbytes d25) hl)⟩
    · exact ⟨s₁, some (.int v), _, _, _, X0, rfl, rfl, rfl, (fun h => by cases h), ⟨v, rfl, hh0, hv⟩, fun fs hl => cz.trans (X0.ireturnOut hexec hret nv (Or.inr (Or.inl rfl)) (hb hbytes d33) hl)⟩
  · have c3 : Steps p.tables e below (s₁.setTop (entryFrame m #[.ref a, .ref b] 3)) (s₁.setTop (mkF m 35 #[.val (.ref a), .val (.ref b), .unset] [.int 0])) := c2.trans (by
      refine XS.icmpYes X0.here hexec rfl (pc0 := 4) rfl (hb hbytes d4) rfl (ii_ne_t (ne32 a31 b31 hs)) (by decide) rfl ?_
      refine iconstV X0.here hexec rfl 0 (hb hbytes d34) (by decide) ?_
      exact Steps.refl _)
    exact ⟨s₁, some (.int 0), _, _, _, X0, rfl, rfl, rfl, (fun h => by cases h), ⟨0, rfl, hh0, Or.inr ⟨rfl, fun q => hs q.1⟩⟩, fun fs hl => c3.trans (X0.ireturnOut hexec hret rfl (Or.inr (Or.inl rfl)) (hb hbytes d35) hl)⟩
end LEq
theorem Cod.ty {cd : Int32} {n : Nat} {f : Nat → Int32} {V : Cell} (h : Cod cd n f V) : Typed .byte V := fun i v hv => by
  have hi : i < V.slots.size := (Array.getElem?_eq_some_iff.mp hv).1
  rcases h with ⟨-, k1, k2⟩ | ⟨-, k1, k2, -⟩
  · rw [(k2 i (by omega)).1] at hv; cases hv; exact fits_lo8 _
  · rcases Nat.mod_two_eq_zero_or_one i with e | e
    · obtain ⟨j, rfl⟩ : ∃ j, i = 2 * j := ⟨i / 2, by omega⟩
      rw [(k2 j (by omega)).1] at hv; cases hv; exact fits_lo8 _
    · obtain ⟨j, rfl⟩ : ∃ j, i = 2 * j + 1 := ⟨i / 2, by omega⟩
      rw [(k2 j (by omega)).2] at hv; cases hv; exact fits_lo8 _
/-- the same text -/
def SameT (n : Nat) (f : Nat → Int32) (k : Nat) (g : Nat → Int32) : Prop := n = k ∧ ∀ j, j < n → f j = g j
theorem lo8_inj {x y : Int32} (h0 : ¬ x < 0) (h1 : ¬ 255 < x) (k0 : ¬ y < 0) (k1 : ¬ 255 < y) (h : lo8 x = lo8 y) : x = y := by
  rw [← lo8_mask h0 h1, ← lo8_mask k0 k1, h]
/-- arrays coded by one coder are equal just where the texts are -/
theorem Cod.eqv {cd : Int32} {n k : Nat} {f g : Nat → Int32} {V V' : Cell} (h : Cod cd n f V) (h' : Cod cd k g V') (hf : ∀ j, j < n → ¬ f j < 0 ∧ ¬ 65535 < f j) (hg : ∀ j, j < k → ¬ g j < 0 ∧ ¬ 65535 < g j) : EqC V V' ↔ SameT n f k g := by
  have yvv : ∀ {W : Cell} {i : Nat} {x : Int32}, W.slots[i]? = some (.int x) → yv W i = x := fun q => by unfold yv; rw [q]
  rcases h with ⟨rfl, k1, k2⟩ | ⟨rfl, k1, k2, -⟩
  · rcases h' with ⟨-, m1, m2⟩ | ⟨e, -⟩
    · constructor
      · rintro ⟨e1, e2⟩
        refine ⟨by omega, fun j hj => ?_⟩
        have q := e2 j (by omega)
        rw [yvv (k2 j hj).1, yvv (m2 j (by omega)).1] at q
        exact lo8_inj (hf j hj).1 (k2 j hj).2 (hg j (by omega)).1 (m2 j (by omega)).2 q
      · rintro ⟨rfl, e2⟩
        refine ⟨by omega, fun j hj => ?_⟩
        rw [yvv (k2 j (by omega)).1, yvv (m2 j (by omega)).1, e2 j (by omega)]
    · exact absurd e (by decide)
  · rcases h' with ⟨e, -⟩ | ⟨-, m1, m2, -⟩
    · exact absurd e (by decide)
    · constructor
      · rintro ⟨e1, e2⟩
        refine ⟨by omega, fun j hj => ?_⟩
        have q1 := e2 (2 * j) (by omega)
        have q2 := e2 (2 * j + 1) (by omega)
        rw [yvv (k2 j hj).1, yvv (m2 j (by omega)).1] at q1
        rw [yvv (k2 j hj).2, yvv (m2 j (by omega)).2] at q2
        rw [← pair_says (hf j hj).1 (hf j hj).2, ← pair_says (hg j (by omega)).1 (hg j (by omega)).2, q1, q2]
      · rintro ⟨rfl, e2⟩
        refine ⟨by omega, fun i hi => ?_⟩
        rcases Nat.mod_two_eq_zero_or_one i with e | e
        · obtain ⟨j, rfl⟩ : ∃ j, i = 2 * j := ⟨i / 2, by omega⟩
          rw [yvv (k2 j (by omega)).1, yvv (m2 j (by omega)).1, e2 j (by omega)]
        · obtain ⟨j, rfl⟩ : ∃ j, i = 2 * j + 1 := ⟨i / 2, by omega⟩
          rw [yvv (k2 j (by omega)).2, yvv (m2 j (by omega)).2, e2 j (by omega)]
/-- two codings differ: so do the texts -/
theorem Cod.dif {cd cd' : Int32} {n k : Nat} {f g : Nat → Int32} {V V' : Cell} (h : Cod cd n f V) (h' : Cod cd' k g V') (hne : ¬ cd = cd') : ¬ SameT n f k g := by
  rintro ⟨rfl, e⟩
  rcases h with ⟨rfl, -, k2⟩ | ⟨rfl, -, -, j, hj, hw⟩
  · rcases h' with ⟨rfl, -⟩ | ⟨-, -, -, j, hj, hw⟩
    · exact hne rfl
    · exact (k2 j hj).2 (by rw [e j hj]; exact hw)
  · rcases h' with ⟨-, -, m2⟩ | ⟨rfl, -⟩
    · exact (m2 j hj).2 (by rw [← e j hj]; exact hw)
    · exact hne rfl
/-- an object of exactly C is an instance of C -/
theorem cinst {p : Program} {l : Launch} {e : Env} {R : Room} {s : State} {m : MethodId} {args : Array Value} {below : List Frame} {meth : Method} {c : Code} {T : State} {locs : List Loc} {cells slots : Nat} (X : Stand p l e R s m args below meth c T locs cells slots) (hexec : p.tables.exec = Jvm.exec) {own C : String} {index : Nat} (hown : s.vm.findClass own = some m.cls) (hlink : (Cond.classLink own index C).before args s = true) {a : Addr} (hE : Exact C a T)
    {g : JFrame} (hg : g.method = m) {rest : List Value} (hstack : g.stack = .ref a :: rest) (hdg : decode c.code g.pc = .ok (.instanceof index, 3)) :
    ∃ T', Stand p l e R s m args below meth c T' locs cells slots ∧ T'.heap = T.heap ∧ ∀ target, Steps p.tables e below (T'.setTop { g with pc := g.pc + 3, stack := .int 1 :: rest }) target → Steps p.tables e below (T.setTop g) target := by
  obtain ⟨cB, h1, D, h2, h3, h4⟩ := hE
  have h1' : s.vm.findClass C = some cB := by rw [← X.warmed.alike.findClass]; exact h1
  obtain ⟨vm', X', st⟩ := X.instanceofYes hexec hown hlink h2 h4 h1' (by rw [h3]; exact Jvm.Free.SB.assignable_self _ _) hg hstack hdg
  exact ⟨_, X', rfl, st⟩
theorem cself {p : Program} {l : Launch} {e : Env} {R : Room} {s : State} {m : MethodId} {args : Array Value} {below : List Frame} {meth : Method} {c : Code} {T : State} {locs : List Loc} {cells slots : Nat} (X : Stand p l e R s m args below meth c T locs cells slots) (hexec : p.tables.exec = Jvm.exec) {own C : String} {index : Nat} (hown : s.vm.findClass own = some m.cls) (hlink : (Cond.classLink own index C).before args s = true) {a : Addr} (hE : Exact C a T)
    {g : JFrame} (hg : g.method = m) {rest : List Value} (hstack : g.stack = .ref a :: rest) (hdg : decode c.code g.pc = .ok (.checkcast index, 3)) :
    ∃ T', Stand p l e R s m args below meth c T' locs cells slots ∧ T'.heap = T.heap ∧ ∀ target, Steps p.tables e below (T'.setTop { g with pc := g.pc + 3, stack := .ref a :: rest }) target → Steps p.tables e below (T.setTop g) target := by
  obtain ⟨cB, h1, D, h2, h3, h4⟩ := hE
  have h1' : s.vm.findClass C = some cB := by rw [← X.warmed.alike.findClass]; exact h1
  obtain ⟨vm', X', st⟩ := X.checkcastYes hexec hown hlink h2 h4 h1' (by rw [h3]; exact Jvm.Free.SB.assignable_self _ _) hg hstack hdg
  exact ⟨_, X', rfl, fun t h => st t (by rw [← hstack] at h; exact h)⟩
namespace SEq
def yN : MethodName := ⟨"java/lang/String", "equals", "(Ljava/lang/Object;)Z"⟩
abbrev yB : ByteArray := jdk_42_method_66_code
theorem d0 : decode yB 0 = .ok (.aload_n 0, 1) := by decide +kernel
theorem d1 : decode yB 1 = .ok (.aload_n 1, 1) := by decide +kernel
theorem d2 : decode yB 2 = .ok (.if_acmp (.ne) 5, 3) := by decide +kernel
theorem d5 : decode yB 5 = .ok (.iconst 1, 1) := by decide +kernel
theorem d6 : decode yB 6 = .ok (.ireturn, 1) := by decide +kernel
theorem d7 : decode yB 7 = .ok (.aload_n 1, 1) := by decide +kernel
theorem d8 : decode yB 8 = .ok (.instanceof 10, 3) := by decide +kernel
theorem d11 : decode yB 11 = .ok (.ifCond (.eq) 43, 3) := by decide +kernel
theorem d14 : decode yB 14 = .ok (.aload_n 1, 1) := by decide +kernel
theorem d15 : decode yB 15 = .ok (.checkcast 10, 3) := by decide +kernel
theorem d18 : decode yB 18 = .ok (.astore_n 2, 1) := by decide +kernel
theorem d19 : decode yB 19 = .ok (.getstatic 38, 3) := by decide +kernel
theorem d22 : decode yB 22 = .ok (.ifCond (.eq) 14, 3) := by decide +kernel
theorem d25 : decode yB 25 = .ok (.aload_n 0, 1) := by decide +kernel
theorem d26 : decode yB 26 = .ok (.getfield 15, 3) := by decide +kernel
theorem d29 : decode yB 29 = .ok (.aload_n 2, 1) := by decide +kernel
theorem d30 : decode yB 30 = .ok (.getfield 15, 3) := by decide +kernel
theorem d33 : decode yB 33 = .ok (.if_icmp (.ne) 21, 3) := by decide +kernel
theorem d36 : decode yB 36 = .ok (.aload_n 0, 1) := by decide +kernel
theorem d37 : decode yB 37 = .ok (.getfield 9, 3) := by decide +kernel
theorem d40 : decode yB 40 = .ok (.aload_n 2, 1) := by decide +kernel
theorem d41 : decode yB 41 = .ok (.getfield 9, 3) := by decide +kernel
theorem d44 : decode yB 44 = .ok (.invokestatic 541, 3) := by decide +kernel
theorem d47 : decode yB 47 = .ok (.ifCond (.eq) 7, 3) := by decide +kernel
theorem d50 : decode yB 50 = .ok (.iconst 1, 1) := by decide +kernel
theorem d51 : decode yB 51 = .ok (.goto 4, 3) := by decide +kernel
theorem d54 : decode yB 54 = .ok (.iconst 0, 1) := by decide +kernel
theorem d55 : decode yB 55 = .ok (.ireturn, 1) := by decide +kernel
def site : List Cond := [.classLink "java/lang/String" 10 "java/lang/String", .fieldLink "java/lang/String" 38 "java/lang/String" "COMPACT_STRINGS" "Z", .fieldLink "java/lang/String" 15 "java/lang/String" "coder" "B", .fieldLink "java/lang/String" 9 "java/lang/String" "value" "[B", LEq.tab] ++ staticW "java/lang/String" 541 LEq.yN
def tab : Cond := tabOf yN yB 3 (some .boolean) site
def P (x t : Addr) (V : Cell) (cd : Int32) (n : Nat) (f : Nat → Int32) (y t' : Addr) (V' : Cell) (cd' : Int32) (k : Nat) (g : Nat → Int32) (z : Int32) (args : Array Value) (s : State) : Prop := args = #[.ref x, .ref y] ∧ Txt x t V cd n f s ∧ Txt y t' V' cd' k g s ∧ StaticIs s "java/lang/String" "COMPACT_STRINGS" "Z" (.int z) ∧ ¬ z = 0
/-- equals(Object) of two Strings: whether the texts are the same -/
theorem law (l : Launch) (x t : Addr) (V : Cell) (cd : Int32) (n : Nat) (f : Nat → Int32) (y t' : Addr) (V' : Cell) (cd' : Int32) (k : Nat) (g : Nat → Int32) (z : Int32) : Law l yN 2 1 1 14 yB 3 (some .boolean) site (P x t V cd n f y t' V' cd' k g z) (Says01 (SameT n f k g)) [] 0 0 := by
  refine Law.of_walk (plainFor_of_name (by decide +kernel)) (by decide +kernel) (by decide +kernel) (by decide) (fun _ _ h => by rw [h.1]; rfl) (fun _ U U' hal hh h => ⟨h.1, h.2.1.mv hal hh, h.2.2.1.mv hal hh, h.2.2.2.1.there hal hh, h.2.2.2.2⟩) (fun r U U' V V' h1 hal h2 h => Says01.mv r U U' V V' h1 hal h2 h) ?_
  intro p e s m args below meth c s₁ X0 hexec hbytes hml hret hlk hnm hown hh0 W hP
  obtain ⟨rfl, hx, hy, s1, hz⟩ := hP
  have c1 : Steps p.tables e below (s₁.setTop (entryFrame m #[.ref x, .ref y] 3)) (s₁.setTop (mkF m 2 #[.val (.ref x), .val (.ref y), .unset] [.ref y, .ref x])) := Steps.trans (entry rfl) (by
    show Steps p.tables e below (s₁.setTop (mkF m 0 #[.val (.ref x), .val (.ref y), .unset] [])) _
    refine XS.aloadN X0.here hexec rfl (hb hbytes d0) rfl rfl ?_
    refine XS.aloadN X0.here hexec rfl (hb hbytes d1) rfl rfl ?_
    exact Steps.refl _)
  by_cases hxy : x = y
  · have c2 : Steps p.tables e below (s₁.setTop (entryFrame m #[.ref x, .ref y] 3)) (s₁.setTop (mkF m 6 #[.val (.ref x), .val (.ref y), .unset] [.int 1])) := c1.trans (by
      refine acmpNo X0.here hexec rfl (hb hbytes d2) rfl rfl rfl (by simp [acmp, hxy]) ?_
      refine iconstV X0.here hexec rfl 1 (hb hbytes d5) (by decide) ?_
      exact Steps.refl _)
    subst hxy
    have ec : cd = cd' := by
      obtain ⟨D, fd, a1, a2, a3⟩ := hx.2.2.1
      obtain ⟨D', fd', b1, b2, b3⟩ := hy.2.2.1
      cases a1.symm.trans b1
      obtain ⟨q1, q2, q3, q4⟩ := a2.1
      obtain ⟨r1, r2, r3, r4⟩ := b2.1
      cases q4.symm.trans r4
      cases a3.symm.trans b3; rfl
    have et : t = t' := by
      obtain ⟨D, fd, a1, a2, a3⟩ := hx.2.1
      obtain ⟨D', fd', b1, b2, b3⟩ := hy.2.1
      cases a1.symm.trans b1
      obtain ⟨q1, q2, q3, q4⟩ := a2.1
      obtain ⟨r1, r2, r3, r4⟩ := b2.1
      cases q4.symm.trans r4
      cases a3.symm.trans b3; rfl
    subst ec et
    have ev : V = V' := by cases hx.2.2.2.1.1.symm.trans hy.2.2.2.1.1; rfl
    subst ev
    have hs : SameT n f k g := (Cod.eqv hx.2.2.2.2.1 hy.2.2.2.2.1 hx.2.2.2.2.2 hy.2.2.2.2.2).mp ⟨rfl, fun _ _ => rfl⟩
    exact ⟨s₁, some (.int 1), _, _, _, X0, rfl, rfl, rfl, (fun h => by cases h), ⟨1, rfl, hh0, Or.inl ⟨rfl, hs⟩⟩, fun fs hl => c2.trans (X0.ireturnOut hexec hret rfl (Or.inr (Or.inl rfl)) (hb hbytes d6) hl)⟩
  · have c2 : Steps p.tables e below (s₁.setTop (entryFrame m #[.ref x, .ref y] 3)) (s₁.setTop (mkF m 8 #[.val (.ref x), .val (.ref y), .unset] [.ref y])) := c1.trans (by
      refine acmpYes X0.here hexec rfl (pc0 := 2) rfl (hb hbytes d2) rfl rfl rfl (by simp [acmp, hxy]) (by decide) rfl ?_
      refine XS.aloadN X0.here hexec rfl (hb hbytes d7) rfl rfl ?_
      exact Steps.refl _)
    obtain ⟨T3, X3, q3, st3⟩ := cinst X0 hexec hown (wk W (.classLink "java/lang/String" 10 "java/lang/String")) (hy.mv X0.warmed.alike hh0).1 (g := (mkF m 8 #[.val (.ref x), .val (.ref y), .unset] [.ref y])) rfl (rest := []) rfl (hb hbytes d8)
    have hh3 := q3.trans hh0
    have c4 : Steps p.tables e below (s₁.setTop (entryFrame m #[.ref x, .ref y] 3)) (T3.setTop (mkF m 15 #[.val (.ref x), .val (.ref y), .unset] [.ref y])) := (c2.trans (st3 _ (Steps.refl _))).trans (by
      refine XS.ifNo X3.here hexec rfl (hb hbytes d11) rfl (i0_eq_f (by decide)) ?_
      refine XS.aloadN X3.here hexec rfl (hb hbytes d14) rfl rfl ?_
      exact Steps.refl _)
    obtain ⟨T5, X5, q5, st5⟩ := cself X3 hexec hown (wk W (.classLink "java/lang/String" 10 "java/lang/String")) (hy.mv X3.warmed.alike hh3).1 (g := (mkF m 15 #[.val (.ref x), .val (.ref y), .unset] [.ref y])) rfl (rest := []) rfl (hb hbytes d15)
    have hh5 := q5.trans hh3
    have c6 : Steps p.tables e below (s₁.setTop (entryFrame m #[.ref x, .ref y] 3)) (T5.setTop (mkF m 19 #[.val (.ref x), .val (.ref y), .val (.ref y)] [])) := (c4.trans (st5 _ (Steps.refl _))).trans (by
      refine XS.astoreN X5.here hexec rfl (hb hbytes d18) rfl rfl rfl ?_
      exact Steps.refl _)
    obtain ⟨T7, X7, q7, st7⟩ := X5.sget hexec hown (wk W (.fieldLink "java/lang/String" 38 "java/lang/String" "COMPACT_STRINGS" "Z")) s1 (fun _ _ h => by rw [hh5]; exact h) (g := (mkF m 19 #[.val (.ref x), .val (.ref y), .val (.ref y)] [])) rfl (hb hbytes d19)
    have hh7 := q7.trans hh5
    have c8 : Steps p.tables e below (s₁.setTop (entryFrame m #[.ref x, .ref y] 3)) (T7.setTop (mkF m 26 #[.val (.ref x), .val (.ref y), .val (.ref y)] [.ref x])) := (c6.trans (st7 _ (Steps.refl _))).trans (by
      refine XS.ifNo X7.here hexec rfl (hb hbytes d22) rfl (i0_eq_f hz) ?_
      refine XS.aloadN X7.here hexec rfl (hb hbytes d25) rfl rfl ?_
      exact Steps.refl _)
    obtain ⟨T9, X9, q9, st9⟩ := X7.hget hexec hown (wk W (.fieldLink "java/lang/String" 15 "java/lang/String" "coder" "B")) (hx.mv X7.warmed.alike hh7).2.2.1 (g := (mkF m 26 #[.val (.ref x), .val (.ref y), .val (.ref y)] [.ref x])) rfl (rest := []) rfl (hb hbytes d26)
    have hh9 := q9.trans hh7
    have c10 : Steps p.tables e below (s₁.setTop (entryFrame m #[.ref x, .ref y] 3)) (T9.setTop (mkF m 30 #[.val (.ref x), .val (.ref y), .val (.ref y)] [.ref y, .int cd])) := (c8.trans (st9 _ (Steps.refl _))).trans (by
      refine XS.aloadN X9.here hexec rfl (hb hbytes d29) rfl rfl ?_
      exact Steps.refl _)
    obtain ⟨T11, X11, q11, st11⟩ := X9.hget hexec hown (wk W (.fieldLink "java/lang/String" 15 "java/lang/String" "coder" "B")) (hy.mv X9.warmed.alike hh9).2.2.1 (g := (mkF m 30 #[.val (.ref x), .val (.ref y), .val (.ref y)] [.ref y, .int cd])) rfl (rest := [.int cd]) rfl (hb hbytes d30)
    have hh11 := q11.trans hh9
    have c12 : Steps p.tables e below (s₁.setTop (entryFrame m #[.ref x, .ref y] 3)) (T11.setTop (mkF m 33 #[.val (.ref x), .val (.ref y), .val (.ref y)] [.int cd', .int cd])) := c10.trans (st11 _ (Steps.refl _))
    by_cases hcd : cd = cd'
    · subst hcd
      have c13 : Steps p.tables e below (s₁.setTop (entryFrame m #[.ref x, .ref y] 3)) (T11.setTop (mkF m 37 #[.val (.ref x), .val (.ref y), .val (.ref y)] [.ref x])) := c12.trans (by
        refine XS.icmpNo X11.here hexec rfl (hb hbytes d33) rfl (ii_ne_f rfl) ?_
        refine XS.aloadN X11.here hexec rfl (hb hbytes d36) rfl rfl ?_
        exact Steps.refl _)
      obtain ⟨T14, X14, q14, st14⟩ := X11.hget hexec hown (wk W (.fieldLink "java/lang/String" 9 "java/lang/String" "value" "[B")) (hx.mv X11.warmed.alike hh11).2.1 (g := (mkF m 37 #[.val (.ref x), .val (.ref y), .val (.ref y)] [.ref x])) rfl (rest := []) rfl (hb hbytes d37)
      have hh14 := q14.trans hh11
      have c15 : Steps p.tables e below (s₁.setTop (entryFrame m #[.ref x, .ref y] 3)) (T14.setTop (mkF m 41 #[.val (.ref x), .val (.ref y), .val (.ref y)] [.ref y, .ref t])) := (c13.trans (st14 _ (Steps.refl _))).trans (by
        refine XS.aloadN X14.here hexec rfl (hb hbytes d40) rfl rfl ?_
        exact Steps.refl _)
      obtain ⟨T16, X16, q16, st16⟩ := X14.hget hexec hown (wk W (.fieldLink "java/lang/String" 9 "java/lang/String" "value" "[B")) (hy.mv X14.warmed.alike hh14).2.1 (g := (mkF m 41 #[.val (.ref x), .val (.ref y), .val (.ref y)] [.ref y, .ref t])) rfl (rest := [.ref t]) rfl (hb hbytes d41)
      have hh16 := q16.trans hh14
      have c17 : Steps p.tables e below (s₁.setTop (entryFrame m #[.ref x, .ref y] 3)) (T16.setTop (mkF m 44 #[.val (.ref x), .val (.ref y), .val (.ref y)] [.ref t', .ref t])) := c15.trans (st16 _ (Steps.refl _))
      obtain ⟨v18, T18, X18, E18, g18⟩ := X16.callS hexec (LEq.law l t V t' V') hown (wks W (staticW "java/lang/String" 541 LEq.yN)) (wk W LEq.tab) (W := 0) (Nat.le_of_ble_eq_true rfl) (Nat.le_of_ble_eq_true rfl) (Nat.le_refl _) (Nat.le_refl _) (g := (mkF m 44 #[.val (.ref x), .val (.ref y), .val (.ref y)] [.ref t', .ref t])) rfl (by rw [hml]; rfl) c17 (argsL := [.ref t, .ref t']) (rest := []) rfl rfl (by show 2 * 0 + 0 ≤ _; decide) (hb hbytes d44) (⟨rfl, hx.2.2.2.1.mv X16.warmed.alike hh16, hx.2.2.2.2.1.ty, hy.2.2.2.1.mv X16.warmed.alike hh16, hy.2.2.2.2.1.ty⟩)
      obtain ⟨v, rfl, q18, hv⟩ := E18
      have iff := Cod.eqv hx.2.2.2.2.1 hy.2.2.2.2.1 hx.2.2.2.2.2 hy.2.2.2.2.2
      rcases hv with ⟨rfl, he⟩ | ⟨rfl, he⟩
      · have c19 : Steps p.tables e below (s₁.setTop (entryFrame m #[.ref x, .ref y] 3)) (T18.setTop (mkF m 55 #[.val (.ref x), .val (.ref y), .val (.ref y)] [.int 1])) := Steps.trans g18 (by
          refine XS.ifNo X18.here hexec rfl (hb hbytes d47) rfl (i0_eq_f (by decide)) ?_
          refine iconstV X18.here hexec rfl 1 (hb hbytes d50) (by decide) ?_
          refine XS.goto X18.here hexec rfl (pc0 := 51) rfl (hb hbytes d51) (by decide) rfl ?_
          exact Steps.refl _)
        exact ⟨T18, some (.int 1), _, _, _, X18, rfl, rfl, rfl, (fun h => by cases h), ⟨1, rfl, q18.trans hh16, Or.inl ⟨rfl, iff.mp he⟩⟩, fun fs hl => c19.trans (X18.ireturnOut hexec hret rfl (Or.inr (Or.inl rfl)) (hb hbytes d55) hl)⟩
      · have c19 : Steps p.tables e below (s₁.setTop (entryFrame m #[.ref x, .ref y] 3)) (T18.setTop (mkF m 55 #[.val (.ref x), .val (.ref y), .val (.ref y)] [.int 0])) := Steps.trans g18 (by
          refine XS.ifYes X18.here hexec rfl (pc0 := 47) rfl (hb hbytes d47) rfl (i0_eq_t rfl) (by decide) rfl ?_
          refine iconstV X18.here hexec rfl 0 (hb hbytes d54) (by decide) ?_
          exact Steps.refl _)
        exact ⟨T18, some (.int 0), _, _, _, X18, rfl, rfl, rfl, (fun h => by cases h), ⟨0, rfl, q18.trans hh16, Or.inr ⟨rfl, fun q => he (iff.mpr q)⟩⟩, fun fs hl => c19.trans (X18.ireturnOut hexec hret rfl (Or.inr (Or.inl rfl)) (hb hbytes d55) hl)⟩
    · have c13 : Steps p.tables e below (s₁.setTop (entryFrame m #[.ref x, .ref y] 3)) (T11.setTop (mkF m 55 #[.val (.ref x), .val (.ref y), .val (.ref y)] [.int 0])) := c12.trans (by
        refine XS.icmpYes X11.here hexec rfl (pc0 := 33) rfl (hb hbytes d33) rfl (ii_ne_t hcd) (by decide) rfl ?_
        refine iconstV X11.here hexec rfl 0 (hb hbytes d54) (by decide) ?_
        exact Steps.refl _)
      exact ⟨T11, some (.int 0), _, _, _, X11, rfl, rfl, rfl, (fun h => by cases h), ⟨0, rfl, hh11, Or.inr ⟨rfl, Cod.dif hx.2.2.2.2.1 hy.2.2.2.2.1 hcd⟩⟩, fun fs hl => c13.trans (X11.ireturnOut hexec hret rfl (Or.inr (Or.inl rfl)) (hb hbytes d55) hl)⟩
theorem pays {l : Launch} {R : Room} {p : Program} {e : Env} {below : List Frame} {s : State} {sargs : Array Value} {len W : Nat} (x t : Addr) (V : Cell) (cd : Int32) (n : Nat) (f : Nat → Int32) (y t' : Addr) (V' : Cell) (cd' : Int32) (k : Nat) (g : Nat → Int32) (z : Int32) (htab : tab.before sargs s = true) (hfr : 2 ≤ R.frames) (hlo : W + 28 ≤ R.locals) :
    Back l R p e below s sargs yN len W (fun A₁ a₁ => A₁.cells + 0 ≤ R.cells ∧ A₁.slots + 0 ≤ R.slots ∧ P x t V cd n f y t' V' cd' k g z a₁ A₁.U) (fun A₁ _ v₁ B₁ => Says01 (SameT n f k g) v₁ A₁.U B₁.U ∧ B₁.locs = A₁.locs ++ [] ∧ B₁.cells = A₁.cells + 0 ∧ B₁.slots = A₁.slots + 0) :=
  (law l x t V cd n f y t' V' cd' k g z).pays htab hfr (by omega)
end SEq
end StrChars
namespace StrChars.Road
open Jvm Sem ClassFile Op Lib Jvm.Stand Jvm.Free Jvm.Free.XT
open Jvm.Lib.Cold (StaticIs)
/-- the words of String.equals(Object) -/
abbrev wordsEq : List Jvm.Cond := [.code SEq.yN SEq.yB 3 (some .boolean), .initialized ST, .classLink ST 10 ST, .fieldLink ST 38 ST "COMPACT_STRINGS" "Z", .fieldLink ST 15 ST "coder" "B", .fieldLink ST 9 ST "value" "[B", .methodLink ST 541 LEq.yN, .static LEq.yN, .code LEq.yN LEq.yB 3 (some .boolean), .initialized "java/lang/StringLatin1"]
theorem tabEq_of {a : Array Value} {s : State} (h : ∀ w ∈ wordsEq, w.before a s = true) : SEq.tab.before a s = true := by
  have hl : LEq.tab.before a s = true := unparts (wk h (.code LEq.yN LEq.yB 3 (some .boolean))) (wks h (.initialized LEq.yN.cls :: LEq.site))
  have q := consq hl h
  exact unparts (wk q (.code SEq.yN SEq.yB 3 (some .boolean))) (wks q (.initialized SEq.yN.cls :: SEq.site))
theorem movedEq {Z s : State} {a0 args : Array Value} (hZ : Z.Warmed39 s.vm) (hw : ∀ d ∈ wordsEq, d.before a0 Z = true) : ∀ d ∈ wordsEq, d.before args s = true := fun d hd => by
  have t : ∀ d ∈ wordsEq, (d.onTables && d.keepsFace) = true := by decide +kernel
  exact RoadKit.mv hZ (hw d hd) (t d hd)
/-- the road's facts of a String, as the laws ask it -/
theorem txt_of {Z U : State} {a0 : Array Value} {kI : Nat} (wi : (Jvm.Cond.instantiable ST kI).before a0 Z = true) (al : Z.vm.Alike U.vm) {x t : Addr} {kb : ClassId} {cs : List Int32} {cd N2 : Int32} {vs : List Value} (E : RoadKit.Exa Z U.heap x ST) (V : RoadKit.Fld Z U.heap x ST "value" "[B" (.ref t)) (C : RoadKit.Fld Z U.heap x ST "coder" "B" (.int cd)) (K : RoadKit.Arv Z U.heap t kb .byte N2 vs (.int 0)) (hc : CodA cs cd N2 vs) (hb : ∀ c ∈ cs, ¬ c < 0 ∧ ¬ (65535 : Int32) < c) (l2 : cs.length ≤ 4000) :
    ∃ A, Txt x t A cd cs.length (fun j => cs.getD j 0) U := by
  obtain ⟨A, K1, K2, K3, K4, K5, K6⟩ := K
  have hcod := hc.cod (by omega) K3 K5
  obtain ⟨D, fV, fC, hB, F1, F2, g1, g2, -, -⟩ := strObj wi al E V C
  exact ⟨A, ⟨_, hB.2.2.1, D, hB.1, rfl, by cases q : D.vm <;> first | rfl | exact absurd q (hB.2.1.2 _)⟩, Has.of hB F1 g1, Has.of hB F2 g2, ⟨K1.1, State.isArrayOf_alike al K1.2.1, K1.2.2, by rcases hcod with ⟨-, q, -⟩ | ⟨-, q, -⟩ <;> omega⟩, hcod, fun j hj => by
    have e : cs.getD j 0 = cs[j] := by simp [List.getD_eq_getElem?_getD, hj]
    show ¬ cs.getD j 0 < 0 ∧ ¬ 65535 < cs.getD j 0
    rw [e]; exact hb _ (List.getElem_mem _)⟩
theorem same_list (cs ds : List Int32) : SameT cs.length (fun j => cs.getD j 0) ds.length (fun j => ds.getD j 0) ↔ cs = ds := by
  constructor
  · rintro ⟨e, q⟩
    refine List.ext_getElem e fun j h1 h2 => ?_
    have := q j h1
    simpa [List.getD_eq_getElem?_getD, h1, h2] using this
  · rintro rfl
    exact ⟨rfl, fun _ _ => rfl⟩
/-- **equals(Object) OF TWO SUCH STRINGS**: 1 just where the chars are the same -/
theorem eqW {p : Program} {l : Launch} {e : Env} {R : Room} {s : State} {args : Array Value} {below : List Frame} {len W : Nat} {Z : State} {a0 : Array Value} {h : Heap} (hZ : Z.Warmed39 s.vm) (hw : ∀ d ∈ wordsEq, d.before a0 Z = true) {kI : Nat} (wi : (Jvm.Cond.instantiable ST kI).before a0 Z = true)
    {x t : Addr} {kb : ClassId} {cs : List Int32} {cd N2 : Int32} {vs : List Value} (E : RoadKit.Exa Z h x ST) (V : RoadKit.Fld Z h x ST "value" "[B" (.ref t)) (C : RoadKit.Fld Z h x ST "coder" "B" (.int cd)) (K : RoadKit.Arv Z h t kb .byte N2 vs (.int 0)) (hc : CodA cs cd N2 vs) (hb : ∀ c ∈ cs, ¬ c < 0 ∧ ¬ (65535 : Int32) < c) (l2 : cs.length ≤ 4000)
    {y t' : Addr} {kb' : ClassId} {ds : List Int32} {cd' N2' : Int32} {vs' : List Value} (E' : RoadKit.Exa Z h y ST) (V' : RoadKit.Fld Z h y ST "value" "[B" (.ref t')) (C' : RoadKit.Fld Z h y ST "coder" "B" (.int cd')) (K' : RoadKit.Arv Z h t' kb' .byte N2' vs' (.int 0)) (hc' : CodA ds cd' N2' vs') (hb' : ∀ c ∈ ds, ¬ c < 0 ∧ ¬ (65535 : Int32) < c) (l2' : ds.length ≤ 4000)
    {z : Int32} (S : RoadKit.Sta Z h ST "COMPACT_STRINGS" "Z" (.int z)) (hz : ¬ z = 0) (hfr : 2 ≤ R.frames) (hlo : W + 28 ≤ R.locals) :
    Back l R p e below s args (⟨"java/lang/String", "equals", "(Ljava/lang/Object;)Z"⟩ : MethodName) len W (fun P a => a = #[.ref x, .ref y] ∧ P.U.heap = h ∧ P.cells + 0 ≤ R.cells ∧ P.slots + 0 ≤ R.slots)
      (fun P _ v B => ∃ L, (((v = some (.int 1) ∧ cs = ds) ∨ (v = some (.int 0) ∧ ¬ cs = ds)) ∧ L = [] ∧ B.U.heap = h) ∧ B.locs = P.locs ++ L ∧ B.cells = P.cells + 0 ∧ B.slots = P.slots + 0) := by
  intro m meth c P g ig mk a X hg hsize hdg hW hn hp'
  obtain ⟨rfl, rfl, r1, r2⟩ := hp'
  have al : Z.vm.Alike P.U.vm := hZ.alike.trans X.warmed.alike
  obtain ⟨A, hx⟩ := txt_of wi al E V C K hc hb l2
  obtain ⟨A', hy⟩ := txt_of wi al E' V' C' K' hc' hb' l2'
  obtain ⟨v, B, X', ⟨⟨w, hv, hh, hq⟩, hl, hk, hs⟩, st⟩ := SEq.pays x t A cd cs.length (fun j => cs.getD j 0) y t' A' cd' ds.length (fun j => ds.getD j 0) z (tabEq_of (movedEq hZ hw)) hfr hlo m meth c P g ig mk _ X hg hsize hdg hW hn ⟨r1, r2, rfl, hx, hy, sta_is al S, hz⟩
  refine ⟨v, B, X', ⟨[], ⟨?_, rfl, hh⟩, hl, hk, hs⟩, st⟩
  rcases hq with ⟨rfl, q⟩ | ⟨rfl, q⟩
  · exact Or.inl ⟨hv, (same_list cs ds).mp q⟩
  · exact Or.inr ⟨hv, fun e => q ((same_list cs ds).mpr e)⟩
end StrChars.Road
end Jvm.Pilot.@@N@@

namespace Jvm.Pilot.@@N@@
open Jvm Jvm.ClassFile Sem Op Lib Jvm.Free Jvm.Stand Jvm.LawKit Jvm.RoadKit Bundle Jvm.Pilot.@@N@@.Jvm.D
/-! own_Go: from the state S the run comes to an end of which R holds; a step is taken ahead of it (own_st), so that a walk can fork wherever it likes. -/
def own_Go (tb : Tables) (e : Env) (below : List Frame) (S : State) (R : Outcome → State → Prop) : Prop := ∃ t o, Steps tb e below S t ∧ t.status = .running ∧ Ended t below o ∧ R o t
theorem own_st {tb : Tables} {e : Env} {below : List Frame} {S S' : State} {R : Outcome → State → Prop} (h : ∀ t, Steps tb e below S' t → Steps tb e below S t) (k : own_Go tb e below S' R) : own_Go tb e below S R := by
  obtain ⟨t, o, h1, h2⟩ := k
  exact ⟨t, o, h t h1, h2⟩
abbrev own_R (s : State) (Q : Option Value → Heap → List Loc → Prop) (k n : Nat) (o : Outcome) (t : State) : Prop := ∃ v L, o = .returned v ∧ Q v t.heap L ∧ FrameEnd s o t L k n
abbrev own_Met (l : Launch) (y : MethodName) (bytes : ByteArray) (maxL : Nat) (rt : Option FieldType) (ws : List Jvm.Cond) (rm : Room) (as' : Array Value) (Z : State) (h0 : Heap) (Q : Option Value → Heap → List Loc → Prop) : Prop :=
  MetFree l y (head1 (Jvm.Cond.code y bytes maxL rt :: ws) rm) (fun a U => a = as' ∧ Z.Warmed39 U.vm ∧ U.heap = h0) (fun _ _ _ _ _ => True) (fun _ U o U' => ∃ v L, o = .returned v ∧ Q v U'.heap L ∧ FrameEnd U o U' L rm.cells rm.slots)
theorem own_body {l : Launch} {y : MethodName} {bytes : ByteArray} {maxL : Nat} {rt : Option FieldType} {ws : List Jvm.Cond} {rm : Room} {as' : Array Value} {Z : State} {h0 : Heap} {Q : Option Value → Heap → List Loc → Prop} (hp : plainFor y = true)
    (hb : ∀ (p : Program) (e : Env) (s : State) (m : MethodId) (below : List Frame) (meth : Method) (c : Code) (T : State), Stand p l e rm s m as' below meth c T [] 0 0 → p.tables.exec = Jvm.exec → c.code = bytes → c.maxLocals = maxL → s.vm.findClass y.cls = some m.cls → meth.name = y.name → meth.sig.returnType = rt → meth.locks = false → Z.Warmed39 s.vm → T.heap = h0 →
      own_Go p.tables e below (T.setTop (entryFrame m as' maxL)) (own_R s Q rm.cells rm.slots)) : own_Met l y bytes maxL rt ws rm as' Z h0 Q := by
  refine MetFree.of_bodySF hp hisR ?_
  intro p e s m args below meth c s₁ Bd hml0 hP hK
  obtain ⟨rfl, hZ, hh⟩ := hP
  exact hb p e s m below meth c s₁ (Stand.of_body Bd) Bd.exec Bd.bytes hml0 (findClass_of_methodNamed Bd.named) (name_of_methodNamed Bd.named Bd.method).1 Bd.returns Bd.notSynchronized hZ (by rw [← hh, Bd.state]; rfl)
section Own
variable {p : Program} {l : Launch} {e : Env} {R : Room} {s : State} {m : MethodId} {args : Array Value} {below : List Frame} {meth : Method} {c : Code} {T : State} {locs : List Loc} {cells slots : Nat} {Z : State} {a0 : Array Value} {h : Heap} {Q : Option Value → Heap → List Loc → Prop} {RR : Outcome → State → Prop}
theorem own_cat {v : Value} (q : v.isRef = true) : v.category = 1 := by cases v <;> simp [Value.isRef, Value.category] at q ⊢
theorem own_eqI {first : State} {o : Option Outcome} {idx : List Nat} {a : Term} {k : Int32} (q : (Jvm.Cond.eq a (.int k)).value args first o s idx = some true) : a.eval args first o idx s = some (.int k) := by
  simp only [Cond.value, Term.eval] at q
  cases ht : a.eval args first o idx s with
  | none => simp [ht] at q
  | some x => cases x <;> simp [ht] at q ⊢ <;> exact q
theorem own_Z0 {n0 : Nat} (O : Old Z n0 h) : n0 ≤ h.size := O.1 ▸ O.2.1
theorem own_leave (X : Stand p l e R s m args below meth c T locs cells slots) (hlk : meth.locks = false) {v : Option Value} (hv : meth.sig.returnType = none → v = none) {S : State} {k n : Nat} (hk : cells ≤ k) (hn : slots ≤ n) (hq : Q v T.heap locs)
    (st : ∀ fs : List Frame, (∀ (f : JFrame) (acts : List Action), f.method = m → f.locked = none → f.entered = [] → (doReturn e (T.setTop f) acts v).1 = T.setFrames fs) → Steps p.tables e below S (T.setFrames fs)) : own_Go p.tables e below S (own_R s Q k n) := by
  obtain ⟨fs, hr, hrun, hended, hW, hsame⟩ := X.leave (v := v) hv hlk
  exact ⟨_, _, st fs hr, hrun, hended, v, locs, rfl, hq, ⟨_, rfl⟩, hW, hsame.mono hk hn⟩
theorem own_retI (X : Stand p l e R s m args below meth c T locs cells slots) (hx : p.tables.exec = Jvm.exec) {pc : Nat} {Ls : Array Slot} {z : Int32} {rest : List Value} (hret : meth.sig.returnType = some .int) (hd : decode c.code pc = .ok (.ireturn, 1)) (hlk : meth.locks = false) {k n : Nat} (hk : cells ≤ k) (hn : slots ≤ n) (hq : Q (some (.int z)) T.heap locs) :
    own_Go p.tables e below (T.setTop (mkF m pc Ls (.int z :: rest))) (own_R s Q k n) := by
  refine own_leave X hlk (fun q => by rw [hret] at q; cases q) hk hn hq fun fs hl => ?_
  have hm' : T.vm.method? m = some meth := X.method'
  have hn : narrow .int (.int z) = .int z := rfl
  show Steps p.tables e below (T.setTop { method := m, pc := pc, locals := Ls, stack := _ :: rest, locked := none }) _
  jvm_step X.here [X.here.top, hx, hd, hm', hret, hn]
  first | (intro acts; rw [hl _ acts rfl rfl rfl]) | rw [hl _ _ rfl rfl rfl]
  exact Steps.refl _
theorem own_retZ (X : Stand p l e R s m args below meth c T locs cells slots) (hx : p.tables.exec = Jvm.exec) {pc : Nat} {Ls : Array Slot} {z : Int32} {t : FieldType} {rest : List Value} (hret : meth.sig.returnType = some t) (ht : t = .boolean ∨ t = .byte ∨ t = .char ∨ t = .short) (hd : decode c.code pc = .ok (.ireturn, 1)) (hlk : meth.locks = false) {k n : Nat} (hk : cells ≤ k) (hn : slots ≤ n) (hq : Q (some (.int (nar t z))) T.heap locs) :
    own_Go p.tables e below (T.setTop (mkF m pc Ls (.int z :: rest))) (own_R s Q k n) :=
  own_leave X hlk (fun q => by rw [hret] at q; cases q) hk hn hq fun fs hl => retN X hx hret ht hd hl
theorem own_retA (X : Stand p l e R s m args below meth c T locs cells slots) (hx : p.tables.exec = Jvm.exec) {pc : Nat} {Ls : Array Slot} {z : Value} {t : FieldType} {rest : List Value} (hret : meth.sig.returnType = some t) (ht : t.isReference = true) (hz : z.isRef = true) (hd : decode c.code pc = .ok (.areturn, 1)) (hlk : meth.locks = false) {k n : Nat} (hk : cells ≤ k) (hn : slots ≤ n) (hq : Q (some z) T.heap locs) :
    own_Go p.tables e below (T.setTop (mkF m pc Ls (z :: rest))) (own_R s Q k n) := by
  refine own_leave X hlk (fun q => by rw [hret] at q; cases q) hk hn hq fun fs hl => ?_
  have hm' : T.vm.method? m = some meth := X.method'
  show Steps p.tables e below (T.setTop { method := m, pc := pc, locals := Ls, stack := _ :: rest, locked := none }) _
  jvm_step X.here [X.here.top, hx, hd, hm', hret, ht, hz]
  first | (intro acts; rw [hl _ acts rfl rfl rfl]) | rw [hl _ _ rfl rfl rfl]
  exact Steps.refl _
theorem own_retJ (X : Stand p l e R s m args below meth c T locs cells slots) (hx : p.tables.exec = Jvm.exec) {pc : Nat} {Ls : Array Slot} {z : Int64} {rest : List Value} (hret : meth.sig.returnType = some .long) (hd : decode c.code pc = .ok (.lreturn, 1)) (hlk : meth.locks = false) {k n : Nat} (hk : cells ≤ k) (hn : slots ≤ n) (hq : Q (some (.long z)) T.heap locs) :
    own_Go p.tables e below (T.setTop (mkF m pc Ls (.long z :: rest))) (own_R s Q k n) := by
  refine own_leave X hlk (fun q => by rw [hret] at q; cases q) hk hn hq fun fs hl => ?_
  have hm' : T.vm.method? m = some meth := X.method'
  show Steps p.tables e below (T.setTop { method := m, pc := pc, locals := Ls, stack := _ :: rest, locked := none }) _
  jvm_step X.here [X.here.top, hx, hd, hm', hret, narrow]
  first | (intro acts; rw [hl _ acts rfl rfl rfl]) | rw [hl _ _ rfl rfl rfl]
  exact Steps.refl _
theorem own_retV (X : Stand p l e R s m args below meth c T locs cells slots) (hx : p.tables.exec = Jvm.exec) {pc : Nat} {Ls : Array Slot} (hret : meth.sig.returnType = none) (hd : decode c.code pc = .ok (.return_, 1)) (hlk : meth.locks = false) {k n : Nat} (hk : cells ≤ k) (hn : slots ≤ n) (hq : Q none T.heap locs) :
    own_Go p.tables e below (T.setTop (mkF m pc Ls [])) (own_R s Q k n) :=
  own_leave X hlk (fun _ => rfl) hk hn hq fun fs hl => X.returnOut hx hret hd hl
theorem own_callS (X : Stand p l e R s m args below meth c T locs cells slots) (hx : p.tables.exec = Jvm.exec) (hZ : Z.Warmed39 s.vm) {y : MethodName} {bytes : ByteArray} {maxL : Nat} {rt : Option FieldType} {rm : Room} {as' : Array Value}
    (hM : own_Met l y bytes maxL rt [] rm as' Z h Q) {own : String} {index : Nat} (hown : s.vm.findClass own = some m.cls) (w1 : (Cond.methodLink own index y).before a0 Z = true) (w2 : (Cond.static y).before a0 Z = true) (w3 : (Cond.initialized y.cls).before a0 Z = true) (w4 : (Cond.code y bytes maxL rt).before a0 Z = true)
    (hy : y.cls ≠ "java/lang/invoke/MethodHandle" ∧ y.cls ≠ "java/lang/invoke/VarHandle") {W : Nat} (hf : rm.frames + 1 ≤ R.frames) (hl : W + (maxL + 11) + rm.locals ≤ R.locals) {pc : Nat} {Ls : Array Slot} (hsz : Ls.size = c.maxLocals) {argsL rest st : List Value} (ha : argsL.toArray = as')
    (hlen : ∀ sig, parseMethodDescriptor y.desc = some sig → argsL.length = sig.parameters.length) (hst : st = argsL.reverse ++ rest) (hW : (rest.map fun v => v.category).sum ≤ W) (hd : decode c.code pc = .ok (.invokestatic index, 3)) (eT : T.heap = h) (hc : cells + rm.cells ≤ R.cells) (hs : slots + rm.slots ≤ R.slots)
    (k : ∀ (v : Option Value) (T' : State) (L : List Loc), Stand p l e R s m args below meth c T' (locs ++ L) (cells + rm.cells) (slots + rm.slots) → Q v T'.heap L → own_Go p.tables e below (T'.setTop (mkF m (pc + 3) Ls (v.toList ++ rest))) RR) :
    own_Go p.tables e below (T.setTop (mkF m pc Ls st)) RR := by
  subst ha
  obtain ⟨v, _, ⟨T', L', k', n'⟩, -, X', ⟨Lc, hQ, l', y', z'⟩, stp⟩ := Jvm.LawKit.callS X hx (y := y) hown (mvT hZ w1) (mvT hZ w2) (mvT hZ w3) (mvT hZ w4) hy (backOf (W := W) hM hZ w4 w3 hf hl) (g := mkF m pc Ls st) rfl hsz (argsL := argsL) (rest := rest) hlen hst (by show 2 * 0 + _ ≤ _; omega) hd (fun _ _ => ⟨rfl, eT, hc, hs⟩)
  dsimp only [Pt.U, Pt.locs, Pt.cells, Pt.slots] at X' l' y' z' stp hQ
  subst l' y' z'
  exact own_st stp (k v T' Lc X' hQ)
theorem own_callV (X : Stand p l e R s m args below meth c T locs cells slots) (hx : p.tables.exec = Jvm.exec) (hZ : Z.Warmed39 s.vm) {y : MethodName} {bytes : ByteArray} {maxL : Nat} {rt : Option FieldType} {rm : Room} {as' : Array Value}
    (hM : own_Met l y bytes maxL rt [] rm as' Z h Q) {own C : String} {index : Nat} (hown : s.vm.findClass own = some m.cls) (w1 : (Cond.methodLink own index y).before a0 Z = true) (w2 : (Cond.declares y).before a0 Z = true) (w3 : (Cond.selects C y y).before a0 Z = true) (w4 : (Cond.instanceMethod y).before a0 Z = true) (w5 : (Cond.code y bytes maxL rt).before a0 Z = true) (w6 : (Cond.initialized y.cls).before a0 Z = true)
    (hy : y.cls ≠ "java/lang/invoke/MethodHandle" ∧ y.cls ≠ "java/lang/invoke/VarHandle") {a : Addr} (E : Exa Z h a C) {W : Nat} (hf : rm.frames + 1 ≤ R.frames) (hl : W + (maxL + 11) + rm.locals ≤ R.locals) {pc : Nat} {Ls : Array Slot} (hsz : Ls.size = c.maxLocals) {argsL rest st : List Value} (ha : (Value.ref a :: argsL).toArray = as')
    (hlen : ∀ sig, parseMethodDescriptor y.desc = some sig → argsL.length = sig.parameters.length) (hst : st = argsL.reverse ++ .ref a :: rest) (hW : (rest.map fun v => v.category).sum ≤ W) (hd : decode c.code pc = .ok (.invokevirtual index, 3)) (eT : T.heap = h) (hc : cells + rm.cells ≤ R.cells) (hs : slots + rm.slots ≤ R.slots)
    (k : ∀ (v : Option Value) (T' : State) (L : List Loc), Stand p l e R s m args below meth c T' (locs ++ L) (cells + rm.cells) (slots + rm.slots) → Q v T'.heap L → own_Go p.tables e below (T'.setTop (mkF m (pc + 3) Ls (v.toList ++ rest))) RR) :
    own_Go p.tables e below (T.setTop (mkF m pc Ls st)) RR := by
  subst ha
  obtain ⟨cB, kB, qa, qb, qc⟩ := isOf hZ eT E
  obtain ⟨v, _, ⟨T', L', k', n'⟩, -, X', ⟨Lc, hQ, l', y', z'⟩, stp⟩ := X.virtualBack hx (y := y) (z := y) hown (mvT hZ w1) (mvT hZ w2) (notFace_of_selects (args := #[]) (mvT hZ w3)) (mvT hZ w3) (mvT hZ w4) hy (backOf (W := W) hM hZ w5 w6 hf hl) qa qc (g := mkF m pc Ls st) rfl hsz (Steps.refl _) (argsL := argsL) (rest := rest) hlen hst (by show 2 * 0 + _ ≤ _; omega) hd (fun _ _ => ⟨rfl, eT, hc, hs⟩)
  dsimp only [Pt.U, Pt.locs, Pt.cells, Pt.slots] at X' l' y' z' stp hQ
  subst l' y' z'
  exact own_st (fun t k => stp.trans k) (k v T' Lc X' hQ)
theorem own_callVU (X : Stand p l e R s m args below meth c T locs cells slots) (hx : p.tables.exec = Jvm.exec) (hZ : Z.Warmed39 s.vm) {x y : MethodName} {bytes : ByteArray} {maxL : Nat} {rt : Option FieldType} {rm : Room} {as' : Array Value}
    (hM : own_Met l y bytes maxL rt [] rm as' Z h Q) {own C owner : String} {index : Nat} (hown : s.vm.findClass own = some m.cls) (w1 : (Cond.methodLink own index x).before a0 Z = true) (w1' : (Cond.sameMethod x.cls owner x.name x.desc).before a0 Z = true) (w2 : (Cond.declares ⟨owner, x.name, x.desc⟩).before a0 Z = true) (w3 : (Cond.selects C x y).before a0 Z = true) (w4 : (Cond.instanceMethod y).before a0 Z = true) (w5 : (Cond.code y bytes maxL rt).before a0 Z = true) (w6 : (Cond.initialized y.cls).before a0 Z = true)
    (hy : owner ≠ "java/lang/invoke/MethodHandle" ∧ owner ≠ "java/lang/invoke/VarHandle") {a : Addr} (E : Exa Z h a C) {W : Nat} (hf : rm.frames + 1 ≤ R.frames) (hl : W + (maxL + 11) + rm.locals ≤ R.locals) {pc : Nat} {Ls : Array Slot} (hsz : Ls.size = c.maxLocals) {argsL rest st : List Value} (ha : (Value.ref a :: argsL).toArray = as')
    (hlen : ∀ sig, parseMethodDescriptor x.desc = some sig → argsL.length = sig.parameters.length) (hst : st = argsL.reverse ++ .ref a :: rest) (hW : (rest.map fun v => v.category).sum ≤ W) (hd : decode c.code pc = .ok (.invokevirtual index, 3)) (eT : T.heap = h) (hc : cells + rm.cells ≤ R.cells) (hs : slots + rm.slots ≤ R.slots)
    (k : ∀ (v : Option Value) (T' : State) (L : List Loc), Stand p l e R s m args below meth c T' (locs ++ L) (cells + rm.cells) (slots + rm.slots) → Q v T'.heap L → own_Go p.tables e below (T'.setTop (mkF m (pc + 3) Ls (v.toList ++ rest))) RR) :
    own_Go p.tables e below (T.setTop (mkF m pc Ls st)) RR := by
  subst ha
  obtain ⟨cB, kB, qa, qb, qc⟩ := isOf hZ eT E
  obtain ⟨v, _, ⟨T', L', k', n'⟩, -, X', ⟨Lc, hQ, l', y', z'⟩, stp⟩ := X.virtualBackUp hx hown (mvT hZ w1) (mvT hZ w1') (mvT hZ w2) hy (mvT hZ w3) (mvT hZ w4) (backOf (W := W) hM hZ w5 w6 hf hl) qa qc (g := mkF m pc Ls st) rfl hsz (Steps.refl _) (argsL := argsL) (rest := rest) hlen hst (by show 2 * 0 + _ ≤ _; omega) hd (fun _ _ => ⟨rfl, eT, hc, hs⟩)
  dsimp only [Pt.U, Pt.locs, Pt.cells, Pt.slots] at X' l' y' z' stp hQ
  subst l' y' z'
  exact own_st (fun t k => stp.trans k) (k v T' Lc X' hQ)
theorem own_iload (X : Stand p l e R s m args below meth c T locs cells slots) (hx : p.tables.exec = Jvm.exec) {B : ByteArray} (hby : c.code = B) {pc pc' : Nat} {Ls : Array Slot} {S : List Value} {k : Nat} {v : Int32} (hd : decode B pc = .ok (.iload k, 2)) (hp : pc + 2 = pc') (hl : Ls[k]? = some (.val (.int v))) (g : own_Go p.tables e below (T.setTop (mkF m pc' Ls (.int v :: S))) RR) : own_Go p.tables e below (T.setTop (mkF m pc Ls S)) RR := by
  subst hp
  exact own_st (fun t k => XS.iload X.here hx rfl (hb hby hd) hl k) g
theorem own_iloadN (X : Stand p l e R s m args below meth c T locs cells slots) (hx : p.tables.exec = Jvm.exec) {B : ByteArray} (hby : c.code = B) {pc pc' : Nat} {Ls : Array Slot} {S : List Value} {k : Fin 4} {v : Int32} (hd : decode B pc = .ok (.iload_n k, 1)) (hp : pc + 1 = pc') (hl : Ls[k.val]? = some (.val (.int v))) (g : own_Go p.tables e below (T.setTop (mkF m pc' Ls (.int v :: S))) RR) : own_Go p.tables e below (T.setTop (mkF m pc Ls S)) RR := by
  subst hp
  exact own_st (fun t k => XS.iloadN X.here hx rfl (hb hby hd) hl k) g
theorem own_lload (X : Stand p l e R s m args below meth c T locs cells slots) (hx : p.tables.exec = Jvm.exec) {B : ByteArray} (hby : c.code = B) {pc pc' : Nat} {Ls : Array Slot} {S : List Value} {k : Nat} {v : Int64} (hd : decode B pc = .ok (.lload k, 2)) (hp : pc + 2 = pc') (hl : Ls[k]? = some (.val (.long v))) (g : own_Go p.tables e below (T.setTop (mkF m pc' Ls (.long v :: S))) RR) : own_Go p.tables e below (T.setTop (mkF m pc Ls S)) RR := by
  subst hp
  exact own_st (fun t k => XS.lload X.here hx rfl (hb hby hd) hl k) g
theorem own_lloadN (X : Stand p l e R s m args below meth c T locs cells slots) (hx : p.tables.exec = Jvm.exec) {B : ByteArray} (hby : c.code = B) {pc pc' : Nat} {Ls : Array Slot} {S : List Value} {k : Fin 4} {v : Int64} (hd : decode B pc = .ok (.lload_n k, 1)) (hp : pc + 1 = pc') (hl : Ls[k.val]? = some (.val (.long v))) (g : own_Go p.tables e below (T.setTop (mkF m pc' Ls (.long v :: S))) RR) : own_Go p.tables e below (T.setTop (mkF m pc Ls S)) RR := by
  subst hp
  exact own_st (fun t k => XS.lloadN X.here hx rfl (hb hby hd) hl k) g
theorem own_aload (X : Stand p l e R s m args below meth c T locs cells slots) (hx : p.tables.exec = Jvm.exec) {B : ByteArray} (hby : c.code = B) {pc pc' : Nat} {Ls : Array Slot} {S : List Value} {k : Nat} {v : Value} (hd : decode B pc = .ok (.aload k, 2)) (hp : pc + 2 = pc') (hl : Ls[k]? = some (.val v)) (hv : v.isRef = true) (g : own_Go p.tables e below (T.setTop (mkF m pc' Ls (v :: S))) RR) : own_Go p.tables e below (T.setTop (mkF m pc Ls S)) RR := by
  subst hp
  exact own_st (fun t k => XS.aload X.here hx rfl (hb hby hd) hl hv k) g
theorem own_aloadN (X : Stand p l e R s m args below meth c T locs cells slots) (hx : p.tables.exec = Jvm.exec) {B : ByteArray} (hby : c.code = B) {pc pc' : Nat} {Ls : Array Slot} {S : List Value} {k : Fin 4} {v : Value} (hd : decode B pc = .ok (.aload_n k, 1)) (hp : pc + 1 = pc') (hl : Ls[k.val]? = some (.val v)) (hv : v.isRef = true) (g : own_Go p.tables e below (T.setTop (mkF m pc' Ls (v :: S))) RR) : own_Go p.tables e below (T.setTop (mkF m pc Ls S)) RR := by
  subst hp
  exact own_st (fun t k => XS.aloadN X.here hx rfl (hb hby hd) hl hv k) g
theorem own_istore (X : Stand p l e R s m args below meth c T locs cells slots) (hx : p.tables.exec = Jvm.exec) {B : ByteArray} (hby : c.code = B) {pc pc' : Nat} {Ls : Array Slot} {S : List Value} {k : Nat} {v : Int32} {Ls' : Array Slot} (hd : decode B pc = .ok (.istore k, 2)) (hp : pc + 2 = pc') (hl : storeLocals Ls k (.int v) = some Ls') (g : own_Go p.tables e below (T.setTop (mkF m pc' Ls' S)) RR) : own_Go p.tables e below (T.setTop (mkF m pc Ls (.int v :: S))) RR := by
  subst hp
  exact own_st (fun t k => XS.istore X.here hx rfl (hb hby hd) rfl hl k) g
theorem own_istoreN (X : Stand p l e R s m args below meth c T locs cells slots) (hx : p.tables.exec = Jvm.exec) {B : ByteArray} (hby : c.code = B) {pc pc' : Nat} {Ls : Array Slot} {S : List Value} {k : Fin 4} {v : Int32} {Ls' : Array Slot} (hd : decode B pc = .ok (.istore_n k, 1)) (hp : pc + 1 = pc') (hl : storeLocals Ls k.val (.int v) = some Ls') (g : own_Go p.tables e below (T.setTop (mkF m pc' Ls' S)) RR) : own_Go p.tables e below (T.setTop (mkF m pc Ls (.int v :: S))) RR := by
  subst hp
  exact own_st (fun t k => XS.istoreN X.here hx rfl (hb hby hd) rfl hl k) g
theorem own_lstore (X : Stand p l e R s m args below meth c T locs cells slots) (hx : p.tables.exec = Jvm.exec) {B : ByteArray} (hby : c.code = B) {pc pc' : Nat} {Ls : Array Slot} {S : List Value} {k : Nat} {v : Int64} {Ls' : Array Slot} (hd : decode B pc = .ok (.lstore k, 2)) (hp : pc + 2 = pc') (hl : storeLocals Ls k (.long v) = some Ls') (g : own_Go p.tables e below (T.setTop (mkF m pc' Ls' S)) RR) : own_Go p.tables e below (T.setTop (mkF m pc Ls (.long v :: S))) RR := by
  subst hp
  exact own_st (fun t k => XS.lstore X.here hx rfl (hb hby hd) rfl hl k) g
theorem own_lstoreN (X : Stand p l e R s m args below meth c T locs cells slots) (hx : p.tables.exec = Jvm.exec) {B : ByteArray} (hby : c.code = B) {pc pc' : Nat} {Ls : Array Slot} {S : List Value} {k : Fin 4} {v : Int64} {Ls' : Array Slot} (hd : decode B pc = .ok (.lstore_n k, 1)) (hp : pc + 1 = pc') (hl : storeLocals Ls k.val (.long v) = some Ls') (g : own_Go p.tables e below (T.setTop (mkF m pc' Ls' S)) RR) : own_Go p.tables e below (T.setTop (mkF m pc Ls (.long v :: S))) RR := by
  subst hp
  exact own_st (fun t k => XS.lstoreN X.here hx rfl (hb hby hd) rfl hl k) g
theorem own_astore (X : Stand p l e R s m args below meth c T locs cells slots) (hx : p.tables.exec = Jvm.exec) {B : ByteArray} (hby : c.code = B) {pc pc' : Nat} {Ls : Array Slot} {S : List Value} {k : Nat} {v : Value} {Ls' : Array Slot} (hd : decode B pc = .ok (.astore k, 2)) (hp : pc + 2 = pc') (hv : v.isRef = true) (hl : storeLocals Ls k v = some Ls') (g : own_Go p.tables e below (T.setTop (mkF m pc' Ls' S)) RR) : own_Go p.tables e below (T.setTop (mkF m pc Ls (v :: S))) RR := by
  subst hp
  exact own_st (fun t k => XS.astore X.here hx rfl (hb hby hd) rfl hv hl k) g
theorem own_astoreN (X : Stand p l e R s m args below meth c T locs cells slots) (hx : p.tables.exec = Jvm.exec) {B : ByteArray} (hby : c.code = B) {pc pc' : Nat} {Ls : Array Slot} {S : List Value} {k : Fin 4} {v : Value} {Ls' : Array Slot} (hd : decode B pc = .ok (.astore_n k, 1)) (hp : pc + 1 = pc') (hv : v.isRef = true) (hl : storeLocals Ls k.val v = some Ls') (g : own_Go p.tables e below (T.setTop (mkF m pc' Ls' S)) RR) : own_Go p.tables e below (T.setTop (mkF m pc Ls (v :: S))) RR := by
  subst hp
  exact own_st (fun t k => XS.astoreN X.here hx rfl (hb hby hd) rfl hv hl k) g
theorem own_iconst (X : Stand p l e R s m args below meth c T locs cells slots) (hx : p.tables.exec = Jvm.exec) {B : ByteArray} (hby : c.code = B) {pc pc' : Nat} {Ls : Array Slot} {S : List Value} {i : Int} {z : Int32} (hd : decode B pc = .ok (.iconst i, 1)) (hp : pc + 1 = pc') (hz : Int32.ofInt i = z) (g : own_Go p.tables e below (T.setTop (mkF m pc' Ls (.int z :: S))) RR) : own_Go p.tables e below (T.setTop (mkF m pc Ls S)) RR := by
  subst hp
  subst hz
  exact own_st (fun t k => XS.iconst X.here hx rfl (hb hby hd) k) g
theorem own_bipush (X : Stand p l e R s m args below meth c T locs cells slots) (hx : p.tables.exec = Jvm.exec) {B : ByteArray} (hby : c.code = B) {pc pc' : Nat} {Ls : Array Slot} {S : List Value} {i : Int} {z : Int32} (hd : decode B pc = .ok (.bipush i, 2)) (hp : pc + 2 = pc') (hz : (Int8.ofInt i).toInt32 = z) (g : own_Go p.tables e below (T.setTop (mkF m pc' Ls (.int z :: S))) RR) : own_Go p.tables e below (T.setTop (mkF m pc Ls S)) RR := by
  subst hp
  subst hz
  exact own_st (fun t k => XS.bipush X.here hx rfl (hb hby hd) k) g
theorem own_sipush (X : Stand p l e R s m args below meth c T locs cells slots) (hx : p.tables.exec = Jvm.exec) {B : ByteArray} (hby : c.code = B) {pc pc' : Nat} {Ls : Array Slot} {S : List Value} {i : Int} {z : Int32} (hd : decode B pc = .ok (.sipush i, 3)) (hp : pc + 3 = pc') (hz : (Int16.ofInt i).toInt32 = z) (g : own_Go p.tables e below (T.setTop (mkF m pc' Ls (.int z :: S))) RR) : own_Go p.tables e below (T.setTop (mkF m pc Ls S)) RR := by
  subst hp
  subst hz
  exact own_st (fun t k => XS.sipush X.here hx rfl (hb hby hd) k) g
theorem own_lconst (X : Stand p l e R s m args below meth c T locs cells slots) (hx : p.tables.exec = Jvm.exec) {B : ByteArray} (hby : c.code = B) {pc pc' : Nat} {Ls : Array Slot} {S : List Value} {k : Fin 2} {z : Int64} (hd : decode B pc = .ok (.lconst k, 1)) (hp : pc + 1 = pc') (hz : Int64.ofNat k = z) (g : own_Go p.tables e below (T.setTop (mkF m pc' Ls (.long z :: S))) RR) : own_Go p.tables e below (T.setTop (mkF m pc Ls S)) RR := by
  subst hp
  subst hz
  exact own_st (fun t k => XS.lconst X.here hx rfl (hb hby hd) k) g
theorem own_aconst_null (X : Stand p l e R s m args below meth c T locs cells slots) (hx : p.tables.exec = Jvm.exec) {B : ByteArray} (hby : c.code = B) {pc pc' : Nat} {Ls : Array Slot} {S : List Value}  (hd : decode B pc = .ok (.aconst_null, 1)) (hp : pc + 1 = pc')  (g : own_Go p.tables e below (T.setTop (mkF m pc' Ls (.null :: S))) RR) : own_Go p.tables e below (T.setTop (mkF m pc Ls S)) RR := by
  subst hp
  exact own_st (fun t k => XS.aconstNull X.here hx rfl (hb hby hd) k) g
theorem own_iadd (X : Stand p l e R s m args below meth c T locs cells slots) (hx : p.tables.exec = Jvm.exec) {B : ByteArray} (hby : c.code = B) {pc pc' : Nat} {Ls : Array Slot} {S : List Value} {x y z : Int32} (hd : decode B pc = .ok (.iadd, 1)) (hp : pc + 1 = pc') (hz : x + y = z) (g : own_Go p.tables e below (T.setTop (mkF m pc' Ls (.int z :: S))) RR) : own_Go p.tables e below (T.setTop (mkF m pc Ls (.int y :: .int x :: S))) RR := by
  subst hp
  subst hz
  exact own_st (fun t k => XS.iadd X.here hx rfl (hb hby hd) rfl k) g
theorem own_ladd (X : Stand p l e R s m args below meth c T locs cells slots) (hx : p.tables.exec = Jvm.exec) {B : ByteArray} (hby : c.code = B) {pc pc' : Nat} {Ls : Array Slot} {S : List Value} {x y z : Int64} (hd : decode B pc = .ok (.ladd, 1)) (hp : pc + 1 = pc') (hz : x + y = z) (g : own_Go p.tables e below (T.setTop (mkF m pc' Ls (.long z :: S))) RR) : own_Go p.tables e below (T.setTop (mkF m pc Ls (.long y :: .long x :: S))) RR := by
  subst hp
  subst hz
  exact own_st (fun t k => XS.ladd X.here hx rfl (hb hby hd) rfl k) g
theorem own_isub (X : Stand p l e R s m args below meth c T locs cells slots) (hx : p.tables.exec = Jvm.exec) {B : ByteArray} (hby : c.code = B) {pc pc' : Nat} {Ls : Array Slot} {S : List Value} {x y z : Int32} (hd : decode B pc = .ok (.isub, 1)) (hp : pc + 1 = pc') (hz : x - y = z) (g : own_Go p.tables e below (T.setTop (mkF m pc' Ls (.int z :: S))) RR) : own_Go p.tables e below (T.setTop (mkF m pc Ls (.int y :: .int x :: S))) RR := by
  subst hp
  subst hz
  exact own_st (fun t k => XS.isub X.here hx rfl (hb hby hd) rfl k) g
theorem own_lsub (X : Stand p l e R s m args below meth c T locs cells slots) (hx : p.tables.exec = Jvm.exec) {B : ByteArray} (hby : c.code = B) {pc pc' : Nat} {Ls : Array Slot} {S : List Value} {x y z : Int64} (hd : decode B pc = .ok (.lsub, 1)) (hp : pc + 1 = pc') (hz : x - y = z) (g : own_Go p.tables e below (T.setTop (mkF m pc' Ls (.long z :: S))) RR) : own_Go p.tables e below (T.setTop (mkF m pc Ls (.long y :: .long x :: S))) RR := by
  subst hp
  subst hz
  exact own_st (fun t k => XS.lsub X.here hx rfl (hb hby hd) rfl k) g
theorem own_imul (X : Stand p l e R s m args below meth c T locs cells slots) (hx : p.tables.exec = Jvm.exec) {B : ByteArray} (hby : c.code = B) {pc pc' : Nat} {Ls : Array Slot} {S : List Value} {x y z : Int32} (hd : decode B pc = .ok (.imul, 1)) (hp : pc + 1 = pc') (hz : x * y = z) (g : own_Go p.tables e below (T.setTop (mkF m pc' Ls (.int z :: S))) RR) : own_Go p.tables e below (T.setTop (mkF m pc Ls (.int y :: .int x :: S))) RR := by
  subst hp
  subst hz
  exact own_st (fun t k => XS.imul X.here hx rfl (hb hby hd) rfl k) g
theorem own_lmul (X : Stand p l e R s m args below meth c T locs cells slots) (hx : p.tables.exec = Jvm.exec) {B : ByteArray} (hby : c.code = B) {pc pc' : Nat} {Ls : Array Slot} {S : List Value} {x y z : Int64} (hd : decode B pc = .ok (.lmul, 1)) (hp : pc + 1 = pc') (hz : x * y = z) (g : own_Go p.tables e below (T.setTop (mkF m pc' Ls (.long z :: S))) RR) : own_Go p.tables e below (T.setTop (mkF m pc Ls (.long y :: .long x :: S))) RR := by
  subst hp
  subst hz
  exact own_st (fun t k => XS.lmul X.here hx rfl (hb hby hd) rfl k) g
theorem own_iand (X : Stand p l e R s m args below meth c T locs cells slots) (hx : p.tables.exec = Jvm.exec) {B : ByteArray} (hby : c.code = B) {pc pc' : Nat} {Ls : Array Slot} {S : List Value} {x y z : Int32} (hd : decode B pc = .ok (.iand, 1)) (hp : pc + 1 = pc') (hz : x &&& y = z) (g : own_Go p.tables e below (T.setTop (mkF m pc' Ls (.int z :: S))) RR) : own_Go p.tables e below (T.setTop (mkF m pc Ls (.int y :: .int x :: S))) RR := by
  subst hp
  subst hz
  exact own_st (fun t k => XS.iand X.here hx rfl (hb hby hd) rfl k) g
theorem own_land (X : Stand p l e R s m args below meth c T locs cells slots) (hx : p.tables.exec = Jvm.exec) {B : ByteArray} (hby : c.code = B) {pc pc' : Nat} {Ls : Array Slot} {S : List Value} {x y z : Int64} (hd : decode B pc = .ok (.land, 1)) (hp : pc + 1 = pc') (hz : x &&& y = z) (g : own_Go p.tables e below (T.setTop (mkF m pc' Ls (.long z :: S))) RR) : own_Go p.tables e below (T.setTop (mkF m pc Ls (.long y :: .long x :: S))) RR := by
  subst hp
  subst hz
  exact own_st (fun t k => XS.land X.here hx rfl (hb hby hd) rfl k) g
theorem own_ior (X : Stand p l e R s m args below meth c T locs cells slots) (hx : p.tables.exec = Jvm.exec) {B : ByteArray} (hby : c.code = B) {pc pc' : Nat} {Ls : Array Slot} {S : List Value} {x y z : Int32} (hd : decode B pc = .ok (.ior, 1)) (hp : pc + 1 = pc') (hz : x ||| y = z) (g : own_Go p.tables e below (T.setTop (mkF m pc' Ls (.int z :: S))) RR) : own_Go p.tables e below (T.setTop (mkF m pc Ls (.int y :: .int x :: S))) RR := by
  subst hp
  subst hz
  exact own_st (fun t k => XS.ior X.here hx rfl (hb hby hd) rfl k) g
theorem own_lor (X : Stand p l e R s m args below meth c T locs cells slots) (hx : p.tables.exec = Jvm.exec) {B : ByteArray} (hby : c.code = B) {pc pc' : Nat} {Ls : Array Slot} {S : List Value} {x y z : Int64} (hd : decode B pc = .ok (.lor, 1)) (hp : pc + 1 = pc') (hz : x ||| y = z) (g : own_Go p.tables e below (T.setTop (mkF m pc' Ls (.long z :: S))) RR) : own_Go p.tables e below (T.setTop (mkF m pc Ls (.long y :: .long x :: S))) RR := by
  subst hp
  subst hz
  exact own_st (fun t k => XS.lor X.here hx rfl (hb hby hd) rfl k) g
theorem own_ixor (X : Stand p l e R s m args below meth c T locs cells slots) (hx : p.tables.exec = Jvm.exec) {B : ByteArray} (hby : c.code = B) {pc pc' : Nat} {Ls : Array Slot} {S : List Value} {x y z : Int32} (hd : decode B pc = .ok (.ixor, 1)) (hp : pc + 1 = pc') (hz : x ^^^ y = z) (g : own_Go p.tables e below (T.setTop (mkF m pc' Ls (.int z :: S))) RR) : own_Go p.tables e below (T.setTop (mkF m pc Ls (.int y :: .int x :: S))) RR := by
  subst hp
  subst hz
  exact own_st (fun t k => XS.ixor X.here hx rfl (hb hby hd) rfl k) g
theorem own_lxor (X : Stand p l e R s m args below meth c T locs cells slots) (hx : p.tables.exec = Jvm.exec) {B : ByteArray} (hby : c.code = B) {pc pc' : Nat} {Ls : Array Slot} {S : List Value} {x y z : Int64} (hd : decode B pc = .ok (.lxor, 1)) (hp : pc + 1 = pc') (hz : x ^^^ y = z) (g : own_Go p.tables e below (T.setTop (mkF m pc' Ls (.long z :: S))) RR) : own_Go p.tables e below (T.setTop (mkF m pc Ls (.long y :: .long x :: S))) RR := by
  subst hp
  subst hz
  exact own_st (fun t k => XS.lxor X.here hx rfl (hb hby hd) rfl k) g
theorem own_ishl (X : Stand p l e R s m args below meth c T locs cells slots) (hx : p.tables.exec = Jvm.exec) {B : ByteArray} (hby : c.code = B) {pc pc' : Nat} {Ls : Array Slot} {S : List Value} {x y z : Int32} (hd : decode B pc = .ok (.ishl, 1)) (hp : pc + 1 = pc') (hz : x <<< (y &&& 31) = z) (g : own_Go p.tables e below (T.setTop (mkF m pc' Ls (.int z :: S))) RR) : own_Go p.tables e below (T.setTop (mkF m pc Ls (.int y :: .int x :: S))) RR := by
  subst hp
  subst hz
  exact own_st (fun t k => XS.ishl X.here hx rfl (hb hby hd) rfl k) g
theorem own_ishr (X : Stand p l e R s m args below meth c T locs cells slots) (hx : p.tables.exec = Jvm.exec) {B : ByteArray} (hby : c.code = B) {pc pc' : Nat} {Ls : Array Slot} {S : List Value} {x y z : Int32} (hd : decode B pc = .ok (.ishr, 1)) (hp : pc + 1 = pc') (hz : x >>> (y &&& 31) = z) (g : own_Go p.tables e below (T.setTop (mkF m pc' Ls (.int z :: S))) RR) : own_Go p.tables e below (T.setTop (mkF m pc Ls (.int y :: .int x :: S))) RR := by
  subst hp
  subst hz
  exact own_st (fun t k => XS.ishr X.here hx rfl (hb hby hd) rfl k) g
theorem own_iushr (X : Stand p l e R s m args below meth c T locs cells slots) (hx : p.tables.exec = Jvm.exec) {B : ByteArray} (hby : c.code = B) {pc pc' : Nat} {Ls : Array Slot} {S : List Value} {x y z : Int32} (hd : decode B pc = .ok (.iushr, 1)) (hp : pc + 1 = pc') (hz : (x.toUInt32 >>> (y &&& 31).toUInt32).toInt32 = z) (g : own_Go p.tables e below (T.setTop (mkF m pc' Ls (.int z :: S))) RR) : own_Go p.tables e below (T.setTop (mkF m pc Ls (.int y :: .int x :: S))) RR := by
  subst hp
  subst hz
  exact own_st (fun t k => XS.iushr X.here hx rfl (hb hby hd) rfl k) g
theorem own_lshl (X : Stand p l e R s m args below meth c T locs cells slots) (hx : p.tables.exec = Jvm.exec) {B : ByteArray} (hby : c.code = B) {pc pc' : Nat} {Ls : Array Slot} {S : List Value} {x z : Int64} {y : Int32} (hd : decode B pc = .ok (.lshl, 1)) (hp : pc + 1 = pc') (hz : x <<< (y &&& 0x3f).toInt64 = z) (g : own_Go p.tables e below (T.setTop (mkF m pc' Ls (.long z :: S))) RR) : own_Go p.tables e below (T.setTop (mkF m pc Ls (.int y :: .long x :: S))) RR := by
  subst hp
  subst hz
  exact own_st (fun t k => XS.lshl X.here hx rfl (hb hby hd) rfl k) g
theorem own_lshr (X : Stand p l e R s m args below meth c T locs cells slots) (hx : p.tables.exec = Jvm.exec) {B : ByteArray} (hby : c.code = B) {pc pc' : Nat} {Ls : Array Slot} {S : List Value} {x z : Int64} {y : Int32} (hd : decode B pc = .ok (.lshr, 1)) (hp : pc + 1 = pc') (hz : x >>> (y &&& 0x3f).toInt64 = z) (g : own_Go p.tables e below (T.setTop (mkF m pc' Ls (.long z :: S))) RR) : own_Go p.tables e below (T.setTop (mkF m pc Ls (.int y :: .long x :: S))) RR := by
  subst hp
  subst hz
  exact own_st (fun t k => XS.lshr X.here hx rfl (hb hby hd) rfl k) g
theorem own_lushr (X : Stand p l e R s m args below meth c T locs cells slots) (hx : p.tables.exec = Jvm.exec) {B : ByteArray} (hby : c.code = B) {pc pc' : Nat} {Ls : Array Slot} {S : List Value} {x z : Int64} {y : Int32} (hd : decode B pc = .ok (.lushr, 1)) (hp : pc + 1 = pc') (hz : (x.toUInt64 >>> (y &&& 0x3f).toInt64.toUInt64).toInt64 = z) (g : own_Go p.tables e below (T.setTop (mkF m pc' Ls (.long z :: S))) RR) : own_Go p.tables e below (T.setTop (mkF m pc Ls (.int y :: .long x :: S))) RR := by
  subst hp
  subst hz
  exact own_st (fun t k => XS.lushr X.here hx rfl (hb hby hd) rfl k) g
theorem own_ineg (X : Stand p l e R s m args below meth c T locs cells slots) (hx : p.tables.exec = Jvm.exec) {B : ByteArray} (hby : c.code = B) {pc pc' : Nat} {Ls : Array Slot} {S : List Value} {x : Int32} {z : Int32} (hd : decode B pc = .ok (.ineg, 1)) (hp : pc + 1 = pc') (hz : -x = z) (g : own_Go p.tables e below (T.setTop (mkF m pc' Ls (.int z :: S))) RR) : own_Go p.tables e below (T.setTop (mkF m pc Ls (.int x :: S))) RR := by
  subst hp
  subst hz
  exact own_st (fun t k => XS.ineg X.here hx rfl (hb hby hd) rfl k) g
theorem own_lneg (X : Stand p l e R s m args below meth c T locs cells slots) (hx : p.tables.exec = Jvm.exec) {B : ByteArray} (hby : c.code = B) {pc pc' : Nat} {Ls : Array Slot} {S : List Value} {x : Int64} {z : Int64} (hd : decode B pc = .ok (.lneg, 1)) (hp : pc + 1 = pc') (hz : -x = z) (g : own_Go p.tables e below (T.setTop (mkF m pc' Ls (.long z :: S))) RR) : own_Go p.tables e below (T.setTop (mkF m pc Ls (.long x :: S))) RR := by
  subst hp
  subst hz
  exact own_st (fun t k => XS.lneg X.here hx rfl (hb hby hd) rfl k) g
theorem own_i2l (X : Stand p l e R s m args below meth c T locs cells slots) (hx : p.tables.exec = Jvm.exec) {B : ByteArray} (hby : c.code = B) {pc pc' : Nat} {Ls : Array Slot} {S : List Value} {x : Int32} {z : Int64} (hd : decode B pc = .ok (.i2l, 1)) (hp : pc + 1 = pc') (hz : x.toInt64 = z) (g : own_Go p.tables e below (T.setTop (mkF m pc' Ls (.long z :: S))) RR) : own_Go p.tables e below (T.setTop (mkF m pc Ls (.int x :: S))) RR := by
  subst hp
  subst hz
  exact own_st (fun t k => XS.i2l X.here hx rfl (hb hby hd) rfl k) g
theorem own_l2i (X : Stand p l e R s m args below meth c T locs cells slots) (hx : p.tables.exec = Jvm.exec) {B : ByteArray} (hby : c.code = B) {pc pc' : Nat} {Ls : Array Slot} {S : List Value} {x : Int64} {z : Int32} (hd : decode B pc = .ok (.l2i, 1)) (hp : pc + 1 = pc') (hz : x.toInt32 = z) (g : own_Go p.tables e below (T.setTop (mkF m pc' Ls (.int z :: S))) RR) : own_Go p.tables e below (T.setTop (mkF m pc Ls (.long x :: S))) RR := by
  subst hp
  subst hz
  exact own_st (fun t k => XS.l2i X.here hx rfl (hb hby hd) rfl k) g
theorem own_i2b (X : Stand p l e R s m args below meth c T locs cells slots) (hx : p.tables.exec = Jvm.exec) {B : ByteArray} (hby : c.code = B) {pc pc' : Nat} {Ls : Array Slot} {S : List Value} {x : Int32} {z : Int32} (hd : decode B pc = .ok (.i2b, 1)) (hp : pc + 1 = pc') (hz : x.toInt8.toInt32 = z) (g : own_Go p.tables e below (T.setTop (mkF m pc' Ls (.int z :: S))) RR) : own_Go p.tables e below (T.setTop (mkF m pc Ls (.int x :: S))) RR := by
  subst hp
  subst hz
  exact own_st (fun t k => XS.i2b X.here hx rfl (hb hby hd) rfl k) g
theorem own_i2s (X : Stand p l e R s m args below meth c T locs cells slots) (hx : p.tables.exec = Jvm.exec) {B : ByteArray} (hby : c.code = B) {pc pc' : Nat} {Ls : Array Slot} {S : List Value} {x : Int32} {z : Int32} (hd : decode B pc = .ok (.i2s, 1)) (hp : pc + 1 = pc') (hz : x.toInt16.toInt32 = z) (g : own_Go p.tables e below (T.setTop (mkF m pc' Ls (.int z :: S))) RR) : own_Go p.tables e below (T.setTop (mkF m pc Ls (.int x :: S))) RR := by
  subst hp
  subst hz
  exact own_st (fun t k => XS.i2s X.here hx rfl (hb hby hd) rfl k) g
theorem own_i2c (X : Stand p l e R s m args below meth c T locs cells slots) (hx : p.tables.exec = Jvm.exec) {B : ByteArray} (hby : c.code = B) {pc pc' : Nat} {Ls : Array Slot} {S : List Value} {x : Int32} {z : Int32} (hd : decode B pc = .ok (.i2c, 1)) (hp : pc + 1 = pc') (hz : x.toUInt32.toUInt16.toUInt32.toInt32 = z) (g : own_Go p.tables e below (T.setTop (mkF m pc' Ls (.int z :: S))) RR) : own_Go p.tables e below (T.setTop (mkF m pc Ls (.int x :: S))) RR := by
  subst hp
  subst hz
  exact own_st (fun t k => XS.i2c X.here hx rfl (hb hby hd) rfl k) g
theorem own_idiv (X : Stand p l e R s m args below meth c T locs cells slots) (hx : p.tables.exec = Jvm.exec) {B : ByteArray} (hby : c.code = B) {pc pc' : Nat} {Ls : Array Slot} {S : List Value} {x y z : Int32} (hd : decode B pc = .ok (.idiv, 1)) (hp : pc + 1 = pc') (hy : y ≠ 0) (hz : x / y = z) (g : own_Go p.tables e below (T.setTop (mkF m pc' Ls (.int z :: S))) RR) : own_Go p.tables e below (T.setTop (mkF m pc Ls (.int y :: .int x :: S))) RR := by
  subst hp
  subst hz
  exact own_st (fun t k => XS.idiv X.here hx rfl (hb hby hd) rfl hy k) g
theorem own_ldiv (X : Stand p l e R s m args below meth c T locs cells slots) (hx : p.tables.exec = Jvm.exec) {B : ByteArray} (hby : c.code = B) {pc pc' : Nat} {Ls : Array Slot} {S : List Value} {x y z : Int64} (hd : decode B pc = .ok (.ldiv, 1)) (hp : pc + 1 = pc') (hy : y ≠ 0) (hz : x / y = z) (g : own_Go p.tables e below (T.setTop (mkF m pc' Ls (.long z :: S))) RR) : own_Go p.tables e below (T.setTop (mkF m pc Ls (.long y :: .long x :: S))) RR := by
  subst hp
  subst hz
  exact own_st (fun t k => XS.ldiv X.here hx rfl (hb hby hd) rfl hy k) g
theorem own_irem (X : Stand p l e R s m args below meth c T locs cells slots) (hx : p.tables.exec = Jvm.exec) {B : ByteArray} (hby : c.code = B) {pc pc' : Nat} {Ls : Array Slot} {S : List Value} {x y z : Int32} (hd : decode B pc = .ok (.irem, 1)) (hp : pc + 1 = pc') (hy : y ≠ 0) (hz : x - (x / y) * y = z) (g : own_Go p.tables e below (T.setTop (mkF m pc' Ls (.int z :: S))) RR) : own_Go p.tables e below (T.setTop (mkF m pc Ls (.int y :: .int x :: S))) RR := by
  subst hp
  subst hz
  exact own_st (fun t k => XS.irem X.here hx rfl (hb hby hd) rfl hy k) g
theorem own_lrem (X : Stand p l e R s m args below meth c T locs cells slots) (hx : p.tables.exec = Jvm.exec) {B : ByteArray} (hby : c.code = B) {pc pc' : Nat} {Ls : Array Slot} {S : List Value} {x y z : Int64} (hd : decode B pc = .ok (.lrem, 1)) (hp : pc + 1 = pc') (hy : y ≠ 0) (hz : x - (x / y) * y = z) (g : own_Go p.tables e below (T.setTop (mkF m pc' Ls (.long z :: S))) RR) : own_Go p.tables e below (T.setTop (mkF m pc Ls (.long y :: .long x :: S))) RR := by
  subst hp
  subst hz
  exact own_st (fun t k => XS.lrem X.here hx rfl (hb hby hd) rfl hy k) g
theorem own_lcmp (X : Stand p l e R s m args below meth c T locs cells slots) (hx : p.tables.exec = Jvm.exec) {B : ByteArray} (hby : c.code = B) {pc pc' : Nat} {Ls : Array Slot} {S : List Value} {x y : Int64} (hd : decode B pc = .ok (.lcmp, 1)) (hp : pc + 1 = pc')  (g : own_Go p.tables e below (T.setTop (mkF m pc' Ls (.int (lcmpW x y) :: S))) RR) : own_Go p.tables e below (T.setTop (mkF m pc Ls (.long y :: .long x :: S))) RR := by
  subst hp
  exact own_st (fun t k => XS.lcmp X.here hx rfl (hb hby hd) rfl k) g
theorem own_iinc (X : Stand p l e R s m args below meth c T locs cells slots) (hx : p.tables.exec = Jvm.exec) {B : ByteArray} (hby : c.code = B) {pc pc' : Nat} {Ls : Array Slot} {S : List Value} {k : Nat} {cst : Int} {x z : Int32} {Ls' : Array Slot} (hd : decode B pc = .ok (.iinc k cst, 3)) (hp : pc + 3 = pc') (hl : Ls[k]? = some (.val (.int x))) (hz : x + Int32.ofInt cst = z) (hl' : storeLocals Ls k (.int z) = some Ls') (g : own_Go p.tables e below (T.setTop (mkF m pc' Ls' S)) RR) : own_Go p.tables e below (T.setTop (mkF m pc Ls S)) RR := by
  subst hp
  subst hz
  exact own_st (fun t k => XS.iinc X.here hx rfl (hb hby hd) hl hl' k) g
theorem own_dup (X : Stand p l e R s m args below meth c T locs cells slots) (hx : p.tables.exec = Jvm.exec) {B : ByteArray} (hby : c.code = B) {pc pc' : Nat} {Ls : Array Slot} {S : List Value} {x : Value} (hd : decode B pc = .ok (.dup, 1)) (hp : pc + 1 = pc') (hc : x.category = 1) (g : own_Go p.tables e below (T.setTop (mkF m pc' Ls (x :: x :: S))) RR) : own_Go p.tables e below (T.setTop (mkF m pc Ls (x :: S))) RR := by
  subst hp
  exact own_st (fun t k => XS.dup X.here hx rfl (hb hby hd) rfl hc k) g
theorem own_dup_x1 (X : Stand p l e R s m args below meth c T locs cells slots) (hx : p.tables.exec = Jvm.exec) {B : ByteArray} (hby : c.code = B) {pc pc' : Nat} {Ls : Array Slot} {S : List Value} {x y : Value} (hd : decode B pc = .ok (.dup_x1, 1)) (hp : pc + 1 = pc') (hc : x.category = 1) (hc' : y.category = 1) (g : own_Go p.tables e below (T.setTop (mkF m pc' Ls (x :: y :: x :: S))) RR) : own_Go p.tables e below (T.setTop (mkF m pc Ls (x :: y :: S))) RR := by
  subst hp
  exact own_st (fun t k => XS.dupX1 X.here hx rfl (hb hby hd) rfl hc hc' k) g
theorem own_dup2 (X : Stand p l e R s m args below meth c T locs cells slots) (hx : p.tables.exec = Jvm.exec) {B : ByteArray} (hby : c.code = B) {pc pc' : Nat} {Ls : Array Slot} {S : List Value} {x y : Value} (hd : decode B pc = .ok (.dup2, 1)) (hp : pc + 1 = pc') (hc : x.category = 1) (hc' : y.category = 1) (g : own_Go p.tables e below (T.setTop (mkF m pc' Ls (x :: y :: x :: y :: S))) RR) : own_Go p.tables e below (T.setTop (mkF m pc Ls (x :: y :: S))) RR := by
  subst hp
  exact own_st (fun t k => Jvm.Free.XT.dup2 X.here hx rfl (hb hby hd) rfl hc hc' k) g
theorem own_dup2L (X : Stand p l e R s m args below meth c T locs cells slots) (hx : p.tables.exec = Jvm.exec) {B : ByteArray} (hby : c.code = B) {pc pc' : Nat} {Ls : Array Slot} {S : List Value} {x : Int64} (hd : decode B pc = .ok (.dup2, 1)) (hp : pc + 1 = pc')  (g : own_Go p.tables e below (T.setTop (mkF m pc' Ls (.long x :: .long x :: S))) RR) : own_Go p.tables e below (T.setTop (mkF m pc Ls (.long x :: S))) RR := by
  subst hp
  exact own_st (fun t k => Jvm.Free.XT.dup2L X.here hx rfl (hb hby hd) rfl k) g
theorem own_pop (X : Stand p l e R s m args below meth c T locs cells slots) (hx : p.tables.exec = Jvm.exec) {B : ByteArray} (hby : c.code = B) {pc pc' : Nat} {Ls : Array Slot} {S : List Value} {x : Value} (hd : decode B pc = .ok (.pop, 1)) (hp : pc + 1 = pc') (hc : x.category = 1) (g : own_Go p.tables e below (T.setTop (mkF m pc' Ls S)) RR) : own_Go p.tables e below (T.setTop (mkF m pc Ls (x :: S))) RR := by
  subst hp
  exact own_st (fun t k => XS.pop X.here hx rfl (hb hby hd) rfl hc k) g
theorem own_goto (X : Stand p l e R s m args below meth c T locs cells slots) (hx : p.tables.exec = Jvm.exec) {B : ByteArray} (hby : c.code = B) {pc pc' : Nat} {Ls : Array Slot} {S : List Value}  {o : Int} (hd : decode B pc = .ok (.goto o, 3)) (hp : 0 ≤ (pc : Int) + o ∧ ((pc : Int) + o).toNat = pc')  (g : own_Go p.tables e below (T.setTop (mkF m pc' Ls S)) RR) : own_Go p.tables e below (T.setTop (mkF m pc Ls S)) RR :=
  own_st (fun t k => XS.goto X.here hx rfl rfl (hb hby hd) hp.1 hp.2 k) g
theorem own_ifYes (X : Stand p l e R s m args below meth c T locs cells slots) (hx : p.tables.exec = Jvm.exec) {B : ByteArray} (hby : c.code = B) {pc pc' : Nat} {Ls : Array Slot} {S : List Value} {cd : ClassFile.Cond} {x : Int32} {o : Int} (hd : decode B pc = .ok (.ifCond cd o, 3)) (hp : 0 ≤ (pc : Int) + o ∧ ((pc : Int) + o).toNat = pc') (hc : if_icmp.holds cd x 0 = true) (g : own_Go p.tables e below (T.setTop (mkF m pc' Ls S)) RR) : own_Go p.tables e below (T.setTop (mkF m pc Ls (.int x :: S))) RR :=
  own_st (fun t k => XS.ifYes X.here hx rfl rfl (hb hby hd) rfl ((if0 _ _).trans hc) hp.1 hp.2 k) g
theorem own_icmpYes (X : Stand p l e R s m args below meth c T locs cells slots) (hx : p.tables.exec = Jvm.exec) {B : ByteArray} (hby : c.code = B) {pc pc' : Nat} {Ls : Array Slot} {S : List Value} {cd : ClassFile.Cond} {x y : Int32} {o : Int} (hd : decode B pc = .ok (.if_icmp cd o, 3)) (hp : 0 ≤ (pc : Int) + o ∧ ((pc : Int) + o).toNat = pc') (hc : if_icmp.holds cd x y = true) (g : own_Go p.tables e below (T.setTop (mkF m pc' Ls S)) RR) : own_Go p.tables e below (T.setTop (mkF m pc Ls (.int y :: .int x :: S))) RR :=
  own_st (fun t k => XS.icmpYes X.here hx rfl rfl (hb hby hd) rfl hc hp.1 hp.2 k) g
theorem own_ifnullYes (X : Stand p l e R s m args below meth c T locs cells slots) (hx : p.tables.exec = Jvm.exec) {B : ByteArray} (hby : c.code = B) {pc pc' : Nat} {Ls : Array Slot} {S : List Value}  {o : Int} (hd : decode B pc = .ok (.ifnull o, 3)) (hp : 0 ≤ (pc : Int) + o ∧ ((pc : Int) + o).toNat = pc')  (g : own_Go p.tables e below (T.setTop (mkF m pc' Ls S)) RR) : own_Go p.tables e below (T.setTop (mkF m pc Ls (.null :: S))) RR :=
  own_st (fun t k => XS.ifnullYes X.here hx rfl rfl (hb hby hd) rfl hp.1 hp.2 k) g
theorem own_ifnonnullYes (X : Stand p l e R s m args below meth c T locs cells slots) (hx : p.tables.exec = Jvm.exec) {B : ByteArray} (hby : c.code = B) {pc pc' : Nat} {Ls : Array Slot} {S : List Value} {b : Addr} {o : Int} (hd : decode B pc = .ok (.ifnonnull o, 3)) (hp : 0 ≤ (pc : Int) + o ∧ ((pc : Int) + o).toNat = pc')  (g : own_Go p.tables e below (T.setTop (mkF m pc' Ls S)) RR) : own_Go p.tables e below (T.setTop (mkF m pc Ls (.ref b :: S))) RR :=
  own_st (fun t k => XS.ifnonnullYes X.here hx rfl rfl (hb hby hd) rfl hp.1 hp.2 k) g
theorem own_ifNo (X : Stand p l e R s m args below meth c T locs cells slots) (hx : p.tables.exec = Jvm.exec) {B : ByteArray} (hby : c.code = B) {pc pc' : Nat} {Ls : Array Slot} {S : List Value} {cd : ClassFile.Cond} {o : Int} {x : Int32} (hd : decode B pc = .ok (.ifCond cd o, 3)) (hp : pc + 3 = pc') (hc : if_icmp.holds cd x 0 = false) (g : own_Go p.tables e below (T.setTop (mkF m pc' Ls S)) RR) : own_Go p.tables e below (T.setTop (mkF m pc Ls (.int x :: S))) RR := by
  subst hp
  exact own_st (fun t k => XS.ifNo X.here hx rfl (hb hby hd) rfl ((if0 _ _).trans hc) k) g
theorem own_icmpNo (X : Stand p l e R s m args below meth c T locs cells slots) (hx : p.tables.exec = Jvm.exec) {B : ByteArray} (hby : c.code = B) {pc pc' : Nat} {Ls : Array Slot} {S : List Value} {cd : ClassFile.Cond} {o : Int} {x y : Int32} (hd : decode B pc = .ok (.if_icmp cd o, 3)) (hp : pc + 3 = pc') (hc : if_icmp.holds cd x y = false) (g : own_Go p.tables e below (T.setTop (mkF m pc' Ls S)) RR) : own_Go p.tables e below (T.setTop (mkF m pc Ls (.int y :: .int x :: S))) RR := by
  subst hp
  exact own_st (fun t k => XS.icmpNo X.here hx rfl (hb hby hd) rfl hc k) g
theorem own_ifnullNo (X : Stand p l e R s m args below meth c T locs cells slots) (hx : p.tables.exec = Jvm.exec) {B : ByteArray} (hby : c.code = B) {pc pc' : Nat} {Ls : Array Slot} {S : List Value} {o : Int} {b : Addr} (hd : decode B pc = .ok (.ifnull o, 3)) (hp : pc + 3 = pc')  (g : own_Go p.tables e below (T.setTop (mkF m pc' Ls S)) RR) : own_Go p.tables e below (T.setTop (mkF m pc Ls (.ref b :: S))) RR := by
  subst hp
  exact own_st (fun t k => XS.ifnullNo X.here hx rfl (hb hby hd) rfl k) g
theorem own_ifnonnullNo (X : Stand p l e R s m args below meth c T locs cells slots) (hx : p.tables.exec = Jvm.exec) {B : ByteArray} (hby : c.code = B) {pc pc' : Nat} {Ls : Array Slot} {S : List Value} {o : Int} (hd : decode B pc = .ok (.ifnonnull o, 3)) (hp : pc + 3 = pc')  (g : own_Go p.tables e below (T.setTop (mkF m pc' Ls S)) RR) : own_Go p.tables e below (T.setTop (mkF m pc Ls (.null :: S))) RR := by
  subst hp
  exact own_st (fun t k => XS.ifnonnullNo X.here hx rfl (hb hby hd) rfl k) g
theorem own_acmp (X : Stand p l e R s m args below meth c T locs cells slots) (hx : p.tables.exec = Jvm.exec) {B : ByteArray} (hby : c.code = B) {pc pc' : Nat} {Ls : Array Slot} {S : List Value} {cd : ACond} {o : Int} {x y : Value} {same : Bool} (hd : decode B pc = .ok (.if_acmp cd o, 3)) (h1 : x.isRef = true) (h2 : y.isRef = true) (hq : decide (x = y) = same) (hp : 0 ≤ (pc : Int) + o ∧ pc' = if acV cd same = true then ((pc : Int) + o).toNat else pc + 3) (g : own_Go p.tables e below (T.setTop (mkF m pc' Ls S)) RR) : own_Go p.tables e below (T.setTop (mkF m pc Ls (y :: x :: S))) RR :=
  own_st (fun t k => Jvm.RoadKit.acmp X hx rfl h1 h2 rfl (hb hby hd) rfl hq hp.1 hp.2 k) g
theorem own_tsw (X : Stand p l e R s m args below meth c T locs cells slots) (hx : p.tables.exec = Jvm.exec) {B : ByteArray} (hby : c.code = B) {pc pc' : Nat} {Ls : Array Slot} {S : List Value} {dflt low high : Int} {offs : Array Int} {len : Nat} {o : Int} {i : Int32} (hd : decode B pc = .ok (.tableswitch dflt low high offs, len)) (hin : ¬ (i.toInt < low ∨ i.toInt > high)) (hoff : offs[(i.toInt - low).toNat]? = some o) (hp : 0 ≤ (pc : Int) + o ∧ ((pc : Int) + o).toNat = pc') (g : own_Go p.tables e below (T.setTop (mkF m pc' Ls S)) RR) : own_Go p.tables e below (T.setTop (mkF m pc Ls (.int i :: S))) RR :=
  own_st (fun t k => XS.tswIn X.here hx rfl rfl (hb hby hd) rfl hin hoff hp.1 hp.2 k) g
theorem own_ldc (X : Stand p l e R s m args below meth c T locs cells slots) (hx : p.tables.exec = Jvm.exec) {B : ByteArray} (hby : c.code = B) {pc pc' : Nat} {Ls : Array Slot} {S : List Value} {own : String} {index : Nat} {v : Int32} (hd : decode B pc = .ok (.ldc index, 2)) (hp : pc + 2 = pc') (hZ : Z.Warmed39 s.vm) (hown : s.vm.findClass own = some m.cls) (w : (Cond.constant own index v).before a0 Z = true) (g : own_Go p.tables e below (T.setTop (mkF m pc' Ls (.int v :: S))) RR) : own_Go p.tables e below (T.setTop (mkF m pc Ls S)) RR := by
  subst hp
  exact own_st (X.ldcInt hx hown (mvT hZ w) (g := mkF m pc Ls S) rfl (hb hby hd)) g
theorem own_ldc2 (X : Stand p l e R s m args below meth c T locs cells slots) (hx : p.tables.exec = Jvm.exec) {B : ByteArray} (hby : c.code = B) {pc pc' : Nat} {Ls : Array Slot} {S : List Value} {own : String} {index : Nat} {v : Int64} (hd : decode B pc = .ok (.ldc2_w index, 3)) (hp : pc + 3 = pc') (hZ : Z.Warmed39 s.vm) (hown : s.vm.findClass own = some m.cls) (w : (Cond.constantLong own index v).before a0 Z = true) (g : own_Go p.tables e below (T.setTop (mkF m pc' Ls (.long v :: S))) RR) : own_Go p.tables e below (T.setTop (mkF m pc Ls S)) RR := by
  subst hp
  exact own_st (X.ldc2Long hx hown (mvT hZ w) (g := mkF m pc Ls S) rfl (hb hby hd)) g
theorem own_getS (X : Stand p l e R s m args below meth c T locs cells slots) (hx : p.tables.exec = Jvm.exec) {B : ByteArray} (hby : c.code = B) {pc pc' : Nat} {Ls : Array Slot} {S : List Value} {own R0 O n d host : String} {index : Nat} {v : Value} (hd : decode B pc = .ok (.getstatic index, 3)) (hp : pc + 3 = pc') (hZ : Z.Warmed39 s.vm) (hown : s.vm.findClass own = some m.cls) (w : (Cond.fieldLink own index R0 n d).before a0 Z = true ∨ (Cond.fieldLinkNest own index R0 n d host).before a0 Z = true) (via : Via Z R0 O n d) (eT : T.heap = h) (F : Sta Z h O n d v) (g : ∀ T' : State, Stand p l e R s m args below meth c T' locs cells slots → T'.heap = h → own_Go p.tables e below (T'.setTop (mkF m pc' Ls (v :: S))) RR) : own_Go p.tables e below (T.setTop (mkF m pc Ls S)) RR := by
  subst hp
  obtain ⟨T', X', e', st⟩ := getS2 X hx hZ hown w via eT F (g := mkF m pc Ls S) rfl (hb hby hd)
  exact own_st st (g T' X' e')
theorem own_getF (X : Stand p l e R s m args below meth c T locs cells slots) (hx : p.tables.exec = Jvm.exec) {B : ByteArray} (hby : c.code = B) {pc pc' : Nat} {Ls : Array Slot} {S : List Value} {own R0 O n d host : String} {index : Nat} {v : Value} {a : Addr} (hd : decode B pc = .ok (.getfield index, 3)) (hp : pc + 3 = pc') (hZ : Z.Warmed39 s.vm) (hown : s.vm.findClass own = some m.cls) (w : (Cond.fieldLink own index R0 n d).before a0 Z = true ∨ (Cond.fieldLinkNest own index R0 n d host).before a0 Z = true) (via : Via Z R0 O n d) (eT : T.heap = h) (F : Fld Z h a O n d v) (g : ∀ T' : State, Stand p l e R s m args below meth c T' locs cells slots → T'.heap = h → own_Go p.tables e below (T'.setTop (mkF m pc' Ls (v :: S))) RR) : own_Go p.tables e below (T.setTop (mkF m pc Ls (.ref a :: S))) RR := by
  subst hp
  obtain ⟨T', X', e', st⟩ := getF X hx hZ hown w via eT F (g := mkF m pc Ls (.ref a :: S)) rfl rfl (hb hby hd)
  exact own_st st (g T' X' e')
theorem own_new (X : Stand p l e R s m args below meth c T locs cells slots) (hx : p.tables.exec = Jvm.exec) {B : ByteArray} (hby : c.code = B) {pc pc' : Nat} {Ls : Array Slot} {S : List Value} {own C : String} {index n : Nat} (hd : decode B pc = .ok (.new index, 3)) (hp : pc + 3 = pc') (hZ : Z.Warmed39 s.vm) (hown : s.vm.findClass own = some m.cls) (w : (Cond.classLink own index C).before a0 Z = true) (wi : (Cond.instantiable C n).before a0 Z = true) (wz : (Cond.initialized C).before a0 Z = true) (eT : T.heap = h) (hc : cells + 1 ≤ R.cells) (hl : slots + n ≤ R.slots) (g : ∀ (T' : State) (h' : Heap) (a : Addr), Stand p l e R s m args below meth c T' locs (cells + 1) (slots + n) → T'.heap = h' → a = h.size → Ext h h' → Exa Z h' a C → (∀ {O nm d : String} {ty : FieldType}, Laid Z a0 C O nm d → parseFieldDescriptor d = some ty → Fld Z h' a O nm d (defaultValue ty)) → own_Go p.tables e below (T'.setTop (mkF m pc' Ls (.ref a :: S))) RR) : own_Go p.tables e below (T.setTop (mkF m pc Ls S)) RR := by
  subst hp
  obtain ⟨T', h', X', e', E', A', D', -, st⟩ := newO X hx hZ hown w wi wz eT (g := mkF m pc Ls S) rfl (hb hby hd) hc hl
  exact own_st st (g T' h' _ X' e' rfl E' A' D')
theorem own_put (X : Stand p l e R s m args below meth c T locs cells slots) (hx : p.tables.exec = Jvm.exec) {B : ByteArray} (hby : c.code = B) {pc pc' : Nat} {Ls : Array Slot} {S : List Value} {own R0 O n d host C : String} {index kk : Nat} {ty : FieldType} {a : Addr} {v old : Value} (hd : decode B pc = .ok (.putfield index, 3)) (hp : pc + 3 = pc') (hZ : Z.Warmed39 s.vm) (hown : s.vm.findClass own = some m.cls) (w : (Cond.fieldLink own index R0 n d).before a0 Z = true ∨ (Cond.fieldLinkNest own index R0 n d host).before a0 Z = true) (via : Via Z R0 O n d) (eT : T.heap = h) (F : Fld Z h a O n d old) (E : Exa Z h a C) (L : (Cond.lays C O n d).before a0 Z = true ∨ ((Cond.laysFinal C O n d).before a0 Z = true ∧ own = O ∧ meth.name = "<init>")) (wi : (Cond.instantiable C kk).before a0 Z = true) (hty : parseFieldDescriptor d = some ty) (hn : narrow ty v = v) (hf : fits ty v = true) (g : ∀ (T' : State) (h' : Heap), Stand p l e R s m args below meth c T' (locs ++ [⟨a, Jvm.RoadKit.slotOf Z O n d⟩]) cells slots → T'.heap = h' → Wr h h' a (Jvm.RoadKit.slotOf Z O n d) v → own_Go p.tables e below (T'.setTop (mkF m pc' Ls S)) RR) : own_Go p.tables e below (T.setTop (mkF m pc Ls (v :: .ref a :: S))) RR := by
  subst hp
  obtain ⟨T', h', X', e', W', st⟩ := putF X hx hZ hown w via eT F E L wi hty hn hf (g := mkF m pc Ls (v :: .ref a :: S)) rfl rfl (hb hby hd)
  exact own_st st (g T' h' X' e' W')
theorem own_putN (X : Stand p l e R s m args below meth c T locs cells slots) (hx : p.tables.exec = Jvm.exec) {B : ByteArray} (hby : c.code = B) {pc pc' : Nat} {Ls : Array Slot} {S : List Value} {own R0 O n d C : String} {index kk : Nat} {ty : FieldType} {a : Addr} {v v' old : Value} (hd : decode B pc = .ok (.putfield index, 3)) (hp : pc + 3 = pc') (hZ : Z.Warmed39 s.vm) (hown : s.vm.findClass own = some m.cls) (w : (Cond.fieldLink own index R0 n d).before a0 Z = true) (via : Via Z R0 O n d) (eT : T.heap = h) (F : Fld Z h a O n d old) (E : Exa Z h a C) (L : (Cond.lays C O n d).before a0 Z = true ∨ ((Cond.laysFinal C O n d).before a0 Z = true ∧ own = O ∧ meth.name = "<init>")) (wi : (Cond.instantiable C kk).before a0 Z = true) (hty : parseFieldDescriptor d = some ty) (hn : narrow ty v = v') (hf : fits ty v' = true) (g : ∀ (T' : State) (h' : Heap), Stand p l e R s m args below meth c T' (locs ++ [⟨a, Jvm.RoadKit.slotOf Z O n d⟩]) cells slots → T'.heap = h' → Wr h h' a (Jvm.RoadKit.slotOf Z O n d) v' → own_Go p.tables e below (T'.setTop (mkF m pc' Ls S)) RR) : own_Go p.tables e below (T.setTop (mkF m pc Ls (v :: .ref a :: S))) RR := by
  subst hp
  obtain ⟨T', h', X', e', W', st⟩ := putFN X hx hZ hown w via eT F E L wi hty hn hf (g := mkF m pc Ls (v :: .ref a :: S)) rfl rfl (hb hby hd)
  exact own_st st (g T' h' X' e' W')
theorem own_initO (X : Stand p l e R s m args below meth c T locs cells slots) (hx : p.tables.exec = Jvm.exec) {B : ByteArray} (hby : c.code = B) {pc pc' : Nat} {Ls : Array Slot} {S : List Value} {own : String} {index : Nat} {a : Addr} (hd : decode B pc = .ok (.invokespecial index, 3)) (hp : pc + 3 = pc') (hZ : Z.Warmed39 s.vm) (hown : s.vm.findClass own = some m.cls) (w1 : (Cond.methodLink own index Lib.objectInit).before a0 Z = true) (w2 : (Cond.instanceMethod Lib.objectInit).before a0 Z = true) (w3 : (Cond.code Lib.objectInit ⟨#[0xb1]⟩ 1 none).before a0 Z = true) (eT : T.heap = h) (hsz : Ls.size = c.maxLocals) (hf : 1 ≤ R.frames) {W : Nat} (hW : (S.map fun v => v.category).sum ≤ W) (hl : W + 12 ≤ R.locals) (g : ∀ (T' : State), Stand p l e R s m args below meth c T' locs cells slots → T'.heap = h → own_Go p.tables e below (T'.setTop (mkF m pc' Ls S)) RR) : own_Go p.tables e below (T.setTop (mkF m pc Ls (.ref a :: S))) RR := by
  subst hp
  obtain ⟨T', X', e', st⟩ := initO X hx hZ hown w1 w2 w3 eT (g := mkF m pc Ls (.ref a :: S)) rfl hsz rfl (hb hby hd) hf (W := W) (by show 2 * 0 + _ ≤ _; omega) hl
  exact own_st st (g T' X' e')
theorem own_castY (X : Stand p l e R s m args below meth c T locs cells slots) (hx : p.tables.exec = Jvm.exec) {B : ByteArray} (hby : c.code = B) {pc pc' : Nat} {Ls : Array Slot} {S : List Value} {own K : String} {index : Nat} {a : Addr} (hd : decode B pc = .ok (.checkcast index, 3)) (hp : pc + 3 = pc') (hZ : Z.Warmed39 s.vm) (hown : s.vm.findClass own = some m.cls) (w : (Cond.classLink own index K).before a0 Z = true) (eT : T.heap = h) (F : Ins Z h a K true) (g : ∀ (T' : State), Stand p l e R s m args below meth c T' locs cells slots → T'.heap = h → own_Go p.tables e below (T'.setTop (mkF m pc' Ls (.ref a :: S))) RR) : own_Go p.tables e below (T.setTop (mkF m pc Ls (.ref a :: S))) RR := by
  subst hp
  obtain ⟨T', X', e', st⟩ := castY X hx hZ hown w eT F (g := mkF m pc Ls (.ref a :: S)) rfl rfl (hb hby hd)
  exact own_st st (g T' X' e')
theorem own_instY (X : Stand p l e R s m args below meth c T locs cells slots) (hx : p.tables.exec = Jvm.exec) {B : ByteArray} (hby : c.code = B) {pc pc' : Nat} {Ls : Array Slot} {S : List Value} {own K : String} {index : Nat} {a : Addr} (hd : decode B pc = .ok (.instanceof index, 3)) (hp : pc + 3 = pc') (hZ : Z.Warmed39 s.vm) (hown : s.vm.findClass own = some m.cls) (w : (Cond.classLink own index K).before a0 Z = true) (eT : T.heap = h) (F : Ins Z h a K true) (g : ∀ (T' : State), Stand p l e R s m args below meth c T' locs cells slots → T'.heap = h → own_Go p.tables e below (T'.setTop (mkF m pc' Ls (.int 1 :: S))) RR) : own_Go p.tables e below (T.setTop (mkF m pc Ls (.ref a :: S))) RR := by
  subst hp
  obtain ⟨T', X', e', st⟩ := instY X hx hZ hown w eT F (g := mkF m pc Ls (.ref a :: S)) rfl rfl (hb hby hd)
  exact own_st st (g T' X' e')
theorem own_castN (X : Stand p l e R s m args below meth c T locs cells slots) (hx : p.tables.exec = Jvm.exec) {B : ByteArray} (hby : c.code = B) {pc pc' : Nat} {Ls : Array Slot} {S : List Value} {index : Nat} (hd : decode B pc = .ok (.checkcast index, 3)) (hp : pc + 3 = pc') (g : own_Go p.tables e below (T.setTop (mkF m pc' Ls (.null :: S))) RR) : own_Go p.tables e below (T.setTop (mkF m pc Ls (.null :: S))) RR := by
  subst hp
  exact own_st (X.checkcastNull hx (g := mkF m pc Ls (.null :: S)) rfl rfl (hb hby hd)) g
theorem own_instN (X : Stand p l e R s m args below meth c T locs cells slots) (hx : p.tables.exec = Jvm.exec) {B : ByteArray} (hby : c.code = B) {pc pc' : Nat} {Ls : Array Slot} {S : List Value} {index : Nat} (hd : decode B pc = .ok (.instanceof index, 3)) (hp : pc + 3 = pc') (g : own_Go p.tables e below (T.setTop (mkF m pc' Ls (.int 0 :: S))) RR) : own_Go p.tables e below (T.setTop (mkF m pc Ls (.null :: S))) RR := by
  subst hp
  exact own_st (X.instanceofNull hx (g := mkF m pc Ls (.null :: S)) rfl rfl (hb hby hd)) g
theorem own_callSp (X : Stand p l e R s m args below meth c T locs cells slots) (hx : p.tables.exec = Jvm.exec) (hZ : Z.Warmed39 s.vm) {y : MethodName} {bytes : ByteArray} {maxL : Nat} {rm : Room} {as' : Array Value}
    (hM : own_Met l y bytes maxL none [] rm as' Z h Q) (hin : y.name = "<init>") {own : String} {index : Nat} (hown : s.vm.findClass own = some m.cls) (w1 : (Cond.methodLink own index y).before a0 Z = true) (w4 : (Cond.instanceMethod y).before a0 Z = true) (w5 : (Cond.code y bytes maxL none).before a0 Z = true) (w6 : (Cond.initialized y.cls).before a0 Z = true)
    (hy : y.cls ≠ "java/lang/invoke/MethodHandle" ∧ y.cls ≠ "java/lang/invoke/VarHandle") {a : Addr} {W : Nat} (hf : rm.frames + 1 ≤ R.frames) (hl : W + (maxL + 11) + rm.locals ≤ R.locals) {pc : Nat} {Ls : Array Slot} (hsz : Ls.size = c.maxLocals) {argsL rest st : List Value} (ha : (Value.ref a :: argsL).toArray = as')
    (hlen : ∀ sig, parseMethodDescriptor y.desc = some sig → argsL.length = sig.parameters.length) (hst : st = argsL.reverse ++ .ref a :: rest) (hW : (rest.map fun v => v.category).sum ≤ W) (hd : decode c.code pc = .ok (.invokespecial index, 3)) (eT : T.heap = h) (hc : cells + rm.cells ≤ R.cells) (hs : slots + rm.slots ≤ R.slots)
    (k : ∀ (v : Option Value) (T' : State) (L : List Loc), Stand p l e R s m args below meth c T' (locs ++ L) (cells + rm.cells) (slots + rm.slots) → Q v T'.heap L → own_Go p.tables e below (T'.setTop (mkF m (pc + 3) Ls (v.toList ++ rest))) RR) :
    own_Go p.tables e below (T.setTop (mkF m pc Ls st)) RR := by
  subst ha
  obtain ⟨v, _, ⟨T', L', k', n'⟩, -, X', ⟨Lc, hQ, l', y', z'⟩, stp⟩ := X.specialBack hx (y := y) hin hown (mvT hZ w1) (mvT hZ w4) (mvT hZ w5) hy (backOf (W := W) hM hZ w5 w6 hf hl) (g := mkF m pc Ls st) rfl hsz (Steps.refl _) (a := a) (argsL := argsL) (rest := rest) hlen hst (by show 2 * 0 + _ ≤ _; omega) hd (fun _ _ => ⟨rfl, eT, hc, hs⟩)
  dsimp only [Pt.U, Pt.locs, Pt.cells, Pt.slots] at X' l' y' z' stp hQ
  subst l' y' z'
  exact own_st (fun t k => stp.trans k) (k v T' Lc X' hQ)
/-! arrays: own_Ar says all that an array holds, by a list -/
def own_Ar (Z : State) (h : Heap) (a : Addr) (ty : FieldType) (vs : List Value) : Prop := ∃ c : Cell, Arr Z h a c ty ∧ c.slots.toList = vs
theorem own_Ar.lt {a : Addr} {ty : FieldType} {vs : List Value} (F : own_Ar Z h a ty vs) : a < h.size := by obtain ⟨c, A, -⟩ := F; exact A.lt
theorem own_Ar.ext {h' : Heap} {a : Addr} {ty : FieldType} {vs : List Value} (F : own_Ar Z h a ty vs) (E : Ext h h') : own_Ar Z h' a ty vs := by obtain ⟨c, A, q⟩ := F; exact ⟨c, A.ext E, q⟩
theorem own_Ar.other {h' : Heap} {a b : Addr} {sl : Nat} {v : Value} {ty : FieldType} {vs : List Value} (F : own_Ar Z h b ty vs) (W : Wr h h' a sl v) (q : b ≠ a) : own_Ar Z h' b ty vs := by obtain ⟨c, A, r⟩ := F; exact ⟨c, A.other W q, r⟩
theorem own_Ar.keep {h' : Heap} {a : Addr} {ws : List Addr} {ty : FieldType} {vs : List Value} (F : own_Ar Z h a ty vs) (K : Keep h h' ws) (q : a ∉ ws) : own_Ar Z h' a ty vs := by obtain ⟨c, A, r⟩ := F; exact ⟨c, ⟨K.2.1 a c A.1 q, A.2⟩, r⟩
theorem own_Ar.same {h' : Heap} {a : Addr} {sl : Nat} {v : Value} {ty : FieldType} {vs : List Value} (F : own_Ar Z h a ty vs) (W : Wr h h' a sl v) : own_Ar Z h' a ty (vs.set sl v) := by
  obtain ⟨c, A, r⟩ := F
  refine ⟨_, A.same W, ?_⟩
  rw [← r]
  show (c.slots.setIfInBounds sl v).toList = _
  exact Array.toList_setIfInBounds
theorem own_Ar.at {a : Addr} {ty : FieldType} {vs : List Value} (F : own_Ar Z h a ty vs) {j : Int32} (hj : ¬ j < 0) {v : Value} (hv : vs[j.toNatClampNeg]? = some v) : ∃ c : Cell, Arr Z h a c ty ∧ c.slots.toList = vs ∧ ¬ (j < 0 ∨ c.slots.size ≤ j.toNatClampNeg) ∧ c.slots[j.toNatClampNeg]? = some v := by
  obtain ⟨c, A, r⟩ := F
  subst r
  have q : c.slots[j.toNatClampNeg]? = some v := by rw [← Array.getElem?_toList]; exact hv
  refine ⟨c, A, rfl, ?_, q⟩
  rintro (u | u)
  · exact hj u
  · rw [Array.getElem?_eq_none u] at q; cases q
theorem own_newA (X : Stand p l e R s m args below meth c T locs cells slots) (hx : p.tables.exec = Jvm.exec) {B : ByteArray} (hby : c.code = B) {pc pc' : Nat} {Ls : Array Slot} {S : List Value} {aty : ArrayType} {n : Int32} {vs : List Value} (hd : decode B pc = .ok (.newarray aty, 2)) (hp : pc + 2 = pc') (hZ : Z.Warmed39 s.vm) (w : (Cond.arrayClass (newarray.typeOf aty)).before a0 Z = true) (eT : T.heap = h) (hn : ¬ n < 0) {cap : Nat} (hcap : n.toNatClampNeg ≤ cap) (hbig : cap * 8 ≤ 536870912) (hc : cells + 1 ≤ R.cells) (hl : slots + cap ≤ R.slots) (hvs : List.replicate n.toNatClampNeg (defaultValue (newarray.typeOf aty)) = vs) (g : ∀ (T' : State) (h' : Heap) (a : Addr), Stand p l e R s m args below meth c T' locs (cells + 1) (slots + cap) → T'.heap = h' → a = h.size → Ext h h' → own_Ar Z h' a (newarray.typeOf aty) vs → own_Go p.tables e below (T'.setTop (mkF m pc' Ls (.ref a :: S))) RR) : own_Go p.tables e below (T.setTop (mkF m pc Ls (.int n :: S))) RR := by
  subst hp
  obtain ⟨T', h', cA, X', e', E', A', st⟩ := newP X hx hZ w eT (g := mkF m pc Ls (.int n :: S)) rfl (hb hby hd) rfl hn hcap hbig hc hl
  exact own_st st (g T' h' _ X' e' rfl E' ⟨_, A', by rw [← hvs]; exact Array.toList_replicate⟩)
theorem own_iaload (X : Stand p l e R s m args below meth c T locs cells slots) (hx : p.tables.exec = Jvm.exec) {B : ByteArray} (hby : c.code = B) {pc pc' : Nat} {Ls : Array Slot} {S : List Value} {a : Addr} {j : Int32} {v : Value} {vs : List Value} (hd : decode B pc = .ok (.iaload, 1)) (hp : pc + 1 = pc') (hZ : Z.Warmed39 s.vm) (eT : T.heap = h) (A : own_Ar Z h a .int vs) (hj : ¬ j < 0) (hv : vs[j.toNatClampNeg]? = some v) (g : own_Go p.tables e below (T.setTop (mkF m pc' Ls (v :: S))) RR) : own_Go p.tables e below (T.setTop (mkF m pc Ls (.int j :: .ref a :: S))) RR := by
  subst hp
  obtain ⟨cl, Ar, -, hin, hat⟩ := A.at hj hv
  exact own_st (fun t k => X.iaload hx (j := j) (v := v) (by rw [eT]; exact Ar.1) (State.isArrayOf_alike hZ.alike Ar.2.1) Ar.2.2 hin hat (g := mkF m pc Ls (.int j :: .ref a :: S)) rfl rfl (hb hby hd) t k) g
theorem own_laload (X : Stand p l e R s m args below meth c T locs cells slots) (hx : p.tables.exec = Jvm.exec) {B : ByteArray} (hby : c.code = B) {pc pc' : Nat} {Ls : Array Slot} {S : List Value} {a : Addr} {j : Int32} {v : Value} {vs : List Value} (hd : decode B pc = .ok (.laload, 1)) (hp : pc + 1 = pc') (hZ : Z.Warmed39 s.vm) (eT : T.heap = h) (A : own_Ar Z h a .long vs) (hj : ¬ j < 0) (hv : vs[j.toNatClampNeg]? = some v) (g : own_Go p.tables e below (T.setTop (mkF m pc' Ls (v :: S))) RR) : own_Go p.tables e below (T.setTop (mkF m pc Ls (.int j :: .ref a :: S))) RR := by
  subst hp
  obtain ⟨cl, Ar, -, hin, hat⟩ := A.at hj hv
  exact own_st (fun t k => X.laload hx (j := j) (v := v) (by rw [eT]; exact Ar.1) (State.isArrayOf_alike hZ.alike Ar.2.1) Ar.2.2 hin hat (g := mkF m pc Ls (.int j :: .ref a :: S)) rfl rfl (hb hby hd) t k) g
theorem own_caload (X : Stand p l e R s m args below meth c T locs cells slots) (hx : p.tables.exec = Jvm.exec) {B : ByteArray} (hby : c.code = B) {pc pc' : Nat} {Ls : Array Slot} {S : List Value} {a : Addr} {j : Int32} {v : Value} {vs : List Value} (hd : decode B pc = .ok (.caload, 1)) (hp : pc + 1 = pc') (hZ : Z.Warmed39 s.vm) (eT : T.heap = h) (A : own_Ar Z h a .char vs) (hj : ¬ j < 0) (hv : vs[j.toNatClampNeg]? = some v) (g : own_Go p.tables e below (T.setTop (mkF m pc' Ls (v :: S))) RR) : own_Go p.tables e below (T.setTop (mkF m pc Ls (.int j :: .ref a :: S))) RR := by
  subst hp
  obtain ⟨cl, Ar, -, hin, hat⟩ := A.at hj hv
  exact own_st (fun t k => X.caload hx (j := j) (v := v) (by rw [eT]; exact Ar.1) (State.isArrayOf_alike hZ.alike Ar.2.1) Ar.2.2 hin hat (g := mkF m pc Ls (.int j :: .ref a :: S)) rfl rfl (hb hby hd) t k) g
theorem own_saload (X : Stand p l e R s m args below meth c T locs cells slots) (hx : p.tables.exec = Jvm.exec) {B : ByteArray} (hby : c.code = B) {pc pc' : Nat} {Ls : Array Slot} {S : List Value} {a : Addr} {j : Int32} {v : Value} {vs : List Value} (hd : decode B pc = .ok (.saload, 1)) (hp : pc + 1 = pc') (hZ : Z.Warmed39 s.vm) (eT : T.heap = h) (A : own_Ar Z h a .short vs) (hj : ¬ j < 0) (hv : vs[j.toNatClampNeg]? = some v) (g : own_Go p.tables e below (T.setTop (mkF m pc' Ls (v :: S))) RR) : own_Go p.tables e below (T.setTop (mkF m pc Ls (.int j :: .ref a :: S))) RR := by
  subst hp
  obtain ⟨cl, Ar, -, hin, hat⟩ := A.at hj hv
  exact own_st (fun t k => X.saload hx (j := j) (v := v) (by rw [eT]; exact Ar.1) (State.isArrayOf_alike hZ.alike Ar.2.1) Ar.2.2 hin hat (g := mkF m pc Ls (.int j :: .ref a :: S)) rfl rfl (hb hby hd) t k) g
theorem own_baload (X : Stand p l e R s m args below meth c T locs cells slots) (hx : p.tables.exec = Jvm.exec) {B : ByteArray} (hby : c.code = B) {pc pc' : Nat} {Ls : Array Slot} {S : List Value} {a : Addr} {j : Int32} {v : Value} {vs : List Value} (hd : decode B pc = .ok (.baload, 1)) (hp : pc + 1 = pc') (hZ : Z.Warmed39 s.vm) (eT : T.heap = h) (A : own_Ar Z h a .byte vs) (hj : ¬ j < 0) (hv : vs[j.toNatClampNeg]? = some v) (g : own_Go p.tables e below (T.setTop (mkF m pc' Ls (v :: S))) RR) : own_Go p.tables e below (T.setTop (mkF m pc Ls (.int j :: .ref a :: S))) RR := by
  subst hp
  obtain ⟨cl, Ar, -, hin, hat⟩ := A.at hj hv
  exact own_st (fun t k => X.baloadBytes hx (j := j) (v := v) (by rw [eT]; exact Ar.1) (State.isArrayOf_alike hZ.alike Ar.2.1) Ar.2.2 hin hat (g := mkF m pc Ls (.int j :: .ref a :: S)) rfl rfl (hb hby hd) t k) g
theorem own_aaload (X : Stand p l e R s m args below meth c T locs cells slots) (hx : p.tables.exec = Jvm.exec) {B : ByteArray} (hby : c.code = B) {pc pc' : Nat} {Ls : Array Slot} {S : List Value} {a : Addr} {j : Int32} {v : Value} {vs : List Value} {ty : FieldType} (hty : ty.isReference = true) (hd : decode B pc = .ok (.aaload, 1)) (hp : pc + 1 = pc') (hZ : Z.Warmed39 s.vm) (eT : T.heap = h) (A : own_Ar Z h a ty vs) (hj : ¬ j < 0) (hv : vs[j.toNatClampNeg]? = some v) (g : own_Go p.tables e below (T.setTop (mkF m pc' Ls (v :: S))) RR) : own_Go p.tables e below (T.setTop (mkF m pc Ls (.int j :: .ref a :: S))) RR := by
  subst hp
  obtain ⟨cl, Ar, -, hin, hat⟩ := A.at hj hv
  exact own_st (fun t k => X.aaload hx (j := j) (v := v) (by rw [eT]; exact Ar.1) (State.isArrayOf_alike hZ.alike Ar.2.1) hty Ar.2.2 hin hat (g := mkF m pc Ls (.int j :: .ref a :: S)) rfl rfl (hb hby hd) t k) g
theorem own_iastore (X : Stand p l e R s m args below meth c T locs cells slots) (hx : p.tables.exec = Jvm.exec) {B : ByteArray} (hby : c.code = B) {pc pc' : Nat} {Ls : Array Slot} {S : List Value} {a : Addr} {j : Int32} {x : Int32} {v : Value} {vs : List Value} (hd : decode B pc = .ok (.iastore, 1)) (hp : pc + 1 = pc') (hZ : Z.Warmed39 s.vm) (eT : T.heap = h) (A : own_Ar Z h a .int vs) (hj : ¬ j < 0) (hv : vs[j.toNatClampNeg]? = some v) (g : ∀ (T' : State) (h' : Heap), Stand p l e R s m args below meth c T' (locs ++ [⟨a, j.toNatClampNeg⟩]) cells slots → T'.heap = h' → Wr h h' a j.toNatClampNeg (.int x) → own_Ar Z h' a .int (vs.set j.toNatClampNeg (.int x)) → own_Go p.tables e below (T'.setTop (mkF m pc' Ls S)) RR) : own_Go p.tables e below (T.setTop (mkF m pc Ls ((.int x) :: .int j :: .ref a :: S))) RR := by
  subst hp
  obtain ⟨cl, Ar, r, hin, hat⟩ := A.at hj hv
  obtain ⟨T', h', X', e', W', st⟩ := stI X hx hZ eT Ar (j := j) (x := x) hin (g := mkF m pc Ls ((.int x) :: .int j :: .ref a :: S)) rfl rfl (hb hby hd)
  exact own_st st (g T' h' X' e' W' (A.same W'))
theorem own_lastore (X : Stand p l e R s m args below meth c T locs cells slots) (hx : p.tables.exec = Jvm.exec) {B : ByteArray} (hby : c.code = B) {pc pc' : Nat} {Ls : Array Slot} {S : List Value} {a : Addr} {j : Int32} {x : Int64} {v : Value} {vs : List Value} (hd : decode B pc = .ok (.lastore, 1)) (hp : pc + 1 = pc') (hZ : Z.Warmed39 s.vm) (eT : T.heap = h) (A : own_Ar Z h a .long vs) (hj : ¬ j < 0) (hv : vs[j.toNatClampNeg]? = some v) (g : ∀ (T' : State) (h' : Heap), Stand p l e R s m args below meth c T' (locs ++ [⟨a, j.toNatClampNeg⟩]) cells slots → T'.heap = h' → Wr h h' a j.toNatClampNeg (.long x) → own_Ar Z h' a .long (vs.set j.toNatClampNeg (.long x)) → own_Go p.tables e below (T'.setTop (mkF m pc' Ls S)) RR) : own_Go p.tables e below (T.setTop (mkF m pc Ls ((.long x) :: .int j :: .ref a :: S))) RR := by
  subst hp
  obtain ⟨cl, Ar, r, hin, hat⟩ := A.at hj hv
  obtain ⟨T', h', X', e', W', st⟩ := stJ X hx hZ eT Ar (j := j) (x := x) hin (g := mkF m pc Ls ((.long x) :: .int j :: .ref a :: S)) rfl rfl (hb hby hd)
  exact own_st st (g T' h' X' e' W' (A.same W'))
theorem own_castore (X : Stand p l e R s m args below meth c T locs cells slots) (hx : p.tables.exec = Jvm.exec) {B : ByteArray} (hby : c.code = B) {pc pc' : Nat} {Ls : Array Slot} {S : List Value} {a : Addr} {j : Int32} {x : Int32} {v : Value} {vs : List Value} (hd : decode B pc = .ok (.castore, 1)) (hp : pc + 1 = pc') (hZ : Z.Warmed39 s.vm) (eT : T.heap = h) (A : own_Ar Z h a .char vs) (hj : ¬ j < 0) (hv : vs[j.toNatClampNeg]? = some v) (g : ∀ (T' : State) (h' : Heap), Stand p l e R s m args below meth c T' (locs ++ [⟨a, j.toNatClampNeg⟩]) cells slots → T'.heap = h' → Wr h h' a j.toNatClampNeg (.int (nar .char x)) → own_Ar Z h' a .char (vs.set j.toNatClampNeg (.int (nar .char x))) → own_Go p.tables e below (T'.setTop (mkF m pc' Ls S)) RR) : own_Go p.tables e below (T.setTop (mkF m pc Ls ((.int x) :: .int j :: .ref a :: S))) RR := by
  subst hp
  obtain ⟨cl, Ar, r, hin, hat⟩ := A.at hj hv
  obtain ⟨T', h', X', e', W', st⟩ := stC X hx hZ eT Ar (j := j) (x := x) hin (g := mkF m pc Ls ((.int x) :: .int j :: .ref a :: S)) rfl rfl (hb hby hd)
  exact own_st st (g T' h' X' e' W' (A.same W'))
theorem own_bastore (X : Stand p l e R s m args below meth c T locs cells slots) (hx : p.tables.exec = Jvm.exec) {B : ByteArray} (hby : c.code = B) {pc pc' : Nat} {Ls : Array Slot} {S : List Value} {a : Addr} {j : Int32} {x : Int32} {v : Value} {vs : List Value} (hd : decode B pc = .ok (.bastore, 1)) (hp : pc + 1 = pc') (hZ : Z.Warmed39 s.vm) (eT : T.heap = h) (A : own_Ar Z h a .byte vs) (hj : ¬ j < 0) (hv : vs[j.toNatClampNeg]? = some v) (g : ∀ (T' : State) (h' : Heap), Stand p l e R s m args below meth c T' (locs ++ [⟨a, j.toNatClampNeg⟩]) cells slots → T'.heap = h' → Wr h h' a j.toNatClampNeg (.int x.toInt8.toInt32) → own_Ar Z h' a .byte (vs.set j.toNatClampNeg (.int x.toInt8.toInt32)) → own_Go p.tables e below (T'.setTop (mkF m pc' Ls S)) RR) : own_Go p.tables e below (T.setTop (mkF m pc Ls ((.int x) :: .int j :: .ref a :: S))) RR := by
  subst hp
  obtain ⟨cl, Ar, r, hin, hat⟩ := A.at hj hv
  obtain ⟨T', h', X', e', W', st⟩ := stB X hx hZ eT Ar (j := j) (x := x) hin (g := mkF m pc Ls ((.int x) :: .int j :: .ref a :: S)) rfl rfl (hb hby hd)
  exact own_st st (g T' h' X' e' W' (A.same W'))
theorem own_len (X : Stand p l e R s m args below meth c T locs cells slots) (hx : p.tables.exec = Jvm.exec) {B : ByteArray} (hby : c.code = B) {pc pc' : Nat} {Ls : Array Slot} {S : List Value} {a : Addr} {ty : FieldType} {n : Int32} {vs : List Value} (hd : decode B pc = .ok (.arraylength, 1)) (hp : pc + 1 = pc') (hZ : Z.Warmed39 s.vm) (eT : T.heap = h) (A : own_Ar Z h a ty vs) (hn : vs.length.toInt32 = n) (g : own_Go p.tables e below (T.setTop (mkF m pc' Ls (.int n :: S))) RR) : own_Go p.tables e below (T.setTop (mkF m pc Ls (.ref a :: S))) RR := by
  subst hp hn
  obtain ⟨cl, Ar, r⟩ := A
  subst r
  exact own_st (fun t k => X.arraylength hx (by rw [eT]; exact Ar.1) (State.isArrayOf_alike hZ.alike Ar.2.1) (g := mkF m pc Ls (.ref a :: S)) rfl rfl (hb hby hd) t (by rw [← Array.length_toList]; exact k)) g
theorem own_clone (X : Stand p l e R s m args below meth c T locs cells slots) (hx : p.tables.exec = Jvm.exec) {B : ByteArray} (hby : c.code = B) {pc pc' : Nat} {Ls : Array Slot} {S : List Value} {own ad : String} {index : Nat} {a : Addr} {cl : Cell} {ty : FieldType} (hd : decode B pc = .ok (.invokevirtual index, 3)) (hp : pc + 3 = pc') (hZ : Z.Warmed39 s.vm) (hown : s.vm.findClass own = some m.cls) (w1 : (Cond.methodLink own index ⟨ad, "clone", "()Ljava/lang/Object;"⟩).before a0 Z = true) (w2 : (Cond.sameMethod ad "java/lang/Object" "clone" "()Ljava/lang/Object;").before a0 Z = true) (w3 : (Cond.native ⟨"java/lang/Object", "clone", "()Ljava/lang/Object;"⟩).before a0 Z = true) (w4 : (Cond.instanceMethod ⟨"java/lang/Object", "clone", "()Ljava/lang/Object;"⟩).before a0 Z = true) (w5 : (Cond.selects ad ⟨ad, "clone", "()Ljava/lang/Object;"⟩ ⟨"java/lang/Object", "clone", "()Ljava/lang/Object;"⟩).before a0 Z = true) (w6 : (Cond.castable ad "java/lang/Cloneable").before a0 Z = true) (eT : T.heap = h) (A : Arr Z h a cl ty) (E : Exa Z h a ad) (F : FitC Z cl) (hsz : Ls.size = c.maxLocals) (hf : 1 ≤ R.frames) {W cap : Nat} (hW : (S.map fun v => v.category).sum ≤ W) (hl : W + 14 ≤ R.locals) (hcap : cl.slots.size ≤ cap) (hc : cells + 1 ≤ R.cells) (hsl : slots + cap ≤ R.slots) (g : ∀ (T' : State) (h' : Heap) (b : Addr), Stand p l e R s m args below meth c T' locs (cells + 1) (slots + cap) → T'.heap = h' → b = h.size → Ext h h' → Arr Z h' b (cloneOf cl) ty → Exa Z h' b ad → own_Go p.tables e below (T'.setTop (mkF m pc' Ls (.ref b :: S))) RR) : own_Go p.tables e below (T.setTop (mkF m pc Ls (.ref a :: S))) RR := by
  subst hp
  obtain ⟨T', h', X', e', E', A', F', st⟩ := cloneA X hx hZ hown w1 w2 w3 w4 w5 w6 eT A E F (g := mkF m pc Ls (.ref a :: S)) rfl hsz rfl (hb hby hd) hf (W := W) (by show 2 * 0 + _ ≤ _; omega) hl hcap hc hsl
  exact own_st st (g T' h' _ X' e' rfl E' A' F')
theorem own_Ar.arv {a : Addr} {ty : FieldType} {vs : List Value} {dv : Value} (F : own_Ar Z h a ty vs) (hl : vs.length < 2 ^ 31) (hf : ∀ v ∈ vs, fits ty v = true) : ∃ k, vs.length.toInt32.toNatClampNeg = vs.length ∧ Arv Z h a k ty vs.length.toInt32 vs dv := by
  obtain ⟨c, A, r⟩ := F
  subst r
  have e : c.slots.toList.length = c.slots.size := Array.length_toList
  have i : c.slots.size.toInt32.toInt = (c.slots.size : Int) := len_toInt (by rw [← e]; exact hl)
  have z : c.slots.size.toInt32.toNatClampNeg = c.slots.size := by simp only [Int32.toNatClampNeg, i]; rfl
  have g : ∀ k, k < c.slots.size → c.slots[k]? = some (c.slots.toList.getD k dv) := fun k hk => by
    rw [List.getD_eq_getElem?_getD, Array.getElem?_toList, Array.getElem?_eq_getElem hk]; rfl
  rw [e]
  refine ⟨c.cls, z, c, A, rfl, z.symm, ?_, g, fun k hk => ?_⟩
  · intro q
    have q' := Int32.lt_iff_toInt_lt.mp q
    rw [i] at q'
    have z0 : (0 : Int32).toInt = 0 := rfl
    omega
  · have q := g k hk
    refine hf _ ?_
    rw [← Array.getElem?_toList] at q
    exact List.mem_of_getElem? q
theorem own_Ar.of_arv {a : Addr} {k : ClassId} {z : Int32} {ty : FieldType} {vs : List Value} {dv : Value} (F : Arv Z h a k ty z vs dv) (hl : vs.length = z.toNatClampNeg) : own_Ar Z h a ty vs := by
  obtain ⟨c, A, -, S, -, H, -⟩ := F
  refine ⟨c, A, ?_⟩
  apply List.ext_getElem?
  intro i
  rw [Array.getElem?_toList]
  by_cases q : i < c.slots.size
  · rw [H i q, List.getD_eq_getElem?_getD, List.getElem?_eq_getElem (by omega)]; rfl
  · rw [Array.getElem?_eq_none (by omega), List.getElem?_eq_none (by omega)]
theorem own_range {vs : List Value} {dv : Value} : ∀ (n sp : Nat), sp + n ≤ vs.length → ((List.range n).map fun i => vs.getD (sp + i) dv) = (vs.drop sp).take n := by
  intro n sp hle
  apply List.ext_getElem?
  intro i
  by_cases q : i < n
  · rw [List.getElem?_map, List.getElem?_range q, List.getElem?_take_of_lt q, List.getElem?_drop, List.getElem?_eq_getElem (by omega)]
    simp only [Option.map_some]
    rw [List.getD_eq_getElem?_getD, List.getElem?_eq_getElem (by omega)]; rfl
  · rw [List.getElem?_eq_none (by simp; omega), List.getElem?_eq_none (by simp; omega)]
theorem own_cp (X : Stand p l e R s m args below meth c T locs cells slots) (hx : p.tables.exec = Jvm.exec) {B : ByteArray} (hby : c.code = B) {pc pc' : Nat} {Ls : Array Slot} {S : List Value} {own : String} {index : Nat} {a b : Addr} {sp dp nn : Int32} {vs vd us : List Value} (hd : decode B pc = .ok (.invokestatic index, 3)) (hp : pc + 3 = pc') (hZ : Z.Warmed39 s.vm) (hown : s.vm.findClass own = some m.cls) (w1 : (Cond.methodLink own index Jvm.Stand.acN).before a0 Z = true) (w2 : (Cond.native Jvm.Stand.acN).before a0 Z = true) (w3 : (Cond.static Jvm.Stand.acN).before a0 Z = true) (w4 : (Cond.initialized "java/lang/System").before a0 Z = true) (eT : T.heap = h) {ty : FieldType} (hty : refKind ty = false) (A : own_Ar Z h a ty vs) (D : own_Ar Z h b ty vd) (hA : ∀ v ∈ vs, fits ty v = true) (hD : ∀ v ∈ vd, fits ty v = true) (h1 : ¬ sp < 0) (h2 : ¬ dp < 0) (h3 : ¬ nn < 0) (h4 : sp.toNatClampNeg + nn.toNatClampNeg ≤ vs.length) (h5 : dp.toNatClampNeg + nn.toNatClampNeg ≤ vd.length) (lA : vs.length < 2 ^ 31) (lD : vd.length < 2 ^ 31) (hus : vd.take dp.toNatClampNeg ++ (vs.drop sp.toNatClampNeg).take nn.toNatClampNeg ++ vd.drop (dp.toNatClampNeg + nn.toNatClampNeg) = us) {n0 : Nat} (N : Fr n0 locs) (ge : n0 ≤ b) (hsz : Ls.size = c.maxLocals) (hf : 1 ≤ R.frames) {W : Nat} (hW : (S.map fun v => v.category).sum ≤ W) (hlo : W + (nativeFrameWords "java/lang/System" "arraycopy" 5 + 11) ≤ R.locals) (g : ∀ (T' : State) (h' : Heap) (L : List Loc), Stand p l e R s m args below meth c T' L cells slots → T'.heap = h' → Fr n0 L → Keep h h' [b] → own_Ar Z h' b ty us → own_Go p.tables e below (T'.setTop (mkF m pc' Ls S)) RR) : own_Go p.tables e below (T.setTop (mkF m pc Ls (.int nn :: .int dp :: .ref b :: .int sp :: .ref a :: S))) RR := by
  subst hp
  obtain ⟨k, q1, A'⟩ := A.arv (dv := .null) lA hA
  obtain ⟨k', q2, D'⟩ := D.arv (dv := .null) lD hD
  obtain ⟨T', h', L, X', e', N', K', B', st⟩ := cpA X hx hZ hown w1 w2 w3 w4 eT A' D' (Or.inl ⟨rfl, hty⟩) h1 h2 h3 (by rw [q1]; exact h4) (by rw [q2]; exact h5) rfl h5 N ge (g := mkF m pc Ls (.int nn :: .int dp :: .ref b :: .int sp :: .ref a :: S)) rfl hsz rfl (hb hby hd) hf (W := W) (by show 2 * 0 + _ ≤ _; omega) hlo
  rw [own_range _ _ h4, hus] at B'
  refine own_st st (g T' h' L X' e' N' K' (own_Ar.of_arv B' ?_))
  rw [q2, ← hus]
  simp only [List.length_append, List.length_take, List.length_drop]
  omega
theorem own_callSpB (X : Stand p l e R s m args below meth c T locs cells slots) (hx : p.tables.exec = Jvm.exec) (hZ : Z.Warmed39 s.vm) {y : MethodName} {rc rs : Nat} {W : Nat} {as' : Array Value} (hK : Back l R p e below s args y 3 W (fun A a => a = as' ∧ A.U.heap = h ∧ A.cells + rc ≤ R.cells ∧ A.slots + rs ≤ R.slots) (fun A _ v B => ∃ L, Q v B.U.heap L ∧ B.locs = A.locs ++ L ∧ B.cells = A.cells + rc ∧ B.slots = A.slots + rs)) (hin : y.name = "<init>") {own : String} {index : Nat} (hown : s.vm.findClass own = some m.cls) (w1 : (Cond.methodLink own index y).before a0 Z = true) (w4 : (Cond.instanceMethod y).before a0 Z = true) {bytes : ByteArray} {maxL : Nat} (w5 : (Cond.code y bytes maxL none).before a0 Z = true) (hy : y.cls ≠ "java/lang/invoke/MethodHandle" ∧ y.cls ≠ "java/lang/invoke/VarHandle") {a : Addr} {pc : Nat} {Ls : Array Slot} (hsz : Ls.size = c.maxLocals) {argsL rest st : List Value} (ha : (Value.ref a :: argsL).toArray = as') (hlen : ∀ sig, parseMethodDescriptor y.desc = some sig → argsL.length = sig.parameters.length) (hst : st = argsL.reverse ++ .ref a :: rest) (hW : (rest.map fun v => v.category).sum ≤ W) (hd : decode c.code pc = .ok (.invokespecial index, 3)) (eT : T.heap = h) (hc : cells + rc ≤ R.cells) (hs : slots + rs ≤ R.slots) (k : ∀ (v : Option Value) (T' : State) (L : List Loc), Stand p l e R s m args below meth c T' (locs ++ L) (cells + rc) (slots + rs) → Q v T'.heap L → own_Go p.tables e below (T'.setTop (mkF m (pc + 3) Ls (v.toList ++ rest))) RR) :
    own_Go p.tables e below (T.setTop (mkF m pc Ls st)) RR := by
  subst ha
  obtain ⟨v, _, ⟨T', L', k', n'⟩, -, X', ⟨Lc, hQ, l', y', z'⟩, stp⟩ := X.specialBack hx (y := y) hin hown (mvT hZ w1) (mvT hZ w4) (mvT hZ w5) hy hK (g := mkF m pc Ls st) rfl hsz (Steps.refl _) (a := a) (argsL := argsL) (rest := rest) hlen hst (by show 2 * 0 + _ ≤ _; omega) hd (fun _ _ => ⟨rfl, eT, hc, hs⟩)
  dsimp only [Pt.U, Pt.locs, Pt.cells, Pt.slots] at X' l' y' z' stp hQ
  subst l' y' z'
  exact own_st (fun t k => stp.trans k) (k v T' Lc X' hQ)
theorem own_callVB (X : Stand p l e R s m args below meth c T locs cells slots) (hx : p.tables.exec = Jvm.exec) (hZ : Z.Warmed39 s.vm) {y : MethodName} {rc rs : Nat} {W : Nat} {as' : Array Value} (hK : Back l R p e below s args y 3 W (fun A a => a = as' ∧ A.U.heap = h ∧ A.cells + rc ≤ R.cells ∧ A.slots + rs ≤ R.slots) (fun A _ v B => ∃ L, Q v B.U.heap L ∧ B.locs = A.locs ++ L ∧ B.cells = A.cells + rc ∧ B.slots = A.slots + rs)) {own C : String} {index : Nat} (hown : s.vm.findClass own = some m.cls) (w1 : (Cond.methodLink own index y).before a0 Z = true) (w2 : (Cond.declares y).before a0 Z = true) (w3 : (Cond.selects C y y).before a0 Z = true) (w4 : (Cond.instanceMethod y).before a0 Z = true) (hy : y.cls ≠ "java/lang/invoke/MethodHandle" ∧ y.cls ≠ "java/lang/invoke/VarHandle") {a : Addr} (E : Exa Z h a C) {pc : Nat} {Ls : Array Slot} (hsz : Ls.size = c.maxLocals) {argsL rest st : List Value} (ha : (Value.ref a :: argsL).toArray = as') (hlen : ∀ sig, parseMethodDescriptor y.desc = some sig → argsL.length = sig.parameters.length) (hst : st = argsL.reverse ++ .ref a :: rest) (hW : (rest.map fun v => v.category).sum ≤ W) (hd : decode c.code pc = .ok (.invokevirtual index, 3)) (eT : T.heap = h) (hc : cells + rc ≤ R.cells) (hs : slots + rs ≤ R.slots) (k : ∀ (v : Option Value) (T' : State) (L : List Loc), Stand p l e R s m args below meth c T' (locs ++ L) (cells + rc) (slots + rs) → Q v T'.heap L → own_Go p.tables e below (T'.setTop (mkF m (pc + 3) Ls (v.toList ++ rest))) RR) :
    own_Go p.tables e below (T.setTop (mkF m pc Ls st)) RR := by
  subst ha
  obtain ⟨cB, kB, qa, qb, qc⟩ := isOf hZ eT E
  obtain ⟨v, _, ⟨T', L', k', n'⟩, -, X', ⟨Lc, hQ, l', y', z'⟩, stp⟩ := X.virtualBack hx (y := y) (z := y) hown (mvT hZ w1) (mvT hZ w2) (notFace_of_selects (args := #[]) (mvT hZ w3)) (mvT hZ w3) (mvT hZ w4) hy hK qa qc (g := mkF m pc Ls st) rfl hsz (Steps.refl _) (argsL := argsL) (rest := rest) hlen hst (by show 2 * 0 + _ ≤ _; omega) hd (fun _ _ => ⟨rfl, eT, hc, hs⟩)
  dsimp only [Pt.U, Pt.locs, Pt.cells, Pt.slots] at X' l' y' z' stp hQ
  subst l' y' z'
  exact own_st (fun t k => stp.trans k) (k v T' Lc X' hQ)
theorem own_callSB (X : Stand p l e R s m args below meth c T locs cells slots) (hx : p.tables.exec = Jvm.exec) (hZ : Z.Warmed39 s.vm) {y : MethodName} {rc rs : Nat} {W : Nat} {as' : Array Value} (hK : Back l R p e below s args y 3 W (fun A a => a = as' ∧ A.U.heap = h ∧ A.cells + rc ≤ R.cells ∧ A.slots + rs ≤ R.slots) (fun A _ v B => ∃ L, Q v B.U.heap L ∧ B.locs = A.locs ++ L ∧ B.cells = A.cells + rc ∧ B.slots = A.slots + rs)) {own : String} {index : Nat} (hown : s.vm.findClass own = some m.cls) (w1 : (Cond.methodLink own index y).before a0 Z = true) (w2 : (Cond.static y).before a0 Z = true) (w3 : (Cond.initialized y.cls).before a0 Z = true) {bytes : ByteArray} {maxL : Nat} {rt : Option FieldType} (w4 : (Cond.code y bytes maxL rt).before a0 Z = true) (hy : y.cls ≠ "java/lang/invoke/MethodHandle" ∧ y.cls ≠ "java/lang/invoke/VarHandle") {pc : Nat} {Ls : Array Slot} (hsz : Ls.size = c.maxLocals) {argsL rest st : List Value} (ha : argsL.toArray = as') (hlen : ∀ sig, parseMethodDescriptor y.desc = some sig → argsL.length = sig.parameters.length) (hst : st = argsL.reverse ++ rest) (hW : (rest.map fun v => v.category).sum ≤ W) (hd : decode c.code pc = .ok (.invokestatic index, 3)) (eT : T.heap = h) (hc : cells + rc ≤ R.cells) (hs : slots + rs ≤ R.slots) (k : ∀ (v : Option Value) (T' : State) (L : List Loc), Stand p l e R s m args below meth c T' (locs ++ L) (cells + rc) (slots + rs) → Q v T'.heap L → own_Go p.tables e below (T'.setTop (mkF m (pc + 3) Ls (v.toList ++ rest))) RR) :
    own_Go p.tables e below (T.setTop (mkF m pc Ls st)) RR := by
  subst ha
  obtain ⟨v, _, ⟨T', L', k', n'⟩, -, X', ⟨Lc, hQ, l', y', z'⟩, stp⟩ := Jvm.LawKit.callS X hx (y := y) hown (mvT hZ w1) (mvT hZ w2) (mvT hZ w3) (mvT hZ w4) hy hK (g := mkF m pc Ls st) rfl hsz (argsL := argsL) (rest := rest) hlen hst (by show 2 * 0 + _ ≤ _; omega) hd (fun _ _ => ⟨rfl, eT, hc, hs⟩)
  dsimp only [Pt.U, Pt.locs, Pt.cells, Pt.slots] at X' l' y' z' stp hQ
  subst l' y' z'
  exact own_st stp (k v T' Lc X' hQ)
end Own
/-! the wide walks: a String constant may have been loaded: the Stand is over (s.setVm vm0); own_Wd: what such a walk bears besides -/
section OwnWide
variable {p : Program} {l : Launch} {e : Env} {R : Room} {s : State} {m : MethodId} {args : Array Value} {below : List Frame} {meth : Method} {c : Code} {T : State} {locs : List Loc} {cells slots : Nat} {Z : State} {a0 : Array Value} {h h' : Heap} {Q : Option Value → Heap → List Loc → Prop} {RR : Outcome → State → Prop} {vm0 : Vm} {EL : List (String × Nat)} {own : String}
abbrev own_RH (Z : State) (EL : List (String × Nat)) (s : State) (Q : Option Value → Heap → List Loc → Prop) (k n : Nat) (o : Outcome) (t : State) : Prop := ∃ v L, o = .returned v ∧ Q v t.heap L ∧ CHr Z EL s.vm s.heap t.vm t.heap ∧ ReturnedEndW s o t L k n
abbrev own_MetW (l : Launch) (y : MethodName) (bytes : ByteArray) (maxL : Nat) (rt : Option FieldType) (ws : List Jvm.Cond) (rm : Room) (as' : Array Value) (Z : State) (EL : List (String × Nat)) (h0 : Heap) (Q : Option Value → Heap → List Loc → Prop) : Prop :=
  MetFree l y (head1 (Jvm.Cond.code y bytes maxL rt :: ws) rm) (fun a U => a = as' ∧ Z.Warmed39 U.vm ∧ U.heap = h0 ∧ CHv Z EL U.vm h0) (fun _ _ _ _ _ => True) (fun _ U o U' => ∃ v L, o = .returned v ∧ Q v U'.heap L ∧ CHr Z EL U.vm U.heap U'.vm U'.heap ∧ ReturnedEndW U o U' L rm.cells rm.slots)
def own_Wd (Z : State) (EL : List (String × Nat)) (s : State) (vm : Vm) (m : MethodId) (own : String) (h : Heap) : Prop := Z.Warmed39 vm ∧ vm.findClass own = some m.cls ∧ (∃ k, s.Since vm k ∧ k ≤ h.size) ∧ CHr Z EL s.vm s.heap vm h
theorem own_Wd.ch (D : own_Wd Z EL s vm0 m own h) : CHv Z EL vm0 h := D.2.2.2.1
theorem own_Wd.ext (D : own_Wd Z EL s vm0 m own h) (E : Ext h h') : own_Wd Z EL s vm0 m own h' := by
  obtain ⟨h1, h2, ⟨k, h3, h4⟩, h5⟩ := D
  exact ⟨h1, h2, ⟨k, h3, Nat.le_trans h4 E.1⟩, h5.trans (CHr.ext E h5.1)⟩
theorem own_Wd.wr {a : Addr} {sl : Nat} {v : Value} (D : own_Wd Z EL s vm0 m own h) (W : Wr h h' a sl v) (S : Safe Z EL vm0 h a) : own_Wd Z EL s vm0 m own h' := by
  obtain ⟨h1, h2, ⟨k, h3, h4⟩, h5⟩ := D
  exact ⟨h1, h2, ⟨k, h3, by rw [W.size]; exact h4⟩, h5.trans (CHr.wr W S h5.1)⟩
theorem own_Wd.keep {ws : List Addr} (D : own_Wd Z EL s vm0 m own h) (K : Keep h h' ws) (S : ∀ x ∈ ws, Safe Z EL vm0 h x) : own_Wd Z EL s vm0 m own h' := by
  obtain ⟨h1, h2, ⟨k, h3, h4⟩, h5⟩ := D
  exact ⟨h1, h2, ⟨k, h3, Nat.le_trans h4 K.1⟩, h5.trans (CHr.keep K S h5.1)⟩
theorem own_Ar.safe {a : Addr} {ty : FieldType} {vs : List Value} (A : own_Ar Z h a ty vs) (hal : Z.vm.Alike vm0) (ht : ty ≠ .byte) : Safe Z EL vm0 h a := by
  obtain ⟨cl, Ar, -⟩ := A
  exact Safe.arr hal Ar ht
theorem own_safeN {x : Addr} (hal : Z.vm.Alike vm0) (E : Exa Z h x "java/lang/String") (V : Fld Z h x "java/lang/String" "value" "[B" .null) : Safe Z EL vm0 h x := fun B => by
  obtain ⟨p, -, u, a, -, q, -, F, rfl | rfl⟩ := B
  · obtain ⟨cell, cf, k, i, f, h1, h2, -, -, -, -, h7⟩ := V
    cases (show h[q.sa]? = some q.sC from F.ha).symm.trans h1
    obtain ⟨cS, ⟨⟨-, -, -, ⟨c1, k1, i1, f1, -⟩, -, -, -, v1, -⟩, -⟩, -⟩ := F
    obtain ⟨k3, e3, -⟩ := State.fieldFound?_setVm (s := Z) hal h2
    have e4 := (show (Wst Z vm0 h).fieldFound? _ _ _ = _ from e3).symm.trans f1
    simp only [Option.some.injEq, Prod.mk.injEq] at e4
    rw [← e4.2.2.2, h7] at v1
    cases v1
  · obtain ⟨cell, k, e1, e2, -⟩ := E
    cases (show h[q.sd]? = some q.SA from F.hd).symm.trans e1
    obtain ⟨cS, -, -, f, -⟩ := F
    have f' : vm0.findClass "[B" = some q.SA.cls := f
    rw [hal.findClass] at f'
    obtain ⟨k1, q1, q2⟩ := Vm.findClass_spec f'
    obtain ⟨k2, q3, q4⟩ := Vm.findClass_spec e2
    cases q1.symm.trans q3
    exact absurd (q2.symm.trans q4) (by decide)
theorem own_bodyW {y : MethodName} {bytes : ByteArray} {maxL : Nat} {rt : Option FieldType} {ws : List Jvm.Cond} {rm : Room} {as' : Array Value} {h0 : Heap} (hp : plainFor y = true)
    (hb : ∀ (p : Program) (e : Env) (s : State) (m : MethodId) (below : List Frame) (meth : Method) (c : Code) (T : State), Stand p l e rm (s.setVm s.vm) m as' below meth c T [] 0 0 → p.tables.exec = Jvm.exec → c.code = bytes → c.maxLocals = maxL → meth.name = y.name → meth.sig.returnType = rt → meth.locks = false → own_Wd Z EL s s.vm m y.cls h0 → T.heap = h0 →
      own_Go p.tables e below (T.setTop (entryFrame m as' maxL)) (own_RH Z EL s Q rm.cells rm.slots)) : own_MetW l y bytes maxL rt ws rm as' Z EL h0 Q := by
  refine MetFree.of_bodySF hp hisR ?_
  intro p e s m args below meth c s₁ Bd hml0 hP hK
  obtain ⟨rfl, hZ, hh, hC⟩ := hP
  have e0 : s₁.heap = h0 := by rw [← hh, Bd.state]; rfl
  refine hb p e s m below meth c s₁ (Stand.of_body Bd) Bd.exec Bd.bytes hml0 (name_of_methodNamed Bd.named Bd.method).1 Bd.returns Bd.notSynchronized ⟨hZ, findClass_of_methodNamed Bd.named, ⟨0, (State.WarmedH.refl s).since 0, Nat.zero_le _⟩, ?_⟩ e0
  rw [hh]
  exact CHr.refl hC
theorem own_leaveW (X : Stand p l e R (s.setVm vm0) m args below meth c T locs cells slots) (hlk : meth.locks = false) (hEL : EW Z a0 EL) (D : own_Wd Z EL s vm0 m own h) (eT : T.heap = h) {v : Option Value} (hv : meth.sig.returnType = none → v = none) {S : State} {k n : Nat} (hk : cells ≤ k) (hn : slots ≤ n) (hq : Q v T.heap locs)
    (st : ∀ fs : List Frame, (∀ (f : JFrame) (acts : List Action), f.method = m → f.locked = none → f.entered = [] → (doReturn e (T.setTop f) acts v).1 = T.setFrames fs) → Steps p.tables e below S (T.setFrames fs)) : own_Go p.tables e below S (own_RH Z EL s Q k n) := by
  subst eT
  obtain ⟨h1, h2, ⟨k0, h3, h4⟩, h5⟩ := D
  obtain ⟨fs, hr, hrun, hended, q1, q2, q3, q4⟩ := X.leaveW h3 h4 (v := v) hv hlk
  exact ⟨_, _, st fs hr, hrun, hended, v, locs, rfl, hq, (show CHr Z EL _ _ T.vm T.heap from h5.trans (CHv.at X h1 hEL h5.1)), q1, q2, q3, q4.mono hk hn⟩
theorem own_retZW (X : Stand p l e R (s.setVm vm0) m args below meth c T locs cells slots) (hx : p.tables.exec = Jvm.exec) (hEL : EW Z a0 EL) (D : own_Wd Z EL s vm0 m own h) (eT : T.heap = h) {pc : Nat} {Ls : Array Slot} {z : Int32} {t : FieldType} {rest : List Value} (hret : meth.sig.returnType = some t) (ht : t = .boolean ∨ t = .byte ∨ t = .char ∨ t = .short) (hd : decode c.code pc = .ok (.ireturn, 1)) (hlk : meth.locks = false) {k n : Nat} (hk : cells ≤ k) (hn : slots ≤ n) (hq : Q (some (.int (nar t z))) T.heap locs) :
    own_Go p.tables e below (T.setTop (mkF m pc Ls (.int z :: rest))) (own_RH Z EL s Q k n) :=
  own_leaveW X hlk hEL D eT (fun q => by rw [hret] at q; cases q) hk hn hq fun fs hl => retN X hx hret ht hd hl
theorem own_retVW (X : Stand p l e R (s.setVm vm0) m args below meth c T locs cells slots) (hx : p.tables.exec = Jvm.exec) (hEL : EW Z a0 EL) (D : own_Wd Z EL s vm0 m own h) (eT : T.heap = h) {pc : Nat} {Ls : Array Slot} (hret : meth.sig.returnType = none) (hd : decode c.code pc = .ok (.return_, 1)) (hlk : meth.locks = false) {k n : Nat} (hk : cells ≤ k) (hn : slots ≤ n) (hq : Q none T.heap locs) :
    own_Go p.tables e below (T.setTop (mkF m pc Ls [])) (own_RH Z EL s Q k n) :=
  own_leaveW X hlk hEL D eT (fun _ => rfl) hk hn hq fun fs hl => X.returnOut hx hret hd hl
theorem own_retAW (X : Stand p l e R (s.setVm vm0) m args below meth c T locs cells slots) (hx : p.tables.exec = Jvm.exec) (hEL : EW Z a0 EL) (D : own_Wd Z EL s vm0 m own h) (eT : T.heap = h) {pc : Nat} {Ls : Array Slot} {z : Value} {t : FieldType} {rest : List Value} (hret : meth.sig.returnType = some t) (ht : t.isReference = true) (hz : z.isRef = true) (hd : decode c.code pc = .ok (.areturn, 1)) (hlk : meth.locks = false) {k n : Nat} (hk : cells ≤ k) (hn : slots ≤ n) (hq : Q (some z) T.heap locs) :
    own_Go p.tables e below (T.setTop (mkF m pc Ls (z :: rest))) (own_RH Z EL s Q k n) := by
  refine own_leaveW X hlk hEL D eT (fun q => by rw [hret] at q; cases q) hk hn hq fun fs hl => ?_
  have hm' : T.vm.method? m = some meth := X.method'
  show Steps p.tables e below (T.setTop { method := m, pc := pc, locals := Ls, stack := _ :: rest, locked := none }) _
  jvm_step X.here [X.here.top, hx, hd, hm', hret, ht, hz]
  first | (intro acts; rw [hl _ acts rfl rfl rfl]) | rw [hl _ _ rfl rfl rfl]
  exact Steps.refl _
theorem own_ldcS (X : Stand p l e R (s.setVm vm0) m args below meth c T locs cells slots) (hx : p.tables.exec = Jvm.exec) {B : ByteArray} (hby : c.code = B) {pc pc' : Nat} {Ls : Array Slot} {S : List Value} {text : String} {index : Nat} (hd : decode B pc = .ok (.ldc index, 2)) (hp : pc + 2 = pc') (w : (Cond.stringLink own index text).before a0 Z = true) (wS : ∀ a ∈ Bundle.stringAtoms, a.before a0 Z = true) (eT : T.heap = h) (hEL : EW Z a0 EL) (hmem : (own, index) ∈ EL) (D : own_Wd Z EL s vm0 m own h)
    {vs : List Value} {z : Int32} (ht : (∀ c ∈ text.toList, c.toNat < 256) ∧ text.toList.map (fun c => Value.int (Jvm.Lit.byteI c.toNat.toUInt16)) = vs) (hz : ¬ z < 0) (hl : z.toNatClampNeg = vs.length) {n : Nat} (hn : 4 * text.toList.length ≤ n) (hbig : n ≤ 536870912) (hc : cells + 2 ≤ R.cells) (hl' : slots + (n + 4) ≤ R.slots)
    (g : ∀ (T' : State) (h' : Heap) (a b : Addr) (k : ClassId) (vm1 : Vm), Stand p l e R (s.setVm vm1) m args below meth c T' locs (cells + 2) (slots + (n + 4)) → T'.heap = h' → Ext h h' → own_Wd Z EL s vm1 m own h' → CHr Z EL vm0 h vm1 h' → Exa Z h' a "java/lang/String" → Fld Z h' a "java/lang/String" "coder" "B" (.int 0) → Fld Z h' a "java/lang/String" "value" "[B" (.ref b) → Arv Z h' b k .byte z vs (.int 0) → (∀ x, Safe Z EL vm1 h' x → x ≠ a ∧ x ≠ b) → own_Go p.tables e below (T'.setTop (mkF m pc' Ls (.ref a :: S))) RR) :
    own_Go p.tables e below (T.setTop (mkF m pc Ls S)) RR := by
  subst hp
  obtain ⟨h1, h2, ⟨k0, h3, h4⟩, h5⟩ := D
  obtain ⟨a, T', h', k1, b, k, X', e', E', hS', hk', hZ', hown', q1, q2, q3, q4, -, -, q7, -, q9, st⟩ := ldcCH X hx h1 h2 w wS eT h3 h4 hEL hmem h5.1 ht hz hl (g := mkF m pc Ls S) rfl (hb hby hd) hn hbig hc hl'
  exact own_st st (g T' h' a b k T'.vm X' e' E' ⟨hZ', hown', ⟨k1, hS', hk'⟩, h5.trans q7⟩ q7 q1 q2 q3 q4 q9)
theorem own_callSpW (X : Stand p l e R (s.setVm vm0) m args below meth c T locs cells slots) (hx : p.tables.exec = Jvm.exec) (hEL : EW Z a0 EL) (D : own_Wd Z EL s vm0 m own h) {y : MethodName} {bytes : ByteArray} {maxL : Nat} {rm : Room} {as' : Array Value}
    (hM : own_MetW l y bytes maxL none [] rm as' Z EL h Q) (hin : y.name = "<init>") {index : Nat} (w1 : (Cond.methodLink own index y).before a0 Z = true) (w4 : (Cond.instanceMethod y).before a0 Z = true) (w5 : (Cond.code y bytes maxL none).before a0 Z = true) (w6 : (Cond.initialized y.cls).before a0 Z = true)
    (hy : y.cls ≠ "java/lang/invoke/MethodHandle" ∧ y.cls ≠ "java/lang/invoke/VarHandle") {a : Addr} {W : Nat} (hf : rm.frames + 1 ≤ R.frames) (hl : W + (maxL + 11) + rm.locals ≤ R.locals) {pc : Nat} {Ls : Array Slot} (hsz : Ls.size = c.maxLocals) {argsL rest st : List Value} (ha : (Value.ref a :: argsL).toArray = as')
    (hlen : ∀ sig, parseMethodDescriptor y.desc = some sig → argsL.length = sig.parameters.length) (hst : st = argsL.reverse ++ .ref a :: rest) (hW : (rest.map fun v => v.category).sum ≤ W) (hd : decode c.code pc = .ok (.invokespecial index, 3)) (eT : T.heap = h) (hc : cells + rm.cells ≤ R.cells) (hs : slots + rm.slots ≤ R.slots)
    (k : ∀ (v : Option Value) (T' : State) (L : List Loc) (vm1 : Vm), Stand p l e R (s.setVm vm1) m args below meth c T' (locs ++ L) (cells + rm.cells) (slots + rm.slots) → Q v T'.heap L → own_Wd Z EL s vm1 m own T'.heap → CHr Z EL vm0 h vm1 T'.heap → own_Go p.tables e below (T'.setTop (mkF m (pc + 3) Ls (v.toList ++ rest))) RR) :
    own_Go p.tables e below (T.setTop (mkF m pc Ls st)) RR := by
  subst ha
  obtain ⟨h1, h2, ⟨k0, h3, h4⟩, h5⟩ := D
  have hZ : Z.Warmed39 (s.setVm vm0).vm := h1
  obtain ⟨v, _, ⟨T', L', k', n'⟩, -, X', hS', hgrow, ⟨Lc, hQ, l', y', z', hC⟩, stp⟩ := X.specialBackS hx (y := y) hin h2 (mvT hZ w1) (mvT hZ w4) (mvT hZ w5) hy (backOfSH (W := W) hM h1 w5 w6 hf hl hEL h5.1) (g := mkF m pc Ls st) rfl hsz (Steps.refl _) (a := a) (argsL := argsL) (rest := rest) hlen hst (by show 2 * 0 + _ ≤ _; omega) hd (fun _ _ => ⟨rfl, eT, hc, hs⟩)
  dsimp only [Pt.U, Pt.locs, Pt.cells, Pt.slots] at X' l' y' z' stp hQ hS' hgrow hC
  subst l' y' z'
  rw [eT] at hgrow
  obtain ⟨r1, r2, r3, r4⟩ := rebS h3 h4 X' hS' hgrow hZ h2
  exact own_st (fun t k => stp.trans k) (k v T' Lc T'.vm r1 hQ ⟨r3, r4, ⟨_, r2, Nat.le_refl _⟩, h5.trans hC⟩ hC)
theorem own_callSW (X : Stand p l e R (s.setVm vm0) m args below meth c T locs cells slots) (hx : p.tables.exec = Jvm.exec) (hEL : EW Z a0 EL) (D : own_Wd Z EL s vm0 m own h) {y : MethodName} {bytes : ByteArray} {maxL : Nat} {rt : Option FieldType} {rm : Room} {as' : Array Value}
    (hM : own_MetW l y bytes maxL rt [] rm as' Z EL h Q) {index : Nat} (w1 : (Cond.methodLink own index y).before a0 Z = true) (w2 : (Cond.static y).before a0 Z = true) (w3 : (Cond.initialized y.cls).before a0 Z = true) (w4 : (Cond.code y bytes maxL rt).before a0 Z = true)
    (hy : y.cls ≠ "java/lang/invoke/MethodHandle" ∧ y.cls ≠ "java/lang/invoke/VarHandle") {W : Nat} (hf : rm.frames + 1 ≤ R.frames) (hl : W + (maxL + 11) + rm.locals ≤ R.locals) {pc : Nat} {Ls : Array Slot} (hsz : Ls.size = c.maxLocals) {argsL rest st : List Value} (ha : argsL.toArray = as')
    (hlen : ∀ sig, parseMethodDescriptor y.desc = some sig → argsL.length = sig.parameters.length) (hst : st = argsL.reverse ++ rest) (hW : (rest.map fun v => v.category).sum ≤ W) (hd : decode c.code pc = .ok (.invokestatic index, 3)) (eT : T.heap = h) (hc : cells + rm.cells ≤ R.cells) (hs : slots + rm.slots ≤ R.slots)
    (k : ∀ (v : Option Value) (T' : State) (L : List Loc) (vm1 : Vm), Stand p l e R (s.setVm vm1) m args below meth c T' (locs ++ L) (cells + rm.cells) (slots + rm.slots) → Q v T'.heap L → own_Wd Z EL s vm1 m own T'.heap → CHr Z EL vm0 h vm1 T'.heap → own_Go p.tables e below (T'.setTop (mkF m (pc + 3) Ls (v.toList ++ rest))) RR) :
    own_Go p.tables e below (T.setTop (mkF m pc Ls st)) RR := by
  subst ha
  obtain ⟨h1, h2, ⟨k0, h3, h4⟩, h5⟩ := D
  have hZ : Z.Warmed39 (s.setVm vm0).vm := h1
  obtain ⟨v, _, ⟨T', L', k', n'⟩, -, X', hS', hgrow, ⟨Lc, hQ, l', y', z', hC⟩, stp⟩ := callSS X hx (y := y) h2 (mvT hZ w1) (mvT hZ w2) (mvT hZ w3) (mvT hZ w4) hy (backOfSH (W := W) hM h1 w4 w3 hf hl hEL h5.1) (g := mkF m pc Ls st) rfl hsz (argsL := argsL) (rest := rest) hlen hst (by show 2 * 0 + _ ≤ _; omega) hd (fun _ _ => ⟨rfl, eT, hc, hs⟩)
  dsimp only [Pt.U, Pt.locs, Pt.cells, Pt.slots] at X' l' y' z' stp hQ hS' hgrow hC
  subst l' y' z'
  rw [eT] at hgrow
  obtain ⟨r1, r2, r3, r4⟩ := rebS h3 h4 X' hS' hgrow hZ h2
  exact own_st (fun t k => stp.trans k) (k v T' Lc T'.vm r1 hQ ⟨r3, r4, ⟨_, r2, Nat.le_refl _⟩, h5.trans hC⟩ hC)
end OwnWide
theorem own_nar0 : nar .boolean (0 : Int32) = 0 := by decide
theorem own_nar1 : nar .boolean (1 : Int32) = 1 := by decide
/-! Strings by the list of their chars (each 0 to 255); char[]s whose list isn't told -/
section OwnStr
variable {p : Program} {l : Launch} {e : Env} {R : Room} {s : State} {m : MethodId} {args : Array Value} {below : List Frame} {meth : Method} {c : Code} {T : State} {locs : List Loc} {cells slots : Nat} {Z : State} {a0 : Array Value} {h h' : Heap} {RR : Outcome → State → Prop} {vm0 : Vm} {EL : List (String × Nat)} {own : String} {len W k k' n n0 : Nat} {a x y : Addr} {cs ds : List Int32} {ws : List Addr}
abbrev own_B (c : Int32) : Prop := ¬ c < 0 ∧ ¬ (255 : Int32) < c
def own_Str (Z : State) (h : Heap) (k : Nat) (x : Addr) (cs : List Int32) : Prop := ∃ (t : Addr) (kb : ClassId) (N : Int32) (vs : List Value), x < k ∧ t < k ∧ Exa Z h x "java/lang/String" ∧ Fld Z h x "java/lang/String" "value" "[B" (.ref t) ∧ Fld Z h x "java/lang/String" "coder" "B" (.int 0) ∧ Arv Z h t kb .byte N vs (.int 0) ∧ StrChars.Road.CodA cs 0 N vs ∧ (∀ c ∈ cs, ¬ c < 0 ∧ ¬ (65535 : Int32) < c) ∧ cs.length ≤ 4000
theorem own_B.wide {c : Int32} (h : own_B c) : ¬ c < 0 ∧ ¬ (65535 : Int32) < c := by
  refine ⟨h.1, fun q => h.2 ?_⟩
  have e1 : (65535 : Int32).toInt = 65535 := by decide
  have e2 : (255 : Int32).toInt = 255 := by decide
  rw [Int32.lt_iff_toInt_lt] at q ⊢
  omega
theorem own_Str.exa (F : own_Str Z h k x cs) : Exa Z h x "java/lang/String" := by obtain ⟨t, kb, N, vs, q1, q2, q3, -⟩ := F; exact q3
theorem own_Str.lt (F : own_Str Z h k x cs) : x < h.size := F.exa.lt
theorem own_Str.ext (F : own_Str Z h k x cs) (E : Ext h h') : own_Str Z h' k x cs := by
  obtain ⟨t, kb, N, vs, q1, q2, q3, q4, q5, q6, q7⟩ := F
  exact ⟨t, kb, N, vs, q1, q2, q3.ext E, q4.ext E, q5.ext E, q6.ext E, q7⟩
theorem own_Str.keep (F : own_Str Z h k x cs) (K : Keep h h' ws) (q : ∀ w ∈ ws, k ≤ w) : own_Str Z h' k x cs := by
  obtain ⟨t, kb, N, vs, q1, q2, q3, q4, q5, q6, q7⟩ := F
  have n1 : x ∉ ws := fun z => absurd q1 (Nat.not_lt.mpr (q x z))
  have n2 : t ∉ ws := fun z => absurd q2 (Nat.not_lt.mpr (q t z))
  exact ⟨t, kb, N, vs, q1, q2, q3.keep K, q4.keep K n1, q5.keep K n1, q6.keep K n2, q7⟩
theorem own_Str.wr {sl : Nat} {v : Value} (F : own_Str Z h k x cs) (Wt : Wr h h' a sl v) (q : k ≤ a) : own_Str Z h' k x cs := F.keep (Keep.of_wr Wt) (allS q all0)
theorem own_Str.up (F : own_Str Z h k x cs) (q : k ≤ k') : own_Str Z h k' x cs := by
  obtain ⟨t, kb, N, vs, q1, q2, q3⟩ := F
  exact ⟨t, kb, N, vs, Nat.lt_of_lt_of_le q1 q, Nat.lt_of_lt_of_le q2 q, q3⟩
theorem own_Str.mk {t : Addr} {kb : ClassId} {N : Int32} (q3 : Exa Z h x "java/lang/String") (q5 : Fld Z h x "java/lang/String" "coder" "B" (.int 0)) (q4 : Fld Z h x "java/lang/String" "value" "[B" (.ref t)) {vs : List Value} (q6 : Arv Z h t kb .byte N vs (.int 0)) (cs : List Int32) (hb : ∀ c ∈ cs, own_B c) (hl : cs.length ≤ 4000) (hN : N = Int32.ofNat cs.length) (hv : vs = cs.map fun c => Value.int (StrChars.lo8 c)) : own_Str Z h h.size x cs :=
  ⟨t, kb, N, vs, q3.lt, q6.lt, q3, q4, q5, q6, Or.inl ⟨rfl, hN, hv, fun c hc => (hb c hc).2⟩, fun c hc => (hb c hc).wide, hl⟩
def own_QE (cs ds : List Int32) (h : Heap) (v : Option Value) (h' : Heap) (L : List Loc) : Prop := ((v = some (.int 1) ∧ cs = ds) ∨ (v = some (.int 0) ∧ ¬ cs = ds)) ∧ L = [] ∧ h' = h
theorem own_eqB (hZ : Z.Warmed39 s.vm) (hw : ∀ d ∈ StrChars.Road.wordsEq, d.before a0 Z = true) {kI : Nat} (wi : (Jvm.Cond.instantiable "java/lang/String" kI).before a0 Z = true) (F : own_Str Z h k x cs) (G : own_Str Z h k' y ds) {z : Int32} (S : Sta Z h "java/lang/String" "COMPACT_STRINGS" "Z" (.int z)) (hz : ¬ z = 0) (hfr : 2 ≤ R.frames) (hlo : W + 28 ≤ R.locals) :
    Back l R p e below s args (⟨"java/lang/String", "equals", "(Ljava/lang/Object;)Z"⟩ : MethodName) len W (fun P a => a = #[.ref x, .ref y] ∧ P.U.heap = h ∧ P.cells + 0 ≤ R.cells ∧ P.slots + 0 ≤ R.slots)
      (fun P _ v B => ∃ L, own_QE cs ds h v B.U.heap L ∧ B.locs = P.locs ++ L ∧ B.cells = P.cells + 0 ∧ B.slots = P.slots + 0) := by
  obtain ⟨t, kb, N, vs, -, -, q3, q4, q5, q6, q7, q8, q9⟩ := F
  obtain ⟨t', kb', N', vs', -, -, r3, r4, r5, r6, r7, r8, r9⟩ := G
  exact StrChars.Road.eqW hZ hw wi q3 q4 q5 q6 q7 q8 q9 r3 r4 r5 r6 r7 r8 r9 S hz hfr hlo
def own_Ch (Z : State) (h : Heap) (a : Addr) (n : Nat) : Prop := ∃ cs : List Int32, cs.length = n ∧ (∀ c ∈ cs, own_B c) ∧ own_Ar Z h a .char (cs.map Value.int)
theorem own_Ch.lt (F : own_Ch Z h a n) : a < h.size := by obtain ⟨cs, -, -, A⟩ := F; exact A.lt
theorem own_Ch.ext (F : own_Ch Z h a n) (E : Ext h h') : own_Ch Z h' a n := by obtain ⟨cs, q, r, A⟩ := F; exact ⟨cs, q, r, A.ext E⟩
theorem own_Ch.other {b : Addr} {sl : Nat} {v : Value} (F : own_Ch Z h a n) (Wt : Wr h h' b sl v) (ne : a ≠ b) : own_Ch Z h' a n := by obtain ⟨cs, q, r, A⟩ := F; exact ⟨cs, q, r, A.other Wt ne⟩
theorem own_Ch.keep (F : own_Ch Z h a n) (K : Keep h h' ws) (ne : a ∉ ws) : own_Ch Z h' a n := by obtain ⟨cs, q, r, A⟩ := F; exact ⟨cs, q, r, A.keep K ne⟩
theorem own_Ch.safe (F : own_Ch Z h a n) (hal : Z.vm.Alike vm0) : Safe Z EL vm0 h a := by obtain ⟨cs, -, -, A⟩ := F; exact A.safe hal (by simp)
theorem own_Ch.new (A : own_Ar Z h a .char (List.replicate n (.int 0))) : own_Ch Z h a n := by
  refine ⟨List.replicate n 0, List.length_replicate, fun c hc => ?_, by rw [List.map_replicate]; exact A⟩
  rw [(List.mem_replicate.mp hc).2]
  exact ⟨by decide, by decide⟩
theorem own_caloadC (X : Stand p l e R s m args below meth c T locs cells slots) (hx : p.tables.exec = Jvm.exec) {B : ByteArray} (hby : c.code = B) {pc pc' : Nat} {Ls : Array Slot} {S : List Value} {j : Int32} (hd : decode B pc = .ok (.caload, 1)) (hp : pc + 1 = pc') (hZ : Z.Warmed39 s.vm) (eT : T.heap = h) (A : own_Ch Z h a n) (hj : ¬ j < 0) (hn : j.toNatClampNeg < n) (g : ∀ z : Int32, own_B z → own_Go p.tables e below (T.setTop (mkF m pc' Ls (.int z :: S))) RR) : own_Go p.tables e below (T.setTop (mkF m pc Ls (.int j :: .ref a :: S))) RR := by
  obtain ⟨cs, rfl, hb, A'⟩ := A
  exact own_caload X hx hby hd hp hZ eT A' hj (v := .int cs[j.toNatClampNeg]) (by rw [List.getElem?_map, List.getElem?_eq_getElem hn]; rfl) (g _ (hb _ (List.getElem_mem hn)))
theorem own_castoreC (X : Stand p l e R s m args below meth c T locs cells slots) (hx : p.tables.exec = Jvm.exec) {B : ByteArray} (hby : c.code = B) {pc pc' : Nat} {Ls : Array Slot} {S : List Value} {j z : Int32} (hd : decode B pc = .ok (.castore, 1)) (hp : pc + 1 = pc') (hZ : Z.Warmed39 s.vm) (eT : T.heap = h) (A : own_Ch Z h a n) (hj : ¬ j < 0) (hn : j.toNatClampNeg < n) (hz : own_B (nar .char z))
    (g : ∀ (T' : State) (h' : Heap), Stand p l e R s m args below meth c T' (locs ++ [⟨a, j.toNatClampNeg⟩]) cells slots → T'.heap = h' → Wr h h' a j.toNatClampNeg (.int (nar .char z)) → own_Ch Z h' a n → own_Go p.tables e below (T'.setTop (mkF m pc' Ls S)) RR) : own_Go p.tables e below (T.setTop (mkF m pc Ls (.int z :: .int j :: .ref a :: S))) RR := by
  obtain ⟨cs, rfl, hb, A'⟩ := A
  refine own_castore X hx hby hd hp hZ eT A' hj (v := .int cs[j.toNatClampNeg]) (by rw [List.getElem?_map, List.getElem?_eq_getElem hn]; rfl) fun T' h' X' e' W' A'' => g T' h' X' e' W' ⟨cs.set j.toNatClampNeg (nar .char z), List.length_set, fun c hc => ?_, by rw [List.map_set]; exact A''⟩
  rcases List.mem_or_eq_of_mem_set hc with q | rfl
  · exact hb _ q
  · exact hz
theorem own_lenC (X : Stand p l e R s m args below meth c T locs cells slots) (hx : p.tables.exec = Jvm.exec) {B : ByteArray} (hby : c.code = B) {pc pc' : Nat} {Ls : Array Slot} {S : List Value} {z : Int32} (hd : decode B pc = .ok (.arraylength, 1)) (hp : pc + 1 = pc') (hZ : Z.Warmed39 s.vm) (eT : T.heap = h) (A : own_Ch Z h a n) (hz : n.toInt32 = z) (g : own_Go p.tables e below (T.setTop (mkF m pc' Ls (.int z :: S))) RR) : own_Go p.tables e below (T.setTop (mkF m pc Ls (.ref a :: S))) RR := by
  obtain ⟨cs, rfl, hb, A'⟩ := A
  exact own_len X hx hby hd hp hZ eT A' (by rw [List.length_map]; exact hz) g
theorem own_narB {z : Int32} (h : own_B z) : nar .char z = z := by
  have e1 : (255 : Int32).toInt = 255 := by decide
  have e0 : (0 : Int32).toInt = 0 := by decide
  obtain ⟨h1, h2⟩ := h
  rw [Int32.lt_iff_toInt_lt] at h1 h2
  show z.toUInt32.toUInt16.toUInt32.toInt32 = z
  apply Int32.toInt_inj.mp
  have q : z.toInt = (z.toInt.toNat : Int) := by omega
  have t : ∀ k : Fin 256, (Int32.ofNat k.val).toUInt32.toUInt16.toUInt32.toInt32 = Int32.ofNat k.val := by decide +kernel
  have e : z = Int32.ofNat z.toInt.toNat := by
    apply Int32.toInt_inj.mp
    rw [Int32.toInt_ofNat_of_lt (by omega)]
    exact q
  have w := t ⟨z.toInt.toNat, by omega⟩
  simp only at w
  rw [← e] at w
  rw [w]
def own_QS (Z : State) (h : Heap) (x : Addr) (n0 : Nat) (v : Option Value) (h' : Heap) (L : List Loc) : Prop := v = none ∧ Fr n0 L ∧ Keep h h' [x] ∧ ∃ cs, own_Str Z h' h'.size x cs
theorem own_strB (hZ : Z.Warmed39 s.vm) (hw : ∀ d ∈ StrChars.Road.words, d.before a0 Z = true) {kI : Nat} (wi : (Jvm.Cond.instantiable "java/lang/String" kI).before a0 Z = true) {v0 c0 : Value} {b : Addr} (hx0 : n0 ≤ x) (hh0 : n0 ≤ h.size) (E : Exa Z h x "java/lang/String") (V : Fld Z h x "java/lang/String" "value" "[B" v0) (C : Fld Z h x "java/lang/String" "coder" "B" c0) (A : own_Ch Z h b n) {z : Int32} (S : Sta Z h "java/lang/String" "COMPACT_STRINGS" "Z" (.int z)) (hz : ¬ z = 0) (l0 : 0 < n) (l2 : n ≤ 4000) (hfr : 4 ≤ R.frames) (hlo : W + 65 ≤ R.locals) :
    Back l R p e below s args (⟨"java/lang/String", "<init>", "([C)V"⟩ : MethodName) len W (fun P a => a = #[.ref x, .ref b] ∧ P.U.heap = h ∧ P.cells + 1 ≤ R.cells ∧ P.slots + n ≤ R.slots)
      (fun P _ v B => ∃ L, own_QS Z h x n0 v B.U.heap L ∧ B.locs = P.locs ++ L ∧ B.cells = P.cells + 1 ∧ B.slots = P.slots + n) := by
  obtain ⟨cs, rfl, hb, A'⟩ := A
  obtain ⟨kc, qc, ar⟩ := A'.arv (dv := .int 0) (by rw [List.length_map]; omega) (fun v hv => by
    obtain ⟨c, hc, rfl⟩ := List.mem_map.mp hv
    rw [← own_narB (hb c hc)]
    exact fits_nar_char _)
  refine Back.mono (StrChars.Road.backV hZ hw wi (cs := cs) (bs := cs.map (fun c => c.toInt8.toInt32)) (n := cs.length) hx0 hh0 E V C ar S hz rfl (by rw [List.length_map]) l0 l2 hb rfl hfr hlo) (fun P a hp => hp) fun P a v B hp hq => ?_
  obtain ⟨L, ⟨hv, N, K, E', C', t, kb, -, -, -, V', A2⟩, hl, hk, hs⟩ := hq
  exact ⟨L, ⟨hv, N, K, cs, own_Str.mk E' C' V' A2 cs hb l2 (by rw [List.length_map]) (by rw [List.map_map]; rfl)⟩, hl, hk, hs⟩
theorem own_more (X : Stand p l e R s m args below meth c T locs cells slots) (h1 : cells ≤ k) (h2 : slots ≤ n) : Stand p l e R s m args below meth c T locs k n := ⟨X.admits, X.cas, X.clock, X.frames, X.room, X.hears, X.method, X.code, X.here, X.tail, X.warmed, X.limits, X.bytes, X.same.mono h1 h2⟩
theorem own_lenN {t : Term} {cl : Cell} {ty : FieldType} {N : Int32} (ev : t.eval args s none [] s = some (.ref a)) (A : Arr s s.heap a cl ty) (q : (Term.length t).eval args s none [] s = some (.int N)) : cl.slots.size < 2 ^ 31 ∧ cl.slots.size.toInt32 = N := by
  have ha : s.arrayAt? a = some cl := A.fin (Vm.Alike.refl _)
  simp only [Term.eval, ev, ha, Option.bind_eq_bind, Option.bind_some] at q
  split at q
  · rename_i hlt
    exact ⟨hlt, Value.int.inj (Option.some.inj q)⟩
  · cases q
theorem own_Str.start (hf : Fit s) {t : Term} {b : Addr} {cl : Cell} {N : Int32} {vs : List Value} (ev : t.eval args s none [] s = some (.ref x)) (hx : (Jvm.Cond.exactly t "java/lang/String").value args s none s [] = some true) (hc : (Term.field t "java/lang/String" "coder" "B").eval args s none [] s = some (.int 0)) (evb : (Term.field t "java/lang/String" "value" "[B").eval args s none [] s = some (.ref b)) (A : Arr s s.heap b cl .byte) (hl : (Term.length (Term.field t "java/lang/String" "value" "[B")).eval args s none [] s = some (.int N)) (H : HasL cl 0 vs)
    (cs : List Int32) (hz : ¬ N < 0) (hlN : N.toNatClampNeg = vs.length) (hb : ∀ c ∈ cs, own_B c) (hlen : cs.length ≤ 4000) (hN : N = Int32.ofNat cs.length) (hv : vs = cs.map fun c => Value.int (StrChars.lo8 c)) : own_Str s s.heap s.heap.size x cs := by
  obtain ⟨h1, h2⟩ := own_lenN evb A hl
  exact own_Str.mk (Exa.start ev hx) (Fld.start ((fld_at ev).symm.trans hc)) (Fld.start ((fld_at ev).symm.trans evb)) (Arv.start hf A h1 h2 hz hlN H) cs hb hlen hN hv
end OwnStr

def own_EL : List (String × Nat) := [("com/example/tranchebook/tranchebook/model/FeeByRateNamePinLaw", 30), ("java/lang/String", 7)]
abbrev own_CF : List Int32 := ([67, 79, 77, 77, 73, 84, 77, 69, 78, 84, 95, 70, 69, 69] : List Int32)
def own_fee (cs : List Int32) (r0 : Addr) : Value := if cs = own_CF then .ref r0 else .null
theorem own_pn0 : plainFor x = true := plainFor_of_name (by first | (simp [x, plainName, overriddenIn]; done) | decide +kernel)
theorem own_pn1 : plainFor (⟨"com/example/tranchebook/tranchebook/model/FeeByRateNamePinLaw", "byteAt", "(JI)C"⟩ : MethodName) = true := plainFor_of_name (by first | (simp [plainName, overriddenIn]; done) | decide +kernel)
theorem own_pn2 : plainFor (⟨"com/example/tranchebook/tranchebook/model/Fee", "byRateName", "(Ljava/lang/String;)Lcom/example/tranchebook/tranchebook/model/Fee;"⟩ : MethodName) = true := plainFor_of_name (by first | (simp [plainName, overriddenIn]; done) | decide +kernel)
theorem own_pn3 : plainFor (⟨"com/example/tranchebook/tranchebook/model/Fee", "values", "()[Lcom/example/tranchebook/tranchebook/model/Fee;"⟩ : MethodName) = true := plainFor_of_name (by first | (simp [plainName, overriddenIn]; done) | decide +kernel)
theorem own_pn4 : plainFor (⟨"java/lang/String", "equals", "(Ljava/lang/Object;)Z"⟩ : MethodName) = true := plainFor_of_name (by first | (simp [plainName, overriddenIn]; done) | decide +kernel)
theorem own_pn5 : plainFor (⟨"com/example/tranchebook/tranchebook/model/FeeByRateNamePinLaw", "prefix", "([CI)Ljava/lang/String;"⟩ : MethodName) = true := plainFor_of_name (by first | (simp [plainName, overriddenIn]; done) | decide +kernel)
theorem own_pn6 : plainFor (⟨"java/lang/String", "<init>", "([C)V"⟩ : MethodName) = true := plainFor_of_name (by first | (simp [plainName, overriddenIn]; done) | decide +kernel)
theorem own_pn7 : plainFor (⟨"java/lang/String", "<init>", "([CIILjava/lang/Void;)V"⟩ : MethodName) = true := plainFor_of_name (by first | (simp [plainName, overriddenIn]; done) | decide +kernel)
theorem own_pn12 : plainFor (⟨"java/lang/StringLatin1", "equals", "([B[B)Z"⟩ : MethodName) = true := plainFor_of_name (by first | (simp [plainName, overriddenIn]; done) | decide +kernel)
theorem own_d7_0 : decode jdk_42_method_149_code 0 = .ok (.aload_n 0, 1) := by decide +kernel
theorem own_d7_1 : decode jdk_42_method_149_code 1 = .ok (.invokespecial 1, 3) := by decide +kernel
theorem own_d7_4 : decode jdk_42_method_149_code 4 = .ok (.iload_n 3, 1) := by decide +kernel
theorem own_d7_5 : decode jdk_42_method_149_code 5 = .ok (.ifCond .ne 22, 3) := by decide +kernel
theorem own_d7_8 : decode jdk_42_method_149_code 8 = .ok (.aload_n 0, 1) := by decide +kernel
theorem own_d7_9 : decode jdk_42_method_149_code 9 = .ok (.ldc 7, 2) := by decide +kernel
theorem own_d7_11 : decode jdk_42_method_149_code 11 = .ok (.getfield 9, 3) := by decide +kernel
theorem own_d7_14 : decode jdk_42_method_149_code 14 = .ok (.putfield 9, 3) := by decide +kernel
theorem own_d7_17 : decode jdk_42_method_149_code 17 = .ok (.aload_n 0, 1) := by decide +kernel
theorem own_d7_18 : decode jdk_42_method_149_code 18 = .ok (.ldc 7, 2) := by decide +kernel
theorem own_d7_20 : decode jdk_42_method_149_code 20 = .ok (.getfield 15, 3) := by decide +kernel
theorem own_d7_23 : decode jdk_42_method_149_code 23 = .ok (.putfield 15, 3) := by decide +kernel
theorem own_d7_26 : decode jdk_42_method_149_code 26 = .ok (.return_, 1) := by decide +kernel
theorem own_ef_rm_e4 (m : MethodId) (a1 : Addr) (a2 : Addr) : entryFrame m #[(.ref a1), (.ref a2), (.int (0 : Int32)), (.int (0 : Int32)), .null] 6 = mkF m 0 #[.val (.ref a1), .val (.ref a2), .val (.int (0 : Int32)), .val (.int (0 : Int32)), .val .null, .unset] [] := by first | (simp [entryFrame, mkF, argsToLocals, Value.category]; done) | rfl
def Qrm_e4 (Z : State) (a1 : Addr) (a2 : Addr) (h0 : Heap) (n0 : Nat) (v : Option Value) (h : Heap) (L : List Loc) : Prop := v = none ∧ Fr n0 L ∧ Keep h0 h [a1] ∧ own_Str Z h h.size a1 []
set_option maxRecDepth 65536 in
set_option maxHeartbeats 40000000 in
theorem rm_e4 (l : Launch) (Z : State) (a0 : Array Value) (hw : ∀ d ∈ tables_1, d.before a0 Z = true) (ws : List Jvm.Cond) (a1 : Addr) (a2 : Addr) (h0 : Heap) (n0 : Nat) (hEL : EW Z a0 own_EL) (E_1 : Exa Z h0 a1 "java/lang/String") (F_v : Fld Z h0 a1 "java/lang/String" "value" "[B" .null) (F_c : Fld Z h0 a1 "java/lang/String" "coder" "B" (.int (0 : Int32))) (G_1 : n0 ≤ a1) :
    own_MetW l (⟨"java/lang/String", "<init>", "([CIILjava/lang/Void;)V"⟩ : MethodName) jdk_42_method_149_code 6 none ws ({ frames := 1, cells := 4, slots := 8, locals := 12 } : Room) #[(.ref a1), (.ref a2), (.int (0 : Int32)), (.int (0 : Int32)), .null] Z own_EL h0 (Qrm_e4 Z a1 a2 h0 n0) := by
  refine own_bodyW own_pn7 ?_
  intro p e s m below meth c T0 X0 hx hby hml hnm hret hlk W0 e0
  have hZ := W0.1
  have hown := W0.2.1
  have N0 := Fr.nil n0
  refine own_st (fun t k => castTop (own_ef_rm_e4 m a1 a2) k) ?_
  show own_Go p.tables e below (T0.setTop (mkF m 0 #[.val (.ref a1), .val (.ref a2), .val (.int (0 : Int32)), .val (.int (0 : Int32)), .val .null, .unset] [])) _
  have wS : ∀ d ∈ Bundle.stringAtoms, d.before a0 Z = true := fun d hd => hw d ((by decide +kernel : ∀ d ∈ Bundle.stringAtoms, d ∈ tables_1) d hd)
  have Sf := own_safeN (EL := own_EL) W0.1.alike E_1 F_v
  refine own_aloadN X0 hx hby own_d7_0 (pc' := 1) rfl rfl rfl ?_
  refine own_initO X0 hx hby own_d7_1 (pc' := 4) rfl hZ hown (hw _ (List.mem_of_getElem? (i := 52) rfl)) (hw _ (List.mem_of_getElem? (i := 53) rfl)) (hw _ (List.mem_of_getElem? (i := 54) rfl)) e0 (by rw [hml]; rfl) (by decide) (W := 0) (Nat.le_of_eq rfl) (by decide) ?_
  intro T1 X1 e1
  show own_Go p.tables e below (T1.setTop (mkF m 4 #[.val (.ref a1), .val (.ref a2), .val (.int (0 : Int32)), .val (.int (0 : Int32)), .val .null, .unset] [])) _
  refine own_iloadN X1 hx hby own_d7_4 (pc' := 5) rfl rfl ?_
  refine own_ifNo X1 hx hby own_d7_5 (pc' := 8) rfl (by decide) ?_
  refine own_aloadN X1 hx hby own_d7_8 (pc' := 9) rfl rfl rfl ?_
  refine own_ldcS X1 hx hby own_d7_9 (pc' := 11) rfl (hw _ (List.mem_of_getElem? (i := 75) rfl)) wS e1 hEL (by decide) (W0) (vs := []) (z := (0 : Int32)) ⟨by decide, by rfl⟩ (by decide) (by rfl) (n := 0) (by decide) (by decide) (by decide) (by decide) ?_
  intro T2 h2 a2 b2 k2 vm2 X2 e2 E2 W2 C2 G2 Gc2 Gv2 Gb2 S2
  have hZ := W2.1
  have hown := W2.2.1
  have F2 := own_Str.mk G2 Gc2 Gv2 Gb2 ([] : List Int32) (by decide) (by decide) rfl (by first | rfl | decide +kernel)
  refine own_getF X2 hx hby own_d7_11 (pc' := 14) rfl hZ hown (host := "") (Or.inl (hw _ (List.mem_of_getElem? (i := 67) rfl))) Via.refl e2 Gv2 ?_
  intro T3 X3 e3
  refine own_put X3 hx hby own_d7_14 (pc' := 17) rfl hZ hown (host := "") (Or.inl (hw _ (List.mem_of_getElem? (i := 67) rfl))) Via.refl e3 (F_v.ext E2) (E_1.ext E2) (Or.inr ⟨(hw _ (List.mem_of_getElem? (i := 36) rfl)), rfl, hnm⟩) (hw _ (List.mem_of_getElem? (i := 34) rfl)) (ty := (.array .byte)) (by decide) rfl rfl ?_
  intro T4 h4 X4 e4 W4
  have F4 := ((F_v.ext E2)).same W4
  have N4 := Fr.snoc X4 N0 G_1
  refine own_aloadN X4 hx hby own_d7_17 (pc' := 18) rfl rfl rfl ?_
  refine own_ldcS X4 hx hby own_d7_18 (pc' := 20) rfl (hw _ (List.mem_of_getElem? (i := 75) rfl)) wS e4 hEL (by decide) ((W2.wr W4 (C2.safe (E_1).lt Sf))) (vs := []) (z := (0 : Int32)) ⟨by decide, by rfl⟩ (by decide) (by rfl) (n := 0) (by decide) (by decide) (by decide) (by decide) ?_
  intro T5 h5 a5 b5 k5 vm5 X5 e5 E5 W5 C5 G5 Gc5 Gv5 Gb5 S5
  have hZ := W5.1
  have hown := W5.2.1
  have F5 := own_Str.mk G5 Gc5 Gv5 Gb5 ([] : List Int32) (by decide) (by decide) rfl (by first | rfl | decide +kernel)
  refine own_getF X5 hx hby own_d7_20 (pc' := 23) rfl hZ hown (host := "") (Or.inl (hw _ (List.mem_of_getElem? (i := 66) rfl))) Via.refl e5 Gc5 ?_
  intro T6 X6 e6
  refine own_putN X6 hx hby own_d7_23 (pc' := 26) rfl hZ hown (hw _ (List.mem_of_getElem? (i := 66) rfl)) Via.refl e6 (((F_c.ext E2).other W4 (Or.inr (slot_ne (Or.inr (hw _ (List.mem_of_getElem? (i := 37) rfl))) (Or.inr (hw _ (List.mem_of_getElem? (i := 36) rfl))) (by decide) (t := .byte) (t' := (.array .byte)) (by decide) (by decide)))).ext E5) (((E_1.ext E2).wr W4).ext E5) (Or.inr ⟨(hw _ (List.mem_of_getElem? (i := 37) rfl)), rfl, hnm⟩) (hw _ (List.mem_of_getElem? (i := 34) rfl)) (ty := .byte) (v' := (.int (0 : Int32))) (by decide) rfl rfl ?_
  intro T7 h7 X7 e7 W7
  have F7 := ((((F_c.ext E2).other W4 (Or.inr (slot_ne (Or.inr (hw _ (List.mem_of_getElem? (i := 37) rfl))) (Or.inr (hw _ (List.mem_of_getElem? (i := 36) rfl))) (by decide) (t := .byte) (t' := (.array .byte)) (by decide) (by decide)))).ext E5)).same W7
  have N7 := Fr.snoc X7 N4 G_1
  exact own_retVW X7 hx hEL ((W5.wr W7 (C5.safe (Nat.lt_of_lt_of_le (Nat.lt_of_lt_of_le (E_1).lt E2.1) (Nat.le_of_eq (Wr.size W4).symm)) (Safe.wr W4 (C2.safe (E_1).lt Sf) (W2).ch (C2.safe (E_1).lt Sf))))) e7 hret (hb hby own_d7_26) hlk (by decide) (by decide) ⟨rfl, N7, by rw [e7]; exact ⟨(((((Keep.refl h0 [a1]).ext E2).wr W4 (Or.inl (List.mem_of_getElem? (i := 0) rfl))).ext E5).wr W7 (Or.inl (List.mem_of_getElem? (i := 0) rfl))), own_Str.mk (((((E_1.ext E2).wr W4).ext E5).wr W7)) (F7) (((F4.ext E5).other W7 (Or.inr (slot_ne (Or.inr (hw _ (List.mem_of_getElem? (i := 36) rfl))) (Or.inr (hw _ (List.mem_of_getElem? (i := 37) rfl))) (by decide) (t := (.array .byte)) (t' := .byte) (by decide) (by decide))))) ((((Gb2.other W4 (Ne.symm (S2 _ (C2.safe (E_1).lt Sf)).2)).ext E5).other W7 (Ne.symm (S2 _ (C2.safe (E_1).lt Sf)).2))) [] (by simp) (by decide) rfl rfl⟩⟩
theorem own_pd0 : parseMethodDescriptor "([CIILjava/lang/Void;)V" = some ⟨[(.array .char), .int, .int, (.object "java/lang/Void")], none⟩ := by decide +kernel
theorem own_d6_0 : decode jdk_42_method_3_code 0 = .ok (.aload_n 0, 1) := by decide +kernel
theorem own_d6_1 : decode jdk_42_method_3_code 1 = .ok (.aload_n 1, 1) := by decide +kernel
theorem own_d6_2 : decode jdk_42_method_3_code 2 = .ok (.iconst 0, 1) := by decide +kernel
theorem own_d6_3 : decode jdk_42_method_3_code 3 = .ok (.aload_n 1, 1) := by decide +kernel
theorem own_d6_4 : decode jdk_42_method_3_code 4 = .ok (.arraylength, 1) := by decide +kernel
theorem own_d6_5 : decode jdk_42_method_3_code 5 = .ok (.aconst_null, 1) := by decide +kernel
theorem own_d6_6 : decode jdk_42_method_3_code 6 = .ok (.invokespecial 27, 3) := by decide +kernel
theorem own_d6_9 : decode jdk_42_method_3_code 9 = .ok (.return_, 1) := by decide +kernel
theorem own_ef_rm_e1 (m : MethodId) (a1 : Addr) (a2 : Addr) : entryFrame m #[(.ref a1), (.ref a2)] 2 = mkF m 0 #[.val (.ref a1), .val (.ref a2)] [] := by first | (simp [entryFrame, mkF, argsToLocals, Value.category]; done) | rfl
def Qrm_e1 (Z : State) (a1 : Addr) (a2 : Addr) (h0 : Heap) (n0 : Nat) (v : Option Value) (h : Heap) (L : List Loc) : Prop := v = none ∧ Fr n0 L ∧ Keep h0 h [a1] ∧ own_Str Z h h.size a1 []
set_option maxRecDepth 65536 in
set_option maxHeartbeats 40000000 in
theorem rm_e1 (l : Launch) (Z : State) (a0 : Array Value) (hw : ∀ d ∈ tables_1, d.before a0 Z = true) (ws : List Jvm.Cond) (a1 : Addr) (a2 : Addr) (h0 : Heap) (n0 : Nat) (hEL : EW Z a0 own_EL) (E_1 : Exa Z h0 a1 "java/lang/String") (F_v : Fld Z h0 a1 "java/lang/String" "value" "[B" .null) (F_c : Fld Z h0 a1 "java/lang/String" "coder" "B" (.int (0 : Int32))) (G_1 : n0 ≤ a1) (C_2 : own_Ch Z h0 a2 0) :
    own_MetW l (⟨"java/lang/String", "<init>", "([C)V"⟩ : MethodName) jdk_42_method_3_code 2 none ws ({ frames := 2, cells := 4, slots := 8, locals := 29 } : Room) #[(.ref a1), (.ref a2)] Z own_EL h0 (Qrm_e1 Z a1 a2 h0 n0) := by
  refine own_bodyW own_pn6 ?_
  intro p e s m below meth c T0 X0 hx hby hml hnm hret hlk W0 e0
  have hZ := W0.1
  have hown := W0.2.1
  have N0 := Fr.nil n0
  refine own_st (fun t k => castTop (own_ef_rm_e1 m a1 a2) k) ?_
  show own_Go p.tables e below (T0.setTop (mkF m 0 #[.val (.ref a1), .val (.ref a2)] [])) _
  have wS : ∀ d ∈ Bundle.stringAtoms, d.before a0 Z = true := fun d hd => hw d ((by decide +kernel : ∀ d ∈ Bundle.stringAtoms, d ∈ tables_1) d hd)
  have Sf := own_safeN (EL := own_EL) W0.1.alike E_1 F_v
  refine own_aloadN X0 hx hby own_d6_0 (pc' := 1) rfl rfl rfl ?_
  refine own_aloadN X0 hx hby own_d6_1 (pc' := 2) rfl rfl rfl ?_
  refine own_iconst X0 hx hby own_d6_2 (pc' := 3) rfl (z := (0 : Int32)) (by decide) ?_
  refine own_aloadN X0 hx hby own_d6_3 (pc' := 4) rfl rfl rfl ?_
  refine own_lenC X0 hx hby own_d6_4 (pc' := 5) rfl hZ e0 (C_2) (z := (0 : Int32)) (by rfl) ?_
  refine own_aconst_null X0 hx hby own_d6_5 (pc' := 6) rfl ?_
  refine own_callSpW X0 hx hEL (W0) (rm_e4 l Z a0 hw [] a1 a2 h0 n0 hEL (E_1) (F_v) (F_c) G_1) rfl (hw _ (List.mem_of_getElem? (i := 48) rfl)) (hw _ (List.mem_of_getElem? (i := 49) rfl)) (hw _ (List.mem_of_getElem? (i := 51) rfl)) (hw _ (List.mem_of_getElem? (i := 31) rfl)) (by decide) (W := 0) (by decide) (by decide) (by rw [hml]; rfl) (argsL := [(.ref a2), (.int (0 : Int32)), (.int (0 : Int32)), .null]) (rest := []) rfl (lenOf own_pd0 rfl) rfl (Nat.le_of_eq rfl) (hb hby own_d6_6) e0 (by decide) (by decide) ?_
  intro v8 T8 L8 vm8 X8 hQ8 W8 C8
  obtain ⟨hv8, N8q, K8, F8⟩ := hQ8
  subst hv8
  have N8 := Fr.app N0 N8q
  have hZ := W8.1
  have hown := W8.2.1
  show own_Go p.tables e below (T8.setTop (mkF m 9 #[.val (.ref a1), .val (.ref a2)] [])) _
  exact own_retVW X8 hx hEL (W8) rfl hret (hb hby own_d6_9) hlk (by decide) (by decide) ⟨rfl, N8, ((Keep.refl h0 [a1]).trans K8 (allS (Or.inl (List.mem_of_getElem? (i := 0) rfl)) all0)), F8⟩
theorem own_byte (x : Int64) (k : Int64) : own_B (nar .char ((((x.toUInt64 >>> k.toUInt64).toInt64 &&& (255 : Int64)).toInt32).toUInt32.toUInt16.toUInt32.toInt32)) := by
  generalize (x.toUInt64 >>> k.toUInt64).toInt64 = y
  have e : (y &&& (255 : Int64)).toInt32 = y.toInt32 &&& 255 := by
    apply Int32.toBitVec_inj.mp
    simp only [Int64.toBitVec_toInt32, Int64.toBitVec_and, Int32.toBitVec_and]
    ext i hi
    simp [BitVec.getElem_signExtend]
  rw [e]
  show own_B ((((y.toInt32 &&& (255 : Int32)).toUInt32.toUInt16.toUInt32.toInt32)).toUInt32.toUInt16.toUInt32.toInt32)
  rw [i2c_mask, i2c_mask]
  have h := c_and y.toInt32 255 (by decide)
  have e2 : (255 : Int32).toInt = 255 := by decide
  have e0 : (0 : Int32).toInt = 0 := by decide
  refine ⟨?_, ?_⟩ <;> rw [Int32.lt_iff_toInt_lt] <;> omega
theorem own_d1_0 : decode method_2_code 0 = .ok (.lload_n 0, 1) := by decide +kernel
theorem own_d1_1 : decode method_2_code 1 = .ok (.bipush 8, 2) := by decide +kernel
theorem own_d1_3 : decode method_2_code 3 = .ok (.iload_n 2, 1) := by decide +kernel
theorem own_d1_4 : decode method_2_code 4 = .ok (.imul, 1) := by decide +kernel
theorem own_d1_5 : decode method_2_code 5 = .ok (.lushr, 1) := by decide +kernel
theorem own_d1_6 : decode method_2_code 6 = .ok (.ldc2_w 7, 3) := by decide +kernel
theorem own_d1_9 : decode method_2_code 9 = .ok (.land, 1) := by decide +kernel
theorem own_d1_10 : decode method_2_code 10 = .ok (.l2i, 1) := by decide +kernel
theorem own_d1_11 : decode method_2_code 11 = .ok (.i2c, 1) := by decide +kernel
theorem own_d1_12 : decode method_2_code 12 = .ok (.ireturn, 1) := by decide +kernel
theorem own_ef_rm_by (m : MethodId) (p1 : Int64) (p2 : Int32) : entryFrame m #[(.long p1), (.int p2)] 3 = mkF m 0 #[.val (.long p1), .second, .val (.int p2)] [] := by first | (simp [entryFrame, mkF, argsToLocals, Value.category]; done) | rfl
def Qrm_by (Z : State) (p1 : Int64) (p2 : Int32) (h0 : Heap) (n0 : Nat) (v : Option Value) (h : Heap) (L : List Loc) : Prop := ∃ z, v = some (.int z) ∧ own_B z ∧ Fr n0 L ∧ h = h0
set_option maxRecDepth 65536 in
set_option maxHeartbeats 40000000 in
theorem rm_by (l : Launch) (Z : State) (a0 : Array Value) (hw : ∀ d ∈ tables_1, d.before a0 Z = true) (ws : List Jvm.Cond) (p1 : Int64) (p2 : Int32) (h0 : Heap) (n0 : Nat) :
    own_Met l (⟨"com/example/tranchebook/tranchebook/model/FeeByRateNamePinLaw", "byteAt", "(JI)C"⟩ : MethodName) method_2_code 3 (some .char) ws ({ frames := 0, cells := 0, slots := 0, locals := 0 } : Room) #[(.long p1), (.int p2)] Z h0 (Qrm_by Z p1 p2 h0 n0) := by
  refine own_body own_pn1 ?_
  intro p e s m below meth c T0 X0 hx hby hml hown hnm hret hlk hZ e0
  have N0 := Fr.nil n0
  refine own_st (fun t k => castTop (own_ef_rm_by m p1 p2) k) ?_
  show own_Go p.tables e below (T0.setTop (mkF m 0 #[.val (.long p1), .second, .val (.int p2)] [])) _
  refine own_lloadN X0 hx hby own_d1_0 (pc' := 1) rfl rfl ?_
  refine own_bipush X0 hx hby own_d1_1 (pc' := 3) rfl (z := (8 : Int32)) (by decide) ?_
  refine own_iloadN X0 hx hby own_d1_3 (pc' := 4) rfl rfl ?_
  refine own_imul X0 hx hby own_d1_4 (pc' := 5) rfl rfl ?_
  refine own_lushr X0 hx hby own_d1_5 (pc' := 6) rfl rfl ?_
  refine own_ldc2 X0 hx hby own_d1_6 (pc' := 9) rfl hZ hown (hw _ (List.mem_of_getElem? (i := 5) rfl)) ?_
  refine own_land X0 hx hby own_d1_9 (pc' := 10) rfl rfl ?_
  refine own_l2i X0 hx hby own_d1_10 (pc' := 11) rfl rfl ?_
  refine own_i2c X0 hx hby own_d1_11 (pc' := 12) rfl rfl ?_
  exact own_retZ (t := .char) X0 hx hret (by simp) (hb hby own_d1_12) hlk (by decide) (by decide) ⟨_, rfl, own_byte _ _, N0, e0⟩
theorem own_d3_0 : decode prog_51_method_1_code 0 = .ok (.getstatic 7, 3) := by decide +kernel
theorem own_d3_3 : decode prog_51_method_1_code 3 = .ok (.invokevirtual 11, 3) := by decide +kernel
theorem own_d3_6 : decode prog_51_method_1_code 6 = .ok (.checkcast 12, 3) := by decide +kernel
theorem own_d3_9 : decode prog_51_method_1_code 9 = .ok (.areturn, 1) := by decide +kernel
theorem own_ef_rm_va (m : MethodId)  : entryFrame m #[] 0 = mkF m 0 #[] [] := by first | (simp [entryFrame, mkF, argsToLocals, Value.category]; done) | rfl
def Qrm_va (Z : State) (aV : Addr) (kV : Cell) (r0 : Addr) (h0 : Heap) (n0 : Nat) (v : Option Value) (h : Heap) (L : List Loc) : Prop := ∃ b, v = some (.ref b) ∧ Fr n0 L ∧ Keep h0 h [] ∧ h0.size ≤ b ∧ own_Ar Z h b (.object "com/example/tranchebook/tranchebook/model/Fee") [.ref r0]
set_option maxRecDepth 65536 in
set_option maxHeartbeats 40000000 in
theorem rm_va (l : Launch) (Z : State) (a0 : Array Value) (hw : ∀ d ∈ tables_1, d.before a0 Z = true) (ws : List Jvm.Cond) (aV : Addr) (kV : Cell) (r0 : Addr) (h0 : Heap) (n0 : Nat) (O_0 : Old Z n0 h0) (S_V : Sta Z Z.heap "com/example/tranchebook/tranchebook/model/Fee" "$VALUES" "[Lcom/example/tranchebook/tranchebook/model/Fee;" (.ref aV)) (A_V : Arr Z Z.heap aV kV (.object "com/example/tranchebook/tranchebook/model/Fee")) (E_V : Exa Z Z.heap aV "[Lcom/example/tranchebook/tranchebook/model/Fee;") (FC : FitC Z kV) (hs : kV.slots.toList = [.ref r0]) :
    own_Met l (⟨"com/example/tranchebook/tranchebook/model/Fee", "values", "()[Lcom/example/tranchebook/tranchebook/model/Fee;"⟩ : MethodName) prog_51_method_1_code 0 (some (.array (.object "com/example/tranchebook/tranchebook/model/Fee"))) ws ({ frames := 1, cells := 1, slots := 8, locals := 14 } : Room) #[] Z h0 (Qrm_va Z aV kV r0 h0 n0) := by
  refine own_body own_pn3 ?_
  intro p e s m below meth c T0 X0 hx hby hml hown hnm hret hlk hZ e0
  have N0 := Fr.nil n0
  refine own_st (fun t k => castTop (own_ef_rm_va m ) k) ?_
  show own_Go p.tables e below (T0.setTop (mkF m 0 #[] [])) _
  have Z0 := own_Z0 O_0
  have hcap : kV.slots.size ≤ 8 := by rw [← Array.length_toList, hs]; exact (by decide : 1 ≤ 8)
  refine own_getS X0 hx hby own_d3_0 (pc' := 3) rfl hZ hown (host := "") (Or.inl (hw _ (List.mem_of_getElem? (i := 13) rfl))) Via.refl e0 (S_V.ext (O_0).2) ?_
  intro T9 X9 e9
  refine own_clone X9 hx hby own_d3_3 (pc' := 6) rfl hZ hown (hw _ (List.mem_of_getElem? (i := 15) rfl)) (hw _ (List.mem_of_getElem? (i := 16) rfl)) (hw _ (List.mem_of_getElem? (i := 20) rfl)) (hw _ (List.mem_of_getElem? (i := 18) rfl)) (hw _ (List.mem_of_getElem? (i := 19) rfl)) (hw _ (List.mem_of_getElem? (i := 21) rfl)) e9 (A_V.ext (O_0).2) (E_V.ext (O_0).2) FC (by rw [hml]; rfl) (by decide) (W := 0) (cap := 8) (Nat.le_of_eq rfl) (by decide) hcap (by decide) (by decide) ?_
  intro T10 h10 b10 X10 e10 g10 E10 A10 C10
  show own_Go p.tables e below (T10.setTop (mkF m 6 #[] [(.ref b10)])) _
  refine own_castY X10 hx hby own_d3_6 (pc' := 9) rfl hZ hown (hw _ (List.mem_of_getElem? (i := 23) rfl)) e10 (Ins.self C10) ?_
  intro T11 X11 e11
  exact own_retA X11 hx hret rfl rfl (hb hby own_d3_9) hlk (by decide) (by decide) ⟨b10, rfl, N0, by rw [e11]; exact ⟨((Keep.refl h0 []).ext E10), (Nat.le_of_eq g10.symm), (⟨_, A10, hs⟩ : own_Ar Z h10 b10 (.object "com/example/tranchebook/tranchebook/model/Fee") [.ref r0])⟩⟩
theorem own_d4_0 : decode jdk_42_method_66_code 0 = .ok (.aload_n 0, 1) := by decide +kernel
theorem own_d4_1 : decode jdk_42_method_66_code 1 = .ok (.aload_n 1, 1) := by decide +kernel
theorem own_d4_2 : decode jdk_42_method_66_code 2 = .ok (.if_acmp .ne 5, 3) := by decide +kernel
theorem own_d4_7 : decode jdk_42_method_66_code 7 = .ok (.aload_n 1, 1) := by decide +kernel
theorem own_d4_8 : decode jdk_42_method_66_code 8 = .ok (.instanceof 10, 3) := by decide +kernel
theorem own_d4_11 : decode jdk_42_method_66_code 11 = .ok (.ifCond .eq 43, 3) := by decide +kernel
theorem own_d4_54 : decode jdk_42_method_66_code 54 = .ok (.iconst 0, 1) := by decide +kernel
theorem own_d4_55 : decode jdk_42_method_66_code 55 = .ok (.ireturn, 1) := by decide +kernel
theorem own_ef_rm_eqn (m : MethodId) (a1 : Addr) : entryFrame m #[(.ref a1), .null] 3 = mkF m 0 #[.val (.ref a1), .val .null, .unset] [] := by first | (simp [entryFrame, mkF, argsToLocals, Value.category]; done) | rfl
def Qrm_eqn (Z : State) (a1 : Addr) (h0 : Heap) (n0 : Nat) (v : Option Value) (h : Heap) (L : List Loc) : Prop := v = some (.int (0 : Int32)) ∧ Fr n0 L ∧ h = h0
set_option maxRecDepth 65536 in
set_option maxHeartbeats 40000000 in
theorem rm_eqn (l : Launch) (Z : State) (a0 : Array Value) (hw : ∀ d ∈ tables_1, d.before a0 Z = true) (ws : List Jvm.Cond) (a1 : Addr) (h0 : Heap) (n0 : Nat) :
    own_Met l (⟨"java/lang/String", "equals", "(Ljava/lang/Object;)Z"⟩ : MethodName) jdk_42_method_66_code 3 (some .boolean) ws ({ frames := 0, cells := 0, slots := 0, locals := 0 } : Room) #[(.ref a1), .null] Z h0 (Qrm_eqn Z a1 h0 n0) := by
  refine own_body own_pn4 ?_
  intro p e s m below meth c T0 X0 hx hby hml hown hnm hret hlk hZ e0
  have N0 := Fr.nil n0
  refine own_st (fun t k => castTop (own_ef_rm_eqn m a1) k) ?_
  show own_Go p.tables e below (T0.setTop (mkF m 0 #[.val (.ref a1), .val .null, .unset] [])) _
  refine own_aloadN X0 hx hby own_d4_0 (pc' := 1) rfl rfl rfl ?_
  refine own_aloadN X0 hx hby own_d4_1 (pc' := 2) rfl rfl rfl ?_
  refine own_acmp X0 hx hby own_d4_2 (pc' := 7) (same := false) rfl rfl (decide_eq_false nofun) (by decide) ?_
  refine own_aloadN X0 hx hby own_d4_7 (pc' := 8) rfl rfl rfl ?_
  refine own_instN X0 hx hby own_d4_8 (pc' := 11) rfl ?_
  refine own_ifYes X0 hx hby own_d4_11 (pc' := 54) (by decide) (by decide) ?_
  refine own_iconst X0 hx hby own_d4_54 (pc' := 55) rfl (z := (0 : Int32)) (by decide) ?_
  exact own_retZ (t := .boolean) X0 hx hret (by simp) (hb hby own_d4_55) hlk (by decide) (by decide) ⟨congrArg (fun z => some (Value.int z)) (own_nar0), N0, e0⟩
theorem own_pd1 : parseMethodDescriptor "()[Lcom/example/tranchebook/tranchebook/model/Fee;" = some ⟨[], some (.array (.object "com/example/tranchebook/tranchebook/model/Fee"))⟩ := by decide +kernel
theorem own_pd2 : parseMethodDescriptor "(Ljava/lang/Object;)Z" = some ⟨[(.object "java/lang/Object")], some .boolean⟩ := by decide +kernel
theorem own_d2_0 : decode prog_51_method_4_code 0 = .ok (.aconst_null, 1) := by decide +kernel
theorem own_d2_1 : decode prog_51_method_4_code 1 = .ok (.astore_n 1, 1) := by decide +kernel
theorem own_d2_2 : decode prog_51_method_4_code 2 = .ok (.invokestatic 43, 3) := by decide +kernel
theorem own_d2_5 : decode prog_51_method_4_code 5 = .ok (.astore_n 2, 1) := by decide +kernel
theorem own_d2_6 : decode prog_51_method_4_code 6 = .ok (.aload_n 2, 1) := by decide +kernel
theorem own_d2_7 : decode prog_51_method_4_code 7 = .ok (.arraylength, 1) := by decide +kernel
theorem own_d2_8 : decode prog_51_method_4_code 8 = .ok (.istore_n 3, 1) := by decide +kernel
theorem own_d2_9 : decode prog_51_method_4_code 9 = .ok (.iconst 0, 1) := by decide +kernel
theorem own_d2_10 : decode prog_51_method_4_code 10 = .ok (.istore 4, 2) := by decide +kernel
theorem own_d2_12 : decode prog_51_method_4_code 12 = .ok (.iload 4, 2) := by decide +kernel
theorem own_d2_14 : decode prog_51_method_4_code 14 = .ok (.iload_n 3, 1) := by decide +kernel
theorem own_d2_15 : decode prog_51_method_4_code 15 = .ok (.if_icmp .ge 30, 3) := by decide +kernel
theorem own_d2_18 : decode prog_51_method_4_code 18 = .ok (.aload_n 2, 1) := by decide +kernel
theorem own_d2_19 : decode prog_51_method_4_code 19 = .ok (.iload 4, 2) := by decide +kernel
theorem own_d2_21 : decode prog_51_method_4_code 21 = .ok (.aaload, 1) := by decide +kernel
theorem own_d2_22 : decode prog_51_method_4_code 22 = .ok (.astore 5, 2) := by decide +kernel
theorem own_d2_24 : decode prog_51_method_4_code 24 = .ok (.aload 5, 2) := by decide +kernel
theorem own_d2_26 : decode prog_51_method_4_code 26 = .ok (.getfield 30, 3) := by decide +kernel
theorem own_d2_29 : decode prog_51_method_4_code 29 = .ok (.aload_n 0, 1) := by decide +kernel
theorem own_d2_30 : decode prog_51_method_4_code 30 = .ok (.invokevirtual 47, 3) := by decide +kernel
theorem own_d2_33 : decode prog_51_method_4_code 33 = .ok (.ifCond .eq 6, 3) := by decide +kernel
theorem own_d2_39 : decode prog_51_method_4_code 39 = .ok (.iinc 4 1, 3) := by decide +kernel
theorem own_d2_42 : decode prog_51_method_4_code 42 = .ok (.goto (-30), 3) := by decide +kernel
theorem own_d2_45 : decode prog_51_method_4_code 45 = .ok (.aload_n 1, 1) := by decide +kernel
theorem own_d2_46 : decode prog_51_method_4_code 46 = .ok (.areturn, 1) := by decide +kernel
theorem own_ef_rm_brn (m : MethodId)  : entryFrame m #[.null] 6 = mkF m 0 #[.val .null, .unset, .unset, .unset, .unset, .unset] [] := by first | (simp [entryFrame, mkF, argsToLocals, Value.category]; done) | rfl
def Qrm_brn (Z : State) (aV : Addr) (kV : Cell) (r0 : Addr) (f0 : Addr) (h0 : Heap) (n0 : Nat) (v : Option Value) (h : Heap) (L : List Loc) : Prop := v = some .null ∧ Fr n0 L ∧ Keep h0 h []
set_option maxRecDepth 65536 in
set_option maxHeartbeats 40000000 in
theorem rm_brn (l : Launch) (Z : State) (a0 : Array Value) (hw : ∀ d ∈ tables_1, d.before a0 Z = true) (ws : List Jvm.Cond) (aV : Addr) (kV : Cell) (r0 : Addr) (f0 : Addr) (h0 : Heap) (n0 : Nat) (O_0 : Old Z n0 h0) (S_V : Sta Z Z.heap "com/example/tranchebook/tranchebook/model/Fee" "$VALUES" "[Lcom/example/tranchebook/tranchebook/model/Fee;" (.ref aV)) (A_V : Arr Z Z.heap aV kV (.object "com/example/tranchebook/tranchebook/model/Fee")) (E_V : Exa Z Z.heap aV "[Lcom/example/tranchebook/tranchebook/model/Fee;") (FC : FitC Z kV) (hs : kV.slots.toList = [.ref r0]) (F_0 : Fld Z Z.heap r0 "com/example/tranchebook/tranchebook/model/Fee" "rateName" "Ljava/lang/String;" (.ref f0)) (T_f : own_Str Z Z.heap Z.heap.size f0 own_CF) :
    own_Met l (⟨"com/example/tranchebook/tranchebook/model/Fee", "byRateName", "(Ljava/lang/String;)Lcom/example/tranchebook/tranchebook/model/Fee;"⟩ : MethodName) prog_51_method_4_code 6 (some (.object "com/example/tranchebook/tranchebook/model/Fee")) ws ({ frames := 3, cells := 1, slots := 8, locals := 60 } : Room) #[.null] Z h0 (Qrm_brn Z aV kV r0 f0 h0 n0) := by
  refine own_body own_pn2 ?_
  intro p e s m below meth c T0 X0 hx hby hml hown hnm hret hlk hZ e0
  have N0 := Fr.nil n0
  refine own_st (fun t k => castTop (own_ef_rm_brn m ) k) ?_
  show own_Go p.tables e below (T0.setTop (mkF m 0 #[.val .null, .unset, .unset, .unset, .unset, .unset] [])) _
  have Z0 := own_Z0 O_0
  refine own_aconst_null X0 hx hby own_d2_0 (pc' := 1) rfl ?_
  refine own_astoreN X0 hx hby own_d2_1 (pc' := 2) rfl rfl (Ls' := #[.val .null, .val .null, .unset, .unset, .unset, .unset]) rfl ?_
  refine own_callS X0 hx hZ (rm_va l Z a0 hw [] aV kV r0 h0 n0 (O_0) S_V A_V E_V FC hs) hown (hw _ (List.mem_of_getElem? (i := 10) rfl)) (hw _ (List.mem_of_getElem? (i := 11) rfl)) (hw _ (List.mem_of_getElem? (i := 8) rfl)) (hw _ (List.mem_of_getElem? (i := 12) rfl)) (by decide) (W := 0) (by decide) (by decide) (by rw [hml]; rfl) (argsL := []) (rest := []) rfl (lenOf own_pd1 rfl) rfl (Nat.le_of_eq rfl) (hb hby own_d2_2) e0 (by decide) (by decide) ?_
  intro v12 T12 L12 X12 hQ12
  obtain ⟨b12, hv12, N12q, K12, g12, A12⟩ := hQ12
  subst hv12
  have N12 := Fr.app N0 N12q
  show own_Go p.tables e below (T12.setTop (mkF m 5 #[.val .null, .val .null, .unset, .unset, .unset, .unset] [(.ref b12)])) _
  refine own_astoreN X12 hx hby own_d2_5 (pc' := 6) rfl rfl (Ls' := #[.val .null, .val .null, .val (.ref b12), .unset, .unset, .unset]) rfl ?_
  refine own_aloadN X12 hx hby own_d2_6 (pc' := 7) rfl rfl rfl ?_
  refine own_len X12 hx hby own_d2_7 (pc' := 8) rfl hZ rfl (A12) (n := (1 : Int32)) (by rfl) ?_
  refine own_istoreN X12 hx hby own_d2_8 (pc' := 9) rfl (Ls' := #[.val .null, .val .null, .val (.ref b12), .val (.int (1 : Int32)), .unset, .unset]) rfl ?_
  refine own_iconst X12 hx hby own_d2_9 (pc' := 10) rfl (z := (0 : Int32)) (by decide) ?_
  refine own_istore X12 hx hby own_d2_10 (pc' := 12) rfl (Ls' := #[.val .null, .val .null, .val (.ref b12), .val (.int (1 : Int32)), .val (.int (0 : Int32)), .unset]) rfl ?_
  refine own_iload X12 hx hby own_d2_12 (pc' := 14) rfl rfl ?_
  refine own_iloadN X12 hx hby own_d2_14 (pc' := 15) rfl rfl ?_
  refine own_icmpNo X12 hx hby own_d2_15 (pc' := 18) rfl (by decide) ?_
  refine own_aloadN X12 hx hby own_d2_18 (pc' := 19) rfl rfl rfl ?_
  refine own_iload X12 hx hby own_d2_19 (pc' := 21) rfl rfl ?_
  refine own_aaload X12 hx hby rfl own_d2_21 (pc' := 22) rfl hZ rfl (A12) (by decide) (v := (.ref r0)) rfl ?_
  refine own_astore X12 hx hby own_d2_22 (pc' := 24) rfl rfl (Ls' := #[.val .null, .val .null, .val (.ref b12), .val (.int (1 : Int32)), .val (.int (0 : Int32)), .val (.ref r0)]) rfl ?_
  refine own_aload X12 hx hby own_d2_24 (pc' := 26) rfl rfl rfl ?_
  refine own_getF X12 hx hby own_d2_26 (pc' := 29) rfl hZ hown (host := "") (Or.inl (hw _ (List.mem_of_getElem? (i := 25) rfl))) Via.refl rfl (F_0.ext ((O_0.keep K12 all0)).2) ?_
  intro T13 X13 e13
  refine own_aloadN X13 hx hby own_d2_29 (pc' := 30) rfl rfl rfl ?_
  refine own_callV X13 hx hZ (rm_eqn l Z a0 hw [] f0 T12.heap n0) hown (hw _ (List.mem_of_getElem? (i := 27) rfl)) (hw _ (List.mem_of_getElem? (i := 28) rfl)) (hw _ (List.mem_of_getElem? (i := 30) rfl)) (hw _ (List.mem_of_getElem? (i := 29) rfl)) (hw _ (List.mem_of_getElem? (i := 32) rfl)) (hw _ (List.mem_of_getElem? (i := 31) rfl)) (by decide) (T_f.ext ((O_0.keep K12 all0)).2).exa (W := 0) (by decide) (by decide) (by rw [hml]; rfl) (argsL := [.null]) (rest := []) rfl (lenOf own_pd2 rfl) rfl (Nat.le_of_eq rfl) (hb hby own_d2_30) e13 (by decide) (by decide) ?_
  intro v14 T14 L14 X14 hQ14
  obtain ⟨hv14, N14q, e14⟩ := hQ14
  subst hv14
  have N14 := Fr.app N12 N14q
  show own_Go p.tables e below (T14.setTop (mkF m 33 #[.val .null, .val .null, .val (.ref b12), .val (.int (1 : Int32)), .val (.int (0 : Int32)), .val (.ref r0)] [(.int (0 : Int32))])) _
  refine own_ifYes X14 hx hby own_d2_33 (pc' := 39) (by decide) (by decide) ?_
  refine own_iinc X14 hx hby own_d2_39 (pc' := 42) rfl rfl (z := (1 : Int32)) (by decide) (Ls' := #[.val .null, .val .null, .val (.ref b12), .val (.int (1 : Int32)), .val (.int (1 : Int32)), .val (.ref r0)]) rfl ?_
  refine own_goto X14 hx hby own_d2_42 (pc' := 12) (by decide) ?_
  refine own_iload X14 hx hby own_d2_12 (pc' := 14) rfl rfl ?_
  refine own_iloadN X14 hx hby own_d2_14 (pc' := 15) rfl rfl ?_
  refine own_icmpYes X14 hx hby own_d2_15 (pc' := 45) (by decide) (by decide) ?_
  refine own_aloadN X14 hx hby own_d2_45 (pc' := 46) rfl rfl rfl ?_
  exact own_retA X14 hx hret rfl rfl (hb hby own_d2_46) hlk (by decide) (by decide) ⟨rfl, N14, by rw [show T14.heap = _ from e14]; exact ((Keep.refl h0 []).trans K12 all0)⟩
theorem own_d2_36 : decode prog_51_method_4_code 36 = .ok (.aload 5, 2) := by decide +kernel
theorem own_d2_38 : decode prog_51_method_4_code 38 = .ok (.astore_n 1, 1) := by decide +kernel
theorem own_ef_rm_brs (m : MethodId) (a1 : Addr) : entryFrame m #[(.ref a1)] 6 = mkF m 0 #[.val (.ref a1), .unset, .unset, .unset, .unset, .unset] [] := by first | (simp [entryFrame, mkF, argsToLocals, Value.category]; done) | rfl
def Qrm_brs (Z : State) (a1 : Addr) (aV : Addr) (kV : Cell) (r0 : Addr) (f0 : Addr) (gS : Int32) (cs : List Int32) (k1 : Nat) (h0 : Heap) (n0 : Nat) (v : Option Value) (h : Heap) (L : List Loc) : Prop := v = some (own_fee cs r0) ∧ Fr n0 L ∧ Keep h0 h []
set_option maxRecDepth 65536 in
set_option maxHeartbeats 40000000 in
theorem rm_brs (l : Launch) (Z : State) (a0 : Array Value) (hw : ∀ d ∈ tables_1, d.before a0 Z = true) (ws : List Jvm.Cond) (a1 : Addr) (aV : Addr) (kV : Cell) (r0 : Addr) (f0 : Addr) (gS : Int32) (cs : List Int32) (k1 : Nat) (h0 : Heap) (n0 : Nat) (O_0 : Old Z n0 h0) (S_V : Sta Z Z.heap "com/example/tranchebook/tranchebook/model/Fee" "$VALUES" "[Lcom/example/tranchebook/tranchebook/model/Fee;" (.ref aV)) (A_V : Arr Z Z.heap aV kV (.object "com/example/tranchebook/tranchebook/model/Fee")) (E_V : Exa Z Z.heap aV "[Lcom/example/tranchebook/tranchebook/model/Fee;") (FC : FitC Z kV) (hs : kV.slots.toList = [.ref r0]) (F_0 : Fld Z Z.heap r0 "com/example/tranchebook/tranchebook/model/Fee" "rateName" "Ljava/lang/String;" (.ref f0)) (T_f : own_Str Z Z.heap Z.heap.size f0 own_CF) (S_S : Sta Z Z.heap "java/lang/String" "COMPACT_STRINGS" "Z" (.int gS)) (hS : ¬ gS = 0) (T_1 : own_Str Z h0 k1 a1 cs) :
    own_Met l (⟨"com/example/tranchebook/tranchebook/model/Fee", "byRateName", "(Ljava/lang/String;)Lcom/example/tranchebook/tranchebook/model/Fee;"⟩ : MethodName) prog_51_method_4_code 6 (some (.object "com/example/tranchebook/tranchebook/model/Fee")) ws ({ frames := 3, cells := 1, slots := 8, locals := 60 } : Room) #[(.ref a1)] Z h0 (Qrm_brs Z a1 aV kV r0 f0 gS cs k1 h0 n0) := by
  refine own_body own_pn2 ?_
  intro p e s m below meth c T0 X0 hx hby hml hown hnm hret hlk hZ e0
  have N0 := Fr.nil n0
  refine own_st (fun t k => castTop (own_ef_rm_brs m a1) k) ?_
  show own_Go p.tables e below (T0.setTop (mkF m 0 #[.val (.ref a1), .unset, .unset, .unset, .unset, .unset] [])) _
  have Z0 := own_Z0 O_0
  have hwE : ∀ d ∈ StrChars.Road.wordsEq, d.before a0 Z = true := fun d hd => hw d ((by decide +kernel : ∀ d ∈ StrChars.Road.wordsEq, d ∈ tables_1) d hd)
  refine own_aconst_null X0 hx hby own_d2_0 (pc' := 1) rfl ?_
  refine own_astoreN X0 hx hby own_d2_1 (pc' := 2) rfl rfl (Ls' := #[.val (.ref a1), .val .null, .unset, .unset, .unset, .unset]) rfl ?_
  refine own_callS X0 hx hZ (rm_va l Z a0 hw [] aV kV r0 h0 n0 (O_0) S_V A_V E_V FC hs) hown (hw _ (List.mem_of_getElem? (i := 10) rfl)) (hw _ (List.mem_of_getElem? (i := 11) rfl)) (hw _ (List.mem_of_getElem? (i := 8) rfl)) (hw _ (List.mem_of_getElem? (i := 12) rfl)) (by decide) (W := 0) (by decide) (by decide) (by rw [hml]; rfl) (argsL := []) (rest := []) rfl (lenOf own_pd1 rfl) rfl (Nat.le_of_eq rfl) (hb hby own_d2_2) e0 (by decide) (by decide) ?_
  intro v15 T15 L15 X15 hQ15
  obtain ⟨b15, hv15, N15q, K15, g15, A15⟩ := hQ15
  subst hv15
  have N15 := Fr.app N0 N15q
  show own_Go p.tables e below (T15.setTop (mkF m 5 #[.val (.ref a1), .val .null, .unset, .unset, .unset, .unset] [(.ref b15)])) _
  refine own_astoreN X15 hx hby own_d2_5 (pc' := 6) rfl rfl (Ls' := #[.val (.ref a1), .val .null, .val (.ref b15), .unset, .unset, .unset]) rfl ?_
  refine own_aloadN X15 hx hby own_d2_6 (pc' := 7) rfl rfl rfl ?_
  refine own_len X15 hx hby own_d2_7 (pc' := 8) rfl hZ rfl (A15) (n := (1 : Int32)) (by rfl) ?_
  refine own_istoreN X15 hx hby own_d2_8 (pc' := 9) rfl (Ls' := #[.val (.ref a1), .val .null, .val (.ref b15), .val (.int (1 : Int32)), .unset, .unset]) rfl ?_
  refine own_iconst X15 hx hby own_d2_9 (pc' := 10) rfl (z := (0 : Int32)) (by decide) ?_
  refine own_istore X15 hx hby own_d2_10 (pc' := 12) rfl (Ls' := #[.val (.ref a1), .val .null, .val (.ref b15), .val (.int (1 : Int32)), .val (.int (0 : Int32)), .unset]) rfl ?_
  refine own_iload X15 hx hby own_d2_12 (pc' := 14) rfl rfl ?_
  refine own_iloadN X15 hx hby own_d2_14 (pc' := 15) rfl rfl ?_
  refine own_icmpNo X15 hx hby own_d2_15 (pc' := 18) rfl (by decide) ?_
  refine own_aloadN X15 hx hby own_d2_18 (pc' := 19) rfl rfl rfl ?_
  refine own_iload X15 hx hby own_d2_19 (pc' := 21) rfl rfl ?_
  refine own_aaload X15 hx hby rfl own_d2_21 (pc' := 22) rfl hZ rfl (A15) (by decide) (v := (.ref r0)) rfl ?_
  refine own_astore X15 hx hby own_d2_22 (pc' := 24) rfl rfl (Ls' := #[.val (.ref a1), .val .null, .val (.ref b15), .val (.int (1 : Int32)), .val (.int (0 : Int32)), .val (.ref r0)]) rfl ?_
  refine own_aload X15 hx hby own_d2_24 (pc' := 26) rfl rfl rfl ?_
  refine own_getF X15 hx hby own_d2_26 (pc' := 29) rfl hZ hown (host := "") (Or.inl (hw _ (List.mem_of_getElem? (i := 25) rfl))) Via.refl rfl (F_0.ext ((O_0.keep K15 all0)).2) ?_
  intro T16 X16 e16
  refine own_aloadN X16 hx hby own_d2_29 (pc' := 30) rfl rfl rfl ?_
  by_cases hcs : cs = own_CF
  · skip
    refine own_callVB X16 hx hZ (own_eqB (W := 0) hZ hwE (hw _ (List.mem_of_getElem? (i := 34) rfl)) (T_f.ext ((O_0.keep K15 all0)).2) ((T_1.keep K15 all0)) (S_S.ext ((O_0.keep K15 all0)).2) hS (by decide) (by decide)) hown (hw _ (List.mem_of_getElem? (i := 27) rfl)) (hw _ (List.mem_of_getElem? (i := 28) rfl)) (hw _ (List.mem_of_getElem? (i := 30) rfl)) (hw _ (List.mem_of_getElem? (i := 29) rfl)) (by decide) (T_f.ext ((O_0.keep K15 all0)).2).exa (by rw [hml]; rfl) (argsL := [(.ref a1)]) (rest := []) rfl (lenOf own_pd2 rfl) rfl (Nat.le_of_eq rfl) (hb hby own_d2_30) e16 (by decide) (by decide) ?_
    intro v17 T17 L17 X17 hQ17
    obtain ⟨hq17, hL17, e17⟩ := hQ17
    subst hL17
    have hv17 : v17 = some (.int (1 : Int32)) := by
      rcases hq17 with ⟨a, q⟩ | ⟨a, q⟩
      · exact a
      · exact absurd hcs.symm q
    subst hv17
    have N17 := Fr.app N15 (Fr.nil n0)
    show own_Go p.tables e below (T17.setTop (mkF m 33 #[.val (.ref a1), .val .null, .val (.ref b15), .val (.int (1 : Int32)), .val (.int (0 : Int32)), .val (.ref r0)] [(.int (1 : Int32))])) _
    refine own_ifNo X17 hx hby own_d2_33 (pc' := 36) rfl (by decide) ?_
    refine own_aload X17 hx hby own_d2_36 (pc' := 38) rfl rfl rfl ?_
    refine own_astoreN X17 hx hby own_d2_38 (pc' := 39) rfl rfl (Ls' := #[.val (.ref a1), .val (.ref r0), .val (.ref b15), .val (.int (1 : Int32)), .val (.int (0 : Int32)), .val (.ref r0)]) rfl ?_
    refine own_iinc X17 hx hby own_d2_39 (pc' := 42) rfl rfl (z := (1 : Int32)) (by decide) (Ls' := #[.val (.ref a1), .val (.ref r0), .val (.ref b15), .val (.int (1 : Int32)), .val (.int (1 : Int32)), .val (.ref r0)]) rfl ?_
    refine own_goto X17 hx hby own_d2_42 (pc' := 12) (by decide) ?_
    refine own_iload X17 hx hby own_d2_12 (pc' := 14) rfl rfl ?_
    refine own_iloadN X17 hx hby own_d2_14 (pc' := 15) rfl rfl ?_
    refine own_icmpYes X17 hx hby own_d2_15 (pc' := 45) (by decide) (by decide) ?_
    refine own_aloadN X17 hx hby own_d2_45 (pc' := 46) rfl rfl rfl ?_
    exact own_retA X17 hx hret rfl rfl (hb hby own_d2_46) hlk (by decide) (by decide) ⟨congrArg some (if_pos hcs).symm, N17, by rw [show T17.heap = _ from e17]; exact ((Keep.refl h0 []).trans K15 all0)⟩
  · skip
    refine own_callVB X16 hx hZ (own_eqB (W := 0) hZ hwE (hw _ (List.mem_of_getElem? (i := 34) rfl)) (T_f.ext ((O_0.keep K15 all0)).2) ((T_1.keep K15 all0)) (S_S.ext ((O_0.keep K15 all0)).2) hS (by decide) (by decide)) hown (hw _ (List.mem_of_getElem? (i := 27) rfl)) (hw _ (List.mem_of_getElem? (i := 28) rfl)) (hw _ (List.mem_of_getElem? (i := 30) rfl)) (hw _ (List.mem_of_getElem? (i := 29) rfl)) (by decide) (T_f.ext ((O_0.keep K15 all0)).2).exa (by rw [hml]; rfl) (argsL := [(.ref a1)]) (rest := []) rfl (lenOf own_pd2 rfl) rfl (Nat.le_of_eq rfl) (hb hby own_d2_30) e16 (by decide) (by decide) ?_
    intro v18 T18 L18 X18 hQ18
    obtain ⟨hq18, hL18, e18⟩ := hQ18
    subst hL18
    have hv18 : v18 = some (.int (0 : Int32)) := by
      rcases hq18 with ⟨a, q⟩ | ⟨a, q⟩
      · exact absurd q.symm hcs
      · exact a
    subst hv18
    have N18 := Fr.app N15 (Fr.nil n0)
    show own_Go p.tables e below (T18.setTop (mkF m 33 #[.val (.ref a1), .val .null, .val (.ref b15), .val (.int (1 : Int32)), .val (.int (0 : Int32)), .val (.ref r0)] [(.int (0 : Int32))])) _
    refine own_ifYes X18 hx hby own_d2_33 (pc' := 39) (by decide) (by decide) ?_
    refine own_iinc X18 hx hby own_d2_39 (pc' := 42) rfl rfl (z := (1 : Int32)) (by decide) (Ls' := #[.val (.ref a1), .val .null, .val (.ref b15), .val (.int (1 : Int32)), .val (.int (1 : Int32)), .val (.ref r0)]) rfl ?_
    refine own_goto X18 hx hby own_d2_42 (pc' := 12) (by decide) ?_
    refine own_iload X18 hx hby own_d2_12 (pc' := 14) rfl rfl ?_
    refine own_iloadN X18 hx hby own_d2_14 (pc' := 15) rfl rfl ?_
    refine own_icmpYes X18 hx hby own_d2_15 (pc' := 45) (by decide) (by decide) ?_
    refine own_aloadN X18 hx hby own_d2_45 (pc' := 46) rfl rfl rfl ?_
    exact own_retA X18 hx hret rfl rfl (hb hby own_d2_46) hlk (by decide) (by decide) ⟨congrArg some (if_neg hcs).symm, N18, by rw [show T18.heap = _ from e18]; exact ((Keep.refl h0 []).trans K15 all0)⟩
theorem own_pd3 : parseMethodDescriptor "([C)V" = some ⟨[(.array .char)], none⟩ := by decide +kernel
theorem own_d5_0 : decode method_3_code 0 = .ok (.iload_n 1, 1) := by decide +kernel
theorem own_d5_1 : decode method_3_code 1 = .ok (.newarray .char, 2) := by decide +kernel
theorem own_d5_3 : decode method_3_code 3 = .ok (.astore_n 2, 1) := by decide +kernel
theorem own_d5_4 : decode method_3_code 4 = .ok (.iload_n 1, 1) := by decide +kernel
theorem own_d5_5 : decode method_3_code 5 = .ok (.ifCond .le 9, 3) := by decide +kernel
theorem own_d5_14 : decode method_3_code 14 = .ok (.iload_n 1, 1) := by decide +kernel
theorem own_d5_15 : decode method_3_code 15 = .ok (.iconst 1, 1) := by decide +kernel
theorem own_d5_16 : decode method_3_code 16 = .ok (.if_icmp .le 9, 3) := by decide +kernel
theorem own_d5_25 : decode method_3_code 25 = .ok (.iload_n 1, 1) := by decide +kernel
theorem own_d5_26 : decode method_3_code 26 = .ok (.iconst 2, 1) := by decide +kernel
theorem own_d5_27 : decode method_3_code 27 = .ok (.if_icmp .le 9, 3) := by decide +kernel
theorem own_d5_36 : decode method_3_code 36 = .ok (.iload_n 1, 1) := by decide +kernel
theorem own_d5_37 : decode method_3_code 37 = .ok (.iconst 3, 1) := by decide +kernel
theorem own_d5_38 : decode method_3_code 38 = .ok (.if_icmp .le 9, 3) := by decide +kernel
theorem own_d5_47 : decode method_3_code 47 = .ok (.iload_n 1, 1) := by decide +kernel
theorem own_d5_48 : decode method_3_code 48 = .ok (.iconst 4, 1) := by decide +kernel
theorem own_d5_49 : decode method_3_code 49 = .ok (.if_icmp .le 9, 3) := by decide +kernel
theorem own_d5_58 : decode method_3_code 58 = .ok (.iload_n 1, 1) := by decide +kernel
theorem own_d5_59 : decode method_3_code 59 = .ok (.iconst 5, 1) := by decide +kernel
theorem own_d5_60 : decode method_3_code 60 = .ok (.if_icmp .le 9, 3) := by decide +kernel
theorem own_d5_69 : decode method_3_code 69 = .ok (.iload_n 1, 1) := by decide +kernel
theorem own_d5_70 : decode method_3_code 70 = .ok (.bipush 6, 2) := by decide +kernel
theorem own_d5_72 : decode method_3_code 72 = .ok (.if_icmp .le 11, 3) := by decide +kernel
theorem own_d5_83 : decode method_3_code 83 = .ok (.iload_n 1, 1) := by decide +kernel
theorem own_d5_84 : decode method_3_code 84 = .ok (.bipush 7, 2) := by decide +kernel
theorem own_d5_86 : decode method_3_code 86 = .ok (.if_icmp .le 11, 3) := by decide +kernel
theorem own_d5_97 : decode method_3_code 97 = .ok (.iload_n 1, 1) := by decide +kernel
theorem own_d5_98 : decode method_3_code 98 = .ok (.bipush 8, 2) := by decide +kernel
theorem own_d5_100 : decode method_3_code 100 = .ok (.if_icmp .le 11, 3) := by decide +kernel
theorem own_d5_111 : decode method_3_code 111 = .ok (.iload_n 1, 1) := by decide +kernel
theorem own_d5_112 : decode method_3_code 112 = .ok (.bipush 9, 2) := by decide +kernel
theorem own_d5_114 : decode method_3_code 114 = .ok (.if_icmp .le 11, 3) := by decide +kernel
theorem own_d5_125 : decode method_3_code 125 = .ok (.iload_n 1, 1) := by decide +kernel
theorem own_d5_126 : decode method_3_code 126 = .ok (.bipush 10, 2) := by decide +kernel
theorem own_d5_128 : decode method_3_code 128 = .ok (.if_icmp .le 11, 3) := by decide +kernel
theorem own_d5_139 : decode method_3_code 139 = .ok (.iload_n 1, 1) := by decide +kernel
theorem own_d5_140 : decode method_3_code 140 = .ok (.bipush 11, 2) := by decide +kernel
theorem own_d5_142 : decode method_3_code 142 = .ok (.if_icmp .le 11, 3) := by decide +kernel
theorem own_d5_153 : decode method_3_code 153 = .ok (.iload_n 1, 1) := by decide +kernel
theorem own_d5_154 : decode method_3_code 154 = .ok (.bipush 12, 2) := by decide +kernel
theorem own_d5_156 : decode method_3_code 156 = .ok (.if_icmp .le 11, 3) := by decide +kernel
theorem own_d5_167 : decode method_3_code 167 = .ok (.iload_n 1, 1) := by decide +kernel
theorem own_d5_168 : decode method_3_code 168 = .ok (.bipush 13, 2) := by decide +kernel
theorem own_d5_170 : decode method_3_code 170 = .ok (.if_icmp .le 11, 3) := by decide +kernel
theorem own_d5_181 : decode method_3_code 181 = .ok (.iload_n 1, 1) := by decide +kernel
theorem own_d5_182 : decode method_3_code 182 = .ok (.bipush 14, 2) := by decide +kernel
theorem own_d5_184 : decode method_3_code 184 = .ok (.if_icmp .le 11, 3) := by decide +kernel
theorem own_d5_195 : decode method_3_code 195 = .ok (.new 9, 3) := by decide +kernel
theorem own_d5_198 : decode method_3_code 198 = .ok (.dup, 1) := by decide +kernel
theorem own_d5_199 : decode method_3_code 199 = .ok (.aload_n 2, 1) := by decide +kernel
theorem own_d5_200 : decode method_3_code 200 = .ok (.invokespecial 11, 3) := by decide +kernel
theorem own_d5_203 : decode method_3_code 203 = .ok (.areturn, 1) := by decide +kernel
theorem own_ef_rm_px0 (m : MethodId) (a1 : Addr) : entryFrame m #[(.ref a1), (.int (0 : Int32))] 3 = mkF m 0 #[.val (.ref a1), .val (.int (0 : Int32)), .unset] [] := by first | (simp [entryFrame, mkF, argsToLocals, Value.category]; done) | rfl
def Qrm_px0 (Z : State) (a1 : Addr) (gS : Int32) (h0 : Heap) (n0 : Nat) (v : Option Value) (h : Heap) (L : List Loc) : Prop := ∃ x cs, v = some (.ref x) ∧ Fr n0 L ∧ Keep h0 h [] ∧ own_Str Z h h.size x cs
set_option maxRecDepth 65536 in
set_option maxHeartbeats 40000000 in
theorem rm_px0 (l : Launch) (Z : State) (a0 : Array Value) (hw : ∀ d ∈ tables_1, d.before a0 Z = true) (ws : List Jvm.Cond) (a1 : Addr) (gS : Int32) (h0 : Heap) (n0 : Nat) (hEL : EW Z a0 own_EL) (O_0 : Old Z n0 h0) (S_S : Sta Z Z.heap "java/lang/String" "COMPACT_STRINGS" "Z" (.int gS)) (hS : ¬ gS = 0) (C_1 : own_Ch Z h0 a1 16) :
    own_MetW l (⟨"com/example/tranchebook/tranchebook/model/FeeByRateNamePinLaw", "prefix", "([CI)Ljava/lang/String;"⟩ : MethodName) method_3_code 3 (some (.object "java/lang/String")) ws ({ frames := 5, cells := 7, slots := 44, locals := 80 } : Room) #[(.ref a1), (.int (0 : Int32))] Z own_EL h0 (Qrm_px0 Z a1 gS h0 n0) := by
  refine own_bodyW own_pn5 ?_
  intro p e s m below meth c T0 X0 hx hby hml hnm hret hlk W0 e0
  have hZ := W0.1
  have hown := W0.2.1
  have N0 := Fr.nil n0
  refine own_st (fun t k => castTop (own_ef_rm_px0 m a1) k) ?_
  show own_Go p.tables e below (T0.setTop (mkF m 0 #[.val (.ref a1), .val (.int (0 : Int32)), .unset] [])) _
  have Z0 := own_Z0 O_0
  have hws : ∀ d ∈ StrChars.Road.words, d.before a0 Z = true := fun d hd => hw d ((by decide +kernel : ∀ d ∈ StrChars.Road.words, d ∈ tables_1) d hd)
  refine own_iloadN X0 hx hby own_d5_0 (pc' := 1) rfl rfl ?_
  refine own_newA X0 hx hby own_d5_1 (pc' := 3) rfl hZ (hw _ (List.mem_of_getElem? (i := 0) rfl)) e0 (by decide) (cap := 0) (by decide) (by decide) (by decide) (by decide) (vs := List.replicate 0 (.int 0)) (by rfl) ?_
  intro T19 h19 b19 X19 e19 g19 E19 A19
  have c19 := own_Ch.new A19
  have l19 : n0 ≤ b19 := (Nat.le_trans Z0 (Nat.le_trans (Nat.le_refl _) (Nat.le_of_eq g19.symm)))
  refine own_astoreN X19 hx hby own_d5_3 (pc' := 4) rfl rfl (Ls' := #[.val (.ref a1), .val (.int (0 : Int32)), .val (.ref b19)]) rfl ?_
  refine own_iloadN X19 hx hby own_d5_4 (pc' := 5) rfl rfl ?_
  refine own_ifYes X19 hx hby own_d5_5 (pc' := 14) (by decide) (by decide) ?_
  refine own_iloadN X19 hx hby own_d5_14 (pc' := 15) rfl rfl ?_
  refine own_iconst X19 hx hby own_d5_15 (pc' := 16) rfl (z := (1 : Int32)) (by decide) ?_
  refine own_icmpYes X19 hx hby own_d5_16 (pc' := 25) (by decide) (by decide) ?_
  refine own_iloadN X19 hx hby own_d5_25 (pc' := 26) rfl rfl ?_
  refine own_iconst X19 hx hby own_d5_26 (pc' := 27) rfl (z := (2 : Int32)) (by decide) ?_
  refine own_icmpYes X19 hx hby own_d5_27 (pc' := 36) (by decide) (by decide) ?_
  refine own_iloadN X19 hx hby own_d5_36 (pc' := 37) rfl rfl ?_
  refine own_iconst X19 hx hby own_d5_37 (pc' := 38) rfl (z := (3 : Int32)) (by decide) ?_
  refine own_icmpYes X19 hx hby own_d5_38 (pc' := 47) (by decide) (by decide) ?_
  refine own_iloadN X19 hx hby own_d5_47 (pc' := 48) rfl rfl ?_
  refine own_iconst X19 hx hby own_d5_48 (pc' := 49) rfl (z := (4 : Int32)) (by decide) ?_
  refine own_icmpYes X19 hx hby own_d5_49 (pc' := 58) (by decide) (by decide) ?_
  refine own_iloadN X19 hx hby own_d5_58 (pc' := 59) rfl rfl ?_
  refine own_iconst X19 hx hby own_d5_59 (pc' := 60) rfl (z := (5 : Int32)) (by decide) ?_
  refine own_icmpYes X19 hx hby own_d5_60 (pc' := 69) (by decide) (by decide) ?_
  refine own_iloadN X19 hx hby own_d5_69 (pc' := 70) rfl rfl ?_
  refine own_bipush X19 hx hby own_d5_70 (pc' := 72) rfl (z := (6 : Int32)) (by decide) ?_
  refine own_icmpYes X19 hx hby own_d5_72 (pc' := 83) (by decide) (by decide) ?_
  refine own_iloadN X19 hx hby own_d5_83 (pc' := 84) rfl rfl ?_
  refine own_bipush X19 hx hby own_d5_84 (pc' := 86) rfl (z := (7 : Int32)) (by decide) ?_
  refine own_icmpYes X19 hx hby own_d5_86 (pc' := 97) (by decide) (by decide) ?_
  refine own_iloadN X19 hx hby own_d5_97 (pc' := 98) rfl rfl ?_
  refine own_bipush X19 hx hby own_d5_98 (pc' := 100) rfl (z := (8 : Int32)) (by decide) ?_
  refine own_icmpYes X19 hx hby own_d5_100 (pc' := 111) (by decide) (by decide) ?_
  refine own_iloadN X19 hx hby own_d5_111 (pc' := 112) rfl rfl ?_
  refine own_bipush X19 hx hby own_d5_112 (pc' := 114) rfl (z := (9 : Int32)) (by decide) ?_
  refine own_icmpYes X19 hx hby own_d5_114 (pc' := 125) (by decide) (by decide) ?_
  refine own_iloadN X19 hx hby own_d5_125 (pc' := 126) rfl rfl ?_
  refine own_bipush X19 hx hby own_d5_126 (pc' := 128) rfl (z := (10 : Int32)) (by decide) ?_
  refine own_icmpYes X19 hx hby own_d5_128 (pc' := 139) (by decide) (by decide) ?_
  refine own_iloadN X19 hx hby own_d5_139 (pc' := 140) rfl rfl ?_
  refine own_bipush X19 hx hby own_d5_140 (pc' := 142) rfl (z := (11 : Int32)) (by decide) ?_
  refine own_icmpYes X19 hx hby own_d5_142 (pc' := 153) (by decide) (by decide) ?_
  refine own_iloadN X19 hx hby own_d5_153 (pc' := 154) rfl rfl ?_
  refine own_bipush X19 hx hby own_d5_154 (pc' := 156) rfl (z := (12 : Int32)) (by decide) ?_
  refine own_icmpYes X19 hx hby own_d5_156 (pc' := 167) (by decide) (by decide) ?_
  refine own_iloadN X19 hx hby own_d5_167 (pc' := 168) rfl rfl ?_
  refine own_bipush X19 hx hby own_d5_168 (pc' := 170) rfl (z := (13 : Int32)) (by decide) ?_
  refine own_icmpYes X19 hx hby own_d5_170 (pc' := 181) (by decide) (by decide) ?_
  refine own_iloadN X19 hx hby own_d5_181 (pc' := 182) rfl rfl ?_
  refine own_bipush X19 hx hby own_d5_182 (pc' := 184) rfl (z := (14 : Int32)) (by decide) ?_
  refine own_icmpYes X19 hx hby own_d5_184 (pc' := 195) (by decide) (by decide) ?_
  refine own_new X19 hx hby own_d5_195 (pc' := 198) rfl hZ hown (hw _ (List.mem_of_getElem? (i := 44) rfl)) (hw _ (List.mem_of_getElem? (i := 34) rfl)) (hw _ (List.mem_of_getElem? (i := 31) rfl)) e19 (by decide) (by decide) ?_
  intro T20 h20 b20 X20 e20 g20 E20 A20 D20
  have F20_value : Fld Z h20 b20 "java/lang/String" "value" "[B" .null := D20 (Or.inr (hw _ (List.mem_of_getElem? (i := 36) rfl))) (ty := (.array .byte)) (by decide)
  have F20_coder : Fld Z h20 b20 "java/lang/String" "coder" "B" (.int (0 : Int32)) := D20 (Or.inr (hw _ (List.mem_of_getElem? (i := 37) rfl))) (ty := .byte) (by decide)
  have l20 : n0 ≤ b20 := (Nat.le_trans Z0 (Nat.le_trans (Nat.le_trans (Nat.le_refl _) E19.1) (Nat.le_of_eq g20.symm)))
  refine own_dup X20 hx hby own_d5_198 (pc' := 199) rfl rfl ?_
  refine own_aloadN X20 hx hby own_d5_199 (pc' := 200) rfl rfl rfl ?_
  refine own_callSpW X20 hx hEL (((W0.ext E19).ext E20)) (rm_e1 l Z a0 hw [] b20 b19 h20 n0 hEL (A20) (F20_value) (F20_coder) l20 ((c19.ext E20))) rfl (hw _ (List.mem_of_getElem? (i := 45) rfl)) (hw _ (List.mem_of_getElem? (i := 46) rfl)) (hw _ (List.mem_of_getElem? (i := 47) rfl)) (hw _ (List.mem_of_getElem? (i := 31) rfl)) (by decide) (W := 1) (by decide) (by decide) (by rw [hml]; rfl) (argsL := [(.ref b19)]) (rest := [(.ref b20)]) rfl (lenOf own_pd3 rfl) rfl (Nat.le_of_eq rfl) (hb hby own_d5_200) e20 (by decide) (by decide) ?_
  intro v21 T21 L21 vm21 X21 hQ21 W21 C21
  obtain ⟨hv21, N21q, K21, F21⟩ := hQ21
  subst hv21
  have N21 := Fr.app N0 N21q
  have hZ := W21.1
  have hown := W21.2.1
  show own_Go p.tables e below (T21.setTop (mkF m 203 #[.val (.ref a1), .val (.int (0 : Int32)), .val (.ref b19)] [(.ref b20)])) _
  exact own_retAW X21 hx hEL (W21) rfl hret rfl rfl (hb hby own_d5_203) hlk (by decide) (by decide) ⟨_, [], rfl, N21, ((((Keep.refl h0 []).ext E19).ext E20).trans K21 (allS (Or.inr (Nat.le_trans (Nat.le_trans (Nat.le_refl _) E19.1) (Nat.le_of_eq g20.symm))) all0)), F21⟩
theorem own_d5_8 : decode method_3_code 8 = .ok (.aload_n 2, 1) := by decide +kernel
theorem own_d5_9 : decode method_3_code 9 = .ok (.iconst 0, 1) := by decide +kernel
theorem own_d5_10 : decode method_3_code 10 = .ok (.aload_n 0, 1) := by decide +kernel
theorem own_d5_11 : decode method_3_code 11 = .ok (.iconst 0, 1) := by decide +kernel
theorem own_d5_12 : decode method_3_code 12 = .ok (.caload, 1) := by decide +kernel
theorem own_d5_13 : decode method_3_code 13 = .ok (.castore, 1) := by decide +kernel
theorem own_ef_rm_px1 (m : MethodId) (a1 : Addr) : entryFrame m #[(.ref a1), (.int (1 : Int32))] 3 = mkF m 0 #[.val (.ref a1), .val (.int (1 : Int32)), .unset] [] := by first | (simp [entryFrame, mkF, argsToLocals, Value.category]; done) | rfl
def Qrm_px1 (Z : State) (a1 : Addr) (gS : Int32) (h0 : Heap) (n0 : Nat) (v : Option Value) (h : Heap) (L : List Loc) : Prop := ∃ x cs, v = some (.ref x) ∧ Fr n0 L ∧ Keep h0 h [] ∧ own_Str Z h h.size x cs
set_option maxRecDepth 65536 in
set_option maxHeartbeats 40000000 in
theorem rm_px1 (l : Launch) (Z : State) (a0 : Array Value) (hw : ∀ d ∈ tables_1, d.before a0 Z = true) (ws : List Jvm.Cond) (a1 : Addr) (gS : Int32) (h0 : Heap) (n0 : Nat) (hEL : EW Z a0 own_EL) (O_0 : Old Z n0 h0) (S_S : Sta Z Z.heap "java/lang/String" "COMPACT_STRINGS" "Z" (.int gS)) (hS : ¬ gS = 0) (C_1 : own_Ch Z h0 a1 16) :
    own_MetW l (⟨"com/example/tranchebook/tranchebook/model/FeeByRateNamePinLaw", "prefix", "([CI)Ljava/lang/String;"⟩ : MethodName) method_3_code 3 (some (.object "java/lang/String")) ws ({ frames := 5, cells := 7, slots := 44, locals := 80 } : Room) #[(.ref a1), (.int (1 : Int32))] Z own_EL h0 (Qrm_px1 Z a1 gS h0 n0) := by
  refine own_bodyW own_pn5 ?_
  intro p e s m below meth c T0 X0 hx hby hml hnm hret hlk W0 e0
  have hZ := W0.1
  have hown := W0.2.1
  have N0 := Fr.nil n0
  refine own_st (fun t k => castTop (own_ef_rm_px1 m a1) k) ?_
  show own_Go p.tables e below (T0.setTop (mkF m 0 #[.val (.ref a1), .val (.int (1 : Int32)), .unset] [])) _
  have Z0 := own_Z0 O_0
  have hws : ∀ d ∈ StrChars.Road.words, d.before a0 Z = true := fun d hd => hw d ((by decide +kernel : ∀ d ∈ StrChars.Road.words, d ∈ tables_1) d hd)
  refine own_iloadN X0 hx hby own_d5_0 (pc' := 1) rfl rfl ?_
  refine own_newA X0 hx hby own_d5_1 (pc' := 3) rfl hZ (hw _ (List.mem_of_getElem? (i := 0) rfl)) e0 (by decide) (cap := 1) (by decide) (by decide) (by decide) (by decide) (vs := List.replicate 1 (.int 0)) (by rfl) ?_
  intro T22 h22 b22 X22 e22 g22 E22 A22
  have c22 := own_Ch.new A22
  have l22 : n0 ≤ b22 := (Nat.le_trans Z0 (Nat.le_trans (Nat.le_refl _) (Nat.le_of_eq g22.symm)))
  refine own_astoreN X22 hx hby own_d5_3 (pc' := 4) rfl rfl (Ls' := #[.val (.ref a1), .val (.int (1 : Int32)), .val (.ref b22)]) rfl ?_
  refine own_iloadN X22 hx hby own_d5_4 (pc' := 5) rfl rfl ?_
  refine own_ifNo X22 hx hby own_d5_5 (pc' := 8) rfl (by decide) ?_
  refine own_aloadN X22 hx hby own_d5_8 (pc' := 9) rfl rfl rfl ?_
  refine own_iconst X22 hx hby own_d5_9 (pc' := 10) rfl (z := (0 : Int32)) (by decide) ?_
  refine own_aloadN X22 hx hby own_d5_10 (pc' := 11) rfl rfl rfl ?_
  refine own_iconst X22 hx hby own_d5_11 (pc' := 12) rfl (z := (0 : Int32)) (by decide) ?_
  refine own_caloadC X22 hx hby own_d5_12 (pc' := 13) rfl hZ e22 ((C_1.ext E22)) (by decide) (by decide) ?_
  intro z23 hz23
  refine own_castoreC X22 hx hby own_d5_13 (pc' := 14) rfl hZ e22 (c22) (by decide) (by decide) ((own_narB hz23).symm ▸ hz23) ?_
  intro T24 h24 X24 e24 W24 C24
  have N24 := Fr.snoc X24 N0 l22
  have c25 := ((W0.ext E22).wr W24 (own_Ch.safe c22 ((W0.ext E22)).1.alike))
  have c26 := ((O_0.ext E22).wr W24 l22)
  have c27 := ((C_1.ext E22).other W24 (Nat.ne_of_lt (Nat.lt_of_lt_of_le (C_1).lt (Nat.le_of_eq g22.symm))))
  refine own_iloadN X24 hx hby own_d5_14 (pc' := 15) rfl rfl ?_
  refine own_iconst X24 hx hby own_d5_15 (pc' := 16) rfl (z := (1 : Int32)) (by decide) ?_
  refine own_icmpYes X24 hx hby own_d5_16 (pc' := 25) (by decide) (by decide) ?_
  refine own_iloadN X24 hx hby own_d5_25 (pc' := 26) rfl rfl ?_
  refine own_iconst X24 hx hby own_d5_26 (pc' := 27) rfl (z := (2 : Int32)) (by decide) ?_
  refine own_icmpYes X24 hx hby own_d5_27 (pc' := 36) (by decide) (by decide) ?_
  refine own_iloadN X24 hx hby own_d5_36 (pc' := 37) rfl rfl ?_
  refine own_iconst X24 hx hby own_d5_37 (pc' := 38) rfl (z := (3 : Int32)) (by decide) ?_
  refine own_icmpYes X24 hx hby own_d5_38 (pc' := 47) (by decide) (by decide) ?_
  refine own_iloadN X24 hx hby own_d5_47 (pc' := 48) rfl rfl ?_
  refine own_iconst X24 hx hby own_d5_48 (pc' := 49) rfl (z := (4 : Int32)) (by decide) ?_
  refine own_icmpYes X24 hx hby own_d5_49 (pc' := 58) (by decide) (by decide) ?_
  refine own_iloadN X24 hx hby own_d5_58 (pc' := 59) rfl rfl ?_
  refine own_iconst X24 hx hby own_d5_59 (pc' := 60) rfl (z := (5 : Int32)) (by decide) ?_
  refine own_icmpYes X24 hx hby own_d5_60 (pc' := 69) (by decide) (by decide) ?_
  refine own_iloadN X24 hx hby own_d5_69 (pc' := 70) rfl rfl ?_
  refine own_bipush X24 hx hby own_d5_70 (pc' := 72) rfl (z := (6 : Int32)) (by decide) ?_
  refine own_icmpYes X24 hx hby own_d5_72 (pc' := 83) (by decide) (by decide) ?_
  refine own_iloadN X24 hx hby own_d5_83 (pc' := 84) rfl rfl ?_
  refine own_bipush X24 hx hby own_d5_84 (pc' := 86) rfl (z := (7 : Int32)) (by decide) ?_
  refine own_icmpYes X24 hx hby own_d5_86 (pc' := 97) (by decide) (by decide) ?_
  refine own_iloadN X24 hx hby own_d5_97 (pc' := 98) rfl rfl ?_
  refine own_bipush X24 hx hby own_d5_98 (pc' := 100) rfl (z := (8 : Int32)) (by decide) ?_
  refine own_icmpYes X24 hx hby own_d5_100 (pc' := 111) (by decide) (by decide) ?_
  refine own_iloadN X24 hx hby own_d5_111 (pc' := 112) rfl rfl ?_
  refine own_bipush X24 hx hby own_d5_112 (pc' := 114) rfl (z := (9 : Int32)) (by decide) ?_
  refine own_icmpYes X24 hx hby own_d5_114 (pc' := 125) (by decide) (by decide) ?_
  refine own_iloadN X24 hx hby own_d5_125 (pc' := 126) rfl rfl ?_
  refine own_bipush X24 hx hby own_d5_126 (pc' := 128) rfl (z := (10 : Int32)) (by decide) ?_
  refine own_icmpYes X24 hx hby own_d5_128 (pc' := 139) (by decide) (by decide) ?_
  refine own_iloadN X24 hx hby own_d5_139 (pc' := 140) rfl rfl ?_
  refine own_bipush X24 hx hby own_d5_140 (pc' := 142) rfl (z := (11 : Int32)) (by decide) ?_
  refine own_icmpYes X24 hx hby own_d5_142 (pc' := 153) (by decide) (by decide) ?_
  refine own_iloadN X24 hx hby own_d5_153 (pc' := 154) rfl rfl ?_
  refine own_bipush X24 hx hby own_d5_154 (pc' := 156) rfl (z := (12 : Int32)) (by decide) ?_
  refine own_icmpYes X24 hx hby own_d5_156 (pc' := 167) (by decide) (by decide) ?_
  refine own_iloadN X24 hx hby own_d5_167 (pc' := 168) rfl rfl ?_
  refine own_bipush X24 hx hby own_d5_168 (pc' := 170) rfl (z := (13 : Int32)) (by decide) ?_
  refine own_icmpYes X24 hx hby own_d5_170 (pc' := 181) (by decide) (by decide) ?_
  refine own_iloadN X24 hx hby own_d5_181 (pc' := 182) rfl rfl ?_
  refine own_bipush X24 hx hby own_d5_182 (pc' := 184) rfl (z := (14 : Int32)) (by decide) ?_
  refine own_icmpYes X24 hx hby own_d5_184 (pc' := 195) (by decide) (by decide) ?_
  refine own_new X24 hx hby own_d5_195 (pc' := 198) rfl hZ hown (hw _ (List.mem_of_getElem? (i := 44) rfl)) (hw _ (List.mem_of_getElem? (i := 34) rfl)) (hw _ (List.mem_of_getElem? (i := 31) rfl)) e24 (by decide) (by decide) ?_
  intro T28 h28 b28 X28 e28 g28 E28 A28 D28
  have F28_value : Fld Z h28 b28 "java/lang/String" "value" "[B" .null := D28 (Or.inr (hw _ (List.mem_of_getElem? (i := 36) rfl))) (ty := (.array .byte)) (by decide)
  have F28_coder : Fld Z h28 b28 "java/lang/String" "coder" "B" (.int (0 : Int32)) := D28 (Or.inr (hw _ (List.mem_of_getElem? (i := 37) rfl))) (ty := .byte) (by decide)
  have l28 : n0 ≤ b28 := (Nat.le_trans Z0 (Nat.le_trans (Nat.le_trans (Nat.le_trans (Nat.le_refl _) E22.1) (Nat.le_of_eq (Wr.size W24).symm)) (Nat.le_of_eq g28.symm)))
  refine own_dup X28 hx hby own_d5_198 (pc' := 199) rfl rfl ?_
  refine own_aloadN X28 hx hby own_d5_199 (pc' := 200) rfl rfl rfl ?_
  refine own_callSpB X28 hx hZ (own_strB (W := 1) hZ hws (hw _ (List.mem_of_getElem? (i := 34) rfl)) l28 (own_Z0 ((c26.ext E28))) (A28) (F28_value) (F28_coder) ((C24.ext E28)) (S_S.ext ((c26.ext E28)).2) hS (by decide) (by decide) (by decide) (by decide)) rfl hown (hw _ (List.mem_of_getElem? (i := 45) rfl)) (hw _ (List.mem_of_getElem? (i := 46) rfl)) (hw _ (List.mem_of_getElem? (i := 47) rfl)) (by decide) (by rw [hml]; rfl) (argsL := [(.ref b22)]) (rest := [(.ref b28)]) rfl (lenOf own_pd3 rfl) rfl (Nat.le_of_eq rfl) (hb hby own_d5_200) e28 (by decide) (by decide) ?_
  intro v29 T29 L29 X29 hQ29
  obtain ⟨hv29, N29q, K29, cs29, F29⟩ := hQ29
  subst hv29
  have N29 := Fr.app N24 N29q
  have c30 := ((c25.ext E28).keep K29 (allS (Safe.ext E28 (c25).ch (Safe.new (Nat.le_of_eq g28.symm))) all0))
  have c31 := ((c26.ext E28).keep K29 (allS l28 all0))
  show own_Go p.tables e below (T29.setTop (mkF m 203 #[.val (.ref a1), .val (.int (1 : Int32)), .val (.ref b22)] [(.ref b28)])) _
  exact own_retAW X29 hx hEL (c30) rfl hret rfl rfl (hb hby own_d5_203) hlk (by decide) (by decide) ⟨_, cs29, rfl, N29, (((((Keep.refl h0 []).ext E22).wr W24 (Or.inr (Nat.le_trans (Nat.le_refl _) (Nat.le_of_eq g22.symm)))).ext E28).trans K29 (allS (Or.inr (Nat.le_trans (Nat.le_trans (Nat.le_trans (Nat.le_refl _) E22.1) (Nat.le_of_eq (Wr.size W24).symm)) (Nat.le_of_eq g28.symm))) all0)), F29⟩
theorem own_d5_19 : decode method_3_code 19 = .ok (.aload_n 2, 1) := by decide +kernel
theorem own_d5_20 : decode method_3_code 20 = .ok (.iconst 1, 1) := by decide +kernel
theorem own_d5_21 : decode method_3_code 21 = .ok (.aload_n 0, 1) := by decide +kernel
theorem own_d5_22 : decode method_3_code 22 = .ok (.iconst 1, 1) := by decide +kernel
theorem own_d5_23 : decode method_3_code 23 = .ok (.caload, 1) := by decide +kernel
theorem own_d5_24 : decode method_3_code 24 = .ok (.castore, 1) := by decide +kernel
theorem own_ef_rm_px2 (m : MethodId) (a1 : Addr) : entryFrame m #[(.ref a1), (.int (2 : Int32))] 3 = mkF m 0 #[.val (.ref a1), .val (.int (2 : Int32)), .unset] [] := by first | (simp [entryFrame, mkF, argsToLocals, Value.category]; done) | rfl
def Qrm_px2 (Z : State) (a1 : Addr) (gS : Int32) (h0 : Heap) (n0 : Nat) (v : Option Value) (h : Heap) (L : List Loc) : Prop := ∃ x cs, v = some (.ref x) ∧ Fr n0 L ∧ Keep h0 h [] ∧ own_Str Z h h.size x cs
set_option maxRecDepth 65536 in
set_option maxHeartbeats 40000000 in
theorem rm_px2 (l : Launch) (Z : State) (a0 : Array Value) (hw : ∀ d ∈ tables_1, d.before a0 Z = true) (ws : List Jvm.Cond) (a1 : Addr) (gS : Int32) (h0 : Heap) (n0 : Nat) (hEL : EW Z a0 own_EL) (O_0 : Old Z n0 h0) (S_S : Sta Z Z.heap "java/lang/String" "COMPACT_STRINGS" "Z" (.int gS)) (hS : ¬ gS = 0) (C_1 : own_Ch Z h0 a1 16) :
    own_MetW l (⟨"com/example/tranchebook/tranchebook/model/FeeByRateNamePinLaw", "prefix", "([CI)Ljava/lang/String;"⟩ : MethodName) method_3_code 3 (some (.object "java/lang/String")) ws ({ frames := 5, cells := 7, slots := 44, locals := 80 } : Room) #[(.ref a1), (.int (2 : Int32))] Z own_EL h0 (Qrm_px2 Z a1 gS h0 n0) := by
  refine own_bodyW own_pn5 ?_
  intro p e s m below meth c T0 X0 hx hby hml hnm hret hlk W0 e0
  have hZ := W0.1
  have hown := W0.2.1
  have N0 := Fr.nil n0
  refine own_st (fun t k => castTop (own_ef_rm_px2 m a1) k) ?_
  show own_Go p.tables e below (T0.setTop (mkF m 0 #[.val (.ref a1), .val (.int (2 : Int32)), .unset] [])) _
  have Z0 := own_Z0 O_0
  have hws : ∀ d ∈ StrChars.Road.words, d.before a0 Z = true := fun d hd => hw d ((by decide +kernel : ∀ d ∈ StrChars.Road.words, d ∈ tables_1) d hd)
  refine own_iloadN X0 hx hby own_d5_0 (pc' := 1) rfl rfl ?_
  refine own_newA X0 hx hby own_d5_1 (pc' := 3) rfl hZ (hw _ (List.mem_of_getElem? (i := 0) rfl)) e0 (by decide) (cap := 2) (by decide) (by decide) (by decide) (by decide) (vs := List.replicate 2 (.int 0)) (by rfl) ?_
  intro T32 h32 b32 X32 e32 g32 E32 A32
  have c32 := own_Ch.new A32
  have l32 : n0 ≤ b32 := (Nat.le_trans Z0 (Nat.le_trans (Nat.le_refl _) (Nat.le_of_eq g32.symm)))
  refine own_astoreN X32 hx hby own_d5_3 (pc' := 4) rfl rfl (Ls' := #[.val (.ref a1), .val (.int (2 : Int32)), .val (.ref b32)]) rfl ?_
  refine own_iloadN X32 hx hby own_d5_4 (pc' := 5) rfl rfl ?_
  refine own_ifNo X32 hx hby own_d5_5 (pc' := 8) rfl (by decide) ?_
  refine own_aloadN X32 hx hby own_d5_8 (pc' := 9) rfl rfl rfl ?_
  refine own_iconst X32 hx hby own_d5_9 (pc' := 10) rfl (z := (0 : Int32)) (by decide) ?_
  refine own_aloadN X32 hx hby own_d5_10 (pc' := 11) rfl rfl rfl ?_
  refine own_iconst X32 hx hby own_d5_11 (pc' := 12) rfl (z := (0 : Int32)) (by decide) ?_
  refine own_caloadC X32 hx hby own_d5_12 (pc' := 13) rfl hZ e32 ((C_1.ext E32)) (by decide) (by decide) ?_
  intro z33 hz33
  refine own_castoreC X32 hx hby own_d5_13 (pc' := 14) rfl hZ e32 (c32) (by decide) (by decide) ((own_narB hz33).symm ▸ hz33) ?_
  intro T34 h34 X34 e34 W34 C34
  have N34 := Fr.snoc X34 N0 l32
  have c35 := ((W0.ext E32).wr W34 (own_Ch.safe c32 ((W0.ext E32)).1.alike))
  have c36 := ((O_0.ext E32).wr W34 l32)
  have c37 := ((C_1.ext E32).other W34 (Nat.ne_of_lt (Nat.lt_of_lt_of_le (C_1).lt (Nat.le_of_eq g32.symm))))
  refine own_iloadN X34 hx hby own_d5_14 (pc' := 15) rfl rfl ?_
  refine own_iconst X34 hx hby own_d5_15 (pc' := 16) rfl (z := (1 : Int32)) (by decide) ?_
  refine own_icmpNo X34 hx hby own_d5_16 (pc' := 19) rfl (by decide) ?_
  refine own_aloadN X34 hx hby own_d5_19 (pc' := 20) rfl rfl rfl ?_
  refine own_iconst X34 hx hby own_d5_20 (pc' := 21) rfl (z := (1 : Int32)) (by decide) ?_
  refine own_aloadN X34 hx hby own_d5_21 (pc' := 22) rfl rfl rfl ?_
  refine own_iconst X34 hx hby own_d5_22 (pc' := 23) rfl (z := (1 : Int32)) (by decide) ?_
  refine own_caloadC X34 hx hby own_d5_23 (pc' := 24) rfl hZ e34 (c37) (by decide) (by decide) ?_
  intro z38 hz38
  refine own_castoreC X34 hx hby own_d5_24 (pc' := 25) rfl hZ e34 (C34) (by decide) (by decide) ((own_narB hz38).symm ▸ hz38) ?_
  intro T39 h39 X39 e39 W39 C39
  have N39 := Fr.snoc X39 N34 l32
  have c40 := (c35.wr W39 (own_Ch.safe C34 (c35).1.alike))
  have c41 := (c36.wr W39 l32)
  have c42 := (c37.other W39 (Nat.ne_of_lt (Nat.lt_of_lt_of_le (C_1).lt (Nat.le_of_eq g32.symm))))
  refine own_iloadN X39 hx hby own_d5_25 (pc' := 26) rfl rfl ?_
  refine own_iconst X39 hx hby own_d5_26 (pc' := 27) rfl (z := (2 : Int32)) (by decide) ?_
  refine own_icmpYes X39 hx hby own_d5_27 (pc' := 36) (by decide) (by decide) ?_
  refine own_iloadN X39 hx hby own_d5_36 (pc' := 37) rfl rfl ?_
  refine own_iconst X39 hx hby own_d5_37 (pc' := 38) rfl (z := (3 : Int32)) (by decide) ?_
  refine own_icmpYes X39 hx hby own_d5_38 (pc' := 47) (by decide) (by decide) ?_
  refine own_iloadN X39 hx hby own_d5_47 (pc' := 48) rfl rfl ?_
  refine own_iconst X39 hx hby own_d5_48 (pc' := 49) rfl (z := (4 : Int32)) (by decide) ?_
  refine own_icmpYes X39 hx hby own_d5_49 (pc' := 58) (by decide) (by decide) ?_
  refine own_iloadN X39 hx hby own_d5_58 (pc' := 59) rfl rfl ?_
  refine own_iconst X39 hx hby own_d5_59 (pc' := 60) rfl (z := (5 : Int32)) (by decide) ?_
  refine own_icmpYes X39 hx hby own_d5_60 (pc' := 69) (by decide) (by decide) ?_
  refine own_iloadN X39 hx hby own_d5_69 (pc' := 70) rfl rfl ?_
  refine own_bipush X39 hx hby own_d5_70 (pc' := 72) rfl (z := (6 : Int32)) (by decide) ?_
  refine own_icmpYes X39 hx hby own_d5_72 (pc' := 83) (by decide) (by decide) ?_
  refine own_iloadN X39 hx hby own_d5_83 (pc' := 84) rfl rfl ?_
  refine own_bipush X39 hx hby own_d5_84 (pc' := 86) rfl (z := (7 : Int32)) (by decide) ?_
  refine own_icmpYes X39 hx hby own_d5_86 (pc' := 97) (by decide) (by decide) ?_
  refine own_iloadN X39 hx hby own_d5_97 (pc' := 98) rfl rfl ?_
  refine own_bipush X39 hx hby own_d5_98 (pc' := 100) rfl (z := (8 : Int32)) (by decide) ?_
  refine own_icmpYes X39 hx hby own_d5_100 (pc' := 111) (by decide) (by decide) ?_
  refine own_iloadN X39 hx hby own_d5_111 (pc' := 112) rfl rfl ?_
  refine own_bipush X39 hx hby own_d5_112 (pc' := 114) rfl (z := (9 : Int32)) (by decide) ?_
  refine own_icmpYes X39 hx hby own_d5_114 (pc' := 125) (by decide) (by decide) ?_
  refine own_iloadN X39 hx hby own_d5_125 (pc' := 126) rfl rfl ?_
  refine own_bipush X39 hx hby own_d5_126 (pc' := 128) rfl (z := (10 : Int32)) (by decide) ?_
  refine own_icmpYes X39 hx hby own_d5_128 (pc' := 139) (by decide) (by decide) ?_
  refine own_iloadN X39 hx hby own_d5_139 (pc' := 140) rfl rfl ?_
  refine own_bipush X39 hx hby own_d5_140 (pc' := 142) rfl (z := (11 : Int32)) (by decide) ?_
  refine own_icmpYes X39 hx hby own_d5_142 (pc' := 153) (by decide) (by decide) ?_
  refine own_iloadN X39 hx hby own_d5_153 (pc' := 154) rfl rfl ?_
  refine own_bipush X39 hx hby own_d5_154 (pc' := 156) rfl (z := (12 : Int32)) (by decide) ?_
  refine own_icmpYes X39 hx hby own_d5_156 (pc' := 167) (by decide) (by decide) ?_
  refine own_iloadN X39 hx hby own_d5_167 (pc' := 168) rfl rfl ?_
  refine own_bipush X39 hx hby own_d5_168 (pc' := 170) rfl (z := (13 : Int32)) (by decide) ?_
  refine own_icmpYes X39 hx hby own_d5_170 (pc' := 181) (by decide) (by decide) ?_
  refine own_iloadN X39 hx hby own_d5_181 (pc' := 182) rfl rfl ?_
  refine own_bipush X39 hx hby own_d5_182 (pc' := 184) rfl (z := (14 : Int32)) (by decide) ?_
  refine own_icmpYes X39 hx hby own_d5_184 (pc' := 195) (by decide) (by decide) ?_
  refine own_new X39 hx hby own_d5_195 (pc' := 198) rfl hZ hown (hw _ (List.mem_of_getElem? (i := 44) rfl)) (hw _ (List.mem_of_getElem? (i := 34) rfl)) (hw _ (List.mem_of_getElem? (i := 31) rfl)) e39 (by decide) (by decide) ?_
  intro T43 h43 b43 X43 e43 g43 E43 A43 D43
  have F43_value : Fld Z h43 b43 "java/lang/String" "value" "[B" .null := D43 (Or.inr (hw _ (List.mem_of_getElem? (i := 36) rfl))) (ty := (.array .byte)) (by decide)
  have F43_coder : Fld Z h43 b43 "java/lang/String" "coder" "B" (.int (0 : Int32)) := D43 (Or.inr (hw _ (List.mem_of_getElem? (i := 37) rfl))) (ty := .byte) (by decide)
  have l43 : n0 ≤ b43 := (Nat.le_trans Z0 (Nat.le_trans (Nat.le_trans (Nat.le_trans (Nat.le_trans (Nat.le_refl _) E32.1) (Nat.le_of_eq (Wr.size W34).symm)) (Nat.le_of_eq (Wr.size W39).symm)) (Nat.le_of_eq g43.symm)))
  refine own_dup X43 hx hby own_d5_198 (pc' := 199) rfl rfl ?_
  refine own_aloadN X43 hx hby own_d5_199 (pc' := 200) rfl rfl rfl ?_
  refine own_callSpB X43 hx hZ (own_strB (W := 1) hZ hws (hw _ (List.mem_of_getElem? (i := 34) rfl)) l43 (own_Z0 ((c41.ext E43))) (A43) (F43_value) (F43_coder) ((C39.ext E43)) (S_S.ext ((c41.ext E43)).2) hS (by decide) (by decide) (by decide) (by decide)) rfl hown (hw _ (List.mem_of_getElem? (i := 45) rfl)) (hw _ (List.mem_of_getElem? (i := 46) rfl)) (hw _ (List.mem_of_getElem? (i := 47) rfl)) (by decide) (by rw [hml]; rfl) (argsL := [(.ref b32)]) (rest := [(.ref b43)]) rfl (lenOf own_pd3 rfl) rfl (Nat.le_of_eq rfl) (hb hby own_d5_200) e43 (by decide) (by decide) ?_
  intro v44 T44 L44 X44 hQ44
  obtain ⟨hv44, N44q, K44, cs44, F44⟩ := hQ44
  subst hv44
  have N44 := Fr.app N39 N44q
  have c45 := ((c40.ext E43).keep K44 (allS (Safe.ext E43 (c40).ch (Safe.new (Nat.le_of_eq g43.symm))) all0))
  have c46 := ((c41.ext E43).keep K44 (allS l43 all0))
  show own_Go p.tables e below (T44.setTop (mkF m 203 #[.val (.ref a1), .val (.int (2 : Int32)), .val (.ref b32)] [(.ref b43)])) _
  exact own_retAW X44 hx hEL (c45) rfl hret rfl rfl (hb hby own_d5_203) hlk (by decide) (by decide) ⟨_, cs44, rfl, N44, ((((((Keep.refl h0 []).ext E32).wr W34 (Or.inr (Nat.le_trans (Nat.le_refl _) (Nat.le_of_eq g32.symm)))).wr W39 (Or.inr (Nat.le_trans (Nat.le_refl _) (Nat.le_of_eq g32.symm)))).ext E43).trans K44 (allS (Or.inr (Nat.le_trans (Nat.le_trans (Nat.le_trans (Nat.le_trans (Nat.le_refl _) E32.1) (Nat.le_of_eq (Wr.size W34).symm)) (Nat.le_of_eq (Wr.size W39).symm)) (Nat.le_of_eq g43.symm))) all0)), F44⟩
theorem own_d5_30 : decode method_3_code 30 = .ok (.aload_n 2, 1) := by decide +kernel
theorem own_d5_31 : decode method_3_code 31 = .ok (.iconst 2, 1) := by decide +kernel
theorem own_d5_32 : decode method_3_code 32 = .ok (.aload_n 0, 1) := by decide +kernel
theorem own_d5_33 : decode method_3_code 33 = .ok (.iconst 2, 1) := by decide +kernel
theorem own_d5_34 : decode method_3_code 34 = .ok (.caload, 1) := by decide +kernel
theorem own_d5_35 : decode method_3_code 35 = .ok (.castore, 1) := by decide +kernel
theorem own_ef_rm_px3 (m : MethodId) (a1 : Addr) : entryFrame m #[(.ref a1), (.int (3 : Int32))] 3 = mkF m 0 #[.val (.ref a1), .val (.int (3 : Int32)), .unset] [] := by first | (simp [entryFrame, mkF, argsToLocals, Value.category]; done) | rfl
def Qrm_px3 (Z : State) (a1 : Addr) (gS : Int32) (h0 : Heap) (n0 : Nat) (v : Option Value) (h : Heap) (L : List Loc) : Prop := ∃ x cs, v = some (.ref x) ∧ Fr n0 L ∧ Keep h0 h [] ∧ own_Str Z h h.size x cs
set_option maxRecDepth 65536 in
set_option maxHeartbeats 40000000 in
theorem rm_px3 (l : Launch) (Z : State) (a0 : Array Value) (hw : ∀ d ∈ tables_1, d.before a0 Z = true) (ws : List Jvm.Cond) (a1 : Addr) (gS : Int32) (h0 : Heap) (n0 : Nat) (hEL : EW Z a0 own_EL) (O_0 : Old Z n0 h0) (S_S : Sta Z Z.heap "java/lang/String" "COMPACT_STRINGS" "Z" (.int gS)) (hS : ¬ gS = 0) (C_1 : own_Ch Z h0 a1 16) :
    own_MetW l (⟨"com/example/tranchebook/tranchebook/model/FeeByRateNamePinLaw", "prefix", "([CI)Ljava/lang/String;"⟩ : MethodName) method_3_code 3 (some (.object "java/lang/String")) ws ({ frames := 5, cells := 7, slots := 44, locals := 80 } : Room) #[(.ref a1), (.int (3 : Int32))] Z own_EL h0 (Qrm_px3 Z a1 gS h0 n0) := by
  refine own_bodyW own_pn5 ?_
  intro p e s m below meth c T0 X0 hx hby hml hnm hret hlk W0 e0
  have hZ := W0.1
  have hown := W0.2.1
  have N0 := Fr.nil n0
  refine own_st (fun t k => castTop (own_ef_rm_px3 m a1) k) ?_
  show own_Go p.tables e below (T0.setTop (mkF m 0 #[.val (.ref a1), .val (.int (3 : Int32)), .unset] [])) _
  have Z0 := own_Z0 O_0
  have hws : ∀ d ∈ StrChars.Road.words, d.before a0 Z = true := fun d hd => hw d ((by decide +kernel : ∀ d ∈ StrChars.Road.words, d ∈ tables_1) d hd)
  refine own_iloadN X0 hx hby own_d5_0 (pc' := 1) rfl rfl ?_
  refine own_newA X0 hx hby own_d5_1 (pc' := 3) rfl hZ (hw _ (List.mem_of_getElem? (i := 0) rfl)) e0 (by decide) (cap := 3) (by decide) (by decide) (by decide) (by decide) (vs := List.replicate 3 (.int 0)) (by rfl) ?_
  intro T47 h47 b47 X47 e47 g47 E47 A47
  have c47 := own_Ch.new A47
  have l47 : n0 ≤ b47 := (Nat.le_trans Z0 (Nat.le_trans (Nat.le_refl _) (Nat.le_of_eq g47.symm)))
  refine own_astoreN X47 hx hby own_d5_3 (pc' := 4) rfl rfl (Ls' := #[.val (.ref a1), .val (.int (3 : Int32)), .val (.ref b47)]) rfl ?_
  refine own_iloadN X47 hx hby own_d5_4 (pc' := 5) rfl rfl ?_
  refine own_ifNo X47 hx hby own_d5_5 (pc' := 8) rfl (by decide) ?_
  refine own_aloadN X47 hx hby own_d5_8 (pc' := 9) rfl rfl rfl ?_
  refine own_iconst X47 hx hby own_d5_9 (pc' := 10) rfl (z := (0 : Int32)) (by decide) ?_
  refine own_aloadN X47 hx hby own_d5_10 (pc' := 11) rfl rfl rfl ?_
  refine own_iconst X47 hx hby own_d5_11 (pc' := 12) rfl (z := (0 : Int32)) (by decide) ?_
  refine own_caloadC X47 hx hby own_d5_12 (pc' := 13) rfl hZ e47 ((C_1.ext E47)) (by decide) (by decide) ?_
  intro z48 hz48
  refine own_castoreC X47 hx hby own_d5_13 (pc' := 14) rfl hZ e47 (c47) (by decide) (by decide) ((own_narB hz48).symm ▸ hz48) ?_
  intro T49 h49 X49 e49 W49 C49
  have N49 := Fr.snoc X49 N0 l47
  have c50 := ((W0.ext E47).wr W49 (own_Ch.safe c47 ((W0.ext E47)).1.alike))
  have c51 := ((O_0.ext E47).wr W49 l47)
  have c52 := ((C_1.ext E47).other W49 (Nat.ne_of_lt (Nat.lt_of_lt_of_le (C_1).lt (Nat.le_of_eq g47.symm))))
  refine own_iloadN X49 hx hby own_d5_14 (pc' := 15) rfl rfl ?_
  refine own_iconst X49 hx hby own_d5_15 (pc' := 16) rfl (z := (1 : Int32)) (by decide) ?_
  refine own_icmpNo X49 hx hby own_d5_16 (pc' := 19) rfl (by decide) ?_
  refine own_aloadN X49 hx hby own_d5_19 (pc' := 20) rfl rfl rfl ?_
  refine own_iconst X49 hx hby own_d5_20 (pc' := 21) rfl (z := (1 : Int32)) (by decide) ?_
  refine own_aloadN X49 hx hby own_d5_21 (pc' := 22) rfl rfl rfl ?_
  refine own_iconst X49 hx hby own_d5_22 (pc' := 23) rfl (z := (1 : Int32)) (by decide) ?_
  refine own_caloadC X49 hx hby own_d5_23 (pc' := 24) rfl hZ e49 (c52) (by decide) (by decide) ?_
  intro z53 hz53
  refine own_castoreC X49 hx hby own_d5_24 (pc' := 25) rfl hZ e49 (C49) (by decide) (by decide) ((own_narB hz53).symm ▸ hz53) ?_
  intro T54 h54 X54 e54 W54 C54
  have N54 := Fr.snoc X54 N49 l47
  have c55 := (c50.wr W54 (own_Ch.safe C49 (c50).1.alike))
  have c56 := (c51.wr W54 l47)
  have c57 := (c52.other W54 (Nat.ne_of_lt (Nat.lt_of_lt_of_le (C_1).lt (Nat.le_of_eq g47.symm))))
  refine own_iloadN X54 hx hby own_d5_25 (pc' := 26) rfl rfl ?_
  refine own_iconst X54 hx hby own_d5_26 (pc' := 27) rfl (z := (2 : Int32)) (by decide) ?_
  refine own_icmpNo X54 hx hby own_d5_27 (pc' := 30) rfl (by decide) ?_
  refine own_aloadN X54 hx hby own_d5_30 (pc' := 31) rfl rfl rfl ?_
  refine own_iconst X54 hx hby own_d5_31 (pc' := 32) rfl (z := (2 : Int32)) (by decide) ?_
  refine own_aloadN X54 hx hby own_d5_32 (pc' := 33) rfl rfl rfl ?_
  refine own_iconst X54 hx hby own_d5_33 (pc' := 34) rfl (z := (2 : Int32)) (by decide) ?_
  refine own_caloadC X54 hx hby own_d5_34 (pc' := 35) rfl hZ e54 (c57) (by decide) (by decide) ?_
  intro z58 hz58
  refine own_castoreC X54 hx hby own_d5_35 (pc' := 36) rfl hZ e54 (C54) (by decide) (by decide) ((own_narB hz58).symm ▸ hz58) ?_
  intro T59 h59 X59 e59 W59 C59
  have N59 := Fr.snoc X59 N54 l47
  have c60 := (c55.wr W59 (own_Ch.safe C54 (c55).1.alike))
  have c61 := (c56.wr W59 l47)
  have c62 := (c57.other W59 (Nat.ne_of_lt (Nat.lt_of_lt_of_le (C_1).lt (Nat.le_of_eq g47.symm))))
  refine own_iloadN X59 hx hby own_d5_36 (pc' := 37) rfl rfl ?_
  refine own_iconst X59 hx hby own_d5_37 (pc' := 38) rfl (z := (3 : Int32)) (by decide) ?_
  refine own_icmpYes X59 hx hby own_d5_38 (pc' := 47) (by decide) (by decide) ?_
  refine own_iloadN X59 hx hby own_d5_47 (pc' := 48) rfl rfl ?_
  refine own_iconst X59 hx hby own_d5_48 (pc' := 49) rfl (z := (4 : Int32)) (by decide) ?_
  refine own_icmpYes X59 hx hby own_d5_49 (pc' := 58) (by decide) (by decide) ?_
  refine own_iloadN X59 hx hby own_d5_58 (pc' := 59) rfl rfl ?_
  refine own_iconst X59 hx hby own_d5_59 (pc' := 60) rfl (z := (5 : Int32)) (by decide) ?_
  refine own_icmpYes X59 hx hby own_d5_60 (pc' := 69) (by decide) (by decide) ?_
  refine own_iloadN X59 hx hby own_d5_69 (pc' := 70) rfl rfl ?_
  refine own_bipush X59 hx hby own_d5_70 (pc' := 72) rfl (z := (6 : Int32)) (by decide) ?_
  refine own_icmpYes X59 hx hby own_d5_72 (pc' := 83) (by decide) (by decide) ?_
  refine own_iloadN X59 hx hby own_d5_83 (pc' := 84) rfl rfl ?_
  refine own_bipush X59 hx hby own_d5_84 (pc' := 86) rfl (z := (7 : Int32)) (by decide) ?_
  refine own_icmpYes X59 hx hby own_d5_86 (pc' := 97) (by decide) (by decide) ?_
  refine own_iloadN X59 hx hby own_d5_97 (pc' := 98) rfl rfl ?_
  refine own_bipush X59 hx hby own_d5_98 (pc' := 100) rfl (z := (8 : Int32)) (by decide) ?_
  refine own_icmpYes X59 hx hby own_d5_100 (pc' := 111) (by decide) (by decide) ?_
  refine own_iloadN X59 hx hby own_d5_111 (pc' := 112) rfl rfl ?_
  refine own_bipush X59 hx hby own_d5_112 (pc' := 114) rfl (z := (9 : Int32)) (by decide) ?_
  refine own_icmpYes X59 hx hby own_d5_114 (pc' := 125) (by decide) (by decide) ?_
  refine own_iloadN X59 hx hby own_d5_125 (pc' := 126) rfl rfl ?_
  refine own_bipush X59 hx hby own_d5_126 (pc' := 128) rfl (z := (10 : Int32)) (by decide) ?_
  refine own_icmpYes X59 hx hby own_d5_128 (pc' := 139) (by decide) (by decide) ?_
  refine own_iloadN X59 hx hby own_d5_139 (pc' := 140) rfl rfl ?_
  refine own_bipush X59 hx hby own_d5_140 (pc' := 142) rfl (z := (11 : Int32)) (by decide) ?_
  refine own_icmpYes X59 hx hby own_d5_142 (pc' := 153) (by decide) (by decide) ?_
  refine own_iloadN X59 hx hby own_d5_153 (pc' := 154) rfl rfl ?_
  refine own_bipush X59 hx hby own_d5_154 (pc' := 156) rfl (z := (12 : Int32)) (by decide) ?_
  refine own_icmpYes X59 hx hby own_d5_156 (pc' := 167) (by decide) (by decide) ?_
  refine own_iloadN X59 hx hby own_d5_167 (pc' := 168) rfl rfl ?_
  refine own_bipush X59 hx hby own_d5_168 (pc' := 170) rfl (z := (13 : Int32)) (by decide) ?_
  refine own_icmpYes X59 hx hby own_d5_170 (pc' := 181) (by decide) (by decide) ?_
  refine own_iloadN X59 hx hby own_d5_181 (pc' := 182) rfl rfl ?_
  refine own_bipush X59 hx hby own_d5_182 (pc' := 184) rfl (z := (14 : Int32)) (by decide) ?_
  refine own_icmpYes X59 hx hby own_d5_184 (pc' := 195) (by decide) (by decide) ?_
  refine own_new X59 hx hby own_d5_195 (pc' := 198) rfl hZ hown (hw _ (List.mem_of_getElem? (i := 44) rfl)) (hw _ (List.mem_of_getElem? (i := 34) rfl)) (hw _ (List.mem_of_getElem? (i := 31) rfl)) e59 (by decide) (by decide) ?_
  intro T63 h63 b63 X63 e63 g63 E63 A63 D63
  have F63_value : Fld Z h63 b63 "java/lang/String" "value" "[B" .null := D63 (Or.inr (hw _ (List.mem_of_getElem? (i := 36) rfl))) (ty := (.array .byte)) (by decide)
  have F63_coder : Fld Z h63 b63 "java/lang/String" "coder" "B" (.int (0 : Int32)) := D63 (Or.inr (hw _ (List.mem_of_getElem? (i := 37) rfl))) (ty := .byte) (by decide)
  have l63 : n0 ≤ b63 := (Nat.le_trans Z0 (Nat.le_trans (Nat.le_trans (Nat.le_trans (Nat.le_trans (Nat.le_trans (Nat.le_refl _) E47.1) (Nat.le_of_eq (Wr.size W49).symm)) (Nat.le_of_eq (Wr.size W54).symm)) (Nat.le_of_eq (Wr.size W59).symm)) (Nat.le_of_eq g63.symm)))
  refine own_dup X63 hx hby own_d5_198 (pc' := 199) rfl rfl ?_
  refine own_aloadN X63 hx hby own_d5_199 (pc' := 200) rfl rfl rfl ?_
  refine own_callSpB X63 hx hZ (own_strB (W := 1) hZ hws (hw _ (List.mem_of_getElem? (i := 34) rfl)) l63 (own_Z0 ((c61.ext E63))) (A63) (F63_value) (F63_coder) ((C59.ext E63)) (S_S.ext ((c61.ext E63)).2) hS (by decide) (by decide) (by decide) (by decide)) rfl hown (hw _ (List.mem_of_getElem? (i := 45) rfl)) (hw _ (List.mem_of_getElem? (i := 46) rfl)) (hw _ (List.mem_of_getElem? (i := 47) rfl)) (by decide) (by rw [hml]; rfl) (argsL := [(.ref b47)]) (rest := [(.ref b63)]) rfl (lenOf own_pd3 rfl) rfl (Nat.le_of_eq rfl) (hb hby own_d5_200) e63 (by decide) (by decide) ?_
  intro v64 T64 L64 X64 hQ64
  obtain ⟨hv64, N64q, K64, cs64, F64⟩ := hQ64
  subst hv64
  have N64 := Fr.app N59 N64q
  have c65 := ((c60.ext E63).keep K64 (allS (Safe.ext E63 (c60).ch (Safe.new (Nat.le_of_eq g63.symm))) all0))
  have c66 := ((c61.ext E63).keep K64 (allS l63 all0))
  show own_Go p.tables e below (T64.setTop (mkF m 203 #[.val (.ref a1), .val (.int (3 : Int32)), .val (.ref b47)] [(.ref b63)])) _
  exact own_retAW X64 hx hEL (c65) rfl hret rfl rfl (hb hby own_d5_203) hlk (by decide) (by decide) ⟨_, cs64, rfl, N64, (((((((Keep.refl h0 []).ext E47).wr W49 (Or.inr (Nat.le_trans (Nat.le_refl _) (Nat.le_of_eq g47.symm)))).wr W54 (Or.inr (Nat.le_trans (Nat.le_refl _) (Nat.le_of_eq g47.symm)))).wr W59 (Or.inr (Nat.le_trans (Nat.le_refl _) (Nat.le_of_eq g47.symm)))).ext E63).trans K64 (allS (Or.inr (Nat.le_trans (Nat.le_trans (Nat.le_trans (Nat.le_trans (Nat.le_trans (Nat.le_refl _) E47.1) (Nat.le_of_eq (Wr.size W49).symm)) (Nat.le_of_eq (Wr.size W54).symm)) (Nat.le_of_eq (Wr.size W59).symm)) (Nat.le_of_eq g63.symm))) all0)), F64⟩
theorem own_d5_41 : decode method_3_code 41 = .ok (.aload_n 2, 1) := by decide +kernel
theorem own_d5_42 : decode method_3_code 42 = .ok (.iconst 3, 1) := by decide +kernel
theorem own_d5_43 : decode method_3_code 43 = .ok (.aload_n 0, 1) := by decide +kernel
theorem own_d5_44 : decode method_3_code 44 = .ok (.iconst 3, 1) := by decide +kernel
theorem own_d5_45 : decode method_3_code 45 = .ok (.caload, 1) := by decide +kernel
theorem own_d5_46 : decode method_3_code 46 = .ok (.castore, 1) := by decide +kernel
theorem own_ef_rm_px4 (m : MethodId) (a1 : Addr) : entryFrame m #[(.ref a1), (.int (4 : Int32))] 3 = mkF m 0 #[.val (.ref a1), .val (.int (4 : Int32)), .unset] [] := by first | (simp [entryFrame, mkF, argsToLocals, Value.category]; done) | rfl
def Qrm_px4 (Z : State) (a1 : Addr) (gS : Int32) (h0 : Heap) (n0 : Nat) (v : Option Value) (h : Heap) (L : List Loc) : Prop := ∃ x cs, v = some (.ref x) ∧ Fr n0 L ∧ Keep h0 h [] ∧ own_Str Z h h.size x cs
set_option maxRecDepth 65536 in
set_option maxHeartbeats 40000000 in
theorem rm_px4 (l : Launch) (Z : State) (a0 : Array Value) (hw : ∀ d ∈ tables_1, d.before a0 Z = true) (ws : List Jvm.Cond) (a1 : Addr) (gS : Int32) (h0 : Heap) (n0 : Nat) (hEL : EW Z a0 own_EL) (O_0 : Old Z n0 h0) (S_S : Sta Z Z.heap "java/lang/String" "COMPACT_STRINGS" "Z" (.int gS)) (hS : ¬ gS = 0) (C_1 : own_Ch Z h0 a1 16) :
    own_MetW l (⟨"com/example/tranchebook/tranchebook/model/FeeByRateNamePinLaw", "prefix", "([CI)Ljava/lang/String;"⟩ : MethodName) method_3_code 3 (some (.object "java/lang/String")) ws ({ frames := 5, cells := 7, slots := 44, locals := 80 } : Room) #[(.ref a1), (.int (4 : Int32))] Z own_EL h0 (Qrm_px4 Z a1 gS h0 n0) := by
  refine own_bodyW own_pn5 ?_
  intro p e s m below meth c T0 X0 hx hby hml hnm hret hlk W0 e0
  have hZ := W0.1
  have hown := W0.2.1
  have N0 := Fr.nil n0
  refine own_st (fun t k => castTop (own_ef_rm_px4 m a1) k) ?_
  show own_Go p.tables e below (T0.setTop (mkF m 0 #[.val (.ref a1), .val (.int (4 : Int32)), .unset] [])) _
  have Z0 := own_Z0 O_0
  have hws : ∀ d ∈ StrChars.Road.words, d.before a0 Z = true := fun d hd => hw d ((by decide +kernel : ∀ d ∈ StrChars.Road.words, d ∈ tables_1) d hd)
  refine own_iloadN X0 hx hby own_d5_0 (pc' := 1) rfl rfl ?_
  refine own_newA X0 hx hby own_d5_1 (pc' := 3) rfl hZ (hw _ (List.mem_of_getElem? (i := 0) rfl)) e0 (by decide) (cap := 4) (by decide) (by decide) (by decide) (by decide) (vs := List.replicate 4 (.int 0)) (by rfl) ?_
  intro T67 h67 b67 X67 e67 g67 E67 A67
  have c67 := own_Ch.new A67
  have l67 : n0 ≤ b67 := (Nat.le_trans Z0 (Nat.le_trans (Nat.le_refl _) (Nat.le_of_eq g67.symm)))
  refine own_astoreN X67 hx hby own_d5_3 (pc' := 4) rfl rfl (Ls' := #[.val (.ref a1), .val (.int (4 : Int32)), .val (.ref b67)]) rfl ?_
  refine own_iloadN X67 hx hby own_d5_4 (pc' := 5) rfl rfl ?_
  refine own_ifNo X67 hx hby own_d5_5 (pc' := 8) rfl (by decide) ?_
  refine own_aloadN X67 hx hby own_d5_8 (pc' := 9) rfl rfl rfl ?_
  refine own_iconst X67 hx hby own_d5_9 (pc' := 10) rfl (z := (0 : Int32)) (by decide) ?_
  refine own_aloadN X67 hx hby own_d5_10 (pc' := 11) rfl rfl rfl ?_
  refine own_iconst X67 hx hby own_d5_11 (pc' := 12) rfl (z := (0 : Int32)) (by decide) ?_
  refine own_caloadC X67 hx hby own_d5_12 (pc' := 13) rfl hZ e67 ((C_1.ext E67)) (by decide) (by decide) ?_
  intro z68 hz68
  refine own_castoreC X67 hx hby own_d5_13 (pc' := 14) rfl hZ e67 (c67) (by decide) (by decide) ((own_narB hz68).symm ▸ hz68) ?_
  intro T69 h69 X69 e69 W69 C69
  have N69 := Fr.snoc X69 N0 l67
  have c70 := ((W0.ext E67).wr W69 (own_Ch.safe c67 ((W0.ext E67)).1.alike))
  have c71 := ((O_0.ext E67).wr W69 l67)
  have c72 := ((C_1.ext E67).other W69 (Nat.ne_of_lt (Nat.lt_of_lt_of_le (C_1).lt (Nat.le_of_eq g67.symm))))
  refine own_iloadN X69 hx hby own_d5_14 (pc' := 15) rfl rfl ?_
  refine own_iconst X69 hx hby own_d5_15 (pc' := 16) rfl (z := (1 : Int32)) (by decide) ?_
  refine own_icmpNo X69 hx hby own_d5_16 (pc' := 19) rfl (by decide) ?_
  refine own_aloadN X69 hx hby own_d5_19 (pc' := 20) rfl rfl rfl ?_
  refine own_iconst X69 hx hby own_d5_20 (pc' := 21) rfl (z := (1 : Int32)) (by decide) ?_
  refine own_aloadN X69 hx hby own_d5_21 (pc' := 22) rfl rfl rfl ?_
  refine own_iconst X69 hx hby own_d5_22 (pc' := 23) rfl (z := (1 : Int32)) (by decide) ?_
  refine own_caloadC X69 hx hby own_d5_23 (pc' := 24) rfl hZ e69 (c72) (by decide) (by decide) ?_
  intro z73 hz73
  refine own_castoreC X69 hx hby own_d5_24 (pc' := 25) rfl hZ e69 (C69) (by decide) (by decide) ((own_narB hz73).symm ▸ hz73) ?_
  intro T74 h74 X74 e74 W74 C74
  have N74 := Fr.snoc X74 N69 l67
  have c75 := (c70.wr W74 (own_Ch.safe C69 (c70).1.alike))
  have c76 := (c71.wr W74 l67)
  have c77 := (c72.other W74 (Nat.ne_of_lt (Nat.lt_of_lt_of_le (C_1).lt (Nat.le_of_eq g67.symm))))
  refine own_iloadN X74 hx hby own_d5_25 (pc' := 26) rfl rfl ?_
  refine own_iconst X74 hx hby own_d5_26 (pc' := 27) rfl (z := (2 : Int32)) (by decide) ?_
  refine own_icmpNo X74 hx hby own_d5_27 (pc' := 30) rfl (by decide) ?_
  refine own_aloadN X74 hx hby own_d5_30 (pc' := 31) rfl rfl rfl ?_
  refine own_iconst X74 hx hby own_d5_31 (pc' := 32) rfl (z := (2 : Int32)) (by decide) ?_
  refine own_aloadN X74 hx hby own_d5_32 (pc' := 33) rfl rfl rfl ?_
  refine own_iconst X74 hx hby own_d5_33 (pc' := 34) rfl (z := (2 : Int32)) (by decide) ?_
  refine own_caloadC X74 hx hby own_d5_34 (pc' := 35) rfl hZ e74 (c77) (by decide) (by decide) ?_
  intro z78 hz78
  refine own_castoreC X74 hx hby own_d5_35 (pc' := 36) rfl hZ e74 (C74) (by decide) (by decide) ((own_narB hz78).symm ▸ hz78) ?_
  intro T79 h79 X79 e79 W79 C79
  have N79 := Fr.snoc X79 N74 l67
  have c80 := (c75.wr W79 (own_Ch.safe C74 (c75).1.alike))
  have c81 := (c76.wr W79 l67)
  have c82 := (c77.other W79 (Nat.ne_of_lt (Nat.lt_of_lt_of_le (C_1).lt (Nat.le_of_eq g67.symm))))
  refine own_iloadN X79 hx hby own_d5_36 (pc' := 37) rfl rfl ?_
  refine own_iconst X79 hx hby own_d5_37 (pc' := 38) rfl (z := (3 : Int32)) (by decide) ?_
  refine own_icmpNo X79 hx hby own_d5_38 (pc' := 41) rfl (by decide) ?_
  refine own_aloadN X79 hx hby own_d5_41 (pc' := 42) rfl rfl rfl ?_
  refine own_iconst X79 hx hby own_d5_42 (pc' := 43) rfl (z := (3 : Int32)) (by decide) ?_
  refine own_aloadN X79 hx hby own_d5_43 (pc' := 44) rfl rfl rfl ?_
  refine own_iconst X79 hx hby own_d5_44 (pc' := 45) rfl (z := (3 : Int32)) (by decide) ?_
  refine own_caloadC X79 hx hby own_d5_45 (pc' := 46) rfl hZ e79 (c82) (by decide) (by decide) ?_
  intro z83 hz83
  refine own_castoreC X79 hx hby own_d5_46 (pc' := 47) rfl hZ e79 (C79) (by decide) (by decide) ((own_narB hz83).symm ▸ hz83) ?_
  intro T84 h84 X84 e84 W84 C84
  have N84 := Fr.snoc X84 N79 l67
  have c85 := (c80.wr W84 (own_Ch.safe C79 (c80).1.alike))
  have c86 := (c81.wr W84 l67)
  have c87 := (c82.other W84 (Nat.ne_of_lt (Nat.lt_of_lt_of_le (C_1).lt (Nat.le_of_eq g67.symm))))
  refine own_iloadN X84 hx hby own_d5_47 (pc' := 48) rfl rfl ?_
  refine own_iconst X84 hx hby own_d5_48 (pc' := 49) rfl (z := (4 : Int32)) (by decide) ?_
  refine own_icmpYes X84 hx hby own_d5_49 (pc' := 58) (by decide) (by decide) ?_
  refine own_iloadN X84 hx hby own_d5_58 (pc' := 59) rfl rfl ?_
  refine own_iconst X84 hx hby own_d5_59 (pc' := 60) rfl (z := (5 : Int32)) (by decide) ?_
  refine own_icmpYes X84 hx hby own_d5_60 (pc' := 69) (by decide) (by decide) ?_
  refine own_iloadN X84 hx hby own_d5_69 (pc' := 70) rfl rfl ?_
  refine own_bipush X84 hx hby own_d5_70 (pc' := 72) rfl (z := (6 : Int32)) (by decide) ?_
  refine own_icmpYes X84 hx hby own_d5_72 (pc' := 83) (by decide) (by decide) ?_
  refine own_iloadN X84 hx hby own_d5_83 (pc' := 84) rfl rfl ?_
  refine own_bipush X84 hx hby own_d5_84 (pc' := 86) rfl (z := (7 : Int32)) (by decide) ?_
  refine own_icmpYes X84 hx hby own_d5_86 (pc' := 97) (by decide) (by decide) ?_
  refine own_iloadN X84 hx hby own_d5_97 (pc' := 98) rfl rfl ?_
  refine own_bipush X84 hx hby own_d5_98 (pc' := 100) rfl (z := (8 : Int32)) (by decide) ?_
  refine own_icmpYes X84 hx hby own_d5_100 (pc' := 111) (by decide) (by decide) ?_
  refine own_iloadN X84 hx hby own_d5_111 (pc' := 112) rfl rfl ?_
  refine own_bipush X84 hx hby own_d5_112 (pc' := 114) rfl (z := (9 : Int32)) (by decide) ?_
  refine own_icmpYes X84 hx hby own_d5_114 (pc' := 125) (by decide) (by decide) ?_
  refine own_iloadN X84 hx hby own_d5_125 (pc' := 126) rfl rfl ?_
  refine own_bipush X84 hx hby own_d5_126 (pc' := 128) rfl (z := (10 : Int32)) (by decide) ?_
  refine own_icmpYes X84 hx hby own_d5_128 (pc' := 139) (by decide) (by decide) ?_
  refine own_iloadN X84 hx hby own_d5_139 (pc' := 140) rfl rfl ?_
  refine own_bipush X84 hx hby own_d5_140 (pc' := 142) rfl (z := (11 : Int32)) (by decide) ?_
  refine own_icmpYes X84 hx hby own_d5_142 (pc' := 153) (by decide) (by decide) ?_
  refine own_iloadN X84 hx hby own_d5_153 (pc' := 154) rfl rfl ?_
  refine own_bipush X84 hx hby own_d5_154 (pc' := 156) rfl (z := (12 : Int32)) (by decide) ?_
  refine own_icmpYes X84 hx hby own_d5_156 (pc' := 167) (by decide) (by decide) ?_
  refine own_iloadN X84 hx hby own_d5_167 (pc' := 168) rfl rfl ?_
  refine own_bipush X84 hx hby own_d5_168 (pc' := 170) rfl (z := (13 : Int32)) (by decide) ?_
  refine own_icmpYes X84 hx hby own_d5_170 (pc' := 181) (by decide) (by decide) ?_
  refine own_iloadN X84 hx hby own_d5_181 (pc' := 182) rfl rfl ?_
  refine own_bipush X84 hx hby own_d5_182 (pc' := 184) rfl (z := (14 : Int32)) (by decide) ?_
  refine own_icmpYes X84 hx hby own_d5_184 (pc' := 195) (by decide) (by decide) ?_
  refine own_new X84 hx hby own_d5_195 (pc' := 198) rfl hZ hown (hw _ (List.mem_of_getElem? (i := 44) rfl)) (hw _ (List.mem_of_getElem? (i := 34) rfl)) (hw _ (List.mem_of_getElem? (i := 31) rfl)) e84 (by decide) (by decide) ?_
  intro T88 h88 b88 X88 e88 g88 E88 A88 D88
  have F88_value : Fld Z h88 b88 "java/lang/String" "value" "[B" .null := D88 (Or.inr (hw _ (List.mem_of_getElem? (i := 36) rfl))) (ty := (.array .byte)) (by decide)
  have F88_coder : Fld Z h88 b88 "java/lang/String" "coder" "B" (.int (0 : Int32)) := D88 (Or.inr (hw _ (List.mem_of_getElem? (i := 37) rfl))) (ty := .byte) (by decide)
  have l88 : n0 ≤ b88 := (Nat.le_trans Z0 (Nat.le_trans (Nat.le_trans (Nat.le_trans (Nat.le_trans (Nat.le_trans (Nat.le_trans (Nat.le_refl _) E67.1) (Nat.le_of_eq (Wr.size W69).symm)) (Nat.le_of_eq (Wr.size W74).symm)) (Nat.le_of_eq (Wr.size W79).symm)) (Nat.le_of_eq (Wr.size W84).symm)) (Nat.le_of_eq g88.symm)))
  refine own_dup X88 hx hby own_d5_198 (pc' := 199) rfl rfl ?_
  refine own_aloadN X88 hx hby own_d5_199 (pc' := 200) rfl rfl rfl ?_
  refine own_callSpB X88 hx hZ (own_strB (W := 1) hZ hws (hw _ (List.mem_of_getElem? (i := 34) rfl)) l88 (own_Z0 ((c86.ext E88))) (A88) (F88_value) (F88_coder) ((C84.ext E88)) (S_S.ext ((c86.ext E88)).2) hS (by decide) (by decide) (by decide) (by decide)) rfl hown (hw _ (List.mem_of_getElem? (i := 45) rfl)) (hw _ (List.mem_of_getElem? (i := 46) rfl)) (hw _ (List.mem_of_getElem? (i := 47) rfl)) (by decide) (by rw [hml]; rfl) (argsL := [(.ref b67)]) (rest := [(.ref b88)]) rfl (lenOf own_pd3 rfl) rfl (Nat.le_of_eq rfl) (hb hby own_d5_200) e88 (by decide) (by decide) ?_
  intro v89 T89 L89 X89 hQ89
  obtain ⟨hv89, N89q, K89, cs89, F89⟩ := hQ89
  subst hv89
  have N89 := Fr.app N84 N89q
  have c90 := ((c85.ext E88).keep K89 (allS (Safe.ext E88 (c85).ch (Safe.new (Nat.le_of_eq g88.symm))) all0))
  have c91 := ((c86.ext E88).keep K89 (allS l88 all0))
  show own_Go p.tables e below (T89.setTop (mkF m 203 #[.val (.ref a1), .val (.int (4 : Int32)), .val (.ref b67)] [(.ref b88)])) _
  exact own_retAW X89 hx hEL (c90) rfl hret rfl rfl (hb hby own_d5_203) hlk (by decide) (by decide) ⟨_, cs89, rfl, N89, ((((((((Keep.refl h0 []).ext E67).wr W69 (Or.inr (Nat.le_trans (Nat.le_refl _) (Nat.le_of_eq g67.symm)))).wr W74 (Or.inr (Nat.le_trans (Nat.le_refl _) (Nat.le_of_eq g67.symm)))).wr W79 (Or.inr (Nat.le_trans (Nat.le_refl _) (Nat.le_of_eq g67.symm)))).wr W84 (Or.inr (Nat.le_trans (Nat.le_refl _) (Nat.le_of_eq g67.symm)))).ext E88).trans K89 (allS (Or.inr (Nat.le_trans (Nat.le_trans (Nat.le_trans (Nat.le_trans (Nat.le_trans (Nat.le_trans (Nat.le_refl _) E67.1) (Nat.le_of_eq (Wr.size W69).symm)) (Nat.le_of_eq (Wr.size W74).symm)) (Nat.le_of_eq (Wr.size W79).symm)) (Nat.le_of_eq (Wr.size W84).symm)) (Nat.le_of_eq g88.symm))) all0)), F89⟩
theorem own_d5_52 : decode method_3_code 52 = .ok (.aload_n 2, 1) := by decide +kernel
theorem own_d5_53 : decode method_3_code 53 = .ok (.iconst 4, 1) := by decide +kernel
theorem own_d5_54 : decode method_3_code 54 = .ok (.aload_n 0, 1) := by decide +kernel
theorem own_d5_55 : decode method_3_code 55 = .ok (.iconst 4, 1) := by decide +kernel
theorem own_d5_56 : decode method_3_code 56 = .ok (.caload, 1) := by decide +kernel
theorem own_d5_57 : decode method_3_code 57 = .ok (.castore, 1) := by decide +kernel
theorem own_ef_rm_px5 (m : MethodId) (a1 : Addr) : entryFrame m #[(.ref a1), (.int (5 : Int32))] 3 = mkF m 0 #[.val (.ref a1), .val (.int (5 : Int32)), .unset] [] := by first | (simp [entryFrame, mkF, argsToLocals, Value.category]; done) | rfl
def Qrm_px5 (Z : State) (a1 : Addr) (gS : Int32) (h0 : Heap) (n0 : Nat) (v : Option Value) (h : Heap) (L : List Loc) : Prop := ∃ x cs, v = some (.ref x) ∧ Fr n0 L ∧ Keep h0 h [] ∧ own_Str Z h h.size x cs
set_option maxRecDepth 65536 in
set_option maxHeartbeats 40000000 in
theorem rm_px5 (l : Launch) (Z : State) (a0 : Array Value) (hw : ∀ d ∈ tables_1, d.before a0 Z = true) (ws : List Jvm.Cond) (a1 : Addr) (gS : Int32) (h0 : Heap) (n0 : Nat) (hEL : EW Z a0 own_EL) (O_0 : Old Z n0 h0) (S_S : Sta Z Z.heap "java/lang/String" "COMPACT_STRINGS" "Z" (.int gS)) (hS : ¬ gS = 0) (C_1 : own_Ch Z h0 a1 16) :
    own_MetW l (⟨"com/example/tranchebook/tranchebook/model/FeeByRateNamePinLaw", "prefix", "([CI)Ljava/lang/String;"⟩ : MethodName) method_3_code 3 (some (.object "java/lang/String")) ws ({ frames := 5, cells := 7, slots := 44, locals := 80 } : Room) #[(.ref a1), (.int (5 : Int32))] Z own_EL h0 (Qrm_px5 Z a1 gS h0 n0) := by
  refine own_bodyW own_pn5 ?_
  intro p e s m below meth c T0 X0 hx hby hml hnm hret hlk W0 e0
  have hZ := W0.1
  have hown := W0.2.1
  have N0 := Fr.nil n0
  refine own_st (fun t k => castTop (own_ef_rm_px5 m a1) k) ?_
  show own_Go p.tables e below (T0.setTop (mkF m 0 #[.val (.ref a1), .val (.int (5 : Int32)), .unset] [])) _
  have Z0 := own_Z0 O_0
  have hws : ∀ d ∈ StrChars.Road.words, d.before a0 Z = true := fun d hd => hw d ((by decide +kernel : ∀ d ∈ StrChars.Road.words, d ∈ tables_1) d hd)
  refine own_iloadN X0 hx hby own_d5_0 (pc' := 1) rfl rfl ?_
  refine own_newA X0 hx hby own_d5_1 (pc' := 3) rfl hZ (hw _ (List.mem_of_getElem? (i := 0) rfl)) e0 (by decide) (cap := 5) (by decide) (by decide) (by decide) (by decide) (vs := List.replicate 5 (.int 0)) (by rfl) ?_
  intro T92 h92 b92 X92 e92 g92 E92 A92
  have c92 := own_Ch.new A92
  have l92 : n0 ≤ b92 := (Nat.le_trans Z0 (Nat.le_trans (Nat.le_refl _) (Nat.le_of_eq g92.symm)))
  refine own_astoreN X92 hx hby own_d5_3 (pc' := 4) rfl rfl (Ls' := #[.val (.ref a1), .val (.int (5 : Int32)), .val (.ref b92)]) rfl ?_
  refine own_iloadN X92 hx hby own_d5_4 (pc' := 5) rfl rfl ?_
  refine own_ifNo X92 hx hby own_d5_5 (pc' := 8) rfl (by decide) ?_
  refine own_aloadN X92 hx hby own_d5_8 (pc' := 9) rfl rfl rfl ?_
  refine own_iconst X92 hx hby own_d5_9 (pc' := 10) rfl (z := (0 : Int32)) (by decide) ?_
  refine own_aloadN X92 hx hby own_d5_10 (pc' := 11) rfl rfl rfl ?_
  refine own_iconst X92 hx hby own_d5_11 (pc' := 12) rfl (z := (0 : Int32)) (by decide) ?_
  refine own_caloadC X92 hx hby own_d5_12 (pc' := 13) rfl hZ e92 ((C_1.ext E92)) (by decide) (by decide) ?_
  intro z93 hz93
  refine own_castoreC X92 hx hby own_d5_13 (pc' := 14) rfl hZ e92 (c92) (by decide) (by decide) ((own_narB hz93).symm ▸ hz93) ?_
  intro T94 h94 X94 e94 W94 C94
  have N94 := Fr.snoc X94 N0 l92
  have c95 := ((W0.ext E92).wr W94 (own_Ch.safe c92 ((W0.ext E92)).1.alike))
  have c96 := ((O_0.ext E92).wr W94 l92)
  have c97 := ((C_1.ext E92).other W94 (Nat.ne_of_lt (Nat.lt_of_lt_of_le (C_1).lt (Nat.le_of_eq g92.symm))))
  refine own_iloadN X94 hx hby own_d5_14 (pc' := 15) rfl rfl ?_
  refine own_iconst X94 hx hby own_d5_15 (pc' := 16) rfl (z := (1 : Int32)) (by decide) ?_
  refine own_icmpNo X94 hx hby own_d5_16 (pc' := 19) rfl (by decide) ?_
  refine own_aloadN X94 hx hby own_d5_19 (pc' := 20) rfl rfl rfl ?_
  refine own_iconst X94 hx hby own_d5_20 (pc' := 21) rfl (z := (1 : Int32)) (by decide) ?_
  refine own_aloadN X94 hx hby own_d5_21 (pc' := 22) rfl rfl rfl ?_
  refine own_iconst X94 hx hby own_d5_22 (pc' := 23) rfl (z := (1 : Int32)) (by decide) ?_
  refine own_caloadC X94 hx hby own_d5_23 (pc' := 24) rfl hZ e94 (c97) (by decide) (by decide) ?_
  intro z98 hz98
  refine own_castoreC X94 hx hby own_d5_24 (pc' := 25) rfl hZ e94 (C94) (by decide) (by decide) ((own_narB hz98).symm ▸ hz98) ?_
  intro T99 h99 X99 e99 W99 C99
  have N99 := Fr.snoc X99 N94 l92
  have c100 := (c95.wr W99 (own_Ch.safe C94 (c95).1.alike))
  have c101 := (c96.wr W99 l92)
  have c102 := (c97.other W99 (Nat.ne_of_lt (Nat.lt_of_lt_of_le (C_1).lt (Nat.le_of_eq g92.symm))))
  refine own_iloadN X99 hx hby own_d5_25 (pc' := 26) rfl rfl ?_
  refine own_iconst X99 hx hby own_d5_26 (pc' := 27) rfl (z := (2 : Int32)) (by decide) ?_
  refine own_icmpNo X99 hx hby own_d5_27 (pc' := 30) rfl (by decide) ?_
  refine own_aloadN X99 hx hby own_d5_30 (pc' := 31) rfl rfl rfl ?_
  refine own_iconst X99 hx hby own_d5_31 (pc' := 32) rfl (z := (2 : Int32)) (by decide) ?_
  refine own_aloadN X99 hx hby own_d5_32 (pc' := 33) rfl rfl rfl ?_
  refine own_iconst X99 hx hby own_d5_33 (pc' := 34) rfl (z := (2 : Int32)) (by decide) ?_
  refine own_caloadC X99 hx hby own_d5_34 (pc' := 35) rfl hZ e99 (c102) (by decide) (by decide) ?_
  intro z103 hz103
  refine own_castoreC X99 hx hby own_d5_35 (pc' := 36) rfl hZ e99 (C99) (by decide) (by decide) ((own_narB hz103).symm ▸ hz103) ?_
  intro T104 h104 X104 e104 W104 C104
  have N104 := Fr.snoc X104 N99 l92
  have c105 := (c100.wr W104 (own_Ch.safe C99 (c100).1.alike))
  have c106 := (c101.wr W104 l92)
  have c107 := (c102.other W104 (Nat.ne_of_lt (Nat.lt_of_lt_of_le (C_1).lt (Nat.le_of_eq g92.symm))))
  refine own_iloadN X104 hx hby own_d5_36 (pc' := 37) rfl rfl ?_
  refine own_iconst X104 hx hby own_d5_37 (pc' := 38) rfl (z := (3 : Int32)) (by decide) ?_
  refine own_icmpNo X104 hx hby own_d5_38 (pc' := 41) rfl (by decide) ?_
  refine own_aloadN X104 hx hby own_d5_41 (pc' := 42) rfl rfl rfl ?_
  refine own_iconst X104 hx hby own_d5_42 (pc' := 43) rfl (z := (3 : Int32)) (by decide) ?_
  refine own_aloadN X104 hx hby own_d5_43 (pc' := 44) rfl rfl rfl ?_
  refine own_iconst X104 hx hby own_d5_44 (pc' := 45) rfl (z := (3 : Int32)) (by decide) ?_
  refine own_caloadC X104 hx hby own_d5_45 (pc' := 46) rfl hZ e104 (c107) (by decide) (by decide) ?_
  intro z108 hz108
  refine own_castoreC X104 hx hby own_d5_46 (pc' := 47) rfl hZ e104 (C104) (by decide) (by decide) ((own_narB hz108).symm ▸ hz108) ?_
  intro T109 h109 X109 e109 W109 C109
  have N109 := Fr.snoc X109 N104 l92
  have c110 := (c105.wr W109 (own_Ch.safe C104 (c105).1.alike))
  have c111 := (c106.wr W109 l92)
  have c112 := (c107.other W109 (Nat.ne_of_lt (Nat.lt_of_lt_of_le (C_1).lt (Nat.le_of_eq g92.symm))))
  refine own_iloadN X109 hx hby own_d5_47 (pc' := 48) rfl rfl ?_
  refine own_iconst X109 hx hby own_d5_48 (pc' := 49) rfl (z := (4 : Int32)) (by decide) ?_
  refine own_icmpNo X109 hx hby own_d5_49 (pc' := 52) rfl (by decide) ?_
  refine own_aloadN X109 hx hby own_d5_52 (pc' := 53) rfl rfl rfl ?_
  refine own_iconst X109 hx hby own_d5_53 (pc' := 54) rfl (z := (4 : Int32)) (by decide) ?_
  refine own_aloadN X109 hx hby own_d5_54 (pc' := 55) rfl rfl rfl ?_
  refine own_iconst X109 hx hby own_d5_55 (pc' := 56) rfl (z := (4 : Int32)) (by decide) ?_
  refine own_caloadC X109 hx hby own_d5_56 (pc' := 57) rfl hZ e109 (c112) (by decide) (by decide) ?_
  intro z113 hz113
  refine own_castoreC X109 hx hby own_d5_57 (pc' := 58) rfl hZ e109 (C109) (by decide) (by decide) ((own_narB hz113).symm ▸ hz113) ?_
  intro T114 h114 X114 e114 W114 C114
  have N114 := Fr.snoc X114 N109 l92
  have c115 := (c110.wr W114 (own_Ch.safe C109 (c110).1.alike))
  have c116 := (c111.wr W114 l92)
  have c117 := (c112.other W114 (Nat.ne_of_lt (Nat.lt_of_lt_of_le (C_1).lt (Nat.le_of_eq g92.symm))))
  refine own_iloadN X114 hx hby own_d5_58 (pc' := 59) rfl rfl ?_
  refine own_iconst X114 hx hby own_d5_59 (pc' := 60) rfl (z := (5 : Int32)) (by decide) ?_
  refine own_icmpYes X114 hx hby own_d5_60 (pc' := 69) (by decide) (by decide) ?_
  refine own_iloadN X114 hx hby own_d5_69 (pc' := 70) rfl rfl ?_
  refine own_bipush X114 hx hby own_d5_70 (pc' := 72) rfl (z := (6 : Int32)) (by decide) ?_
  refine own_icmpYes X114 hx hby own_d5_72 (pc' := 83) (by decide) (by decide) ?_
  refine own_iloadN X114 hx hby own_d5_83 (pc' := 84) rfl rfl ?_
  refine own_bipush X114 hx hby own_d5_84 (pc' := 86) rfl (z := (7 : Int32)) (by decide) ?_
  refine own_icmpYes X114 hx hby own_d5_86 (pc' := 97) (by decide) (by decide) ?_
  refine own_iloadN X114 hx hby own_d5_97 (pc' := 98) rfl rfl ?_
  refine own_bipush X114 hx hby own_d5_98 (pc' := 100) rfl (z := (8 : Int32)) (by decide) ?_
  refine own_icmpYes X114 hx hby own_d5_100 (pc' := 111) (by decide) (by decide) ?_
  refine own_iloadN X114 hx hby own_d5_111 (pc' := 112) rfl rfl ?_
  refine own_bipush X114 hx hby own_d5_112 (pc' := 114) rfl (z := (9 : Int32)) (by decide) ?_
  refine own_icmpYes X114 hx hby own_d5_114 (pc' := 125) (by decide) (by decide) ?_
  refine own_iloadN X114 hx hby own_d5_125 (pc' := 126) rfl rfl ?_
  refine own_bipush X114 hx hby own_d5_126 (pc' := 128) rfl (z := (10 : Int32)) (by decide) ?_
  refine own_icmpYes X114 hx hby own_d5_128 (pc' := 139) (by decide) (by decide) ?_
  refine own_iloadN X114 hx hby own_d5_139 (pc' := 140) rfl rfl ?_
  refine own_bipush X114 hx hby own_d5_140 (pc' := 142) rfl (z := (11 : Int32)) (by decide) ?_
  refine own_icmpYes X114 hx hby own_d5_142 (pc' := 153) (by decide) (by decide) ?_
  refine own_iloadN X114 hx hby own_d5_153 (pc' := 154) rfl rfl ?_
  refine own_bipush X114 hx hby own_d5_154 (pc' := 156) rfl (z := (12 : Int32)) (by decide) ?_
  refine own_icmpYes X114 hx hby own_d5_156 (pc' := 167) (by decide) (by decide) ?_
  refine own_iloadN X114 hx hby own_d5_167 (pc' := 168) rfl rfl ?_
  refine own_bipush X114 hx hby own_d5_168 (pc' := 170) rfl (z := (13 : Int32)) (by decide) ?_
  refine own_icmpYes X114 hx hby own_d5_170 (pc' := 181) (by decide) (by decide) ?_
  refine own_iloadN X114 hx hby own_d5_181 (pc' := 182) rfl rfl ?_
  refine own_bipush X114 hx hby own_d5_182 (pc' := 184) rfl (z := (14 : Int32)) (by decide) ?_
  refine own_icmpYes X114 hx hby own_d5_184 (pc' := 195) (by decide) (by decide) ?_
  refine own_new X114 hx hby own_d5_195 (pc' := 198) rfl hZ hown (hw _ (List.mem_of_getElem? (i := 44) rfl)) (hw _ (List.mem_of_getElem? (i := 34) rfl)) (hw _ (List.mem_of_getElem? (i := 31) rfl)) e114 (by decide) (by decide) ?_
  intro T118 h118 b118 X118 e118 g118 E118 A118 D118
  have F118_value : Fld Z h118 b118 "java/lang/String" "value" "[B" .null := D118 (Or.inr (hw _ (List.mem_of_getElem? (i := 36) rfl))) (ty := (.array .byte)) (by decide)
  have F118_coder : Fld Z h118 b118 "java/lang/String" "coder" "B" (.int (0 : Int32)) := D118 (Or.inr (hw _ (List.mem_of_getElem? (i := 37) rfl))) (ty := .byte) (by decide)
  have l118 : n0 ≤ b118 := (Nat.le_trans Z0 (Nat.le_trans (Nat.le_trans (Nat.le_trans (Nat.le_trans (Nat.le_trans (Nat.le_trans (Nat.le_trans (Nat.le_refl _) E92.1) (Nat.le_of_eq (Wr.size W94).symm)) (Nat.le_of_eq (Wr.size W99).symm)) (Nat.le_of_eq (Wr.size W104).symm)) (Nat.le_of_eq (Wr.size W109).symm)) (Nat.le_of_eq (Wr.size W114).symm)) (Nat.le_of_eq g118.symm)))
  refine own_dup X118 hx hby own_d5_198 (pc' := 199) rfl rfl ?_
  refine own_aloadN X118 hx hby own_d5_199 (pc' := 200) rfl rfl rfl ?_
  refine own_callSpB X118 hx hZ (own_strB (W := 1) hZ hws (hw _ (List.mem_of_getElem? (i := 34) rfl)) l118 (own_Z0 ((c116.ext E118))) (A118) (F118_value) (F118_coder) ((C114.ext E118)) (S_S.ext ((c116.ext E118)).2) hS (by decide) (by decide) (by decide) (by decide)) rfl hown (hw _ (List.mem_of_getElem? (i := 45) rfl)) (hw _ (List.mem_of_getElem? (i := 46) rfl)) (hw _ (List.mem_of_getElem? (i := 47) rfl)) (by decide) (by rw [hml]; rfl) (argsL := [(.ref b92)]) (rest := [(.ref b118)]) rfl (lenOf own_pd3 rfl) rfl (Nat.le_of_eq rfl) (hb hby own_d5_200) e118 (by decide) (by decide) ?_
  intro v119 T119 L119 X119 hQ119
  obtain ⟨hv119, N119q, K119, cs119, F119⟩ := hQ119
  subst hv119
  have N119 := Fr.app N114 N119q
  have c120 := ((c115.ext E118).keep K119 (allS (Safe.ext E118 (c115).ch (Safe.new (Nat.le_of_eq g118.symm))) all0))
  have c121 := ((c116.ext E118).keep K119 (allS l118 all0))
  show own_Go p.tables e below (T119.setTop (mkF m 203 #[.val (.ref a1), .val (.int (5 : Int32)), .val (.ref b92)] [(.ref b118)])) _
  exact own_retAW X119 hx hEL (c120) rfl hret rfl rfl (hb hby own_d5_203) hlk (by decide) (by decide) ⟨_, cs119, rfl, N119, (((((((((Keep.refl h0 []).ext E92).wr W94 (Or.inr (Nat.le_trans (Nat.le_refl _) (Nat.le_of_eq g92.symm)))).wr W99 (Or.inr (Nat.le_trans (Nat.le_refl _) (Nat.le_of_eq g92.symm)))).wr W104 (Or.inr (Nat.le_trans (Nat.le_refl _) (Nat.le_of_eq g92.symm)))).wr W109 (Or.inr (Nat.le_trans (Nat.le_refl _) (Nat.le_of_eq g92.symm)))).wr W114 (Or.inr (Nat.le_trans (Nat.le_refl _) (Nat.le_of_eq g92.symm)))).ext E118).trans K119 (allS (Or.inr (Nat.le_trans (Nat.le_trans (Nat.le_trans (Nat.le_trans (Nat.le_trans (Nat.le_trans (Nat.le_trans (Nat.le_refl _) E92.1) (Nat.le_of_eq (Wr.size W94).symm)) (Nat.le_of_eq (Wr.size W99).symm)) (Nat.le_of_eq (Wr.size W104).symm)) (Nat.le_of_eq (Wr.size W109).symm)) (Nat.le_of_eq (Wr.size W114).symm)) (Nat.le_of_eq g118.symm))) all0)), F119⟩
theorem own_d5_63 : decode method_3_code 63 = .ok (.aload_n 2, 1) := by decide +kernel
theorem own_d5_64 : decode method_3_code 64 = .ok (.iconst 5, 1) := by decide +kernel
theorem own_d5_65 : decode method_3_code 65 = .ok (.aload_n 0, 1) := by decide +kernel
theorem own_d5_66 : decode method_3_code 66 = .ok (.iconst 5, 1) := by decide +kernel
theorem own_d5_67 : decode method_3_code 67 = .ok (.caload, 1) := by decide +kernel
theorem own_d5_68 : decode method_3_code 68 = .ok (.castore, 1) := by decide +kernel
theorem own_ef_rm_px6 (m : MethodId) (a1 : Addr) : entryFrame m #[(.ref a1), (.int (6 : Int32))] 3 = mkF m 0 #[.val (.ref a1), .val (.int (6 : Int32)), .unset] [] := by first | (simp [entryFrame, mkF, argsToLocals, Value.category]; done) | rfl
def Qrm_px6 (Z : State) (a1 : Addr) (gS : Int32) (h0 : Heap) (n0 : Nat) (v : Option Value) (h : Heap) (L : List Loc) : Prop := ∃ x cs, v = some (.ref x) ∧ Fr n0 L ∧ Keep h0 h [] ∧ own_Str Z h h.size x cs
set_option maxRecDepth 65536 in
set_option maxHeartbeats 40000000 in
theorem rm_px6 (l : Launch) (Z : State) (a0 : Array Value) (hw : ∀ d ∈ tables_1, d.before a0 Z = true) (ws : List Jvm.Cond) (a1 : Addr) (gS : Int32) (h0 : Heap) (n0 : Nat) (hEL : EW Z a0 own_EL) (O_0 : Old Z n0 h0) (S_S : Sta Z Z.heap "java/lang/String" "COMPACT_STRINGS" "Z" (.int gS)) (hS : ¬ gS = 0) (C_1 : own_Ch Z h0 a1 16) :
    own_MetW l (⟨"com/example/tranchebook/tranchebook/model/FeeByRateNamePinLaw", "prefix", "([CI)Ljava/lang/String;"⟩ : MethodName) method_3_code 3 (some (.object "java/lang/String")) ws ({ frames := 5, cells := 7, slots := 44, locals := 80 } : Room) #[(.ref a1), (.int (6 : Int32))] Z own_EL h0 (Qrm_px6 Z a1 gS h0 n0) := by
  refine own_bodyW own_pn5 ?_
  intro p e s m below meth c T0 X0 hx hby hml hnm hret hlk W0 e0
  have hZ := W0.1
  have hown := W0.2.1
  have N0 := Fr.nil n0
  refine own_st (fun t k => castTop (own_ef_rm_px6 m a1) k) ?_
  show own_Go p.tables e below (T0.setTop (mkF m 0 #[.val (.ref a1), .val (.int (6 : Int32)), .unset] [])) _
  have Z0 := own_Z0 O_0
  have hws : ∀ d ∈ StrChars.Road.words, d.before a0 Z = true := fun d hd => hw d ((by decide +kernel : ∀ d ∈ StrChars.Road.words, d ∈ tables_1) d hd)
  refine own_iloadN X0 hx hby own_d5_0 (pc' := 1) rfl rfl ?_
  refine own_newA X0 hx hby own_d5_1 (pc' := 3) rfl hZ (hw _ (List.mem_of_getElem? (i := 0) rfl)) e0 (by decide) (cap := 6) (by decide) (by decide) (by decide) (by decide) (vs := List.replicate 6 (.int 0)) (by rfl) ?_
  intro T122 h122 b122 X122 e122 g122 E122 A122
  have c122 := own_Ch.new A122
  have l122 : n0 ≤ b122 := (Nat.le_trans Z0 (Nat.le_trans (Nat.le_refl _) (Nat.le_of_eq g122.symm)))
  refine own_astoreN X122 hx hby own_d5_3 (pc' := 4) rfl rfl (Ls' := #[.val (.ref a1), .val (.int (6 : Int32)), .val (.ref b122)]) rfl ?_
  refine own_iloadN X122 hx hby own_d5_4 (pc' := 5) rfl rfl ?_
  refine own_ifNo X122 hx hby own_d5_5 (pc' := 8) rfl (by decide) ?_
  refine own_aloadN X122 hx hby own_d5_8 (pc' := 9) rfl rfl rfl ?_
  refine own_iconst X122 hx hby own_d5_9 (pc' := 10) rfl (z := (0 : Int32)) (by decide) ?_
  refine own_aloadN X122 hx hby own_d5_10 (pc' := 11) rfl rfl rfl ?_
  refine own_iconst X122 hx hby own_d5_11 (pc' := 12) rfl (z := (0 : Int32)) (by decide) ?_
  refine own_caloadC X122 hx hby own_d5_12 (pc' := 13) rfl hZ e122 ((C_1.ext E122)) (by decide) (by decide) ?_
  intro z123 hz123
  refine own_castoreC X122 hx hby own_d5_13 (pc' := 14) rfl hZ e122 (c122) (by decide) (by decide) ((own_narB hz123).symm ▸ hz123) ?_
  intro T124 h124 X124 e124 W124 C124
  have N124 := Fr.snoc X124 N0 l122
  have c125 := ((W0.ext E122).wr W124 (own_Ch.safe c122 ((W0.ext E122)).1.alike))
  have c126 := ((O_0.ext E122).wr W124 l122)
  have c127 := ((C_1.ext E122).other W124 (Nat.ne_of_lt (Nat.lt_of_lt_of_le (C_1).lt (Nat.le_of_eq g122.symm))))
  refine own_iloadN X124 hx hby own_d5_14 (pc' := 15) rfl rfl ?_
  refine own_iconst X124 hx hby own_d5_15 (pc' := 16) rfl (z := (1 : Int32)) (by decide) ?_
  refine own_icmpNo X124 hx hby own_d5_16 (pc' := 19) rfl (by decide) ?_
  refine own_aloadN X124 hx hby own_d5_19 (pc' := 20) rfl rfl rfl ?_
  refine own_iconst X124 hx hby own_d5_20 (pc' := 21) rfl (z := (1 : Int32)) (by decide) ?_
  refine own_aloadN X124 hx hby own_d5_21 (pc' := 22) rfl rfl rfl ?_
  refine own_iconst X124 hx hby own_d5_22 (pc' := 23) rfl (z := (1 : Int32)) (by decide) ?_
  refine own_caloadC X124 hx hby own_d5_23 (pc' := 24) rfl hZ e124 (c127) (by decide) (by decide) ?_
  intro z128 hz128
  refine own_castoreC X124 hx hby own_d5_24 (pc' := 25) rfl hZ e124 (C124) (by decide) (by decide) ((own_narB hz128).symm ▸ hz128) ?_
  intro T129 h129 X129 e129 W129 C129
  have N129 := Fr.snoc X129 N124 l122
  have c130 := (c125.wr W129 (own_Ch.safe C124 (c125).1.alike))
  have c131 := (c126.wr W129 l122)
  have c132 := (c127.other W129 (Nat.ne_of_lt (Nat.lt_of_lt_of_le (C_1).lt (Nat.le_of_eq g122.symm))))
  refine own_iloadN X129 hx hby own_d5_25 (pc' := 26) rfl rfl ?_
  refine own_iconst X129 hx hby own_d5_26 (pc' := 27) rfl (z := (2 : Int32)) (by decide) ?_
  refine own_icmpNo X129 hx hby own_d5_27 (pc' := 30) rfl (by decide) ?_
  refine own_aloadN X129 hx hby own_d5_30 (pc' := 31) rfl rfl rfl ?_
  refine own_iconst X129 hx hby own_d5_31 (pc' := 32) rfl (z := (2 : Int32)) (by decide) ?_
  refine own_aloadN X129 hx hby own_d5_32 (pc' := 33) rfl rfl rfl ?_
  refine own_iconst X129 hx hby own_d5_33 (pc' := 34) rfl (z := (2 : Int32)) (by decide) ?_
  refine own_caloadC X129 hx hby own_d5_34 (pc' := 35) rfl hZ e129 (c132) (by decide) (by decide) ?_
  intro z133 hz133
  refine own_castoreC X129 hx hby own_d5_35 (pc' := 36) rfl hZ e129 (C129) (by decide) (by decide) ((own_narB hz133).symm ▸ hz133) ?_
  intro T134 h134 X134 e134 W134 C134
  have N134 := Fr.snoc X134 N129 l122
  have c135 := (c130.wr W134 (own_Ch.safe C129 (c130).1.alike))
  have c136 := (c131.wr W134 l122)
  have c137 := (c132.other W134 (Nat.ne_of_lt (Nat.lt_of_lt_of_le (C_1).lt (Nat.le_of_eq g122.symm))))
  refine own_iloadN X134 hx hby own_d5_36 (pc' := 37) rfl rfl ?_
  refine own_iconst X134 hx hby own_d5_37 (pc' := 38) rfl (z := (3 : Int32)) (by decide) ?_
  refine own_icmpNo X134 hx hby own_d5_38 (pc' := 41) rfl (by decide) ?_
  refine own_aloadN X134 hx hby own_d5_41 (pc' := 42) rfl rfl rfl ?_
  refine own_iconst X134 hx hby own_d5_42 (pc' := 43) rfl (z := (3 : Int32)) (by decide) ?_
  refine own_aloadN X134 hx hby own_d5_43 (pc' := 44) rfl rfl rfl ?_
  refine own_iconst X134 hx hby own_d5_44 (pc' := 45) rfl (z := (3 : Int32)) (by decide) ?_
  refine own_caloadC X134 hx hby own_d5_45 (pc' := 46) rfl hZ e134 (c137) (by decide) (by decide) ?_
  intro z138 hz138
  refine own_castoreC X134 hx hby own_d5_46 (pc' := 47) rfl hZ e134 (C134) (by decide) (by decide) ((own_narB hz138).symm ▸ hz138) ?_
  intro T139 h139 X139 e139 W139 C139
  have N139 := Fr.snoc X139 N134 l122
  have c140 := (c135.wr W139 (own_Ch.safe C134 (c135).1.alike))
  have c141 := (c136.wr W139 l122)
  have c142 := (c137.other W139 (Nat.ne_of_lt (Nat.lt_of_lt_of_le (C_1).lt (Nat.le_of_eq g122.symm))))
  refine own_iloadN X139 hx hby own_d5_47 (pc' := 48) rfl rfl ?_
  refine own_iconst X139 hx hby own_d5_48 (pc' := 49) rfl (z := (4 : Int32)) (by decide) ?_
  refine own_icmpNo X139 hx hby own_d5_49 (pc' := 52) rfl (by decide) ?_
  refine own_aloadN X139 hx hby own_d5_52 (pc' := 53) rfl rfl rfl ?_
  refine own_iconst X139 hx hby own_d5_53 (pc' := 54) rfl (z := (4 : Int32)) (by decide) ?_
  refine own_aloadN X139 hx hby own_d5_54 (pc' := 55) rfl rfl rfl ?_
  refine own_iconst X139 hx hby own_d5_55 (pc' := 56) rfl (z := (4 : Int32)) (by decide) ?_
  refine own_caloadC X139 hx hby own_d5_56 (pc' := 57) rfl hZ e139 (c142) (by decide) (by decide) ?_
  intro z143 hz143
  refine own_castoreC X139 hx hby own_d5_57 (pc' := 58) rfl hZ e139 (C139) (by decide) (by decide) ((own_narB hz143).symm ▸ hz143) ?_
  intro T144 h144 X144 e144 W144 C144
  have N144 := Fr.snoc X144 N139 l122
  have c145 := (c140.wr W144 (own_Ch.safe C139 (c140).1.alike))
  have c146 := (c141.wr W144 l122)
  have c147 := (c142.other W144 (Nat.ne_of_lt (Nat.lt_of_lt_of_le (C_1).lt (Nat.le_of_eq g122.symm))))
  refine own_iloadN X144 hx hby own_d5_58 (pc' := 59) rfl rfl ?_
  refine own_iconst X144 hx hby own_d5_59 (pc' := 60) rfl (z := (5 : Int32)) (by decide) ?_
  refine own_icmpNo X144 hx hby own_d5_60 (pc' := 63) rfl (by decide) ?_
  refine own_aloadN X144 hx hby own_d5_63 (pc' := 64) rfl rfl rfl ?_
  refine own_iconst X144 hx hby own_d5_64 (pc' := 65) rfl (z := (5 : Int32)) (by decide) ?_
  refine own_aloadN X144 hx hby own_d5_65 (pc' := 66) rfl rfl rfl ?_
  refine own_iconst X144 hx hby own_d5_66 (pc' := 67) rfl (z := (5 : Int32)) (by decide) ?_
  refine own_caloadC X144 hx hby own_d5_67 (pc' := 68) rfl hZ e144 (c147) (by decide) (by decide) ?_
  intro z148 hz148
  refine own_castoreC X144 hx hby own_d5_68 (pc' := 69) rfl hZ e144 (C144) (by decide) (by decide) ((own_narB hz148).symm ▸ hz148) ?_
  intro T149 h149 X149 e149 W149 C149
  have N149 := Fr.snoc X149 N144 l122
  have c150 := (c145.wr W149 (own_Ch.safe C144 (c145).1.alike))
  have c151 := (c146.wr W149 l122)
  have c152 := (c147.other W149 (Nat.ne_of_lt (Nat.lt_of_lt_of_le (C_1).lt (Nat.le_of_eq g122.symm))))
  refine own_iloadN X149 hx hby own_d5_69 (pc' := 70) rfl rfl ?_
  refine own_bipush X149 hx hby own_d5_70 (pc' := 72) rfl (z := (6 : Int32)) (by decide) ?_
  refine own_icmpYes X149 hx hby own_d5_72 (pc' := 83) (by decide) (by decide) ?_
  refine own_iloadN X149 hx hby own_d5_83 (pc' := 84) rfl rfl ?_
  refine own_bipush X149 hx hby own_d5_84 (pc' := 86) rfl (z := (7 : Int32)) (by decide) ?_
  refine own_icmpYes X149 hx hby own_d5_86 (pc' := 97) (by decide) (by decide) ?_
  refine own_iloadN X149 hx hby own_d5_97 (pc' := 98) rfl rfl ?_
  refine own_bipush X149 hx hby own_d5_98 (pc' := 100) rfl (z := (8 : Int32)) (by decide) ?_
  refine own_icmpYes X149 hx hby own_d5_100 (pc' := 111) (by decide) (by decide) ?_
  refine own_iloadN X149 hx hby own_d5_111 (pc' := 112) rfl rfl ?_
  refine own_bipush X149 hx hby own_d5_112 (pc' := 114) rfl (z := (9 : Int32)) (by decide) ?_
  refine own_icmpYes X149 hx hby own_d5_114 (pc' := 125) (by decide) (by decide) ?_
  refine own_iloadN X149 hx hby own_d5_125 (pc' := 126) rfl rfl ?_
  refine own_bipush X149 hx hby own_d5_126 (pc' := 128) rfl (z := (10 : Int32)) (by decide) ?_
  refine own_icmpYes X149 hx hby own_d5_128 (pc' := 139) (by decide) (by decide) ?_
  refine own_iloadN X149 hx hby own_d5_139 (pc' := 140) rfl rfl ?_
  refine own_bipush X149 hx hby own_d5_140 (pc' := 142) rfl (z := (11 : Int32)) (by decide) ?_
  refine own_icmpYes X149 hx hby own_d5_142 (pc' := 153) (by decide) (by decide) ?_
  refine own_iloadN X149 hx hby own_d5_153 (pc' := 154) rfl rfl ?_
  refine own_bipush X149 hx hby own_d5_154 (pc' := 156) rfl (z := (12 : Int32)) (by decide) ?_
  refine own_icmpYes X149 hx hby own_d5_156 (pc' := 167) (by decide) (by decide) ?_
  refine own_iloadN X149 hx hby own_d5_167 (pc' := 168) rfl rfl ?_
  refine own_bipush X149 hx hby own_d5_168 (pc' := 170) rfl (z := (13 : Int32)) (by decide) ?_
  refine own_icmpYes X149 hx hby own_d5_170 (pc' := 181) (by decide) (by decide) ?_
  refine own_iloadN X149 hx hby own_d5_181 (pc' := 182) rfl rfl ?_
  refine own_bipush X149 hx hby own_d5_182 (pc' := 184) rfl (z := (14 : Int32)) (by decide) ?_
  refine own_icmpYes X149 hx hby own_d5_184 (pc' := 195) (by decide) (by decide) ?_
  refine own_new X149 hx hby own_d5_195 (pc' := 198) rfl hZ hown (hw _ (List.mem_of_getElem? (i := 44) rfl)) (hw _ (List.mem_of_getElem? (i := 34) rfl)) (hw _ (List.mem_of_getElem? (i := 31) rfl)) e149 (by decide) (by decide) ?_
  intro T153 h153 b153 X153 e153 g153 E153 A153 D153
  have F153_value : Fld Z h153 b153 "java/lang/String" "value" "[B" .null := D153 (Or.inr (hw _ (List.mem_of_getElem? (i := 36) rfl))) (ty := (.array .byte)) (by decide)
  have F153_coder : Fld Z h153 b153 "java/lang/String" "coder" "B" (.int (0 : Int32)) := D153 (Or.inr (hw _ (List.mem_of_getElem? (i := 37) rfl))) (ty := .byte) (by decide)
  have l153 : n0 ≤ b153 := (Nat.le_trans Z0 (Nat.le_trans (Nat.le_trans (Nat.le_trans (Nat.le_trans (Nat.le_trans (Nat.le_trans (Nat.le_trans (Nat.le_trans (Nat.le_refl _) E122.1) (Nat.le_of_eq (Wr.size W124).symm)) (Nat.le_of_eq (Wr.size W129).symm)) (Nat.le_of_eq (Wr.size W134).symm)) (Nat.le_of_eq (Wr.size W139).symm)) (Nat.le_of_eq (Wr.size W144).symm)) (Nat.le_of_eq (Wr.size W149).symm)) (Nat.le_of_eq g153.symm)))
  refine own_dup X153 hx hby own_d5_198 (pc' := 199) rfl rfl ?_
  refine own_aloadN X153 hx hby own_d5_199 (pc' := 200) rfl rfl rfl ?_
  refine own_callSpB X153 hx hZ (own_strB (W := 1) hZ hws (hw _ (List.mem_of_getElem? (i := 34) rfl)) l153 (own_Z0 ((c151.ext E153))) (A153) (F153_value) (F153_coder) ((C149.ext E153)) (S_S.ext ((c151.ext E153)).2) hS (by decide) (by decide) (by decide) (by decide)) rfl hown (hw _ (List.mem_of_getElem? (i := 45) rfl)) (hw _ (List.mem_of_getElem? (i := 46) rfl)) (hw _ (List.mem_of_getElem? (i := 47) rfl)) (by decide) (by rw [hml]; rfl) (argsL := [(.ref b122)]) (rest := [(.ref b153)]) rfl (lenOf own_pd3 rfl) rfl (Nat.le_of_eq rfl) (hb hby own_d5_200) e153 (by decide) (by decide) ?_
  intro v154 T154 L154 X154 hQ154
  obtain ⟨hv154, N154q, K154, cs154, F154⟩ := hQ154
  subst hv154
  have N154 := Fr.app N149 N154q
  have c155 := ((c150.ext E153).keep K154 (allS (Safe.ext E153 (c150).ch (Safe.new (Nat.le_of_eq g153.symm))) all0))
  have c156 := ((c151.ext E153).keep K154 (allS l153 all0))
  show own_Go p.tables e below (T154.setTop (mkF m 203 #[.val (.ref a1), .val (.int (6 : Int32)), .val (.ref b122)] [(.ref b153)])) _
  exact own_retAW X154 hx hEL (c155) rfl hret rfl rfl (hb hby own_d5_203) hlk (by decide) (by decide) ⟨_, cs154, rfl, N154, ((((((((((Keep.refl h0 []).ext E122).wr W124 (Or.inr (Nat.le_trans (Nat.le_refl _) (Nat.le_of_eq g122.symm)))).wr W129 (Or.inr (Nat.le_trans (Nat.le_refl _) (Nat.le_of_eq g122.symm)))).wr W134 (Or.inr (Nat.le_trans (Nat.le_refl _) (Nat.le_of_eq g122.symm)))).wr W139 (Or.inr (Nat.le_trans (Nat.le_refl _) (Nat.le_of_eq g122.symm)))).wr W144 (Or.inr (Nat.le_trans (Nat.le_refl _) (Nat.le_of_eq g122.symm)))).wr W149 (Or.inr (Nat.le_trans (Nat.le_refl _) (Nat.le_of_eq g122.symm)))).ext E153).trans K154 (allS (Or.inr (Nat.le_trans (Nat.le_trans (Nat.le_trans (Nat.le_trans (Nat.le_trans (Nat.le_trans (Nat.le_trans (Nat.le_trans (Nat.le_refl _) E122.1) (Nat.le_of_eq (Wr.size W124).symm)) (Nat.le_of_eq (Wr.size W129).symm)) (Nat.le_of_eq (Wr.size W134).symm)) (Nat.le_of_eq (Wr.size W139).symm)) (Nat.le_of_eq (Wr.size W144).symm)) (Nat.le_of_eq (Wr.size W149).symm)) (Nat.le_of_eq g153.symm))) all0)), F154⟩
theorem own_d5_75 : decode method_3_code 75 = .ok (.aload_n 2, 1) := by decide +kernel
theorem own_d5_76 : decode method_3_code 76 = .ok (.bipush 6, 2) := by decide +kernel
theorem own_d5_78 : decode method_3_code 78 = .ok (.aload_n 0, 1) := by decide +kernel
theorem own_d5_79 : decode method_3_code 79 = .ok (.bipush 6, 2) := by decide +kernel
theorem own_d5_81 : decode method_3_code 81 = .ok (.caload, 1) := by decide +kernel
theorem own_d5_82 : decode method_3_code 82 = .ok (.castore, 1) := by decide +kernel
theorem own_ef_rm_px7 (m : MethodId) (a1 : Addr) : entryFrame m #[(.ref a1), (.int (7 : Int32))] 3 = mkF m 0 #[.val (.ref a1), .val (.int (7 : Int32)), .unset] [] := by first | (simp [entryFrame, mkF, argsToLocals, Value.category]; done) | rfl
def Qrm_px7 (Z : State) (a1 : Addr) (gS : Int32) (h0 : Heap) (n0 : Nat) (v : Option Value) (h : Heap) (L : List Loc) : Prop := ∃ x cs, v = some (.ref x) ∧ Fr n0 L ∧ Keep h0 h [] ∧ own_Str Z h h.size x cs
set_option maxRecDepth 65536 in
set_option maxHeartbeats 40000000 in
theorem rm_px7 (l : Launch) (Z : State) (a0 : Array Value) (hw : ∀ d ∈ tables_1, d.before a0 Z = true) (ws : List Jvm.Cond) (a1 : Addr) (gS : Int32) (h0 : Heap) (n0 : Nat) (hEL : EW Z a0 own_EL) (O_0 : Old Z n0 h0) (S_S : Sta Z Z.heap "java/lang/String" "COMPACT_STRINGS" "Z" (.int gS)) (hS : ¬ gS = 0) (C_1 : own_Ch Z h0 a1 16) :
    own_MetW l (⟨"com/example/tranchebook/tranchebook/model/FeeByRateNamePinLaw", "prefix", "([CI)Ljava/lang/String;"⟩ : MethodName) method_3_code 3 (some (.object "java/lang/String")) ws ({ frames := 5, cells := 7, slots := 44, locals := 80 } : Room) #[(.ref a1), (.int (7 : Int32))] Z own_EL h0 (Qrm_px7 Z a1 gS h0 n0) := by
  refine own_bodyW own_pn5 ?_
  intro p e s m below meth c T0 X0 hx hby hml hnm hret hlk W0 e0
  have hZ := W0.1
  have hown := W0.2.1
  have N0 := Fr.nil n0
  refine own_st (fun t k => castTop (own_ef_rm_px7 m a1) k) ?_
  show own_Go p.tables e below (T0.setTop (mkF m 0 #[.val (.ref a1), .val (.int (7 : Int32)), .unset] [])) _
  have Z0 := own_Z0 O_0
  have hws : ∀ d ∈ StrChars.Road.words, d.before a0 Z = true := fun d hd => hw d ((by decide +kernel : ∀ d ∈ StrChars.Road.words, d ∈ tables_1) d hd)
  refine own_iloadN X0 hx hby own_d5_0 (pc' := 1) rfl rfl ?_
  refine own_newA X0 hx hby own_d5_1 (pc' := 3) rfl hZ (hw _ (List.mem_of_getElem? (i := 0) rfl)) e0 (by decide) (cap := 7) (by decide) (by decide) (by decide) (by decide) (vs := List.replicate 7 (.int 0)) (by rfl) ?_
  intro T157 h157 b157 X157 e157 g157 E157 A157
  have c157 := own_Ch.new A157
  have l157 : n0 ≤ b157 := (Nat.le_trans Z0 (Nat.le_trans (Nat.le_refl _) (Nat.le_of_eq g157.symm)))
  refine own_astoreN X157 hx hby own_d5_3 (pc' := 4) rfl rfl (Ls' := #[.val (.ref a1), .val (.int (7 : Int32)), .val (.ref b157)]) rfl ?_
  refine own_iloadN X157 hx hby own_d5_4 (pc' := 5) rfl rfl ?_
  refine own_ifNo X157 hx hby own_d5_5 (pc' := 8) rfl (by decide) ?_
  refine own_aloadN X157 hx hby own_d5_8 (pc' := 9) rfl rfl rfl ?_
  refine own_iconst X157 hx hby own_d5_9 (pc' := 10) rfl (z := (0 : Int32)) (by decide) ?_
  refine own_aloadN X157 hx hby own_d5_10 (pc' := 11) rfl rfl rfl ?_
  refine own_iconst X157 hx hby own_d5_11 (pc' := 12) rfl (z := (0 : Int32)) (by decide) ?_
  refine own_caloadC X157 hx hby own_d5_12 (pc' := 13) rfl hZ e157 ((C_1.ext E157)) (by decide) (by decide) ?_
  intro z158 hz158
  refine own_castoreC X157 hx hby own_d5_13 (pc' := 14) rfl hZ e157 (c157) (by decide) (by decide) ((own_narB hz158).symm ▸ hz158) ?_
  intro T159 h159 X159 e159 W159 C159
  have N159 := Fr.snoc X159 N0 l157
  have c160 := ((W0.ext E157).wr W159 (own_Ch.safe c157 ((W0.ext E157)).1.alike))
  have c161 := ((O_0.ext E157).wr W159 l157)
  have c162 := ((C_1.ext E157).other W159 (Nat.ne_of_lt (Nat.lt_of_lt_of_le (C_1).lt (Nat.le_of_eq g157.symm))))
  refine own_iloadN X159 hx hby own_d5_14 (pc' := 15) rfl rfl ?_
  refine own_iconst X159 hx hby own_d5_15 (pc' := 16) rfl (z := (1 : Int32)) (by decide) ?_
  refine own_icmpNo X159 hx hby own_d5_16 (pc' := 19) rfl (by decide) ?_
  refine own_aloadN X159 hx hby own_d5_19 (pc' := 20) rfl rfl rfl ?_
  refine own_iconst X159 hx hby own_d5_20 (pc' := 21) rfl (z := (1 : Int32)) (by decide) ?_
  refine own_aloadN X159 hx hby own_d5_21 (pc' := 22) rfl rfl rfl ?_
  refine own_iconst X159 hx hby own_d5_22 (pc' := 23) rfl (z := (1 : Int32)) (by decide) ?_
  refine own_caloadC X159 hx hby own_d5_23 (pc' := 24) rfl hZ e159 (c162) (by decide) (by decide) ?_
  intro z163 hz163
  refine own_castoreC X159 hx hby own_d5_24 (pc' := 25) rfl hZ e159 (C159) (by decide) (by decide) ((own_narB hz163).symm ▸ hz163) ?_
  intro T164 h164 X164 e164 W164 C164
  have N164 := Fr.snoc X164 N159 l157
  have c165 := (c160.wr W164 (own_Ch.safe C159 (c160).1.alike))
  have c166 := (c161.wr W164 l157)
  have c167 := (c162.other W164 (Nat.ne_of_lt (Nat.lt_of_lt_of_le (C_1).lt (Nat.le_of_eq g157.symm))))
  refine own_iloadN X164 hx hby own_d5_25 (pc' := 26) rfl rfl ?_
  refine own_iconst X164 hx hby own_d5_26 (pc' := 27) rfl (z := (2 : Int32)) (by decide) ?_
  refine own_icmpNo X164 hx hby own_d5_27 (pc' := 30) rfl (by decide) ?_
  refine own_aloadN X164 hx hby own_d5_30 (pc' := 31) rfl rfl rfl ?_
  refine own_iconst X164 hx hby own_d5_31 (pc' := 32) rfl (z := (2 : Int32)) (by decide) ?_
  refine own_aloadN X164 hx hby own_d5_32 (pc' := 33) rfl rfl rfl ?_
  refine own_iconst X164 hx hby own_d5_33 (pc' := 34) rfl (z := (2 : Int32)) (by decide) ?_
  refine own_caloadC X164 hx hby own_d5_34 (pc' := 35) rfl hZ e164 (c167) (by decide) (by decide) ?_
  intro z168 hz168
  refine own_castoreC X164 hx hby own_d5_35 (pc' := 36) rfl hZ e164 (C164) (by decide) (by decide) ((own_narB hz168).symm ▸ hz168) ?_
  intro T169 h169 X169 e169 W169 C169
  have N169 := Fr.snoc X169 N164 l157
  have c170 := (c165.wr W169 (own_Ch.safe C164 (c165).1.alike))
  have c171 := (c166.wr W169 l157)
  have c172 := (c167.other W169 (Nat.ne_of_lt (Nat.lt_of_lt_of_le (C_1).lt (Nat.le_of_eq g157.symm))))
  refine own_iloadN X169 hx hby own_d5_36 (pc' := 37) rfl rfl ?_
  refine own_iconst X169 hx hby own_d5_37 (pc' := 38) rfl (z := (3 : Int32)) (by decide) ?_
  refine own_icmpNo X169 hx hby own_d5_38 (pc' := 41) rfl (by decide) ?_
  refine own_aloadN X169 hx hby own_d5_41 (pc' := 42) rfl rfl rfl ?_
  refine own_iconst X169 hx hby own_d5_42 (pc' := 43) rfl (z := (3 : Int32)) (by decide) ?_
  refine own_aloadN X169 hx hby own_d5_43 (pc' := 44) rfl rfl rfl ?_
  refine own_iconst X169 hx hby own_d5_44 (pc' := 45) rfl (z := (3 : Int32)) (by decide) ?_
  refine own_caloadC X169 hx hby own_d5_45 (pc' := 46) rfl hZ e169 (c172) (by decide) (by decide) ?_
  intro z173 hz173
  refine own_castoreC X169 hx hby own_d5_46 (pc' := 47) rfl hZ e169 (C169) (by decide) (by decide) ((own_narB hz173).symm ▸ hz173) ?_
  intro T174 h174 X174 e174 W174 C174
  have N174 := Fr.snoc X174 N169 l157
  have c175 := (c170.wr W174 (own_Ch.safe C169 (c170).1.alike))
  have c176 := (c171.wr W174 l157)
  have c177 := (c172.other W174 (Nat.ne_of_lt (Nat.lt_of_lt_of_le (C_1).lt (Nat.le_of_eq g157.symm))))
  refine own_iloadN X174 hx hby own_d5_47 (pc' := 48) rfl rfl ?_
  refine own_iconst X174 hx hby own_d5_48 (pc' := 49) rfl (z := (4 : Int32)) (by decide) ?_
  refine own_icmpNo X174 hx hby own_d5_49 (pc' := 52) rfl (by decide) ?_
  refine own_aloadN X174 hx hby own_d5_52 (pc' := 53) rfl rfl rfl ?_
  refine own_iconst X174 hx hby own_d5_53 (pc' := 54) rfl (z := (4 : Int32)) (by decide) ?_
  refine own_aloadN X174 hx hby own_d5_54 (pc' := 55) rfl rfl rfl ?_
  refine own_iconst X174 hx hby own_d5_55 (pc' := 56) rfl (z := (4 : Int32)) (by decide) ?_
  refine own_caloadC X174 hx hby own_d5_56 (pc' := 57) rfl hZ e174 (c177) (by decide) (by decide) ?_
  intro z178 hz178
  refine own_castoreC X174 hx hby own_d5_57 (pc' := 58) rfl hZ e174 (C174) (by decide) (by decide) ((own_narB hz178).symm ▸ hz178) ?_
  intro T179 h179 X179 e179 W179 C179
  have N179 := Fr.snoc X179 N174 l157
  have c180 := (c175.wr W179 (own_Ch.safe C174 (c175).1.alike))
  have c181 := (c176.wr W179 l157)
  have c182 := (c177.other W179 (Nat.ne_of_lt (Nat.lt_of_lt_of_le (C_1).lt (Nat.le_of_eq g157.symm))))
  refine own_iloadN X179 hx hby own_d5_58 (pc' := 59) rfl rfl ?_
  refine own_iconst X179 hx hby own_d5_59 (pc' := 60) rfl (z := (5 : Int32)) (by decide) ?_
  refine own_icmpNo X179 hx hby own_d5_60 (pc' := 63) rfl (by decide) ?_
  refine own_aloadN X179 hx hby own_d5_63 (pc' := 64) rfl rfl rfl ?_
  refine own_iconst X179 hx hby own_d5_64 (pc' := 65) rfl (z := (5 : Int32)) (by decide) ?_
  refine own_aloadN X179 hx hby own_d5_65 (pc' := 66) rfl rfl rfl ?_
  refine own_iconst X179 hx hby own_d5_66 (pc' := 67) rfl (z := (5 : Int32)) (by decide) ?_
  refine own_caloadC X179 hx hby own_d5_67 (pc' := 68) rfl hZ e179 (c182) (by decide) (by decide) ?_
  intro z183 hz183
  refine own_castoreC X179 hx hby own_d5_68 (pc' := 69) rfl hZ e179 (C179) (by decide) (by decide) ((own_narB hz183).symm ▸ hz183) ?_
  intro T184 h184 X184 e184 W184 C184
  have N184 := Fr.snoc X184 N179 l157
  have c185 := (c180.wr W184 (own_Ch.safe C179 (c180).1.alike))
  have c186 := (c181.wr W184 l157)
  have c187 := (c182.other W184 (Nat.ne_of_lt (Nat.lt_of_lt_of_le (C_1).lt (Nat.le_of_eq g157.symm))))
  refine own_iloadN X184 hx hby own_d5_69 (pc' := 70) rfl rfl ?_
  refine own_bipush X184 hx hby own_d5_70 (pc' := 72) rfl (z := (6 : Int32)) (by decide) ?_
  refine own_icmpNo X184 hx hby own_d5_72 (pc' := 75) rfl (by decide) ?_
  refine own_aloadN X184 hx hby own_d5_75 (pc' := 76) rfl rfl rfl ?_
  refine own_bipush X184 hx hby own_d5_76 (pc' := 78) rfl (z := (6 : Int32)) (by decide) ?_
  refine own_aloadN X184 hx hby own_d5_78 (pc' := 79) rfl rfl rfl ?_
  refine own_bipush X184 hx hby own_d5_79 (pc' := 81) rfl (z := (6 : Int32)) (by decide) ?_
  refine own_caloadC X184 hx hby own_d5_81 (pc' := 82) rfl hZ e184 (c187) (by decide) (by decide) ?_
  intro z188 hz188
  refine own_castoreC X184 hx hby own_d5_82 (pc' := 83) rfl hZ e184 (C184) (by decide) (by decide) ((own_narB hz188).symm ▸ hz188) ?_
  intro T189 h189 X189 e189 W189 C189
  have N189 := Fr.snoc X189 N184 l157
  have c190 := (c185.wr W189 (own_Ch.safe C184 (c185).1.alike))
  have c191 := (c186.wr W189 l157)
  have c192 := (c187.other W189 (Nat.ne_of_lt (Nat.lt_of_lt_of_le (C_1).lt (Nat.le_of_eq g157.symm))))
  refine own_iloadN X189 hx hby own_d5_83 (pc' := 84) rfl rfl ?_
  refine own_bipush X189 hx hby own_d5_84 (pc' := 86) rfl (z := (7 : Int32)) (by decide) ?_
  refine own_icmpYes X189 hx hby own_d5_86 (pc' := 97) (by decide) (by decide) ?_
  refine own_iloadN X189 hx hby own_d5_97 (pc' := 98) rfl rfl ?_
  refine own_bipush X189 hx hby own_d5_98 (pc' := 100) rfl (z := (8 : Int32)) (by decide) ?_
  refine own_icmpYes X189 hx hby own_d5_100 (pc' := 111) (by decide) (by decide) ?_
  refine own_iloadN X189 hx hby own_d5_111 (pc' := 112) rfl rfl ?_
  refine own_bipush X189 hx hby own_d5_112 (pc' := 114) rfl (z := (9 : Int32)) (by decide) ?_
  refine own_icmpYes X189 hx hby own_d5_114 (pc' := 125) (by decide) (by decide) ?_
  refine own_iloadN X189 hx hby own_d5_125 (pc' := 126) rfl rfl ?_
  refine own_bipush X189 hx hby own_d5_126 (pc' := 128) rfl (z := (10 : Int32)) (by decide) ?_
  refine own_icmpYes X189 hx hby own_d5_128 (pc' := 139) (by decide) (by decide) ?_
  refine own_iloadN X189 hx hby own_d5_139 (pc' := 140) rfl rfl ?_
  refine own_bipush X189 hx hby own_d5_140 (pc' := 142) rfl (z := (11 : Int32)) (by decide) ?_
  refine own_icmpYes X189 hx hby own_d5_142 (pc' := 153) (by decide) (by decide) ?_
  refine own_iloadN X189 hx hby own_d5_153 (pc' := 154) rfl rfl ?_
  refine own_bipush X189 hx hby own_d5_154 (pc' := 156) rfl (z := (12 : Int32)) (by decide) ?_
  refine own_icmpYes X189 hx hby own_d5_156 (pc' := 167) (by decide) (by decide) ?_
  refine own_iloadN X189 hx hby own_d5_167 (pc' := 168) rfl rfl ?_
  refine own_bipush X189 hx hby own_d5_168 (pc' := 170) rfl (z := (13 : Int32)) (by decide) ?_
  refine own_icmpYes X189 hx hby own_d5_170 (pc' := 181) (by decide) (by decide) ?_
  refine own_iloadN X189 hx hby own_d5_181 (pc' := 182) rfl rfl ?_
  refine own_bipush X189 hx hby own_d5_182 (pc' := 184) rfl (z := (14 : Int32)) (by decide) ?_
  refine own_icmpYes X189 hx hby own_d5_184 (pc' := 195) (by decide) (by decide) ?_
  refine own_new X189 hx hby own_d5_195 (pc' := 198) rfl hZ hown (hw _ (List.mem_of_getElem? (i := 44) rfl)) (hw _ (List.mem_of_getElem? (i := 34) rfl)) (hw _ (List.mem_of_getElem? (i := 31) rfl)) e189 (by decide) (by decide) ?_
  intro T193 h193 b193 X193 e193 g193 E193 A193 D193
  have F193_value : Fld Z h193 b193 "java/lang/String" "value" "[B" .null := D193 (Or.inr (hw _ (List.mem_of_getElem? (i := 36) rfl))) (ty := (.array .byte)) (by decide)
  have F193_coder : Fld Z h193 b193 "java/lang/String" "coder" "B" (.int (0 : Int32)) := D193 (Or.inr (hw _ (List.mem_of_getElem? (i := 37) rfl))) (ty := .byte) (by decide)
  have l193 : n0 ≤ b193 := (Nat.le_trans Z0 (Nat.le_trans (Nat.le_trans (Nat.le_trans (Nat.le_trans (Nat.le_trans (Nat.le_trans (Nat.le_trans (Nat.le_trans (Nat.le_trans (Nat.le_refl _) E157.1) (Nat.le_of_eq (Wr.size W159).symm)) (Nat.le_of_eq (Wr.size W164).symm)) (Nat.le_of_eq (Wr.size W169).symm)) (Nat.le_of_eq (Wr.size W174).symm)) (Nat.le_of_eq (Wr.size W179).symm)) (Nat.le_of_eq (Wr.size W184).symm)) (Nat.le_of_eq (Wr.size W189).symm)) (Nat.le_of_eq g193.symm)))
  refine own_dup X193 hx hby own_d5_198 (pc' := 199) rfl rfl ?_
  refine own_aloadN X193 hx hby own_d5_199 (pc' := 200) rfl rfl rfl ?_
  refine own_callSpB X193 hx hZ (own_strB (W := 1) hZ hws (hw _ (List.mem_of_getElem? (i := 34) rfl)) l193 (own_Z0 ((c191.ext E193))) (A193) (F193_value) (F193_coder) ((C189.ext E193)) (S_S.ext ((c191.ext E193)).2) hS (by decide) (by decide) (by decide) (by decide)) rfl hown (hw _ (List.mem_of_getElem? (i := 45) rfl)) (hw _ (List.mem_of_getElem? (i := 46) rfl)) (hw _ (List.mem_of_getElem? (i := 47) rfl)) (by decide) (by rw [hml]; rfl) (argsL := [(.ref b157)]) (rest := [(.ref b193)]) rfl (lenOf own_pd3 rfl) rfl (Nat.le_of_eq rfl) (hb hby own_d5_200) e193 (by decide) (by decide) ?_
  intro v194 T194 L194 X194 hQ194
  obtain ⟨hv194, N194q, K194, cs194, F194⟩ := hQ194
  subst hv194
  have N194 := Fr.app N189 N194q
  have c195 := ((c190.ext E193).keep K194 (allS (Safe.ext E193 (c190).ch (Safe.new (Nat.le_of_eq g193.symm))) all0))
  have c196 := ((c191.ext E193).keep K194 (allS l193 all0))
  show own_Go p.tables e below (T194.setTop (mkF m 203 #[.val (.ref a1), .val (.int (7 : Int32)), .val (.ref b157)] [(.ref b193)])) _
  exact own_retAW X194 hx hEL (c195) rfl hret rfl rfl (hb hby own_d5_203) hlk (by decide) (by decide) ⟨_, cs194, rfl, N194, (((((((((((Keep.refl h0 []).ext E157).wr W159 (Or.inr (Nat.le_trans (Nat.le_refl _) (Nat.le_of_eq g157.symm)))).wr W164 (Or.inr (Nat.le_trans (Nat.le_refl _) (Nat.le_of_eq g157.symm)))).wr W169 (Or.inr (Nat.le_trans (Nat.le_refl _) (Nat.le_of_eq g157.symm)))).wr W174 (Or.inr (Nat.le_trans (Nat.le_refl _) (Nat.le_of_eq g157.symm)))).wr W179 (Or.inr (Nat.le_trans (Nat.le_refl _) (Nat.le_of_eq g157.symm)))).wr W184 (Or.inr (Nat.le_trans (Nat.le_refl _) (Nat.le_of_eq g157.symm)))).wr W189 (Or.inr (Nat.le_trans (Nat.le_refl _) (Nat.le_of_eq g157.symm)))).ext E193).trans K194 (allS (Or.inr (Nat.le_trans (Nat.le_trans (Nat.le_trans (Nat.le_trans (Nat.le_trans (Nat.le_trans (Nat.le_trans (Nat.le_trans (Nat.le_trans (Nat.le_refl _) E157.1) (Nat.le_of_eq (Wr.size W159).symm)) (Nat.le_of_eq (Wr.size W164).symm)) (Nat.le_of_eq (Wr.size W169).symm)) (Nat.le_of_eq (Wr.size W174).symm)) (Nat.le_of_eq (Wr.size W179).symm)) (Nat.le_of_eq (Wr.size W184).symm)) (Nat.le_of_eq (Wr.size W189).symm)) (Nat.le_of_eq g193.symm))) all0)), F194⟩
theorem own_d5_89 : decode method_3_code 89 = .ok (.aload_n 2, 1) := by decide +kernel
theorem own_d5_90 : decode method_3_code 90 = .ok (.bipush 7, 2) := by decide +kernel
theorem own_d5_92 : decode method_3_code 92 = .ok (.aload_n 0, 1) := by decide +kernel
theorem own_d5_93 : decode method_3_code 93 = .ok (.bipush 7, 2) := by decide +kernel
theorem own_d5_95 : decode method_3_code 95 = .ok (.caload, 1) := by decide +kernel
theorem own_d5_96 : decode method_3_code 96 = .ok (.castore, 1) := by decide +kernel
theorem own_ef_rm_px8 (m : MethodId) (a1 : Addr) : entryFrame m #[(.ref a1), (.int (8 : Int32))] 3 = mkF m 0 #[.val (.ref a1), .val (.int (8 : Int32)), .unset] [] := by first | (simp [entryFrame, mkF, argsToLocals, Value.category]; done) | rfl
def Qrm_px8 (Z : State) (a1 : Addr) (gS : Int32) (h0 : Heap) (n0 : Nat) (v : Option Value) (h : Heap) (L : List Loc) : Prop := ∃ x cs, v = some (.ref x) ∧ Fr n0 L ∧ Keep h0 h [] ∧ own_Str Z h h.size x cs
set_option maxRecDepth 65536 in
set_option maxHeartbeats 40000000 in
theorem rm_px8 (l : Launch) (Z : State) (a0 : Array Value) (hw : ∀ d ∈ tables_1, d.before a0 Z = true) (ws : List Jvm.Cond) (a1 : Addr) (gS : Int32) (h0 : Heap) (n0 : Nat) (hEL : EW Z a0 own_EL) (O_0 : Old Z n0 h0) (S_S : Sta Z Z.heap "java/lang/String" "COMPACT_STRINGS" "Z" (.int gS)) (hS : ¬ gS = 0) (C_1 : own_Ch Z h0 a1 16) :
    own_MetW l (⟨"com/example/tranchebook/tranchebook/model/FeeByRateNamePinLaw", "prefix", "([CI)Ljava/lang/String;"⟩ : MethodName) method_3_code 3 (some (.object "java/lang/String")) ws ({ frames := 5, cells := 7, slots := 44, locals := 80 } : Room) #[(.ref a1), (.int (8 : Int32))] Z own_EL h0 (Qrm_px8 Z a1 gS h0 n0) := by
  refine own_bodyW own_pn5 ?_
  intro p e s m below meth c T0 X0 hx hby hml hnm hret hlk W0 e0
  have hZ := W0.1
  have hown := W0.2.1
  have N0 := Fr.nil n0
  refine own_st (fun t k => castTop (own_ef_rm_px8 m a1) k) ?_
  show own_Go p.tables e below (T0.setTop (mkF m 0 #[.val (.ref a1), .val (.int (8 : Int32)), .unset] [])) _
  have Z0 := own_Z0 O_0
  have hws : ∀ d ∈ StrChars.Road.words, d.before a0 Z = true := fun d hd => hw d ((by decide +kernel : ∀ d ∈ StrChars.Road.words, d ∈ tables_1) d hd)
  refine own_iloadN X0 hx hby own_d5_0 (pc' := 1) rfl rfl ?_
  refine own_newA X0 hx hby own_d5_1 (pc' := 3) rfl hZ (hw _ (List.mem_of_getElem? (i := 0) rfl)) e0 (by decide) (cap := 8) (by decide) (by decide) (by decide) (by decide) (vs := List.replicate 8 (.int 0)) (by rfl) ?_
  intro T197 h197 b197 X197 e197 g197 E197 A197
  have c197 := own_Ch.new A197
  have l197 : n0 ≤ b197 := (Nat.le_trans Z0 (Nat.le_trans (Nat.le_refl _) (Nat.le_of_eq g197.symm)))
  refine own_astoreN X197 hx hby own_d5_3 (pc' := 4) rfl rfl (Ls' := #[.val (.ref a1), .val (.int (8 : Int32)), .val (.ref b197)]) rfl ?_
  refine own_iloadN X197 hx hby own_d5_4 (pc' := 5) rfl rfl ?_
  refine own_ifNo X197 hx hby own_d5_5 (pc' := 8) rfl (by decide) ?_
  refine own_aloadN X197 hx hby own_d5_8 (pc' := 9) rfl rfl rfl ?_
  refine own_iconst X197 hx hby own_d5_9 (pc' := 10) rfl (z := (0 : Int32)) (by decide) ?_
  refine own_aloadN X197 hx hby own_d5_10 (pc' := 11) rfl rfl rfl ?_
  refine own_iconst X197 hx hby own_d5_11 (pc' := 12) rfl (z := (0 : Int32)) (by decide) ?_
  refine own_caloadC X197 hx hby own_d5_12 (pc' := 13) rfl hZ e197 ((C_1.ext E197)) (by decide) (by decide) ?_
  intro z198 hz198
  refine own_castoreC X197 hx hby own_d5_13 (pc' := 14) rfl hZ e197 (c197) (by decide) (by decide) ((own_narB hz198).symm ▸ hz198) ?_
  intro T199 h199 X199 e199 W199 C199
  have N199 := Fr.snoc X199 N0 l197
  have c200 := ((W0.ext E197).wr W199 (own_Ch.safe c197 ((W0.ext E197)).1.alike))
  have c201 := ((O_0.ext E197).wr W199 l197)
  have c202 := ((C_1.ext E197).other W199 (Nat.ne_of_lt (Nat.lt_of_lt_of_le (C_1).lt (Nat.le_of_eq g197.symm))))
  refine own_iloadN X199 hx hby own_d5_14 (pc' := 15) rfl rfl ?_
  refine own_iconst X199 hx hby own_d5_15 (pc' := 16) rfl (z := (1 : Int32)) (by decide) ?_
  refine own_icmpNo X199 hx hby own_d5_16 (pc' := 19) rfl (by decide) ?_
  refine own_aloadN X199 hx hby own_d5_19 (pc' := 20) rfl rfl rfl ?_
  refine own_iconst X199 hx hby own_d5_20 (pc' := 21) rfl (z := (1 : Int32)) (by decide) ?_
  refine own_aloadN X199 hx hby own_d5_21 (pc' := 22) rfl rfl rfl ?_
  refine own_iconst X199 hx hby own_d5_22 (pc' := 23) rfl (z := (1 : Int32)) (by decide) ?_
  refine own_caloadC X199 hx hby own_d5_23 (pc' := 24) rfl hZ e199 (c202) (by decide) (by decide) ?_
  intro z203 hz203
  refine own_castoreC X199 hx hby own_d5_24 (pc' := 25) rfl hZ e199 (C199) (by decide) (by decide) ((own_narB hz203).symm ▸ hz203) ?_
  intro T204 h204 X204 e204 W204 C204
  have N204 := Fr.snoc X204 N199 l197
  have c205 := (c200.wr W204 (own_Ch.safe C199 (c200).1.alike))
  have c206 := (c201.wr W204 l197)
  have c207 := (c202.other W204 (Nat.ne_of_lt (Nat.lt_of_lt_of_le (C_1).lt (Nat.le_of_eq g197.symm))))
  refine own_iloadN X204 hx hby own_d5_25 (pc' := 26) rfl rfl ?_
  refine own_iconst X204 hx hby own_d5_26 (pc' := 27) rfl (z := (2 : Int32)) (by decide) ?_
  refine own_icmpNo X204 hx hby own_d5_27 (pc' := 30) rfl (by decide) ?_
  refine own_aloadN X204 hx hby own_d5_30 (pc' := 31) rfl rfl rfl ?_
  refine own_iconst X204 hx hby own_d5_31 (pc' := 32) rfl (z := (2 : Int32)) (by decide) ?_
  refine own_aloadN X204 hx hby own_d5_32 (pc' := 33) rfl rfl rfl ?_
  refine own_iconst X204 hx hby own_d5_33 (pc' := 34) rfl (z := (2 : Int32)) (by decide) ?_
  refine own_caloadC X204 hx hby own_d5_34 (pc' := 35) rfl hZ e204 (c207) (by decide) (by decide) ?_
  intro z208 hz208
  refine own_castoreC X204 hx hby own_d5_35 (pc' := 36) rfl hZ e204 (C204) (by decide) (by decide) ((own_narB hz208).symm ▸ hz208) ?_
  intro T209 h209 X209 e209 W209 C209
  have N209 := Fr.snoc X209 N204 l197
  have c210 := (c205.wr W209 (own_Ch.safe C204 (c205).1.alike))
  have c211 := (c206.wr W209 l197)
  have c212 := (c207.other W209 (Nat.ne_of_lt (Nat.lt_of_lt_of_le (C_1).lt (Nat.le_of_eq g197.symm))))
  refine own_iloadN X209 hx hby own_d5_36 (pc' := 37) rfl rfl ?_
  refine own_iconst X209 hx hby own_d5_37 (pc' := 38) rfl (z := (3 : Int32)) (by decide) ?_
  refine own_icmpNo X209 hx hby own_d5_38 (pc' := 41) rfl (by decide) ?_
  refine own_aloadN X209 hx hby own_d5_41 (pc' := 42) rfl rfl rfl ?_
  refine own_iconst X209 hx hby own_d5_42 (pc' := 43) rfl (z := (3 : Int32)) (by decide) ?_
  refine own_aloadN X209 hx hby own_d5_43 (pc' := 44) rfl rfl rfl ?_
  refine own_iconst X209 hx hby own_d5_44 (pc' := 45) rfl (z := (3 : Int32)) (by decide) ?_
  refine own_caloadC X209 hx hby own_d5_45 (pc' := 46) rfl hZ e209 (c212) (by decide) (by decide) ?_
  intro z213 hz213
  refine own_castoreC X209 hx hby own_d5_46 (pc' := 47) rfl hZ e209 (C209) (by decide) (by decide) ((own_narB hz213).symm ▸ hz213) ?_
  intro T214 h214 X214 e214 W214 C214
  have N214 := Fr.snoc X214 N209 l197
  have c215 := (c210.wr W214 (own_Ch.safe C209 (c210).1.alike))
  have c216 := (c211.wr W214 l197)
  have c217 := (c212.other W214 (Nat.ne_of_lt (Nat.lt_of_lt_of_le (C_1).lt (Nat.le_of_eq g197.symm))))
  refine own_iloadN X214 hx hby own_d5_47 (pc' := 48) rfl rfl ?_
  refine own_iconst X214 hx hby own_d5_48 (pc' := 49) rfl (z := (4 : Int32)) (by decide) ?_
  refine own_icmpNo X214 hx hby own_d5_49 (pc' := 52) rfl (by decide) ?_
  refine own_aloadN X214 hx hby own_d5_52 (pc' := 53) rfl rfl rfl ?_
  refine own_iconst X214 hx hby own_d5_53 (pc' := 54) rfl (z := (4 : Int32)) (by decide) ?_
  refine own_aloadN X214 hx hby own_d5_54 (pc' := 55) rfl rfl rfl ?_
  refine own_iconst X214 hx hby own_d5_55 (pc' := 56) rfl (z := (4 : Int32)) (by decide) ?_
  refine own_caloadC X214 hx hby own_d5_56 (pc' := 57) rfl hZ e214 (c217) (by decide) (by decide) ?_
  intro z218 hz218
  refine own_castoreC X214 hx hby own_d5_57 (pc' := 58) rfl hZ e214 (C214) (by decide) (by decide) ((own_narB hz218).symm ▸ hz218) ?_
  intro T219 h219 X219 e219 W219 C219
  have N219 := Fr.snoc X219 N214 l197
  have c220 := (c215.wr W219 (own_Ch.safe C214 (c215).1.alike))
  have c221 := (c216.wr W219 l197)
  have c222 := (c217.other W219 (Nat.ne_of_lt (Nat.lt_of_lt_of_le (C_1).lt (Nat.le_of_eq g197.symm))))
  refine own_iloadN X219 hx hby own_d5_58 (pc' := 59) rfl rfl ?_
  refine own_iconst X219 hx hby own_d5_59 (pc' := 60) rfl (z := (5 : Int32)) (by decide) ?_
  refine own_icmpNo X219 hx hby own_d5_60 (pc' := 63) rfl (by decide) ?_
  refine own_aloadN X219 hx hby own_d5_63 (pc' := 64) rfl rfl rfl ?_
  refine own_iconst X219 hx hby own_d5_64 (pc' := 65) rfl (z := (5 : Int32)) (by decide) ?_
  refine own_aloadN X219 hx hby own_d5_65 (pc' := 66) rfl rfl rfl ?_
  refine own_iconst X219 hx hby own_d5_66 (pc' := 67) rfl (z := (5 : Int32)) (by decide) ?_
  refine own_caloadC X219 hx hby own_d5_67 (pc' := 68) rfl hZ e219 (c222) (by decide) (by decide) ?_
  intro z223 hz223
  refine own_castoreC X219 hx hby own_d5_68 (pc' := 69) rfl hZ e219 (C219) (by decide) (by decide) ((own_narB hz223).symm ▸ hz223) ?_
  intro T224 h224 X224 e224 W224 C224
  have N224 := Fr.snoc X224 N219 l197
  have c225 := (c220.wr W224 (own_Ch.safe C219 (c220).1.alike))
  have c226 := (c221.wr W224 l197)
  have c227 := (c222.other W224 (Nat.ne_of_lt (Nat.lt_of_lt_of_le (C_1).lt (Nat.le_of_eq g197.symm))))
  refine own_iloadN X224 hx hby own_d5_69 (pc' := 70) rfl rfl ?_
  refine own_bipush X224 hx hby own_d5_70 (pc' := 72) rfl (z := (6 : Int32)) (by decide) ?_
  refine own_icmpNo X224 hx hby own_d5_72 (pc' := 75) rfl (by decide) ?_
  refine own_aloadN X224 hx hby own_d5_75 (pc' := 76) rfl rfl rfl ?_
  refine own_bipush X224 hx hby own_d5_76 (pc' := 78) rfl (z := (6 : Int32)) (by decide) ?_
  refine own_aloadN X224 hx hby own_d5_78 (pc' := 79) rfl rfl rfl ?_
  refine own_bipush X224 hx hby own_d5_79 (pc' := 81) rfl (z := (6 : Int32)) (by decide) ?_
  refine own_caloadC X224 hx hby own_d5_81 (pc' := 82) rfl hZ e224 (c227) (by decide) (by decide) ?_
  intro z228 hz228
  refine own_castoreC X224 hx hby own_d5_82 (pc' := 83) rfl hZ e224 (C224) (by decide) (by decide) ((own_narB hz228).symm ▸ hz228) ?_
  intro T229 h229 X229 e229 W229 C229
  have N229 := Fr.snoc X229 N224 l197
  have c230 := (c225.wr W229 (own_Ch.safe C224 (c225).1.alike))
  have c231 := (c226.wr W229 l197)
  have c232 := (c227.other W229 (Nat.ne_of_lt (Nat.lt_of_lt_of_le (C_1).lt (Nat.le_of_eq g197.symm))))
  refine own_iloadN X229 hx hby own_d5_83 (pc' := 84) rfl rfl ?_
  refine own_bipush X229 hx hby own_d5_84 (pc' := 86) rfl (z := (7 : Int32)) (by decide) ?_
  refine own_icmpNo X229 hx hby own_d5_86 (pc' := 89) rfl (by decide) ?_
  refine own_aloadN X229 hx hby own_d5_89 (pc' := 90) rfl rfl rfl ?_
  refine own_bipush X229 hx hby own_d5_90 (pc' := 92) rfl (z := (7 : Int32)) (by decide) ?_
  refine own_aloadN X229 hx hby own_d5_92 (pc' := 93) rfl rfl rfl ?_
  refine own_bipush X229 hx hby own_d5_93 (pc' := 95) rfl (z := (7 : Int32)) (by decide) ?_
  refine own_caloadC X229 hx hby own_d5_95 (pc' := 96) rfl hZ e229 (c232) (by decide) (by decide) ?_
  intro z233 hz233
  refine own_castoreC X229 hx hby own_d5_96 (pc' := 97) rfl hZ e229 (C229) (by decide) (by decide) ((own_narB hz233).symm ▸ hz233) ?_
  intro T234 h234 X234 e234 W234 C234
  have N234 := Fr.snoc X234 N229 l197
  have c235 := (c230.wr W234 (own_Ch.safe C229 (c230).1.alike))
  have c236 := (c231.wr W234 l197)
  have c237 := (c232.other W234 (Nat.ne_of_lt (Nat.lt_of_lt_of_le (C_1).lt (Nat.le_of_eq g197.symm))))
  refine own_iloadN X234 hx hby own_d5_97 (pc' := 98) rfl rfl ?_
  refine own_bipush X234 hx hby own_d5_98 (pc' := 100) rfl (z := (8 : Int32)) (by decide) ?_
  refine own_icmpYes X234 hx hby own_d5_100 (pc' := 111) (by decide) (by decide) ?_
  refine own_iloadN X234 hx hby own_d5_111 (pc' := 112) rfl rfl ?_
  refine own_bipush X234 hx hby own_d5_112 (pc' := 114) rfl (z := (9 : Int32)) (by decide) ?_
  refine own_icmpYes X234 hx hby own_d5_114 (pc' := 125) (by decide) (by decide) ?_
  refine own_iloadN X234 hx hby own_d5_125 (pc' := 126) rfl rfl ?_
  refine own_bipush X234 hx hby own_d5_126 (pc' := 128) rfl (z := (10 : Int32)) (by decide) ?_
  refine own_icmpYes X234 hx hby own_d5_128 (pc' := 139) (by decide) (by decide) ?_
  refine own_iloadN X234 hx hby own_d5_139 (pc' := 140) rfl rfl ?_
  refine own_bipush X234 hx hby own_d5_140 (pc' := 142) rfl (z := (11 : Int32)) (by decide) ?_
  refine own_icmpYes X234 hx hby own_d5_142 (pc' := 153) (by decide) (by decide) ?_
  refine own_iloadN X234 hx hby own_d5_153 (pc' := 154) rfl rfl ?_
  refine own_bipush X234 hx hby own_d5_154 (pc' := 156) rfl (z := (12 : Int32)) (by decide) ?_
  refine own_icmpYes X234 hx hby own_d5_156 (pc' := 167) (by decide) (by decide) ?_
  refine own_iloadN X234 hx hby own_d5_167 (pc' := 168) rfl rfl ?_
  refine own_bipush X234 hx hby own_d5_168 (pc' := 170) rfl (z := (13 : Int32)) (by decide) ?_
  refine own_icmpYes X234 hx hby own_d5_170 (pc' := 181) (by decide) (by decide) ?_
  refine own_iloadN X234 hx hby own_d5_181 (pc' := 182) rfl rfl ?_
  refine own_bipush X234 hx hby own_d5_182 (pc' := 184) rfl (z := (14 : Int32)) (by decide) ?_
  refine own_icmpYes X234 hx hby own_d5_184 (pc' := 195) (by decide) (by decide) ?_
  refine own_new X234 hx hby own_d5_195 (pc' := 198) rfl hZ hown (hw _ (List.mem_of_getElem? (i := 44) rfl)) (hw _ (List.mem_of_getElem? (i := 34) rfl)) (hw _ (List.mem_of_getElem? (i := 31) rfl)) e234 (by decide) (by decide) ?_
  intro T238 h238 b238 X238 e238 g238 E238 A238 D238
  have F238_value : Fld Z h238 b238 "java/lang/String" "value" "[B" .null := D238 (Or.inr (hw _ (List.mem_of_getElem? (i := 36) rfl))) (ty := (.array .byte)) (by decide)
  have F238_coder : Fld Z h238 b238 "java/lang/String" "coder" "B" (.int (0 : Int32)) := D238 (Or.inr (hw _ (List.mem_of_getElem? (i := 37) rfl))) (ty := .byte) (by decide)
  have l238 : n0 ≤ b238 := (Nat.le_trans Z0 (Nat.le_trans (Nat.le_trans (Nat.le_trans (Nat.le_trans (Nat.le_trans (Nat.le_trans (Nat.le_trans (Nat.le_trans (Nat.le_trans (Nat.le_trans (Nat.le_refl _) E197.1) (Nat.le_of_eq (Wr.size W199).symm)) (Nat.le_of_eq (Wr.size W204).symm)) (Nat.le_of_eq (Wr.size W209).symm)) (Nat.le_of_eq (Wr.size W214).symm)) (Nat.le_of_eq (Wr.size W219).symm)) (Nat.le_of_eq (Wr.size W224).symm)) (Nat.le_of_eq (Wr.size W229).symm)) (Nat.le_of_eq (Wr.size W234).symm)) (Nat.le_of_eq g238.symm)))
  refine own_dup X238 hx hby own_d5_198 (pc' := 199) rfl rfl ?_
  refine own_aloadN X238 hx hby own_d5_199 (pc' := 200) rfl rfl rfl ?_
  refine own_callSpB X238 hx hZ (own_strB (W := 1) hZ hws (hw _ (List.mem_of_getElem? (i := 34) rfl)) l238 (own_Z0 ((c236.ext E238))) (A238) (F238_value) (F238_coder) ((C234.ext E238)) (S_S.ext ((c236.ext E238)).2) hS (by decide) (by decide) (by decide) (by decide)) rfl hown (hw _ (List.mem_of_getElem? (i := 45) rfl)) (hw _ (List.mem_of_getElem? (i := 46) rfl)) (hw _ (List.mem_of_getElem? (i := 47) rfl)) (by decide) (by rw [hml]; rfl) (argsL := [(.ref b197)]) (rest := [(.ref b238)]) rfl (lenOf own_pd3 rfl) rfl (Nat.le_of_eq rfl) (hb hby own_d5_200) e238 (by decide) (by decide) ?_
  intro v239 T239 L239 X239 hQ239
  obtain ⟨hv239, N239q, K239, cs239, F239⟩ := hQ239
  subst hv239
  have N239 := Fr.app N234 N239q
  have c240 := ((c235.ext E238).keep K239 (allS (Safe.ext E238 (c235).ch (Safe.new (Nat.le_of_eq g238.symm))) all0))
  have c241 := ((c236.ext E238).keep K239 (allS l238 all0))
  show own_Go p.tables e below (T239.setTop (mkF m 203 #[.val (.ref a1), .val (.int (8 : Int32)), .val (.ref b197)] [(.ref b238)])) _
  exact own_retAW X239 hx hEL (c240) rfl hret rfl rfl (hb hby own_d5_203) hlk (by decide) (by decide) ⟨_, cs239, rfl, N239, ((((((((((((Keep.refl h0 []).ext E197).wr W199 (Or.inr (Nat.le_trans (Nat.le_refl _) (Nat.le_of_eq g197.symm)))).wr W204 (Or.inr (Nat.le_trans (Nat.le_refl _) (Nat.le_of_eq g197.symm)))).wr W209 (Or.inr (Nat.le_trans (Nat.le_refl _) (Nat.le_of_eq g197.symm)))).wr W214 (Or.inr (Nat.le_trans (Nat.le_refl _) (Nat.le_of_eq g197.symm)))).wr W219 (Or.inr (Nat.le_trans (Nat.le_refl _) (Nat.le_of_eq g197.symm)))).wr W224 (Or.inr (Nat.le_trans (Nat.le_refl _) (Nat.le_of_eq g197.symm)))).wr W229 (Or.inr (Nat.le_trans (Nat.le_refl _) (Nat.le_of_eq g197.symm)))).wr W234 (Or.inr (Nat.le_trans (Nat.le_refl _) (Nat.le_of_eq g197.symm)))).ext E238).trans K239 (allS (Or.inr (Nat.le_trans (Nat.le_trans (Nat.le_trans (Nat.le_trans (Nat.le_trans (Nat.le_trans (Nat.le_trans (Nat.le_trans (Nat.le_trans (Nat.le_trans (Nat.le_refl _) E197.1) (Nat.le_of_eq (Wr.size W199).symm)) (Nat.le_of_eq (Wr.size W204).symm)) (Nat.le_of_eq (Wr.size W209).symm)) (Nat.le_of_eq (Wr.size W214).symm)) (Nat.le_of_eq (Wr.size W219).symm)) (Nat.le_of_eq (Wr.size W224).symm)) (Nat.le_of_eq (Wr.size W229).symm)) (Nat.le_of_eq (Wr.size W234).symm)) (Nat.le_of_eq g238.symm))) all0)), F239⟩
theorem own_d5_103 : decode method_3_code 103 = .ok (.aload_n 2, 1) := by decide +kernel
theorem own_d5_104 : decode method_3_code 104 = .ok (.bipush 8, 2) := by decide +kernel
theorem own_d5_106 : decode method_3_code 106 = .ok (.aload_n 0, 1) := by decide +kernel
theorem own_d5_107 : decode method_3_code 107 = .ok (.bipush 8, 2) := by decide +kernel
theorem own_d5_109 : decode method_3_code 109 = .ok (.caload, 1) := by decide +kernel
theorem own_d5_110 : decode method_3_code 110 = .ok (.castore, 1) := by decide +kernel
theorem own_ef_rm_px9 (m : MethodId) (a1 : Addr) : entryFrame m #[(.ref a1), (.int (9 : Int32))] 3 = mkF m 0 #[.val (.ref a1), .val (.int (9 : Int32)), .unset] [] := by first | (simp [entryFrame, mkF, argsToLocals, Value.category]; done) | rfl
def Qrm_px9 (Z : State) (a1 : Addr) (gS : Int32) (h0 : Heap) (n0 : Nat) (v : Option Value) (h : Heap) (L : List Loc) : Prop := ∃ x cs, v = some (.ref x) ∧ Fr n0 L ∧ Keep h0 h [] ∧ own_Str Z h h.size x cs
set_option maxRecDepth 65536 in
set_option maxHeartbeats 40000000 in
theorem rm_px9 (l : Launch) (Z : State) (a0 : Array Value) (hw : ∀ d ∈ tables_1, d.before a0 Z = true) (ws : List Jvm.Cond) (a1 : Addr) (gS : Int32) (h0 : Heap) (n0 : Nat) (hEL : EW Z a0 own_EL) (O_0 : Old Z n0 h0) (S_S : Sta Z Z.heap "java/lang/String" "COMPACT_STRINGS" "Z" (.int gS)) (hS : ¬ gS = 0) (C_1 : own_Ch Z h0 a1 16) :
    own_MetW l (⟨"com/example/tranchebook/tranchebook/model/FeeByRateNamePinLaw", "prefix", "([CI)Ljava/lang/String;"⟩ : MethodName) method_3_code 3 (some (.object "java/lang/String")) ws ({ frames := 5, cells := 7, slots := 44, locals := 80 } : Room) #[(.ref a1), (.int (9 : Int32))] Z own_EL h0 (Qrm_px9 Z a1 gS h0 n0) := by
  refine own_bodyW own_pn5 ?_
  intro p e s m below meth c T0 X0 hx hby hml hnm hret hlk W0 e0
  have hZ := W0.1
  have hown := W0.2.1
  have N0 := Fr.nil n0
  refine own_st (fun t k => castTop (own_ef_rm_px9 m a1) k) ?_
  show own_Go p.tables e below (T0.setTop (mkF m 0 #[.val (.ref a1), .val (.int (9 : Int32)), .unset] [])) _
  have Z0 := own_Z0 O_0
  have hws : ∀ d ∈ StrChars.Road.words, d.before a0 Z = true := fun d hd => hw d ((by decide +kernel : ∀ d ∈ StrChars.Road.words, d ∈ tables_1) d hd)
  refine own_iloadN X0 hx hby own_d5_0 (pc' := 1) rfl rfl ?_
  refine own_newA X0 hx hby own_d5_1 (pc' := 3) rfl hZ (hw _ (List.mem_of_getElem? (i := 0) rfl)) e0 (by decide) (cap := 9) (by decide) (by decide) (by decide) (by decide) (vs := List.replicate 9 (.int 0)) (by rfl) ?_
  intro T242 h242 b242 X242 e242 g242 E242 A242
  have c242 := own_Ch.new A242
  have l242 : n0 ≤ b242 := (Nat.le_trans Z0 (Nat.le_trans (Nat.le_refl _) (Nat.le_of_eq g242.symm)))
  refine own_astoreN X242 hx hby own_d5_3 (pc' := 4) rfl rfl (Ls' := #[.val (.ref a1), .val (.int (9 : Int32)), .val (.ref b242)]) rfl ?_
  refine own_iloadN X242 hx hby own_d5_4 (pc' := 5) rfl rfl ?_
  refine own_ifNo X242 hx hby own_d5_5 (pc' := 8) rfl (by decide) ?_
  refine own_aloadN X242 hx hby own_d5_8 (pc' := 9) rfl rfl rfl ?_
  refine own_iconst X242 hx hby own_d5_9 (pc' := 10) rfl (z := (0 : Int32)) (by decide) ?_
  refine own_aloadN X242 hx hby own_d5_10 (pc' := 11) rfl rfl rfl ?_
  refine own_iconst X242 hx hby own_d5_11 (pc' := 12) rfl (z := (0 : Int32)) (by decide) ?_
  refine own_caloadC X242 hx hby own_d5_12 (pc' := 13) rfl hZ e242 ((C_1.ext E242)) (by decide) (by decide) ?_
  intro z243 hz243
  refine own_castoreC X242 hx hby own_d5_13 (pc' := 14) rfl hZ e242 (c242) (by decide) (by decide) ((own_narB hz243).symm ▸ hz243) ?_
  intro T244 h244 X244 e244 W244 C244
  have N244 := Fr.snoc X244 N0 l242
  have c245 := ((W0.ext E242).wr W244 (own_Ch.safe c242 ((W0.ext E242)).1.alike))
  have c246 := ((O_0.ext E242).wr W244 l242)
  have c247 := ((C_1.ext E242).other W244 (Nat.ne_of_lt (Nat.lt_of_lt_of_le (C_1).lt (Nat.le_of_eq g242.symm))))
  refine own_iloadN X244 hx hby own_d5_14 (pc' := 15) rfl rfl ?_
  refine own_iconst X244 hx hby own_d5_15 (pc' := 16) rfl (z := (1 : Int32)) (by decide) ?_
  refine own_icmpNo X244 hx hby own_d5_16 (pc' := 19) rfl (by decide) ?_
  refine own_aloadN X244 hx hby own_d5_19 (pc' := 20) rfl rfl rfl ?_
  refine own_iconst X244 hx hby own_d5_20 (pc' := 21) rfl (z := (1 : Int32)) (by decide) ?_
  refine own_aloadN X244 hx hby own_d5_21 (pc' := 22) rfl rfl rfl ?_
  refine own_iconst X244 hx hby own_d5_22 (pc' := 23) rfl (z := (1 : Int32)) (by decide) ?_
  refine own_caloadC X244 hx hby own_d5_23 (pc' := 24) rfl hZ e244 (c247) (by decide) (by decide) ?_
  intro z248 hz248
  refine own_castoreC X244 hx hby own_d5_24 (pc' := 25) rfl hZ e244 (C244) (by decide) (by decide) ((own_narB hz248).symm ▸ hz248) ?_
  intro T249 h249 X249 e249 W249 C249
  have N249 := Fr.snoc X249 N244 l242
  have c250 := (c245.wr W249 (own_Ch.safe C244 (c245).1.alike))
  have c251 := (c246.wr W249 l242)
  have c252 := (c247.other W249 (Nat.ne_of_lt (Nat.lt_of_lt_of_le (C_1).lt (Nat.le_of_eq g242.symm))))
  refine own_iloadN X249 hx hby own_d5_25 (pc' := 26) rfl rfl ?_
  refine own_iconst X249 hx hby own_d5_26 (pc' := 27) rfl (z := (2 : Int32)) (by decide) ?_
  refine own_icmpNo X249 hx hby own_d5_27 (pc' := 30) rfl (by decide) ?_
  refine own_aloadN X249 hx hby own_d5_30 (pc' := 31) rfl rfl rfl ?_
  refine own_iconst X249 hx hby own_d5_31 (pc' := 32) rfl (z := (2 : Int32)) (by decide) ?_
  refine own_aloadN X249 hx hby own_d5_32 (pc' := 33) rfl rfl rfl ?_
  refine own_iconst X249 hx hby own_d5_33 (pc' := 34) rfl (z := (2 : Int32)) (by decide) ?_
  refine own_caloadC X249 hx hby own_d5_34 (pc' := 35) rfl hZ e249 (c252) (by decide) (by decide) ?_
  intro z253 hz253
  refine own_castoreC X249 hx hby own_d5_35 (pc' := 36) rfl hZ e249 (C249) (by decide) (by decide) ((own_narB hz253).symm ▸ hz253) ?_
  intro T254 h254 X254 e254 W254 C254
  have N254 := Fr.snoc X254 N249 l242
  have c255 := (c250.wr W254 (own_Ch.safe C249 (c250).1.alike))
  have c256 := (c251.wr W254 l242)
  have c257 := (c252.other W254 (Nat.ne_of_lt (Nat.lt_of_lt_of_le (C_1).lt (Nat.le_of_eq g242.symm))))
  refine own_iloadN X254 hx hby own_d5_36 (pc' := 37) rfl rfl ?_
  refine own_iconst X254 hx hby own_d5_37 (pc' := 38) rfl (z := (3 : Int32)) (by decide) ?_
  refine own_icmpNo X254 hx hby own_d5_38 (pc' := 41) rfl (by decide) ?_
  refine own_aloadN X254 hx hby own_d5_41 (pc' := 42) rfl rfl rfl ?_
  refine own_iconst X254 hx hby own_d5_42 (pc' := 43) rfl (z := (3 : Int32)) (by decide) ?_
  refine own_aloadN X254 hx hby own_d5_43 (pc' := 44) rfl rfl rfl ?_
  refine own_iconst X254 hx hby own_d5_44 (pc' := 45) rfl (z := (3 : Int32)) (by decide) ?_
  refine own_caloadC X254 hx hby own_d5_45 (pc' := 46) rfl hZ e254 (c257) (by decide) (by decide) ?_
  intro z258 hz258
  refine own_castoreC X254 hx hby own_d5_46 (pc' := 47) rfl hZ e254 (C254) (by decide) (by decide) ((own_narB hz258).symm ▸ hz258) ?_
  intro T259 h259 X259 e259 W259 C259
  have N259 := Fr.snoc X259 N254 l242
  have c260 := (c255.wr W259 (own_Ch.safe C254 (c255).1.alike))
  have c261 := (c256.wr W259 l242)
  have c262 := (c257.other W259 (Nat.ne_of_lt (Nat.lt_of_lt_of_le (C_1).lt (Nat.le_of_eq g242.symm))))
  refine own_iloadN X259 hx hby own_d5_47 (pc' := 48) rfl rfl ?_
  refine own_iconst X259 hx hby own_d5_48 (pc' := 49) rfl (z := (4 : Int32)) (by decide) ?_
  refine own_icmpNo X259 hx hby own_d5_49 (pc' := 52) rfl (by decide) ?_
  refine own_aloadN X259 hx hby own_d5_52 (pc' := 53) rfl rfl rfl ?_
  refine own_iconst X259 hx hby own_d5_53 (pc' := 54) rfl (z := (4 : Int32)) (by decide) ?_
  refine own_aloadN X259 hx hby own_d5_54 (pc' := 55) rfl rfl rfl ?_
  refine own_iconst X259 hx hby own_d5_55 (pc' := 56) rfl (z := (4 : Int32)) (by decide) ?_
  refine own_caloadC X259 hx hby own_d5_56 (pc' := 57) rfl hZ e259 (c262) (by decide) (by decide) ?_
  intro z263 hz263
  refine own_castoreC X259 hx hby own_d5_57 (pc' := 58) rfl hZ e259 (C259) (by decide) (by decide) ((own_narB hz263).symm ▸ hz263) ?_
  intro T264 h264 X264 e264 W264 C264
  have N264 := Fr.snoc X264 N259 l242
  have c265 := (c260.wr W264 (own_Ch.safe C259 (c260).1.alike))
  have c266 := (c261.wr W264 l242)
  have c267 := (c262.other W264 (Nat.ne_of_lt (Nat.lt_of_lt_of_le (C_1).lt (Nat.le_of_eq g242.symm))))
  refine own_iloadN X264 hx hby own_d5_58 (pc' := 59) rfl rfl ?_
  refine own_iconst X264 hx hby own_d5_59 (pc' := 60) rfl (z := (5 : Int32)) (by decide) ?_
  refine own_icmpNo X264 hx hby own_d5_60 (pc' := 63) rfl (by decide) ?_
  refine own_aloadN X264 hx hby own_d5_63 (pc' := 64) rfl rfl rfl ?_
  refine own_iconst X264 hx hby own_d5_64 (pc' := 65) rfl (z := (5 : Int32)) (by decide) ?_
  refine own_aloadN X264 hx hby own_d5_65 (pc' := 66) rfl rfl rfl ?_
  refine own_iconst X264 hx hby own_d5_66 (pc' := 67) rfl (z := (5 : Int32)) (by decide) ?_
  refine own_caloadC X264 hx hby own_d5_67 (pc' := 68) rfl hZ e264 (c267) (by decide) (by decide) ?_
  intro z268 hz268
  refine own_castoreC X264 hx hby own_d5_68 (pc' := 69) rfl hZ e264 (C264) (by decide) (by decide) ((own_narB hz268).symm ▸ hz268) ?_
  intro T269 h269 X269 e269 W269 C269
  have N269 := Fr.snoc X269 N264 l242
  have c270 := (c265.wr W269 (own_Ch.safe C264 (c265).1.alike))
  have c271 := (c266.wr W269 l242)
  have c272 := (c267.other W269 (Nat.ne_of_lt (Nat.lt_of_lt_of_le (C_1).lt (Nat.le_of_eq g242.symm))))
  refine own_iloadN X269 hx hby own_d5_69 (pc' := 70) rfl rfl ?_
  refine own_bipush X269 hx hby own_d5_70 (pc' := 72) rfl (z := (6 : Int32)) (by decide) ?_
  refine own_icmpNo X269 hx hby own_d5_72 (pc' := 75) rfl (by decide) ?_
  refine own_aloadN X269 hx hby own_d5_75 (pc' := 76) rfl rfl rfl ?_
  refine own_bipush X269 hx hby own_d5_76 (pc' := 78) rfl (z := (6 : Int32)) (by decide) ?_
  refine own_aloadN X269 hx hby own_d5_78 (pc' := 79) rfl rfl rfl ?_
  refine own_bipush X269 hx hby own_d5_79 (pc' := 81) rfl (z := (6 : Int32)) (by decide) ?_
  refine own_caloadC X269 hx hby own_d5_81 (pc' := 82) rfl hZ e269 (c272) (by decide) (by decide) ?_
  intro z273 hz273
  refine own_castoreC X269 hx hby own_d5_82 (pc' := 83) rfl hZ e269 (C269) (by decide) (by decide) ((own_narB hz273).symm ▸ hz273) ?_
  intro T274 h274 X274 e274 W274 C274
  have N274 := Fr.snoc X274 N269 l242
  have c275 := (c270.wr W274 (own_Ch.safe C269 (c270).1.alike))
  have c276 := (c271.wr W274 l242)
  have c277 := (c272.other W274 (Nat.ne_of_lt (Nat.lt_of_lt_of_le (C_1).lt (Nat.le_of_eq g242.symm))))
  refine own_iloadN X274 hx hby own_d5_83 (pc' := 84) rfl rfl ?_
  refine own_bipush X274 hx hby own_d5_84 (pc' := 86) rfl (z := (7 : Int32)) (by decide) ?_
  refine own_icmpNo X274 hx hby own_d5_86 (pc' := 89) rfl (by decide) ?_
  refine own_aloadN X274 hx hby own_d5_89 (pc' := 90) rfl rfl rfl ?_
  refine own_bipush X274 hx hby own_d5_90 (pc' := 92) rfl (z := (7 : Int32)) (by decide) ?_
  refine own_aloadN X274 hx hby own_d5_92 (pc' := 93) rfl rfl rfl ?_
  refine own_bipush X274 hx hby own_d5_93 (pc' := 95) rfl (z := (7 : Int32)) (by decide) ?_
  refine own_caloadC X274 hx hby own_d5_95 (pc' := 96) rfl hZ e274 (c277) (by decide) (by decide) ?_
  intro z278 hz278
  refine own_castoreC X274 hx hby own_d5_96 (pc' := 97) rfl hZ e274 (C274) (by decide) (by decide) ((own_narB hz278).symm ▸ hz278) ?_
  intro T279 h279 X279 e279 W279 C279
  have N279 := Fr.snoc X279 N274 l242
  have c280 := (c275.wr W279 (own_Ch.safe C274 (c275).1.alike))
  have c281 := (c276.wr W279 l242)
  have c282 := (c277.other W279 (Nat.ne_of_lt (Nat.lt_of_lt_of_le (C_1).lt (Nat.le_of_eq g242.symm))))
  refine own_iloadN X279 hx hby own_d5_97 (pc' := 98) rfl rfl ?_
  refine own_bipush X279 hx hby own_d5_98 (pc' := 100) rfl (z := (8 : Int32)) (by decide) ?_
  refine own_icmpNo X279 hx hby own_d5_100 (pc' := 103) rfl (by decide) ?_
  refine own_aloadN X279 hx hby own_d5_103 (pc' := 104) rfl rfl rfl ?_
  refine own_bipush X279 hx hby own_d5_104 (pc' := 106) rfl (z := (8 : Int32)) (by decide) ?_
  refine own_aloadN X279 hx hby own_d5_106 (pc' := 107) rfl rfl rfl ?_
  refine own_bipush X279 hx hby own_d5_107 (pc' := 109) rfl (z := (8 : Int32)) (by decide) ?_
  refine own_caloadC X279 hx hby own_d5_109 (pc' := 110) rfl hZ e279 (c282) (by decide) (by decide) ?_
  intro z283 hz283
  refine own_castoreC X279 hx hby own_d5_110 (pc' := 111) rfl hZ e279 (C279) (by decide) (by decide) ((own_narB hz283).symm ▸ hz283) ?_
  intro T284 h284 X284 e284 W284 C284
  have N284 := Fr.snoc X284 N279 l242
  have c285 := (c280.wr W284 (own_Ch.safe C279 (c280).1.alike))
  have c286 := (c281.wr W284 l242)
  have c287 := (c282.other W284 (Nat.ne_of_lt (Nat.lt_of_lt_of_le (C_1).lt (Nat.le_of_eq g242.symm))))
  refine own_iloadN X284 hx hby own_d5_111 (pc' := 112) rfl rfl ?_
  refine own_bipush X284 hx hby own_d5_112 (pc' := 114) rfl (z := (9 : Int32)) (by decide) ?_
  refine own_icmpYes X284 hx hby own_d5_114 (pc' := 125) (by decide) (by decide) ?_
  refine own_iloadN X284 hx hby own_d5_125 (pc' := 126) rfl rfl ?_
  refine own_bipush X284 hx hby own_d5_126 (pc' := 128) rfl (z := (10 : Int32)) (by decide) ?_
  refine own_icmpYes X284 hx hby own_d5_128 (pc' := 139) (by decide) (by decide) ?_
  refine own_iloadN X284 hx hby own_d5_139 (pc' := 140) rfl rfl ?_
  refine own_bipush X284 hx hby own_d5_140 (pc' := 142) rfl (z := (11 : Int32)) (by decide) ?_
  refine own_icmpYes X284 hx hby own_d5_142 (pc' := 153) (by decide) (by decide) ?_
  refine own_iloadN X284 hx hby own_d5_153 (pc' := 154) rfl rfl ?_
  refine own_bipush X284 hx hby own_d5_154 (pc' := 156) rfl (z := (12 : Int32)) (by decide) ?_
  refine own_icmpYes X284 hx hby own_d5_156 (pc' := 167) (by decide) (by decide) ?_
  refine own_iloadN X284 hx hby own_d5_167 (pc' := 168) rfl rfl ?_
  refine own_bipush X284 hx hby own_d5_168 (pc' := 170) rfl (z := (13 : Int32)) (by decide) ?_
  refine own_icmpYes X284 hx hby own_d5_170 (pc' := 181) (by decide) (by decide) ?_
  refine own_iloadN X284 hx hby own_d5_181 (pc' := 182) rfl rfl ?_
  refine own_bipush X284 hx hby own_d5_182 (pc' := 184) rfl (z := (14 : Int32)) (by decide) ?_
  refine own_icmpYes X284 hx hby own_d5_184 (pc' := 195) (by decide) (by decide) ?_
  refine own_new X284 hx hby own_d5_195 (pc' := 198) rfl hZ hown (hw _ (List.mem_of_getElem? (i := 44) rfl)) (hw _ (List.mem_of_getElem? (i := 34) rfl)) (hw _ (List.mem_of_getElem? (i := 31) rfl)) e284 (by decide) (by decide) ?_
  intro T288 h288 b288 X288 e288 g288 E288 A288 D288
  have F288_value : Fld Z h288 b288 "java/lang/String" "value" "[B" .null := D288 (Or.inr (hw _ (List.mem_of_getElem? (i := 36) rfl))) (ty := (.array .byte)) (by decide)
  have F288_coder : Fld Z h288 b288 "java/lang/String" "coder" "B" (.int (0 : Int32)) := D288 (Or.inr (hw _ (List.mem_of_getElem? (i := 37) rfl))) (ty := .byte) (by decide)
  have l288 : n0 ≤ b288 := (Nat.le_trans Z0 (Nat.le_trans (Nat.le_trans (Nat.le_trans (Nat.le_trans (Nat.le_trans (Nat.le_trans (Nat.le_trans (Nat.le_trans (Nat.le_trans (Nat.le_trans (Nat.le_trans (Nat.le_refl _) E242.1) (Nat.le_of_eq (Wr.size W244).symm)) (Nat.le_of_eq (Wr.size W249).symm)) (Nat.le_of_eq (Wr.size W254).symm)) (Nat.le_of_eq (Wr.size W259).symm)) (Nat.le_of_eq (Wr.size W264).symm)) (Nat.le_of_eq (Wr.size W269).symm)) (Nat.le_of_eq (Wr.size W274).symm)) (Nat.le_of_eq (Wr.size W279).symm)) (Nat.le_of_eq (Wr.size W284).symm)) (Nat.le_of_eq g288.symm)))
  refine own_dup X288 hx hby own_d5_198 (pc' := 199) rfl rfl ?_
  refine own_aloadN X288 hx hby own_d5_199 (pc' := 200) rfl rfl rfl ?_
  refine own_callSpB X288 hx hZ (own_strB (W := 1) hZ hws (hw _ (List.mem_of_getElem? (i := 34) rfl)) l288 (own_Z0 ((c286.ext E288))) (A288) (F288_value) (F288_coder) ((C284.ext E288)) (S_S.ext ((c286.ext E288)).2) hS (by decide) (by decide) (by decide) (by decide)) rfl hown (hw _ (List.mem_of_getElem? (i := 45) rfl)) (hw _ (List.mem_of_getElem? (i := 46) rfl)) (hw _ (List.mem_of_getElem? (i := 47) rfl)) (by decide) (by rw [hml]; rfl) (argsL := [(.ref b242)]) (rest := [(.ref b288)]) rfl (lenOf own_pd3 rfl) rfl (Nat.le_of_eq rfl) (hb hby own_d5_200) e288 (by decide) (by decide) ?_
  intro v289 T289 L289 X289 hQ289
  obtain ⟨hv289, N289q, K289, cs289, F289⟩ := hQ289
  subst hv289
  have N289 := Fr.app N284 N289q
  have c290 := ((c285.ext E288).keep K289 (allS (Safe.ext E288 (c285).ch (Safe.new (Nat.le_of_eq g288.symm))) all0))
  have c291 := ((c286.ext E288).keep K289 (allS l288 all0))
  show own_Go p.tables e below (T289.setTop (mkF m 203 #[.val (.ref a1), .val (.int (9 : Int32)), .val (.ref b242)] [(.ref b288)])) _
  exact own_retAW X289 hx hEL (c290) rfl hret rfl rfl (hb hby own_d5_203) hlk (by decide) (by decide) ⟨_, cs289, rfl, N289, (((((((((((((Keep.refl h0 []).ext E242).wr W244 (Or.inr (Nat.le_trans (Nat.le_refl _) (Nat.le_of_eq g242.symm)))).wr W249 (Or.inr (Nat.le_trans (Nat.le_refl _) (Nat.le_of_eq g242.symm)))).wr W254 (Or.inr (Nat.le_trans (Nat.le_refl _) (Nat.le_of_eq g242.symm)))).wr W259 (Or.inr (Nat.le_trans (Nat.le_refl _) (Nat.le_of_eq g242.symm)))).wr W264 (Or.inr (Nat.le_trans (Nat.le_refl _) (Nat.le_of_eq g242.symm)))).wr W269 (Or.inr (Nat.le_trans (Nat.le_refl _) (Nat.le_of_eq g242.symm)))).wr W274 (Or.inr (Nat.le_trans (Nat.le_refl _) (Nat.le_of_eq g242.symm)))).wr W279 (Or.inr (Nat.le_trans (Nat.le_refl _) (Nat.le_of_eq g242.symm)))).wr W284 (Or.inr (Nat.le_trans (Nat.le_refl _) (Nat.le_of_eq g242.symm)))).ext E288).trans K289 (allS (Or.inr (Nat.le_trans (Nat.le_trans (Nat.le_trans (Nat.le_trans (Nat.le_trans (Nat.le_trans (Nat.le_trans (Nat.le_trans (Nat.le_trans (Nat.le_trans (Nat.le_trans (Nat.le_refl _) E242.1) (Nat.le_of_eq (Wr.size W244).symm)) (Nat.le_of_eq (Wr.size W249).symm)) (Nat.le_of_eq (Wr.size W254).symm)) (Nat.le_of_eq (Wr.size W259).symm)) (Nat.le_of_eq (Wr.size W264).symm)) (Nat.le_of_eq (Wr.size W269).symm)) (Nat.le_of_eq (Wr.size W274).symm)) (Nat.le_of_eq (Wr.size W279).symm)) (Nat.le_of_eq (Wr.size W284).symm)) (Nat.le_of_eq g288.symm))) all0)), F289⟩
theorem own_d5_117 : decode method_3_code 117 = .ok (.aload_n 2, 1) := by decide +kernel
theorem own_d5_118 : decode method_3_code 118 = .ok (.bipush 9, 2) := by decide +kernel
theorem own_d5_120 : decode method_3_code 120 = .ok (.aload_n 0, 1) := by decide +kernel
theorem own_d5_121 : decode method_3_code 121 = .ok (.bipush 9, 2) := by decide +kernel
theorem own_d5_123 : decode method_3_code 123 = .ok (.caload, 1) := by decide +kernel
theorem own_d5_124 : decode method_3_code 124 = .ok (.castore, 1) := by decide +kernel
theorem own_ef_rm_px10 (m : MethodId) (a1 : Addr) : entryFrame m #[(.ref a1), (.int (10 : Int32))] 3 = mkF m 0 #[.val (.ref a1), .val (.int (10 : Int32)), .unset] [] := by first | (simp [entryFrame, mkF, argsToLocals, Value.category]; done) | rfl
def Qrm_px10 (Z : State) (a1 : Addr) (gS : Int32) (h0 : Heap) (n0 : Nat) (v : Option Value) (h : Heap) (L : List Loc) : Prop := ∃ x cs, v = some (.ref x) ∧ Fr n0 L ∧ Keep h0 h [] ∧ own_Str Z h h.size x cs
set_option maxRecDepth 65536 in
set_option maxHeartbeats 40000000 in
theorem rm_px10 (l : Launch) (Z : State) (a0 : Array Value) (hw : ∀ d ∈ tables_1, d.before a0 Z = true) (ws : List Jvm.Cond) (a1 : Addr) (gS : Int32) (h0 : Heap) (n0 : Nat) (hEL : EW Z a0 own_EL) (O_0 : Old Z n0 h0) (S_S : Sta Z Z.heap "java/lang/String" "COMPACT_STRINGS" "Z" (.int gS)) (hS : ¬ gS = 0) (C_1 : own_Ch Z h0 a1 16) :
    own_MetW l (⟨"com/example/tranchebook/tranchebook/model/FeeByRateNamePinLaw", "prefix", "([CI)Ljava/lang/String;"⟩ : MethodName) method_3_code 3 (some (.object "java/lang/String")) ws ({ frames := 5, cells := 7, slots := 44, locals := 80 } : Room) #[(.ref a1), (.int (10 : Int32))] Z own_EL h0 (Qrm_px10 Z a1 gS h0 n0) := by
  refine own_bodyW own_pn5 ?_
  intro p e s m below meth c T0 X0 hx hby hml hnm hret hlk W0 e0
  have hZ := W0.1
  have hown := W0.2.1
  have N0 := Fr.nil n0
  refine own_st (fun t k => castTop (own_ef_rm_px10 m a1) k) ?_
  show own_Go p.tables e below (T0.setTop (mkF m 0 #[.val (.ref a1), .val (.int (10 : Int32)), .unset] [])) _
  have Z0 := own_Z0 O_0
  have hws : ∀ d ∈ StrChars.Road.words, d.before a0 Z = true := fun d hd => hw d ((by decide +kernel : ∀ d ∈ StrChars.Road.words, d ∈ tables_1) d hd)
  refine own_iloadN X0 hx hby own_d5_0 (pc' := 1) rfl rfl ?_
  refine own_newA X0 hx hby own_d5_1 (pc' := 3) rfl hZ (hw _ (List.mem_of_getElem? (i := 0) rfl)) e0 (by decide) (cap := 10) (by decide) (by decide) (by decide) (by decide) (vs := List.replicate 10 (.int 0)) (by rfl) ?_
  intro T292 h292 b292 X292 e292 g292 E292 A292
  have c292 := own_Ch.new A292
  have l292 : n0 ≤ b292 := (Nat.le_trans Z0 (Nat.le_trans (Nat.le_refl _) (Nat.le_of_eq g292.symm)))
  refine own_astoreN X292 hx hby own_d5_3 (pc' := 4) rfl rfl (Ls' := #[.val (.ref a1), .val (.int (10 : Int32)), .val (.ref b292)]) rfl ?_
  refine own_iloadN X292 hx hby own_d5_4 (pc' := 5) rfl rfl ?_
  refine own_ifNo X292 hx hby own_d5_5 (pc' := 8) rfl (by decide) ?_
  refine own_aloadN X292 hx hby own_d5_8 (pc' := 9) rfl rfl rfl ?_
  refine own_iconst X292 hx hby own_d5_9 (pc' := 10) rfl (z := (0 : Int32)) (by decide) ?_
  refine own_aloadN X292 hx hby own_d5_10 (pc' := 11) rfl rfl rfl ?_
  refine own_iconst X292 hx hby own_d5_11 (pc' := 12) rfl (z := (0 : Int32)) (by decide) ?_
  refine own_caloadC X292 hx hby own_d5_12 (pc' := 13) rfl hZ e292 ((C_1.ext E292)) (by decide) (by decide) ?_
  intro z293 hz293
  refine own_castoreC X292 hx hby own_d5_13 (pc' := 14) rfl hZ e292 (c292) (by decide) (by decide) ((own_narB hz293).symm ▸ hz293) ?_
  intro T294 h294 X294 e294 W294 C294
  have N294 := Fr.snoc X294 N0 l292
  have c295 := ((W0.ext E292).wr W294 (own_Ch.safe c292 ((W0.ext E292)).1.alike))
  have c296 := ((O_0.ext E292).wr W294 l292)
  have c297 := ((C_1.ext E292).other W294 (Nat.ne_of_lt (Nat.lt_of_lt_of_le (C_1).lt (Nat.le_of_eq g292.symm))))
  refine own_iloadN X294 hx hby own_d5_14 (pc' := 15) rfl rfl ?_
  refine own_iconst X294 hx hby own_d5_15 (pc' := 16) rfl (z := (1 : Int32)) (by decide) ?_
  refine own_icmpNo X294 hx hby own_d5_16 (pc' := 19) rfl (by decide) ?_
  refine own_aloadN X294 hx hby own_d5_19 (pc' := 20) rfl rfl rfl ?_
  refine own_iconst X294 hx hby own_d5_20 (pc' := 21) rfl (z := (1 : Int32)) (by decide) ?_
  refine own_aloadN X294 hx hby own_d5_21 (pc' := 22) rfl rfl rfl ?_
  refine own_iconst X294 hx hby own_d5_22 (pc' := 23) rfl (z := (1 : Int32)) (by decide) ?_
  refine own_caloadC X294 hx hby own_d5_23 (pc' := 24) rfl hZ e294 (c297) (by decide) (by decide) ?_
  intro z298 hz298
  refine own_castoreC X294 hx hby own_d5_24 (pc' := 25) rfl hZ e294 (C294) (by decide) (by decide) ((own_narB hz298).symm ▸ hz298) ?_
  intro T299 h299 X299 e299 W299 C299
  have N299 := Fr.snoc X299 N294 l292
  have c300 := (c295.wr W299 (own_Ch.safe C294 (c295).1.alike))
  have c301 := (c296.wr W299 l292)
  have c302 := (c297.other W299 (Nat.ne_of_lt (Nat.lt_of_lt_of_le (C_1).lt (Nat.le_of_eq g292.symm))))
  refine own_iloadN X299 hx hby own_d5_25 (pc' := 26) rfl rfl ?_
  refine own_iconst X299 hx hby own_d5_26 (pc' := 27) rfl (z := (2 : Int32)) (by decide) ?_
  refine own_icmpNo X299 hx hby own_d5_27 (pc' := 30) rfl (by decide) ?_
  refine own_aloadN X299 hx hby own_d5_30 (pc' := 31) rfl rfl rfl ?_
  refine own_iconst X299 hx hby own_d5_31 (pc' := 32) rfl (z := (2 : Int32)) (by decide) ?_
  refine own_aloadN X299 hx hby own_d5_32 (pc' := 33) rfl rfl rfl ?_
  refine own_iconst X299 hx hby own_d5_33 (pc' := 34) rfl (z := (2 : Int32)) (by decide) ?_
  refine own_caloadC X299 hx hby own_d5_34 (pc' := 35) rfl hZ e299 (c302) (by decide) (by decide) ?_
  intro z303 hz303
  refine own_castoreC X299 hx hby own_d5_35 (pc' := 36) rfl hZ e299 (C299) (by decide) (by decide) ((own_narB hz303).symm ▸ hz303) ?_
  intro T304 h304 X304 e304 W304 C304
  have N304 := Fr.snoc X304 N299 l292
  have c305 := (c300.wr W304 (own_Ch.safe C299 (c300).1.alike))
  have c306 := (c301.wr W304 l292)
  have c307 := (c302.other W304 (Nat.ne_of_lt (Nat.lt_of_lt_of_le (C_1).lt (Nat.le_of_eq g292.symm))))
  refine own_iloadN X304 hx hby own_d5_36 (pc' := 37) rfl rfl ?_
  refine own_iconst X304 hx hby own_d5_37 (pc' := 38) rfl (z := (3 : Int32)) (by decide) ?_
  refine own_icmpNo X304 hx hby own_d5_38 (pc' := 41) rfl (by decide) ?_
  refine own_aloadN X304 hx hby own_d5_41 (pc' := 42) rfl rfl rfl ?_
  refine own_iconst X304 hx hby own_d5_42 (pc' := 43) rfl (z := (3 : Int32)) (by decide) ?_
  refine own_aloadN X304 hx hby own_d5_43 (pc' := 44) rfl rfl rfl ?_
  refine own_iconst X304 hx hby own_d5_44 (pc' := 45) rfl (z := (3 : Int32)) (by decide) ?_
  refine own_caloadC X304 hx hby own_d5_45 (pc' := 46) rfl hZ e304 (c307) (by decide) (by decide) ?_
  intro z308 hz308
  refine own_castoreC X304 hx hby own_d5_46 (pc' := 47) rfl hZ e304 (C304) (by decide) (by decide) ((own_narB hz308).symm ▸ hz308) ?_
  intro T309 h309 X309 e309 W309 C309
  have N309 := Fr.snoc X309 N304 l292
  have c310 := (c305.wr W309 (own_Ch.safe C304 (c305).1.alike))
  have c311 := (c306.wr W309 l292)
  have c312 := (c307.other W309 (Nat.ne_of_lt (Nat.lt_of_lt_of_le (C_1).lt (Nat.le_of_eq g292.symm))))
  refine own_iloadN X309 hx hby own_d5_47 (pc' := 48) rfl rfl ?_
  refine own_iconst X309 hx hby own_d5_48 (pc' := 49) rfl (z := (4 : Int32)) (by decide) ?_
  refine own_icmpNo X309 hx hby own_d5_49 (pc' := 52) rfl (by decide) ?_
  refine own_aloadN X309 hx hby own_d5_52 (pc' := 53) rfl rfl rfl ?_
  refine own_iconst X309 hx hby own_d5_53 (pc' := 54) rfl (z := (4 : Int32)) (by decide) ?_
  refine own_aloadN X309 hx hby own_d5_54 (pc' := 55) rfl rfl rfl ?_
  refine own_iconst X309 hx hby own_d5_55 (pc' := 56) rfl (z := (4 : Int32)) (by decide) ?_
  refine own_caloadC X309 hx hby own_d5_56 (pc' := 57) rfl hZ e309 (c312) (by decide) (by decide) ?_
  intro z313 hz313
  refine own_castoreC X309 hx hby own_d5_57 (pc' := 58) rfl hZ e309 (C309) (by decide) (by decide) ((own_narB hz313).symm ▸ hz313) ?_
  intro T314 h314 X314 e314 W314 C314
  have N314 := Fr.snoc X314 N309 l292
  have c315 := (c310.wr W314 (own_Ch.safe C309 (c310).1.alike))
  have c316 := (c311.wr W314 l292)
  have c317 := (c312.other W314 (Nat.ne_of_lt (Nat.lt_of_lt_of_le (C_1).lt (Nat.le_of_eq g292.symm))))
  refine own_iloadN X314 hx hby own_d5_58 (pc' := 59) rfl rfl ?_
  refine own_iconst X314 hx hby own_d5_59 (pc' := 60) rfl (z := (5 : Int32)) (by decide) ?_
  refine own_icmpNo X314 hx hby own_d5_60 (pc' := 63) rfl (by decide) ?_
  refine own_aloadN X314 hx hby own_d5_63 (pc' := 64) rfl rfl rfl ?_
  refine own_iconst X314 hx hby own_d5_64 (pc' := 65) rfl (z := (5 : Int32)) (by decide) ?_
  refine own_aloadN X314 hx hby own_d5_65 (pc' := 66) rfl rfl rfl ?_
  refine own_iconst X314 hx hby own_d5_66 (pc' := 67) rfl (z := (5 : Int32)) (by decide) ?_
  refine own_caloadC X314 hx hby own_d5_67 (pc' := 68) rfl hZ e314 (c317) (by decide) (by decide) ?_
  intro z318 hz318
  refine own_castoreC X314 hx hby own_d5_68 (pc' := 69) rfl hZ e314 (C314) (by decide) (by decide) ((own_narB hz318).symm ▸ hz318) ?_
  intro T319 h319 X319 e319 W319 C319
  have N319 := Fr.snoc X319 N314 l292
  have c320 := (c315.wr W319 (own_Ch.safe C314 (c315).1.alike))
  have c321 := (c316.wr W319 l292)
  have c322 := (c317.other W319 (Nat.ne_of_lt (Nat.lt_of_lt_of_le (C_1).lt (Nat.le_of_eq g292.symm))))
  refine own_iloadN X319 hx hby own_d5_69 (pc' := 70) rfl rfl ?_
  refine own_bipush X319 hx hby own_d5_70 (pc' := 72) rfl (z := (6 : Int32)) (by decide) ?_
  refine own_icmpNo X319 hx hby own_d5_72 (pc' := 75) rfl (by decide) ?_
  refine own_aloadN X319 hx hby own_d5_75 (pc' := 76) rfl rfl rfl ?_
  refine own_bipush X319 hx hby own_d5_76 (pc' := 78) rfl (z := (6 : Int32)) (by decide) ?_
  refine own_aloadN X319 hx hby own_d5_78 (pc' := 79) rfl rfl rfl ?_
  refine own_bipush X319 hx hby own_d5_79 (pc' := 81) rfl (z := (6 : Int32)) (by decide) ?_
  refine own_caloadC X319 hx hby own_d5_81 (pc' := 82) rfl hZ e319 (c322) (by decide) (by decide) ?_
  intro z323 hz323
  refine own_castoreC X319 hx hby own_d5_82 (pc' := 83) rfl hZ e319 (C319) (by decide) (by decide) ((own_narB hz323).symm ▸ hz323) ?_
  intro T324 h324 X324 e324 W324 C324
  have N324 := Fr.snoc X324 N319 l292
  have c325 := (c320.wr W324 (own_Ch.safe C319 (c320).1.alike))
  have c326 := (c321.wr W324 l292)
  have c327 := (c322.other W324 (Nat.ne_of_lt (Nat.lt_of_lt_of_le (C_1).lt (Nat.le_of_eq g292.symm))))
  refine own_iloadN X324 hx hby own_d5_83 (pc' := 84) rfl rfl ?_
  refine own_bipush X324 hx hby own_d5_84 (pc' := 86) rfl (z := (7 : Int32)) (by decide) ?_
  refine own_icmpNo X324 hx hby own_d5_86 (pc' := 89) rfl (by decide) ?_
  refine own_aloadN X324 hx hby own_d5_89 (pc' := 90) rfl rfl rfl ?_
  refine own_bipush X324 hx hby own_d5_90 (pc' := 92) rfl (z := (7 : Int32)) (by decide) ?_
  refine own_aloadN X324 hx hby own_d5_92 (pc' := 93) rfl rfl rfl ?_
  refine own_bipush X324 hx hby own_d5_93 (pc' := 95) rfl (z := (7 : Int32)) (by decide) ?_
  refine own_caloadC X324 hx hby own_d5_95 (pc' := 96) rfl hZ e324 (c327) (by decide) (by decide) ?_
  intro z328 hz328
  refine own_castoreC X324 hx hby own_d5_96 (pc' := 97) rfl hZ e324 (C324) (by decide) (by decide) ((own_narB hz328).symm ▸ hz328) ?_
  intro T329 h329 X329 e329 W329 C329
  have N329 := Fr.snoc X329 N324 l292
  have c330 := (c325.wr W329 (own_Ch.safe C324 (c325).1.alike))
  have c331 := (c326.wr W329 l292)
  have c332 := (c327.other W329 (Nat.ne_of_lt (Nat.lt_of_lt_of_le (C_1).lt (Nat.le_of_eq g292.symm))))
  refine own_iloadN X329 hx hby own_d5_97 (pc' := 98) rfl rfl ?_
  refine own_bipush X329 hx hby own_d5_98 (pc' := 100) rfl (z := (8 : Int32)) (by decide) ?_
  refine own_icmpNo X329 hx hby own_d5_100 (pc' := 103) rfl (by decide) ?_
  refine own_aloadN X329 hx hby own_d5_103 (pc' := 104) rfl rfl rfl ?_
  refine own_bipush X329 hx hby own_d5_104 (pc' := 106) rfl (z := (8 : Int32)) (by decide) ?_
  refine own_aloadN X329 hx hby own_d5_106 (pc' := 107) rfl rfl rfl ?_
  refine own_bipush X329 hx hby own_d5_107 (pc' := 109) rfl (z := (8 : Int32)) (by decide) ?_
  refine own_caloadC X329 hx hby own_d5_109 (pc' := 110) rfl hZ e329 (c332) (by decide) (by decide) ?_
  intro z333 hz333
  refine own_castoreC X329 hx hby own_d5_110 (pc' := 111) rfl hZ e329 (C329) (by decide) (by decide) ((own_narB hz333).symm ▸ hz333) ?_
  intro T334 h334 X334 e334 W334 C334
  have N334 := Fr.snoc X334 N329 l292
  have c335 := (c330.wr W334 (own_Ch.safe C329 (c330).1.alike))
  have c336 := (c331.wr W334 l292)
  have c337 := (c332.other W334 (Nat.ne_of_lt (Nat.lt_of_lt_of_le (C_1).lt (Nat.le_of_eq g292.symm))))
  refine own_iloadN X334 hx hby own_d5_111 (pc' := 112) rfl rfl ?_
  refine own_bipush X334 hx hby own_d5_112 (pc' := 114) rfl (z := (9 : Int32)) (by decide) ?_
  refine own_icmpNo X334 hx hby own_d5_114 (pc' := 117) rfl (by decide) ?_
  refine own_aloadN X334 hx hby own_d5_117 (pc' := 118) rfl rfl rfl ?_
  refine own_bipush X334 hx hby own_d5_118 (pc' := 120) rfl (z := (9 : Int32)) (by decide) ?_
  refine own_aloadN X334 hx hby own_d5_120 (pc' := 121) rfl rfl rfl ?_
  refine own_bipush X334 hx hby own_d5_121 (pc' := 123) rfl (z := (9 : Int32)) (by decide) ?_
  refine own_caloadC X334 hx hby own_d5_123 (pc' := 124) rfl hZ e334 (c337) (by decide) (by decide) ?_
  intro z338 hz338
  refine own_castoreC X334 hx hby own_d5_124 (pc' := 125) rfl hZ e334 (C334) (by decide) (by decide) ((own_narB hz338).symm ▸ hz338) ?_
  intro T339 h339 X339 e339 W339 C339
  have N339 := Fr.snoc X339 N334 l292
  have c340 := (c335.wr W339 (own_Ch.safe C334 (c335).1.alike))
  have c341 := (c336.wr W339 l292)
  have c342 := (c337.other W339 (Nat.ne_of_lt (Nat.lt_of_lt_of_le (C_1).lt (Nat.le_of_eq g292.symm))))
  refine own_iloadN X339 hx hby own_d5_125 (pc' := 126) rfl rfl ?_
  refine own_bipush X339 hx hby own_d5_126 (pc' := 128) rfl (z := (10 : Int32)) (by decide) ?_
  refine own_icmpYes X339 hx hby own_d5_128 (pc' := 139) (by decide) (by decide) ?_
  refine own_iloadN X339 hx hby own_d5_139 (pc' := 140) rfl rfl ?_
  refine own_bipush X339 hx hby own_d5_140 (pc' := 142) rfl (z := (11 : Int32)) (by decide) ?_
  refine own_icmpYes X339 hx hby own_d5_142 (pc' := 153) (by decide) (by decide) ?_
  refine own_iloadN X339 hx hby own_d5_153 (pc' := 154) rfl rfl ?_
  refine own_bipush X339 hx hby own_d5_154 (pc' := 156) rfl (z := (12 : Int32)) (by decide) ?_
  refine own_icmpYes X339 hx hby own_d5_156 (pc' := 167) (by decide) (by decide) ?_
  refine own_iloadN X339 hx hby own_d5_167 (pc' := 168) rfl rfl ?_
  refine own_bipush X339 hx hby own_d5_168 (pc' := 170) rfl (z := (13 : Int32)) (by decide) ?_
  refine own_icmpYes X339 hx hby own_d5_170 (pc' := 181) (by decide) (by decide) ?_
  refine own_iloadN X339 hx hby own_d5_181 (pc' := 182) rfl rfl ?_
  refine own_bipush X339 hx hby own_d5_182 (pc' := 184) rfl (z := (14 : Int32)) (by decide) ?_
  refine own_icmpYes X339 hx hby own_d5_184 (pc' := 195) (by decide) (by decide) ?_
  refine own_new X339 hx hby own_d5_195 (pc' := 198) rfl hZ hown (hw _ (List.mem_of_getElem? (i := 44) rfl)) (hw _ (List.mem_of_getElem? (i := 34) rfl)) (hw _ (List.mem_of_getElem? (i := 31) rfl)) e339 (by decide) (by decide) ?_
  intro T343 h343 b343 X343 e343 g343 E343 A343 D343
  have F343_value : Fld Z h343 b343 "java/lang/String" "value" "[B" .null := D343 (Or.inr (hw _ (List.mem_of_getElem? (i := 36) rfl))) (ty := (.array .byte)) (by decide)
  have F343_coder : Fld Z h343 b343 "java/lang/String" "coder" "B" (.int (0 : Int32)) := D343 (Or.inr (hw _ (List.mem_of_getElem? (i := 37) rfl))) (ty := .byte) (by decide)
  have l343 : n0 ≤ b343 := (Nat.le_trans Z0 (Nat.le_trans (Nat.le_trans (Nat.le_trans (Nat.le_trans (Nat.le_trans (Nat.le_trans (Nat.le_trans (Nat.le_trans (Nat.le_trans (Nat.le_trans (Nat.le_trans (Nat.le_trans (Nat.le_refl _) E292.1) (Nat.le_of_eq (Wr.size W294).symm)) (Nat.le_of_eq (Wr.size W299).symm)) (Nat.le_of_eq (Wr.size W304).symm)) (Nat.le_of_eq (Wr.size W309).symm)) (Nat.le_of_eq (Wr.size W314).symm)) (Nat.le_of_eq (Wr.size W319).symm)) (Nat.le_of_eq (Wr.size W324).symm)) (Nat.le_of_eq (Wr.size W329).symm)) (Nat.le_of_eq (Wr.size W334).symm)) (Nat.le_of_eq (Wr.size W339).symm)) (Nat.le_of_eq g343.symm)))
  refine own_dup X343 hx hby own_d5_198 (pc' := 199) rfl rfl ?_
  refine own_aloadN X343 hx hby own_d5_199 (pc' := 200) rfl rfl rfl ?_
  refine own_callSpB X343 hx hZ (own_strB (W := 1) hZ hws (hw _ (List.mem_of_getElem? (i := 34) rfl)) l343 (own_Z0 ((c341.ext E343))) (A343) (F343_value) (F343_coder) ((C339.ext E343)) (S_S.ext ((c341.ext E343)).2) hS (by decide) (by decide) (by decide) (by decide)) rfl hown (hw _ (List.mem_of_getElem? (i := 45) rfl)) (hw _ (List.mem_of_getElem? (i := 46) rfl)) (hw _ (List.mem_of_getElem? (i := 47) rfl)) (by decide) (by rw [hml]; rfl) (argsL := [(.ref b292)]) (rest := [(.ref b343)]) rfl (lenOf own_pd3 rfl) rfl (Nat.le_of_eq rfl) (hb hby own_d5_200) e343 (by decide) (by decide) ?_
  intro v344 T344 L344 X344 hQ344
  obtain ⟨hv344, N344q, K344, cs344, F344⟩ := hQ344
  subst hv344
  have N344 := Fr.app N339 N344q
  have c345 := ((c340.ext E343).keep K344 (allS (Safe.ext E343 (c340).ch (Safe.new (Nat.le_of_eq g343.symm))) all0))
  have c346 := ((c341.ext E343).keep K344 (allS l343 all0))
  show own_Go p.tables e below (T344.setTop (mkF m 203 #[.val (.ref a1), .val (.int (10 : Int32)), .val (.ref b292)] [(.ref b343)])) _
  exact own_retAW X344 hx hEL (c345) rfl hret rfl rfl (hb hby own_d5_203) hlk (by decide) (by decide) ⟨_, cs344, rfl, N344, ((((((((((((((Keep.refl h0 []).ext E292).wr W294 (Or.inr (Nat.le_trans (Nat.le_refl _) (Nat.le_of_eq g292.symm)))).wr W299 (Or.inr (Nat.le_trans (Nat.le_refl _) (Nat.le_of_eq g292.symm)))).wr W304 (Or.inr (Nat.le_trans (Nat.le_refl _) (Nat.le_of_eq g292.symm)))).wr W309 (Or.inr (Nat.le_trans (Nat.le_refl _) (Nat.le_of_eq g292.symm)))).wr W314 (Or.inr (Nat.le_trans (Nat.le_refl _) (Nat.le_of_eq g292.symm)))).wr W319 (Or.inr (Nat.le_trans (Nat.le_refl _) (Nat.le_of_eq g292.symm)))).wr W324 (Or.inr (Nat.le_trans (Nat.le_refl _) (Nat.le_of_eq g292.symm)))).wr W329 (Or.inr (Nat.le_trans (Nat.le_refl _) (Nat.le_of_eq g292.symm)))).wr W334 (Or.inr (Nat.le_trans (Nat.le_refl _) (Nat.le_of_eq g292.symm)))).wr W339 (Or.inr (Nat.le_trans (Nat.le_refl _) (Nat.le_of_eq g292.symm)))).ext E343).trans K344 (allS (Or.inr (Nat.le_trans (Nat.le_trans (Nat.le_trans (Nat.le_trans (Nat.le_trans (Nat.le_trans (Nat.le_trans (Nat.le_trans (Nat.le_trans (Nat.le_trans (Nat.le_trans (Nat.le_trans (Nat.le_refl _) E292.1) (Nat.le_of_eq (Wr.size W294).symm)) (Nat.le_of_eq (Wr.size W299).symm)) (Nat.le_of_eq (Wr.size W304).symm)) (Nat.le_of_eq (Wr.size W309).symm)) (Nat.le_of_eq (Wr.size W314).symm)) (Nat.le_of_eq (Wr.size W319).symm)) (Nat.le_of_eq (Wr.size W324).symm)) (Nat.le_of_eq (Wr.size W329).symm)) (Nat.le_of_eq (Wr.size W334).symm)) (Nat.le_of_eq (Wr.size W339).symm)) (Nat.le_of_eq g343.symm))) all0)), F344⟩
theorem own_d5_131 : decode method_3_code 131 = .ok (.aload_n 2, 1) := by decide +kernel
theorem own_d5_132 : decode method_3_code 132 = .ok (.bipush 10, 2) := by decide +kernel
theorem own_d5_134 : decode method_3_code 134 = .ok (.aload_n 0, 1) := by decide +kernel
theorem own_d5_135 : decode method_3_code 135 = .ok (.bipush 10, 2) := by decide +kernel
theorem own_d5_137 : decode method_3_code 137 = .ok (.caload, 1) := by decide +kernel
theorem own_d5_138 : decode method_3_code 138 = .ok (.castore, 1) := by decide +kernel
theorem own_ef_rm_px11 (m : MethodId) (a1 : Addr) : entryFrame m #[(.ref a1), (.int (11 : Int32))] 3 = mkF m 0 #[.val (.ref a1), .val (.int (11 : Int32)), .unset] [] := by first | (simp [entryFrame, mkF, argsToLocals, Value.category]; done) | rfl
def Qrm_px11 (Z : State) (a1 : Addr) (gS : Int32) (h0 : Heap) (n0 : Nat) (v : Option Value) (h : Heap) (L : List Loc) : Prop := ∃ x cs, v = some (.ref x) ∧ Fr n0 L ∧ Keep h0 h [] ∧ own_Str Z h h.size x cs
set_option maxRecDepth 65536 in
set_option maxHeartbeats 40000000 in
theorem rm_px11 (l : Launch) (Z : State) (a0 : Array Value) (hw : ∀ d ∈ tables_1, d.before a0 Z = true) (ws : List Jvm.Cond) (a1 : Addr) (gS : Int32) (h0 : Heap) (n0 : Nat) (hEL : EW Z a0 own_EL) (O_0 : Old Z n0 h0) (S_S : Sta Z Z.heap "java/lang/String" "COMPACT_STRINGS" "Z" (.int gS)) (hS : ¬ gS = 0) (C_1 : own_Ch Z h0 a1 16) :
    own_MetW l (⟨"com/example/tranchebook/tranchebook/model/FeeByRateNamePinLaw", "prefix", "([CI)Ljava/lang/String;"⟩ : MethodName) method_3_code 3 (some (.object "java/lang/String")) ws ({ frames := 5, cells := 7, slots := 44, locals := 80 } : Room) #[(.ref a1), (.int (11 : Int32))] Z own_EL h0 (Qrm_px11 Z a1 gS h0 n0) := by
  refine own_bodyW own_pn5 ?_
  intro p e s m below meth c T0 X0 hx hby hml hnm hret hlk W0 e0
  have hZ := W0.1
  have hown := W0.2.1
  have N0 := Fr.nil n0
  refine own_st (fun t k => castTop (own_ef_rm_px11 m a1) k) ?_
  show own_Go p.tables e below (T0.setTop (mkF m 0 #[.val (.ref a1), .val (.int (11 : Int32)), .unset] [])) _
  have Z0 := own_Z0 O_0
  have hws : ∀ d ∈ StrChars.Road.words, d.before a0 Z = true := fun d hd => hw d ((by decide +kernel : ∀ d ∈ StrChars.Road.words, d ∈ tables_1) d hd)
  refine own_iloadN X0 hx hby own_d5_0 (pc' := 1) rfl rfl ?_
  refine own_newA X0 hx hby own_d5_1 (pc' := 3) rfl hZ (hw _ (List.mem_of_getElem? (i := 0) rfl)) e0 (by decide) (cap := 11) (by decide) (by decide) (by decide) (by decide) (vs := List.replicate 11 (.int 0)) (by rfl) ?_
  intro T347 h347 b347 X347 e347 g347 E347 A347
  have c347 := own_Ch.new A347
  have l347 : n0 ≤ b347 := (Nat.le_trans Z0 (Nat.le_trans (Nat.le_refl _) (Nat.le_of_eq g347.symm)))
  refine own_astoreN X347 hx hby own_d5_3 (pc' := 4) rfl rfl (Ls' := #[.val (.ref a1), .val (.int (11 : Int32)), .val (.ref b347)]) rfl ?_
  refine own_iloadN X347 hx hby own_d5_4 (pc' := 5) rfl rfl ?_
  refine own_ifNo X347 hx hby own_d5_5 (pc' := 8) rfl (by decide) ?_
  refine own_aloadN X347 hx hby own_d5_8 (pc' := 9) rfl rfl rfl ?_
  refine own_iconst X347 hx hby own_d5_9 (pc' := 10) rfl (z := (0 : Int32)) (by decide) ?_
  refine own_aloadN X347 hx hby own_d5_10 (pc' := 11) rfl rfl rfl ?_
  refine own_iconst X347 hx hby own_d5_11 (pc' := 12) rfl (z := (0 : Int32)) (by decide) ?_
  refine own_caloadC X347 hx hby own_d5_12 (pc' := 13) rfl hZ e347 ((C_1.ext E347)) (by decide) (by decide) ?_
  intro z348 hz348
  refine own_castoreC X347 hx hby own_d5_13 (pc' := 14) rfl hZ e347 (c347) (by decide) (by decide) ((own_narB hz348).symm ▸ hz348) ?_
  intro T349 h349 X349 e349 W349 C349
  have N349 := Fr.snoc X349 N0 l347
  have c350 := ((W0.ext E347).wr W349 (own_Ch.safe c347 ((W0.ext E347)).1.alike))
  have c351 := ((O_0.ext E347).wr W349 l347)
  have c352 := ((C_1.ext E347).other W349 (Nat.ne_of_lt (Nat.lt_of_lt_of_le (C_1).lt (Nat.le_of_eq g347.symm))))
  refine own_iloadN X349 hx hby own_d5_14 (pc' := 15) rfl rfl ?_
  refine own_iconst X349 hx hby own_d5_15 (pc' := 16) rfl (z := (1 : Int32)) (by decide) ?_
  refine own_icmpNo X349 hx hby own_d5_16 (pc' := 19) rfl (by decide) ?_
  refine own_aloadN X349 hx hby own_d5_19 (pc' := 20) rfl rfl rfl ?_
  refine own_iconst X349 hx hby own_d5_20 (pc' := 21) rfl (z := (1 : Int32)) (by decide) ?_
  refine own_aloadN X349 hx hby own_d5_21 (pc' := 22) rfl rfl rfl ?_
  refine own_iconst X349 hx hby own_d5_22 (pc' := 23) rfl (z := (1 : Int32)) (by decide) ?_
  refine own_caloadC X349 hx hby own_d5_23 (pc' := 24) rfl hZ e349 (c352) (by decide) (by decide) ?_
  intro z353 hz353
  refine own_castoreC X349 hx hby own_d5_24 (pc' := 25) rfl hZ e349 (C349) (by decide) (by decide) ((own_narB hz353).symm ▸ hz353) ?_
  intro T354 h354 X354 e354 W354 C354
  have N354 := Fr.snoc X354 N349 l347
  have c355 := (c350.wr W354 (own_Ch.safe C349 (c350).1.alike))
  have c356 := (c351.wr W354 l347)
  have c357 := (c352.other W354 (Nat.ne_of_lt (Nat.lt_of_lt_of_le (C_1).lt (Nat.le_of_eq g347.symm))))
  refine own_iloadN X354 hx hby own_d5_25 (pc' := 26) rfl rfl ?_
  refine own_iconst X354 hx hby own_d5_26 (pc' := 27) rfl (z := (2 : Int32)) (by decide) ?_
  refine own_icmpNo X354 hx hby own_d5_27 (pc' := 30) rfl (by decide) ?_
  refine own_aloadN X354 hx hby own_d5_30 (pc' := 31) rfl rfl rfl ?_
  refine own_iconst X354 hx hby own_d5_31 (pc' := 32) rfl (z := (2 : Int32)) (by decide) ?_
  refine own_aloadN X354 hx hby own_d5_32 (pc' := 33) rfl rfl rfl ?_
  refine own_iconst X354 hx hby own_d5_33 (pc' := 34) rfl (z := (2 : Int32)) (by decide) ?_
  refine own_caloadC X354 hx hby own_d5_34 (pc' := 35) rfl hZ e354 (c357) (by decide) (by decide) ?_
  intro z358 hz358
  refine own_castoreC X354 hx hby own_d5_35 (pc' := 36) rfl hZ e354 (C354) (by decide) (by decide) ((own_narB hz358).symm ▸ hz358) ?_
  intro T359 h359 X359 e359 W359 C359
  have N359 := Fr.snoc X359 N354 l347
  have c360 := (c355.wr W359 (own_Ch.safe C354 (c355).1.alike))
  have c361 := (c356.wr W359 l347)
  have c362 := (c357.other W359 (Nat.ne_of_lt (Nat.lt_of_lt_of_le (C_1).lt (Nat.le_of_eq g347.symm))))
  refine own_iloadN X359 hx hby own_d5_36 (pc' := 37) rfl rfl ?_
  refine own_iconst X359 hx hby own_d5_37 (pc' := 38) rfl (z := (3 : Int32)) (by decide) ?_
  refine own_icmpNo X359 hx hby own_d5_38 (pc' := 41) rfl (by decide) ?_
  refine own_aloadN X359 hx hby own_d5_41 (pc' := 42) rfl rfl rfl ?_
  refine own_iconst X359 hx hby own_d5_42 (pc' := 43) rfl (z := (3 : Int32)) (by decide) ?_
  refine own_aloadN X359 hx hby own_d5_43 (pc' := 44) rfl rfl rfl ?_
  refine own_iconst X359 hx hby own_d5_44 (pc' := 45) rfl (z := (3 : Int32)) (by decide) ?_
  refine own_caloadC X359 hx hby own_d5_45 (pc' := 46) rfl hZ e359 (c362) (by decide) (by decide) ?_
  intro z363 hz363
  refine own_castoreC X359 hx hby own_d5_46 (pc' := 47) rfl hZ e359 (C359) (by decide) (by decide) ((own_narB hz363).symm ▸ hz363) ?_
  intro T364 h364 X364 e364 W364 C364
  have N364 := Fr.snoc X364 N359 l347
  have c365 := (c360.wr W364 (own_Ch.safe C359 (c360).1.alike))
  have c366 := (c361.wr W364 l347)
  have c367 := (c362.other W364 (Nat.ne_of_lt (Nat.lt_of_lt_of_le (C_1).lt (Nat.le_of_eq g347.symm))))
  refine own_iloadN X364 hx hby own_d5_47 (pc' := 48) rfl rfl ?_
  refine own_iconst X364 hx hby own_d5_48 (pc' := 49) rfl (z := (4 : Int32)) (by decide) ?_
  refine own_icmpNo X364 hx hby own_d5_49 (pc' := 52) rfl (by decide) ?_
  refine own_aloadN X364 hx hby own_d5_52 (pc' := 53) rfl rfl rfl ?_
  refine own_iconst X364 hx hby own_d5_53 (pc' := 54) rfl (z := (4 : Int32)) (by decide) ?_
  refine own_aloadN X364 hx hby own_d5_54 (pc' := 55) rfl rfl rfl ?_
  refine own_iconst X364 hx hby own_d5_55 (pc' := 56) rfl (z := (4 : Int32)) (by decide) ?_
  refine own_caloadC X364 hx hby own_d5_56 (pc' := 57) rfl hZ e364 (c367) (by decide) (by decide) ?_
  intro z368 hz368
  refine own_castoreC X364 hx hby own_d5_57 (pc' := 58) rfl hZ e364 (C364) (by decide) (by decide) ((own_narB hz368).symm ▸ hz368) ?_
  intro T369 h369 X369 e369 W369 C369
  have N369 := Fr.snoc X369 N364 l347
  have c370 := (c365.wr W369 (own_Ch.safe C364 (c365).1.alike))
  have c371 := (c366.wr W369 l347)
  have c372 := (c367.other W369 (Nat.ne_of_lt (Nat.lt_of_lt_of_le (C_1).lt (Nat.le_of_eq g347.symm))))
  refine own_iloadN X369 hx hby own_d5_58 (pc' := 59) rfl rfl ?_
  refine own_iconst X369 hx hby own_d5_59 (pc' := 60) rfl (z := (5 : Int32)) (by decide) ?_
  refine own_icmpNo X369 hx hby own_d5_60 (pc' := 63) rfl (by decide) ?_
  refine own_aloadN X369 hx hby own_d5_63 (pc' := 64) rfl rfl rfl ?_
  refine own_iconst X369 hx hby own_d5_64 (pc' := 65) rfl (z := (5 : Int32)) (by decide) ?_
  refine own_aloadN X369 hx hby own_d5_65 (pc' := 66) rfl rfl rfl ?_
  refine own_iconst X369 hx hby own_d5_66 (pc' := 67) rfl (z := (5 : Int32)) (by decide) ?_
  refine own_caloadC X369 hx hby own_d5_67 (pc' := 68) rfl hZ e369 (c372) (by decide) (by decide) ?_
  intro z373 hz373
  refine own_castoreC X369 hx hby own_d5_68 (pc' := 69) rfl hZ e369 (C369) (by decide) (by decide) ((own_narB hz373).symm ▸ hz373) ?_
  intro T374 h374 X374 e374 W374 C374
  have N374 := Fr.snoc X374 N369 l347
  have c375 := (c370.wr W374 (own_Ch.safe C369 (c370).1.alike))
  have c376 := (c371.wr W374 l347)
  have c377 := (c372.other W374 (Nat.ne_of_lt (Nat.lt_of_lt_of_le (C_1).lt (Nat.le_of_eq g347.symm))))
  refine own_iloadN X374 hx hby own_d5_69 (pc' := 70) rfl rfl ?_
  refine own_bipush X374 hx hby own_d5_70 (pc' := 72) rfl (z := (6 : Int32)) (by decide) ?_
  refine own_icmpNo X374 hx hby own_d5_72 (pc' := 75) rfl (by decide) ?_
  refine own_aloadN X374 hx hby own_d5_75 (pc' := 76) rfl rfl rfl ?_
  refine own_bipush X374 hx hby own_d5_76 (pc' := 78) rfl (z := (6 : Int32)) (by decide) ?_
  refine own_aloadN X374 hx hby own_d5_78 (pc' := 79) rfl rfl rfl ?_
  refine own_bipush X374 hx hby own_d5_79 (pc' := 81) rfl (z := (6 : Int32)) (by decide) ?_
  refine own_caloadC X374 hx hby own_d5_81 (pc' := 82) rfl hZ e374 (c377) (by decide) (by decide) ?_
  intro z378 hz378
  refine own_castoreC X374 hx hby own_d5_82 (pc' := 83) rfl hZ e374 (C374) (by decide) (by decide) ((own_narB hz378).symm ▸ hz378) ?_
  intro T379 h379 X379 e379 W379 C379
  have N379 := Fr.snoc X379 N374 l347
  have c380 := (c375.wr W379 (own_Ch.safe C374 (c375).1.alike))
  have c381 := (c376.wr W379 l347)
  have c382 := (c377.other W379 (Nat.ne_of_lt (Nat.lt_of_lt_of_le (C_1).lt (Nat.le_of_eq g347.symm))))
  refine own_iloadN X379 hx hby own_d5_83 (pc' := 84) rfl rfl ?_
  refine own_bipush X379 hx hby own_d5_84 (pc' := 86) rfl (z := (7 : Int32)) (by decide) ?_
  refine own_icmpNo X379 hx hby own_d5_86 (pc' := 89) rfl (by decide) ?_
  refine own_aloadN X379 hx hby own_d5_89 (pc' := 90) rfl rfl rfl ?_
  refine own_bipush X379 hx hby own_d5_90 (pc' := 92) rfl (z := (7 : Int32)) (by decide) ?_
  refine own_aloadN X379 hx hby own_d5_92 (pc' := 93) rfl rfl rfl ?_
  refine own_bipush X379 hx hby own_d5_93 (pc' := 95) rfl (z := (7 : Int32)) (by decide) ?_
  refine own_caloadC X379 hx hby own_d5_95 (pc' := 96) rfl hZ e379 (c382) (by decide) (by decide) ?_
  intro z383 hz383
  refine own_castoreC X379 hx hby own_d5_96 (pc' := 97) rfl hZ e379 (C379) (by decide) (by decide) ((own_narB hz383).symm ▸ hz383) ?_
  intro T384 h384 X384 e384 W384 C384
  have N384 := Fr.snoc X384 N379 l347
  have c385 := (c380.wr W384 (own_Ch.safe C379 (c380).1.alike))
  have c386 := (c381.wr W384 l347)
  have c387 := (c382.other W384 (Nat.ne_of_lt (Nat.lt_of_lt_of_le (C_1).lt (Nat.le_of_eq g347.symm))))
  refine own_iloadN X384 hx hby own_d5_97 (pc' := 98) rfl rfl ?_
  refine own_bipush X384 hx hby own_d5_98 (pc' := 100) rfl (z := (8 : Int32)) (by decide) ?_
  refine own_icmpNo X384 hx hby own_d5_100 (pc' := 103) rfl (by decide) ?_
  refine own_aloadN X384 hx hby own_d5_103 (pc' := 104) rfl rfl rfl ?_
  refine own_bipush X384 hx hby own_d5_104 (pc' := 106) rfl (z := (8 : Int32)) (by decide) ?_
  refine own_aloadN X384 hx hby own_d5_106 (pc' := 107) rfl rfl rfl ?_
  refine own_bipush X384 hx hby own_d5_107 (pc' := 109) rfl (z := (8 : Int32)) (by decide) ?_
  refine own_caloadC X384 hx hby own_d5_109 (pc' := 110) rfl hZ e384 (c387) (by decide) (by decide) ?_
  intro z388 hz388
  refine own_castoreC X384 hx hby own_d5_110 (pc' := 111) rfl hZ e384 (C384) (by decide) (by decide) ((own_narB hz388).symm ▸ hz388) ?_
  intro T389 h389 X389 e389 W389 C389
  have N389 := Fr.snoc X389 N384 l347
  have c390 := (c385.wr W389 (own_Ch.safe C384 (c385).1.alike))
  have c391 := (c386.wr W389 l347)
  have c392 := (c387.other W389 (Nat.ne_of_lt (Nat.lt_of_lt_of_le (C_1).lt (Nat.le_of_eq g347.symm))))
  refine own_iloadN X389 hx hby own_d5_111 (pc' := 112) rfl rfl ?_
  refine own_bipush X389 hx hby own_d5_112 (pc' := 114) rfl (z := (9 : Int32)) (by decide) ?_
  refine own_icmpNo X389 hx hby own_d5_114 (pc' := 117) rfl (by decide) ?_
  refine own_aloadN X389 hx hby own_d5_117 (pc' := 118) rfl rfl rfl ?_
  refine own_bipush X389 hx hby own_d5_118 (pc' := 120) rfl (z := (9 : Int32)) (by decide) ?_
  refine own_aloadN X389 hx hby own_d5_120 (pc' := 121) rfl rfl rfl ?_
  refine own_bipush X389 hx hby own_d5_121 (pc' := 123) rfl (z := (9 : Int32)) (by decide) ?_
  refine own_caloadC X389 hx hby own_d5_123 (pc' := 124) rfl hZ e389 (c392) (by decide) (by decide) ?_
  intro z393 hz393
  refine own_castoreC X389 hx hby own_d5_124 (pc' := 125) rfl hZ e389 (C389) (by decide) (by decide) ((own_narB hz393).symm ▸ hz393) ?_
  intro T394 h394 X394 e394 W394 C394
  have N394 := Fr.snoc X394 N389 l347
  have c395 := (c390.wr W394 (own_Ch.safe C389 (c390).1.alike))
  have c396 := (c391.wr W394 l347)
  have c397 := (c392.other W394 (Nat.ne_of_lt (Nat.lt_of_lt_of_le (C_1).lt (Nat.le_of_eq g347.symm))))
  refine own_iloadN X394 hx hby own_d5_125 (pc' := 126) rfl rfl ?_
  refine own_bipush X394 hx hby own_d5_126 (pc' := 128) rfl (z := (10 : Int32)) (by decide) ?_
  refine own_icmpNo X394 hx hby own_d5_128 (pc' := 131) rfl (by decide) ?_
  refine own_aloadN X394 hx hby own_d5_131 (pc' := 132) rfl rfl rfl ?_
  refine own_bipush X394 hx hby own_d5_132 (pc' := 134) rfl (z := (10 : Int32)) (by decide) ?_
  refine own_aloadN X394 hx hby own_d5_134 (pc' := 135) rfl rfl rfl ?_
  refine own_bipush X394 hx hby own_d5_135 (pc' := 137) rfl (z := (10 : Int32)) (by decide) ?_
  refine own_caloadC X394 hx hby own_d5_137 (pc' := 138) rfl hZ e394 (c397) (by decide) (by decide) ?_
  intro z398 hz398
  refine own_castoreC X394 hx hby own_d5_138 (pc' := 139) rfl hZ e394 (C394) (by decide) (by decide) ((own_narB hz398).symm ▸ hz398) ?_
  intro T399 h399 X399 e399 W399 C399
  have N399 := Fr.snoc X399 N394 l347
  have c400 := (c395.wr W399 (own_Ch.safe C394 (c395).1.alike))
  have c401 := (c396.wr W399 l347)
  have c402 := (c397.other W399 (Nat.ne_of_lt (Nat.lt_of_lt_of_le (C_1).lt (Nat.le_of_eq g347.symm))))
  refine own_iloadN X399 hx hby own_d5_139 (pc' := 140) rfl rfl ?_
  refine own_bipush X399 hx hby own_d5_140 (pc' := 142) rfl (z := (11 : Int32)) (by decide) ?_
  refine own_icmpYes X399 hx hby own_d5_142 (pc' := 153) (by decide) (by decide) ?_
  refine own_iloadN X399 hx hby own_d5_153 (pc' := 154) rfl rfl ?_
  refine own_bipush X399 hx hby own_d5_154 (pc' := 156) rfl (z := (12 : Int32)) (by decide) ?_
  refine own_icmpYes X399 hx hby own_d5_156 (pc' := 167) (by decide) (by decide) ?_
  refine own_iloadN X399 hx hby own_d5_167 (pc' := 168) rfl rfl ?_
  refine own_bipush X399 hx hby own_d5_168 (pc' := 170) rfl (z := (13 : Int32)) (by decide) ?_
  refine own_icmpYes X399 hx hby own_d5_170 (pc' := 181) (by decide) (by decide) ?_
  refine own_iloadN X399 hx hby own_d5_181 (pc' := 182) rfl rfl ?_
  refine own_bipush X399 hx hby own_d5_182 (pc' := 184) rfl (z := (14 : Int32)) (by decide) ?_
  refine own_icmpYes X399 hx hby own_d5_184 (pc' := 195) (by decide) (by decide) ?_
  refine own_new X399 hx hby own_d5_195 (pc' := 198) rfl hZ hown (hw _ (List.mem_of_getElem? (i := 44) rfl)) (hw _ (List.mem_of_getElem? (i := 34) rfl)) (hw _ (List.mem_of_getElem? (i := 31) rfl)) e399 (by decide) (by decide) ?_
  intro T403 h403 b403 X403 e403 g403 E403 A403 D403
  have F403_value : Fld Z h403 b403 "java/lang/String" "value" "[B" .null := D403 (Or.inr (hw _ (List.mem_of_getElem? (i := 36) rfl))) (ty := (.array .byte)) (by decide)
  have F403_coder : Fld Z h403 b403 "java/lang/String" "coder" "B" (.int (0 : Int32)) := D403 (Or.inr (hw _ (List.mem_of_getElem? (i := 37) rfl))) (ty := .byte) (by decide)
  have l403 : n0 ≤ b403 := (Nat.le_trans Z0 (Nat.le_trans (Nat.le_trans (Nat.le_trans (Nat.le_trans (Nat.le_trans (Nat.le_trans (Nat.le_trans (Nat.le_trans (Nat.le_trans (Nat.le_trans (Nat.le_trans (Nat.le_trans (Nat.le_trans (Nat.le_refl _) E347.1) (Nat.le_of_eq (Wr.size W349).symm)) (Nat.le_of_eq (Wr.size W354).symm)) (Nat.le_of_eq (Wr.size W359).symm)) (Nat.le_of_eq (Wr.size W364).symm)) (Nat.le_of_eq (Wr.size W369).symm)) (Nat.le_of_eq (Wr.size W374).symm)) (Nat.le_of_eq (Wr.size W379).symm)) (Nat.le_of_eq (Wr.size W384).symm)) (Nat.le_of_eq (Wr.size W389).symm)) (Nat.le_of_eq (Wr.size W394).symm)) (Nat.le_of_eq (Wr.size W399).symm)) (Nat.le_of_eq g403.symm)))
  refine own_dup X403 hx hby own_d5_198 (pc' := 199) rfl rfl ?_
  refine own_aloadN X403 hx hby own_d5_199 (pc' := 200) rfl rfl rfl ?_
  refine own_callSpB X403 hx hZ (own_strB (W := 1) hZ hws (hw _ (List.mem_of_getElem? (i := 34) rfl)) l403 (own_Z0 ((c401.ext E403))) (A403) (F403_value) (F403_coder) ((C399.ext E403)) (S_S.ext ((c401.ext E403)).2) hS (by decide) (by decide) (by decide) (by decide)) rfl hown (hw _ (List.mem_of_getElem? (i := 45) rfl)) (hw _ (List.mem_of_getElem? (i := 46) rfl)) (hw _ (List.mem_of_getElem? (i := 47) rfl)) (by decide) (by rw [hml]; rfl) (argsL := [(.ref b347)]) (rest := [(.ref b403)]) rfl (lenOf own_pd3 rfl) rfl (Nat.le_of_eq rfl) (hb hby own_d5_200) e403 (by decide) (by decide) ?_
  intro v404 T404 L404 X404 hQ404
  obtain ⟨hv404, N404q, K404, cs404, F404⟩ := hQ404
  subst hv404
  have N404 := Fr.app N399 N404q
  have c405 := ((c400.ext E403).keep K404 (allS (Safe.ext E403 (c400).ch (Safe.new (Nat.le_of_eq g403.symm))) all0))
  have c406 := ((c401.ext E403).keep K404 (allS l403 all0))
  show own_Go p.tables e below (T404.setTop (mkF m 203 #[.val (.ref a1), .val (.int (11 : Int32)), .val (.ref b347)] [(.ref b403)])) _
  exact own_retAW X404 hx hEL (c405) rfl hret rfl rfl (hb hby own_d5_203) hlk (by decide) (by decide) ⟨_, cs404, rfl, N404, (((((((((((((((Keep.refl h0 []).ext E347).wr W349 (Or.inr (Nat.le_trans (Nat.le_refl _) (Nat.le_of_eq g347.symm)))).wr W354 (Or.inr (Nat.le_trans (Nat.le_refl _) (Nat.le_of_eq g347.symm)))).wr W359 (Or.inr (Nat.le_trans (Nat.le_refl _) (Nat.le_of_eq g347.symm)))).wr W364 (Or.inr (Nat.le_trans (Nat.le_refl _) (Nat.le_of_eq g347.symm)))).wr W369 (Or.inr (Nat.le_trans (Nat.le_refl _) (Nat.le_of_eq g347.symm)))).wr W374 (Or.inr (Nat.le_trans (Nat.le_refl _) (Nat.le_of_eq g347.symm)))).wr W379 (Or.inr (Nat.le_trans (Nat.le_refl _) (Nat.le_of_eq g347.symm)))).wr W384 (Or.inr (Nat.le_trans (Nat.le_refl _) (Nat.le_of_eq g347.symm)))).wr W389 (Or.inr (Nat.le_trans (Nat.le_refl _) (Nat.le_of_eq g347.symm)))).wr W394 (Or.inr (Nat.le_trans (Nat.le_refl _) (Nat.le_of_eq g347.symm)))).wr W399 (Or.inr (Nat.le_trans (Nat.le_refl _) (Nat.le_of_eq g347.symm)))).ext E403).trans K404 (allS (Or.inr (Nat.le_trans (Nat.le_trans (Nat.le_trans (Nat.le_trans (Nat.le_trans (Nat.le_trans (Nat.le_trans (Nat.le_trans (Nat.le_trans (Nat.le_trans (Nat.le_trans (Nat.le_trans (Nat.le_trans (Nat.le_refl _) E347.1) (Nat.le_of_eq (Wr.size W349).symm)) (Nat.le_of_eq (Wr.size W354).symm)) (Nat.le_of_eq (Wr.size W359).symm)) (Nat.le_of_eq (Wr.size W364).symm)) (Nat.le_of_eq (Wr.size W369).symm)) (Nat.le_of_eq (Wr.size W374).symm)) (Nat.le_of_eq (Wr.size W379).symm)) (Nat.le_of_eq (Wr.size W384).symm)) (Nat.le_of_eq (Wr.size W389).symm)) (Nat.le_of_eq (Wr.size W394).symm)) (Nat.le_of_eq (Wr.size W399).symm)) (Nat.le_of_eq g403.symm))) all0)), F404⟩
theorem own_d5_145 : decode method_3_code 145 = .ok (.aload_n 2, 1) := by decide +kernel
theorem own_d5_146 : decode method_3_code 146 = .ok (.bipush 11, 2) := by decide +kernel
theorem own_d5_148 : decode method_3_code 148 = .ok (.aload_n 0, 1) := by decide +kernel
theorem own_d5_149 : decode method_3_code 149 = .ok (.bipush 11, 2) := by decide +kernel
theorem own_d5_151 : decode method_3_code 151 = .ok (.caload, 1) := by decide +kernel
theorem own_d5_152 : decode method_3_code 152 = .ok (.castore, 1) := by decide +kernel
theorem own_ef_rm_px12 (m : MethodId) (a1 : Addr) : entryFrame m #[(.ref a1), (.int (12 : Int32))] 3 = mkF m 0 #[.val (.ref a1), .val (.int (12 : Int32)), .unset] [] := by first | (simp [entryFrame, mkF, argsToLocals, Value.category]; done) | rfl
def Qrm_px12 (Z : State) (a1 : Addr) (gS : Int32) (h0 : Heap) (n0 : Nat) (v : Option Value) (h : Heap) (L : List Loc) : Prop := ∃ x cs, v = some (.ref x) ∧ Fr n0 L ∧ Keep h0 h [] ∧ own_Str Z h h.size x cs
set_option maxRecDepth 65536 in
set_option maxHeartbeats 40000000 in
theorem rm_px12 (l : Launch) (Z : State) (a0 : Array Value) (hw : ∀ d ∈ tables_1, d.before a0 Z = true) (ws : List Jvm.Cond) (a1 : Addr) (gS : Int32) (h0 : Heap) (n0 : Nat) (hEL : EW Z a0 own_EL) (O_0 : Old Z n0 h0) (S_S : Sta Z Z.heap "java/lang/String" "COMPACT_STRINGS" "Z" (.int gS)) (hS : ¬ gS = 0) (C_1 : own_Ch Z h0 a1 16) :
    own_MetW l (⟨"com/example/tranchebook/tranchebook/model/FeeByRateNamePinLaw", "prefix", "([CI)Ljava/lang/String;"⟩ : MethodName) method_3_code 3 (some (.object "java/lang/String")) ws ({ frames := 5, cells := 7, slots := 44, locals := 80 } : Room) #[(.ref a1), (.int (12 : Int32))] Z own_EL h0 (Qrm_px12 Z a1 gS h0 n0) := by
  refine own_bodyW own_pn5 ?_
  intro p e s m below meth c T0 X0 hx hby hml hnm hret hlk W0 e0
  have hZ := W0.1
  have hown := W0.2.1
  have N0 := Fr.nil n0
  refine own_st (fun t k => castTop (own_ef_rm_px12 m a1) k) ?_
  show own_Go p.tables e below (T0.setTop (mkF m 0 #[.val (.ref a1), .val (.int (12 : Int32)), .unset] [])) _
  have Z0 := own_Z0 O_0
  have hws : ∀ d ∈ StrChars.Road.words, d.before a0 Z = true := fun d hd => hw d ((by decide +kernel : ∀ d ∈ StrChars.Road.words, d ∈ tables_1) d hd)
  refine own_iloadN X0 hx hby own_d5_0 (pc' := 1) rfl rfl ?_
  refine own_newA X0 hx hby own_d5_1 (pc' := 3) rfl hZ (hw _ (List.mem_of_getElem? (i := 0) rfl)) e0 (by decide) (cap := 12) (by decide) (by decide) (by decide) (by decide) (vs := List.replicate 12 (.int 0)) (by rfl) ?_
  intro T407 h407 b407 X407 e407 g407 E407 A407
  have c407 := own_Ch.new A407
  have l407 : n0 ≤ b407 := (Nat.le_trans Z0 (Nat.le_trans (Nat.le_refl _) (Nat.le_of_eq g407.symm)))
  refine own_astoreN X407 hx hby own_d5_3 (pc' := 4) rfl rfl (Ls' := #[.val (.ref a1), .val (.int (12 : Int32)), .val (.ref b407)]) rfl ?_
  refine own_iloadN X407 hx hby own_d5_4 (pc' := 5) rfl rfl ?_
  refine own_ifNo X407 hx hby own_d5_5 (pc' := 8) rfl (by decide) ?_
  refine own_aloadN X407 hx hby own_d5_8 (pc' := 9) rfl rfl rfl ?_
  refine own_iconst X407 hx hby own_d5_9 (pc' := 10) rfl (z := (0 : Int32)) (by decide) ?_
  refine own_aloadN X407 hx hby own_d5_10 (pc' := 11) rfl rfl rfl ?_
  refine own_iconst X407 hx hby own_d5_11 (pc' := 12) rfl (z := (0 : Int32)) (by decide) ?_
  refine own_caloadC X407 hx hby own_d5_12 (pc' := 13) rfl hZ e407 ((C_1.ext E407)) (by decide) (by decide) ?_
  intro z408 hz408
  refine own_castoreC X407 hx hby own_d5_13 (pc' := 14) rfl hZ e407 (c407) (by decide) (by decide) ((own_narB hz408).symm ▸ hz408) ?_
  intro T409 h409 X409 e409 W409 C409
  have N409 := Fr.snoc X409 N0 l407
  have c410 := ((W0.ext E407).wr W409 (own_Ch.safe c407 ((W0.ext E407)).1.alike))
  have c411 := ((O_0.ext E407).wr W409 l407)
  have c412 := ((C_1.ext E407).other W409 (Nat.ne_of_lt (Nat.lt_of_lt_of_le (C_1).lt (Nat.le_of_eq g407.symm))))
  refine own_iloadN X409 hx hby own_d5_14 (pc' := 15) rfl rfl ?_
  refine own_iconst X409 hx hby own_d5_15 (pc' := 16) rfl (z := (1 : Int32)) (by decide) ?_
  refine own_icmpNo X409 hx hby own_d5_16 (pc' := 19) rfl (by decide) ?_
  refine own_aloadN X409 hx hby own_d5_19 (pc' := 20) rfl rfl rfl ?_
  refine own_iconst X409 hx hby own_d5_20 (pc' := 21) rfl (z := (1 : Int32)) (by decide) ?_
  refine own_aloadN X409 hx hby own_d5_21 (pc' := 22) rfl rfl rfl ?_
  refine own_iconst X409 hx hby own_d5_22 (pc' := 23) rfl (z := (1 : Int32)) (by decide) ?_
  refine own_caloadC X409 hx hby own_d5_23 (pc' := 24) rfl hZ e409 (c412) (by decide) (by decide) ?_
  intro z413 hz413
  refine own_castoreC X409 hx hby own_d5_24 (pc' := 25) rfl hZ e409 (C409) (by decide) (by decide) ((own_narB hz413).symm ▸ hz413) ?_
  intro T414 h414 X414 e414 W414 C414
  have N414 := Fr.snoc X414 N409 l407
  have c415 := (c410.wr W414 (own_Ch.safe C409 (c410).1.alike))
  have c416 := (c411.wr W414 l407)
  have c417 := (c412.other W414 (Nat.ne_of_lt (Nat.lt_of_lt_of_le (C_1).lt (Nat.le_of_eq g407.symm))))
  refine own_iloadN X414 hx hby own_d5_25 (pc' := 26) rfl rfl ?_
  refine own_iconst X414 hx hby own_d5_26 (pc' := 27) rfl (z := (2 : Int32)) (by decide) ?_
  refine own_icmpNo X414 hx hby own_d5_27 (pc' := 30) rfl (by decide) ?_
  refine own_aloadN X414 hx hby own_d5_30 (pc' := 31) rfl rfl rfl ?_
  refine own_iconst X414 hx hby own_d5_31 (pc' := 32) rfl (z := (2 : Int32)) (by decide) ?_
  refine own_aloadN X414 hx hby own_d5_32 (pc' := 33) rfl rfl rfl ?_
  refine own_iconst X414 hx hby own_d5_33 (pc' := 34) rfl (z := (2 : Int32)) (by decide) ?_
  refine own_caloadC X414 hx hby own_d5_34 (pc' := 35) rfl hZ e414 (c417) (by decide) (by decide) ?_
  intro z418 hz418
  refine own_castoreC X414 hx hby own_d5_35 (pc' := 36) rfl hZ e414 (C414) (by decide) (by decide) ((own_narB hz418).symm ▸ hz418) ?_
  intro T419 h419 X419 e419 W419 C419
  have N419 := Fr.snoc X419 N414 l407
  have c420 := (c415.wr W419 (own_Ch.safe C414 (c415).1.alike))
  have c421 := (c416.wr W419 l407)
  have c422 := (c417.other W419 (Nat.ne_of_lt (Nat.lt_of_lt_of_le (C_1).lt (Nat.le_of_eq g407.symm))))
  refine own_iloadN X419 hx hby own_d5_36 (pc' := 37) rfl rfl ?_
  refine own_iconst X419 hx hby own_d5_37 (pc' := 38) rfl (z := (3 : Int32)) (by decide) ?_
  refine own_icmpNo X419 hx hby own_d5_38 (pc' := 41) rfl (by decide) ?_
  refine own_aloadN X419 hx hby own_d5_41 (pc' := 42) rfl rfl rfl ?_
  refine own_iconst X419 hx hby own_d5_42 (pc' := 43) rfl (z := (3 : Int32)) (by decide) ?_
  refine own_aloadN X419 hx hby own_d5_43 (pc' := 44) rfl rfl rfl ?_
  refine own_iconst X419 hx hby own_d5_44 (pc' := 45) rfl (z := (3 : Int32)) (by decide) ?_
  refine own_caloadC X419 hx hby own_d5_45 (pc' := 46) rfl hZ e419 (c422) (by decide) (by decide) ?_
  intro z423 hz423
  refine own_castoreC X419 hx hby own_d5_46 (pc' := 47) rfl hZ e419 (C419) (by decide) (by decide) ((own_narB hz423).symm ▸ hz423) ?_
  intro T424 h424 X424 e424 W424 C424
  have N424 := Fr.snoc X424 N419 l407
  have c425 := (c420.wr W424 (own_Ch.safe C419 (c420).1.alike))
  have c426 := (c421.wr W424 l407)
  have c427 := (c422.other W424 (Nat.ne_of_lt (Nat.lt_of_lt_of_le (C_1).lt (Nat.le_of_eq g407.symm))))
  refine own_iloadN X424 hx hby own_d5_47 (pc' := 48) rfl rfl ?_
  refine own_iconst X424 hx hby own_d5_48 (pc' := 49) rfl (z := (4 : Int32)) (by decide) ?_
  refine own_icmpNo X424 hx hby own_d5_49 (pc' := 52) rfl (by decide) ?_
  refine own_aloadN X424 hx hby own_d5_52 (pc' := 53) rfl rfl rfl ?_
  refine own_iconst X424 hx hby own_d5_53 (pc' := 54) rfl (z := (4 : Int32)) (by decide) ?_
  refine own_aloadN X424 hx hby own_d5_54 (pc' := 55) rfl rfl rfl ?_
  refine own_iconst X424 hx hby own_d5_55 (pc' := 56) rfl (z := (4 : Int32)) (by decide) ?_
  refine own_caloadC X424 hx hby own_d5_56 (pc' := 57) rfl hZ e424 (c427) (by decide) (by decide) ?_
  intro z428 hz428
  refine own_castoreC X424 hx hby own_d5_57 (pc' := 58) rfl hZ e424 (C424) (by decide) (by decide) ((own_narB hz428).symm ▸ hz428) ?_
  intro T429 h429 X429 e429 W429 C429
  have N429 := Fr.snoc X429 N424 l407
  have c430 := (c425.wr W429 (own_Ch.safe C424 (c425).1.alike))
  have c431 := (c426.wr W429 l407)
  have c432 := (c427.other W429 (Nat.ne_of_lt (Nat.lt_of_lt_of_le (C_1).lt (Nat.le_of_eq g407.symm))))
  refine own_iloadN X429 hx hby own_d5_58 (pc' := 59) rfl rfl ?_
  refine own_iconst X429 hx hby own_d5_59 (pc' := 60) rfl (z := (5 : Int32)) (by decide) ?_
  refine own_icmpNo X429 hx hby own_d5_60 (pc' := 63) rfl (by decide) ?_
  refine own_aloadN X429 hx hby own_d5_63 (pc' := 64) rfl rfl rfl ?_
  refine own_iconst X429 hx hby own_d5_64 (pc' := 65) rfl (z := (5 : Int32)) (by decide) ?_
  refine own_aloadN X429 hx hby own_d5_65 (pc' := 66) rfl rfl rfl ?_
  refine own_iconst X429 hx hby own_d5_66 (pc' := 67) rfl (z := (5 : Int32)) (by decide) ?_
  refine own_caloadC X429 hx hby own_d5_67 (pc' := 68) rfl hZ e429 (c432) (by decide) (by decide) ?_
  intro z433 hz433
  refine own_castoreC X429 hx hby own_d5_68 (pc' := 69) rfl hZ e429 (C429) (by decide) (by decide) ((own_narB hz433).symm ▸ hz433) ?_
  intro T434 h434 X434 e434 W434 C434
  have N434 := Fr.snoc X434 N429 l407
  have c435 := (c430.wr W434 (own_Ch.safe C429 (c430).1.alike))
  have c436 := (c431.wr W434 l407)
  have c437 := (c432.other W434 (Nat.ne_of_lt (Nat.lt_of_lt_of_le (C_1).lt (Nat.le_of_eq g407.symm))))
  refine own_iloadN X434 hx hby own_d5_69 (pc' := 70) rfl rfl ?_
  refine own_bipush X434 hx hby own_d5_70 (pc' := 72) rfl (z := (6 : Int32)) (by decide) ?_
  refine own_icmpNo X434 hx hby own_d5_72 (pc' := 75) rfl (by decide) ?_
  refine own_aloadN X434 hx hby own_d5_75 (pc' := 76) rfl rfl rfl ?_
  refine own_bipush X434 hx hby own_d5_76 (pc' := 78) rfl (z := (6 : Int32)) (by decide) ?_
  refine own_aloadN X434 hx hby own_d5_78 (pc' := 79) rfl rfl rfl ?_
  refine own_bipush X434 hx hby own_d5_79 (pc' := 81) rfl (z := (6 : Int32)) (by decide) ?_
  refine own_caloadC X434 hx hby own_d5_81 (pc' := 82) rfl hZ e434 (c437) (by decide) (by decide) ?_
  intro z438 hz438
  refine own_castoreC X434 hx hby own_d5_82 (pc' := 83) rfl hZ e434 (C434) (by decide) (by decide) ((own_narB hz438).symm ▸ hz438) ?_
  intro T439 h439 X439 e439 W439 C439
  have N439 := Fr.snoc X439 N434 l407
  have c440 := (c435.wr W439 (own_Ch.safe C434 (c435).1.alike))
  have c441 := (c436.wr W439 l407)
  have c442 := (c437.other W439 (Nat.ne_of_lt (Nat.lt_of_lt_of_le (C_1).lt (Nat.le_of_eq g407.symm))))
  refine own_iloadN X439 hx hby own_d5_83 (pc' := 84) rfl rfl ?_
  refine own_bipush X439 hx hby own_d5_84 (pc' := 86) rfl (z := (7 : Int32)) (by decide) ?_
  refine own_icmpNo X439 hx hby own_d5_86 (pc' := 89) rfl (by decide) ?_
  refine own_aloadN X439 hx hby own_d5_89 (pc' := 90) rfl rfl rfl ?_
  refine own_bipush X439 hx hby own_d5_90 (pc' := 92) rfl (z := (7 : Int32)) (by decide) ?_
  refine own_aloadN X439 hx hby own_d5_92 (pc' := 93) rfl rfl rfl ?_
  refine own_bipush X439 hx hby own_d5_93 (pc' := 95) rfl (z := (7 : Int32)) (by decide) ?_
  refine own_caloadC X439 hx hby own_d5_95 (pc' := 96) rfl hZ e439 (c442) (by decide) (by decide) ?_
  intro z443 hz443
  refine own_castoreC X439 hx hby own_d5_96 (pc' := 97) rfl hZ e439 (C439) (by decide) (by decide) ((own_narB hz443).symm ▸ hz443) ?_
  intro T444 h444 X444 e444 W444 C444
  have N444 := Fr.snoc X444 N439 l407
  have c445 := (c440.wr W444 (own_Ch.safe C439 (c440).1.alike))
  have c446 := (c441.wr W444 l407)
  have c447 := (c442.other W444 (Nat.ne_of_lt (Nat.lt_of_lt_of_le (C_1).lt (Nat.le_of_eq g407.symm))))
  refine own_iloadN X444 hx hby own_d5_97 (pc' := 98) rfl rfl ?_
  refine own_bipush X444 hx hby own_d5_98 (pc' := 100) rfl (z := (8 : Int32)) (by decide) ?_
  refine own_icmpNo X444 hx hby own_d5_100 (pc' := 103) rfl (by decide) ?_
  refine own_aloadN X444 hx hby own_d5_103 (pc' := 104) rfl rfl rfl ?_
  refine own_bipush X444 hx hby own_d5_104 (pc' := 106) rfl (z := (8 : Int32)) (by decide) ?_
  refine own_aloadN X444 hx hby own_d5_106 (pc' := 107) rfl rfl rfl ?_
  refine own_bipush X444 hx hby own_d5_107 (pc' := 109) rfl (z := (8 : Int32)) (by decide) ?_
  refine own_caloadC X444 hx hby own_d5_109 (pc' := 110) rfl hZ e444 (c447) (by decide) (by decide) ?_
  intro z448 hz448
  refine own_castoreC X444 hx hby own_d5_110 (pc' := 111) rfl hZ e444 (C444) (by decide) (by decide) ((own_narB hz448).symm ▸ hz448) ?_
  intro T449 h449 X449 e449 W449 C449
  have N449 := Fr.snoc X449 N444 l407
  have c450 := (c445.wr W449 (own_Ch.safe C444 (c445).1.alike))
  have c451 := (c446.wr W449 l407)
  have c452 := (c447.other W449 (Nat.ne_of_lt (Nat.lt_of_lt_of_le (C_1).lt (Nat.le_of_eq g407.symm))))
  refine own_iloadN X449 hx hby own_d5_111 (pc' := 112) rfl rfl ?_
  refine own_bipush X449 hx hby own_d5_112 (pc' := 114) rfl (z := (9 : Int32)) (by decide) ?_
  refine own_icmpNo X449 hx hby own_d5_114 (pc' := 117) rfl (by decide) ?_
  refine own_aloadN X449 hx hby own_d5_117 (pc' := 118) rfl rfl rfl ?_
  refine own_bipush X449 hx hby own_d5_118 (pc' := 120) rfl (z := (9 : Int32)) (by decide) ?_
  refine own_aloadN X449 hx hby own_d5_120 (pc' := 121) rfl rfl rfl ?_
  refine own_bipush X449 hx hby own_d5_121 (pc' := 123) rfl (z := (9 : Int32)) (by decide) ?_
  refine own_caloadC X449 hx hby own_d5_123 (pc' := 124) rfl hZ e449 (c452) (by decide) (by decide) ?_
  intro z453 hz453
  refine own_castoreC X449 hx hby own_d5_124 (pc' := 125) rfl hZ e449 (C449) (by decide) (by decide) ((own_narB hz453).symm ▸ hz453) ?_
  intro T454 h454 X454 e454 W454 C454
  have N454 := Fr.snoc X454 N449 l407
  have c455 := (c450.wr W454 (own_Ch.safe C449 (c450).1.alike))
  have c456 := (c451.wr W454 l407)
  have c457 := (c452.other W454 (Nat.ne_of_lt (Nat.lt_of_lt_of_le (C_1).lt (Nat.le_of_eq g407.symm))))
  refine own_iloadN X454 hx hby own_d5_125 (pc' := 126) rfl rfl ?_
  refine own_bipush X454 hx hby own_d5_126 (pc' := 128) rfl (z := (10 : Int32)) (by decide) ?_
  refine own_icmpNo X454 hx hby own_d5_128 (pc' := 131) rfl (by decide) ?_
  refine own_aloadN X454 hx hby own_d5_131 (pc' := 132) rfl rfl rfl ?_
  refine own_bipush X454 hx hby own_d5_132 (pc' := 134) rfl (z := (10 : Int32)) (by decide) ?_
  refine own_aloadN X454 hx hby own_d5_134 (pc' := 135) rfl rfl rfl ?_
  refine own_bipush X454 hx hby own_d5_135 (pc' := 137) rfl (z := (10 : Int32)) (by decide) ?_
  refine own_caloadC X454 hx hby own_d5_137 (pc' := 138) rfl hZ e454 (c457) (by decide) (by decide) ?_
  intro z458 hz458
  refine own_castoreC X454 hx hby own_d5_138 (pc' := 139) rfl hZ e454 (C454) (by decide) (by decide) ((own_narB hz458).symm ▸ hz458) ?_
  intro T459 h459 X459 e459 W459 C459
  have N459 := Fr.snoc X459 N454 l407
  have c460 := (c455.wr W459 (own_Ch.safe C454 (c455).1.alike))
  have c461 := (c456.wr W459 l407)
  have c462 := (c457.other W459 (Nat.ne_of_lt (Nat.lt_of_lt_of_le (C_1).lt (Nat.le_of_eq g407.symm))))
  refine own_iloadN X459 hx hby own_d5_139 (pc' := 140) rfl rfl ?_
  refine own_bipush X459 hx hby own_d5_140 (pc' := 142) rfl (z := (11 : Int32)) (by decide) ?_
  refine own_icmpNo X459 hx hby own_d5_142 (pc' := 145) rfl (by decide) ?_
  refine own_aloadN X459 hx hby own_d5_145 (pc' := 146) rfl rfl rfl ?_
  refine own_bipush X459 hx hby own_d5_146 (pc' := 148) rfl (z := (11 : Int32)) (by decide) ?_
  refine own_aloadN X459 hx hby own_d5_148 (pc' := 149) rfl rfl rfl ?_
  refine own_bipush X459 hx hby own_d5_149 (pc' := 151) rfl (z := (11 : Int32)) (by decide) ?_
  refine own_caloadC X459 hx hby own_d5_151 (pc' := 152) rfl hZ e459 (c462) (by decide) (by decide) ?_
  intro z463 hz463
  refine own_castoreC X459 hx hby own_d5_152 (pc' := 153) rfl hZ e459 (C459) (by decide) (by decide) ((own_narB hz463).symm ▸ hz463) ?_
  intro T464 h464 X464 e464 W464 C464
  have N464 := Fr.snoc X464 N459 l407
  have c465 := (c460.wr W464 (own_Ch.safe C459 (c460).1.alike))
  have c466 := (c461.wr W464 l407)
  have c467 := (c462.other W464 (Nat.ne_of_lt (Nat.lt_of_lt_of_le (C_1).lt (Nat.le_of_eq g407.symm))))
  refine own_iloadN X464 hx hby own_d5_153 (pc' := 154) rfl rfl ?_
  refine own_bipush X464 hx hby own_d5_154 (pc' := 156) rfl (z := (12 : Int32)) (by decide) ?_
  refine own_icmpYes X464 hx hby own_d5_156 (pc' := 167) (by decide) (by decide) ?_
  refine own_iloadN X464 hx hby own_d5_167 (pc' := 168) rfl rfl ?_
  refine own_bipush X464 hx hby own_d5_168 (pc' := 170) rfl (z := (13 : Int32)) (by decide) ?_
  refine own_icmpYes X464 hx hby own_d5_170 (pc' := 181) (by decide) (by decide) ?_
  refine own_iloadN X464 hx hby own_d5_181 (pc' := 182) rfl rfl ?_
  refine own_bipush X464 hx hby own_d5_182 (pc' := 184) rfl (z := (14 : Int32)) (by decide) ?_
  refine own_icmpYes X464 hx hby own_d5_184 (pc' := 195) (by decide) (by decide) ?_
  refine own_new X464 hx hby own_d5_195 (pc' := 198) rfl hZ hown (hw _ (List.mem_of_getElem? (i := 44) rfl)) (hw _ (List.mem_of_getElem? (i := 34) rfl)) (hw _ (List.mem_of_getElem? (i := 31) rfl)) e464 (by decide) (by decide) ?_
  intro T468 h468 b468 X468 e468 g468 E468 A468 D468
  have F468_value : Fld Z h468 b468 "java/lang/String" "value" "[B" .null := D468 (Or.inr (hw _ (List.mem_of_getElem? (i := 36) rfl))) (ty := (.array .byte)) (by decide)
  have F468_coder : Fld Z h468 b468 "java/lang/String" "coder" "B" (.int (0 : Int32)) := D468 (Or.inr (hw _ (List.mem_of_getElem? (i := 37) rfl))) (ty := .byte) (by decide)
  have l468 : n0 ≤ b468 := (Nat.le_trans Z0 (Nat.le_trans (Nat.le_trans (Nat.le_trans (Nat.le_trans (Nat.le_trans (Nat.le_trans (Nat.le_trans (Nat.le_trans (Nat.le_trans (Nat.le_trans (Nat.le_trans (Nat.le_trans (Nat.le_trans (Nat.le_trans (Nat.le_refl _) E407.1) (Nat.le_of_eq (Wr.size W409).symm)) (Nat.le_of_eq (Wr.size W414).symm)) (Nat.le_of_eq (Wr.size W419).symm)) (Nat.le_of_eq (Wr.size W424).symm)) (Nat.le_of_eq (Wr.size W429).symm)) (Nat.le_of_eq (Wr.size W434).symm)) (Nat.le_of_eq (Wr.size W439).symm)) (Nat.le_of_eq (Wr.size W444).symm)) (Nat.le_of_eq (Wr.size W449).symm)) (Nat.le_of_eq (Wr.size W454).symm)) (Nat.le_of_eq (Wr.size W459).symm)) (Nat.le_of_eq (Wr.size W464).symm)) (Nat.le_of_eq g468.symm)))
  refine own_dup X468 hx hby own_d5_198 (pc' := 199) rfl rfl ?_
  refine own_aloadN X468 hx hby own_d5_199 (pc' := 200) rfl rfl rfl ?_
  refine own_callSpB X468 hx hZ (own_strB (W := 1) hZ hws (hw _ (List.mem_of_getElem? (i := 34) rfl)) l468 (own_Z0 ((c466.ext E468))) (A468) (F468_value) (F468_coder) ((C464.ext E468)) (S_S.ext ((c466.ext E468)).2) hS (by decide) (by decide) (by decide) (by decide)) rfl hown (hw _ (List.mem_of_getElem? (i := 45) rfl)) (hw _ (List.mem_of_getElem? (i := 46) rfl)) (hw _ (List.mem_of_getElem? (i := 47) rfl)) (by decide) (by rw [hml]; rfl) (argsL := [(.ref b407)]) (rest := [(.ref b468)]) rfl (lenOf own_pd3 rfl) rfl (Nat.le_of_eq rfl) (hb hby own_d5_200) e468 (by decide) (by decide) ?_
  intro v469 T469 L469 X469 hQ469
  obtain ⟨hv469, N469q, K469, cs469, F469⟩ := hQ469
  subst hv469
  have N469 := Fr.app N464 N469q
  have c470 := ((c465.ext E468).keep K469 (allS (Safe.ext E468 (c465).ch (Safe.new (Nat.le_of_eq g468.symm))) all0))
  have c471 := ((c466.ext E468).keep K469 (allS l468 all0))
  show own_Go p.tables e below (T469.setTop (mkF m 203 #[.val (.ref a1), .val (.int (12 : Int32)), .val (.ref b407)] [(.ref b468)])) _
  exact own_retAW X469 hx hEL (c470) rfl hret rfl rfl (hb hby own_d5_203) hlk (by decide) (by decide) ⟨_, cs469, rfl, N469, ((((((((((((((((Keep.refl h0 []).ext E407).wr W409 (Or.inr (Nat.le_trans (Nat.le_refl _) (Nat.le_of_eq g407.symm)))).wr W414 (Or.inr (Nat.le_trans (Nat.le_refl _) (Nat.le_of_eq g407.symm)))).wr W419 (Or.inr (Nat.le_trans (Nat.le_refl _) (Nat.le_of_eq g407.symm)))).wr W424 (Or.inr (Nat.le_trans (Nat.le_refl _) (Nat.le_of_eq g407.symm)))).wr W429 (Or.inr (Nat.le_trans (Nat.le_refl _) (Nat.le_of_eq g407.symm)))).wr W434 (Or.inr (Nat.le_trans (Nat.le_refl _) (Nat.le_of_eq g407.symm)))).wr W439 (Or.inr (Nat.le_trans (Nat.le_refl _) (Nat.le_of_eq g407.symm)))).wr W444 (Or.inr (Nat.le_trans (Nat.le_refl _) (Nat.le_of_eq g407.symm)))).wr W449 (Or.inr (Nat.le_trans (Nat.le_refl _) (Nat.le_of_eq g407.symm)))).wr W454 (Or.inr (Nat.le_trans (Nat.le_refl _) (Nat.le_of_eq g407.symm)))).wr W459 (Or.inr (Nat.le_trans (Nat.le_refl _) (Nat.le_of_eq g407.symm)))).wr W464 (Or.inr (Nat.le_trans (Nat.le_refl _) (Nat.le_of_eq g407.symm)))).ext E468).trans K469 (allS (Or.inr (Nat.le_trans (Nat.le_trans (Nat.le_trans (Nat.le_trans (Nat.le_trans (Nat.le_trans (Nat.le_trans (Nat.le_trans (Nat.le_trans (Nat.le_trans (Nat.le_trans (Nat.le_trans (Nat.le_trans (Nat.le_trans (Nat.le_refl _) E407.1) (Nat.le_of_eq (Wr.size W409).symm)) (Nat.le_of_eq (Wr.size W414).symm)) (Nat.le_of_eq (Wr.size W419).symm)) (Nat.le_of_eq (Wr.size W424).symm)) (Nat.le_of_eq (Wr.size W429).symm)) (Nat.le_of_eq (Wr.size W434).symm)) (Nat.le_of_eq (Wr.size W439).symm)) (Nat.le_of_eq (Wr.size W444).symm)) (Nat.le_of_eq (Wr.size W449).symm)) (Nat.le_of_eq (Wr.size W454).symm)) (Nat.le_of_eq (Wr.size W459).symm)) (Nat.le_of_eq (Wr.size W464).symm)) (Nat.le_of_eq g468.symm))) all0)), F469⟩
theorem own_d5_159 : decode method_3_code 159 = .ok (.aload_n 2, 1) := by decide +kernel
theorem own_d5_160 : decode method_3_code 160 = .ok (.bipush 12, 2) := by decide +kernel
theorem own_d5_162 : decode method_3_code 162 = .ok (.aload_n 0, 1) := by decide +kernel
theorem own_d5_163 : decode method_3_code 163 = .ok (.bipush 12, 2) := by decide +kernel
theorem own_d5_165 : decode method_3_code 165 = .ok (.caload, 1) := by decide +kernel
theorem own_d5_166 : decode method_3_code 166 = .ok (.castore, 1) := by decide +kernel
theorem own_ef_rm_px13 (m : MethodId) (a1 : Addr) : entryFrame m #[(.ref a1), (.int (13 : Int32))] 3 = mkF m 0 #[.val (.ref a1), .val (.int (13 : Int32)), .unset] [] := by first | (simp [entryFrame, mkF, argsToLocals, Value.category]; done) | rfl
def Qrm_px13 (Z : State) (a1 : Addr) (gS : Int32) (h0 : Heap) (n0 : Nat) (v : Option Value) (h : Heap) (L : List Loc) : Prop := ∃ x cs, v = some (.ref x) ∧ Fr n0 L ∧ Keep h0 h [] ∧ own_Str Z h h.size x cs
set_option maxRecDepth 65536 in
set_option maxHeartbeats 40000000 in
theorem rm_px13 (l : Launch) (Z : State) (a0 : Array Value) (hw : ∀ d ∈ tables_1, d.before a0 Z = true) (ws : List Jvm.Cond) (a1 : Addr) (gS : Int32) (h0 : Heap) (n0 : Nat) (hEL : EW Z a0 own_EL) (O_0 : Old Z n0 h0) (S_S : Sta Z Z.heap "java/lang/String" "COMPACT_STRINGS" "Z" (.int gS)) (hS : ¬ gS = 0) (C_1 : own_Ch Z h0 a1 16) :
    own_MetW l (⟨"com/example/tranchebook/tranchebook/model/FeeByRateNamePinLaw", "prefix", "([CI)Ljava/lang/String;"⟩ : MethodName) method_3_code 3 (some (.object "java/lang/String")) ws ({ frames := 5, cells := 7, slots := 44, locals := 80 } : Room) #[(.ref a1), (.int (13 : Int32))] Z own_EL h0 (Qrm_px13 Z a1 gS h0 n0) := by
  refine own_bodyW own_pn5 ?_
  intro p e s m below meth c T0 X0 hx hby hml hnm hret hlk W0 e0
  have hZ := W0.1
  have hown := W0.2.1
  have N0 := Fr.nil n0
  refine own_st (fun t k => castTop (own_ef_rm_px13 m a1) k) ?_
  show own_Go p.tables e below (T0.setTop (mkF m 0 #[.val (.ref a1), .val (.int (13 : Int32)), .unset] [])) _
  have Z0 := own_Z0 O_0
  have hws : ∀ d ∈ StrChars.Road.words, d.before a0 Z = true := fun d hd => hw d ((by decide +kernel : ∀ d ∈ StrChars.Road.words, d ∈ tables_1) d hd)
  refine own_iloadN X0 hx hby own_d5_0 (pc' := 1) rfl rfl ?_
  refine own_newA X0 hx hby own_d5_1 (pc' := 3) rfl hZ (hw _ (List.mem_of_getElem? (i := 0) rfl)) e0 (by decide) (cap := 13) (by decide) (by decide) (by decide) (by decide) (vs := List.replicate 13 (.int 0)) (by rfl) ?_
  intro T472 h472 b472 X472 e472 g472 E472 A472
  have c472 := own_Ch.new A472
  have l472 : n0 ≤ b472 := (Nat.le_trans Z0 (Nat.le_trans (Nat.le_refl _) (Nat.le_of_eq g472.symm)))
  refine own_astoreN X472 hx hby own_d5_3 (pc' := 4) rfl rfl (Ls' := #[.val (.ref a1), .val (.int (13 : Int32)), .val (.ref b472)]) rfl ?_
  refine own_iloadN X472 hx hby own_d5_4 (pc' := 5) rfl rfl ?_
  refine own_ifNo X472 hx hby own_d5_5 (pc' := 8) rfl (by decide) ?_
  refine own_aloadN X472 hx hby own_d5_8 (pc' := 9) rfl rfl rfl ?_
  refine own_iconst X472 hx hby own_d5_9 (pc' := 10) rfl (z := (0 : Int32)) (by decide) ?_
  refine own_aloadN X472 hx hby own_d5_10 (pc' := 11) rfl rfl rfl ?_
  refine own_iconst X472 hx hby own_d5_11 (pc' := 12) rfl (z := (0 : Int32)) (by decide) ?_
  refine own_caloadC X472 hx hby own_d5_12 (pc' := 13) rfl hZ e472 ((C_1.ext E472)) (by decide) (by decide) ?_
  intro z473 hz473
  refine own_castoreC X472 hx hby own_d5_13 (pc' := 14) rfl hZ e472 (c472) (by decide) (by decide) ((own_narB hz473).symm ▸ hz473) ?_
  intro T474 h474 X474 e474 W474 C474
  have N474 := Fr.snoc X474 N0 l472
  have c475 := ((W0.ext E472).wr W474 (own_Ch.safe c472 ((W0.ext E472)).1.alike))
  have c476 := ((O_0.ext E472).wr W474 l472)
  have c477 := ((C_1.ext E472).other W474 (Nat.ne_of_lt (Nat.lt_of_lt_of_le (C_1).lt (Nat.le_of_eq g472.symm))))
  refine own_iloadN X474 hx hby own_d5_14 (pc' := 15) rfl rfl ?_
  refine own_iconst X474 hx hby own_d5_15 (pc' := 16) rfl (z := (1 : Int32)) (by decide) ?_
  refine own_icmpNo X474 hx hby own_d5_16 (pc' := 19) rfl (by decide) ?_
  refine own_aloadN X474 hx hby own_d5_19 (pc' := 20) rfl rfl rfl ?_
  refine own_iconst X474 hx hby own_d5_20 (pc' := 21) rfl (z := (1 : Int32)) (by decide) ?_
  refine own_aloadN X474 hx hby own_d5_21 (pc' := 22) rfl rfl rfl ?_
  refine own_iconst X474 hx hby own_d5_22 (pc' := 23) rfl (z := (1 : Int32)) (by decide) ?_
  refine own_caloadC X474 hx hby own_d5_23 (pc' := 24) rfl hZ e474 (c477) (by decide) (by decide) ?_
  intro z478 hz478
  refine own_castoreC X474 hx hby own_d5_24 (pc' := 25) rfl hZ e474 (C474) (by decide) (by decide) ((own_narB hz478).symm ▸ hz478) ?_
  intro T479 h479 X479 e479 W479 C479
  have N479 := Fr.snoc X479 N474 l472
  have c480 := (c475.wr W479 (own_Ch.safe C474 (c475).1.alike))
  have c481 := (c476.wr W479 l472)
  have c482 := (c477.other W479 (Nat.ne_of_lt (Nat.lt_of_lt_of_le (C_1).lt (Nat.le_of_eq g472.symm))))
  refine own_iloadN X479 hx hby own_d5_25 (pc' := 26) rfl rfl ?_
  refine own_iconst X479 hx hby own_d5_26 (pc' := 27) rfl (z := (2 : Int32)) (by decide) ?_
  refine own_icmpNo X479 hx hby own_d5_27 (pc' := 30) rfl (by decide) ?_
  refine own_aloadN X479 hx hby own_d5_30 (pc' := 31) rfl rfl rfl ?_
  refine own_iconst X479 hx hby own_d5_31 (pc' := 32) rfl (z := (2 : Int32)) (by decide) ?_
  refine own_aloadN X479 hx hby own_d5_32 (pc' := 33) rfl rfl rfl ?_
  refine own_iconst X479 hx hby own_d5_33 (pc' := 34) rfl (z := (2 : Int32)) (by decide) ?_
  refine own_caloadC X479 hx hby own_d5_34 (pc' := 35) rfl hZ e479 (c482) (by decide) (by decide) ?_
  intro z483 hz483
  refine own_castoreC X479 hx hby own_d5_35 (pc' := 36) rfl hZ e479 (C479) (by decide) (by decide) ((own_narB hz483).symm ▸ hz483) ?_
  intro T484 h484 X484 e484 W484 C484
  have N484 := Fr.snoc X484 N479 l472
  have c485 := (c480.wr W484 (own_Ch.safe C479 (c480).1.alike))
  have c486 := (c481.wr W484 l472)
  have c487 := (c482.other W484 (Nat.ne_of_lt (Nat.lt_of_lt_of_le (C_1).lt (Nat.le_of_eq g472.symm))))
  refine own_iloadN X484 hx hby own_d5_36 (pc' := 37) rfl rfl ?_
  refine own_iconst X484 hx hby own_d5_37 (pc' := 38) rfl (z := (3 : Int32)) (by decide) ?_
  refine own_icmpNo X484 hx hby own_d5_38 (pc' := 41) rfl (by decide) ?_
  refine own_aloadN X484 hx hby own_d5_41 (pc' := 42) rfl rfl rfl ?_
  refine own_iconst X484 hx hby own_d5_42 (pc' := 43) rfl (z := (3 : Int32)) (by decide) ?_
  refine own_aloadN X484 hx hby own_d5_43 (pc' := 44) rfl rfl rfl ?_
  refine own_iconst X484 hx hby own_d5_44 (pc' := 45) rfl (z := (3 : Int32)) (by decide) ?_
  refine own_caloadC X484 hx hby own_d5_45 (pc' := 46) rfl hZ e484 (c487) (by decide) (by decide) ?_
  intro z488 hz488
  refine own_castoreC X484 hx hby own_d5_46 (pc' := 47) rfl hZ e484 (C484) (by decide) (by decide) ((own_narB hz488).symm ▸ hz488) ?_
  intro T489 h489 X489 e489 W489 C489
  have N489 := Fr.snoc X489 N484 l472
  have c490 := (c485.wr W489 (own_Ch.safe C484 (c485).1.alike))
  have c491 := (c486.wr W489 l472)
  have c492 := (c487.other W489 (Nat.ne_of_lt (Nat.lt_of_lt_of_le (C_1).lt (Nat.le_of_eq g472.symm))))
  refine own_iloadN X489 hx hby own_d5_47 (pc' := 48) rfl rfl ?_
  refine own_iconst X489 hx hby own_d5_48 (pc' := 49) rfl (z := (4 : Int32)) (by decide) ?_
  refine own_icmpNo X489 hx hby own_d5_49 (pc' := 52) rfl (by decide) ?_
  refine own_aloadN X489 hx hby own_d5_52 (pc' := 53) rfl rfl rfl ?_
  refine own_iconst X489 hx hby own_d5_53 (pc' := 54) rfl (z := (4 : Int32)) (by decide) ?_
  refine own_aloadN X489 hx hby own_d5_54 (pc' := 55) rfl rfl rfl ?_
  refine own_iconst X489 hx hby own_d5_55 (pc' := 56) rfl (z := (4 : Int32)) (by decide) ?_
  refine own_caloadC X489 hx hby own_d5_56 (pc' := 57) rfl hZ e489 (c492) (by decide) (by decide) ?_
  intro z493 hz493
  refine own_castoreC X489 hx hby own_d5_57 (pc' := 58) rfl hZ e489 (C489) (by decide) (by decide) ((own_narB hz493).symm ▸ hz493) ?_
  intro T494 h494 X494 e494 W494 C494
  have N494 := Fr.snoc X494 N489 l472
  have c495 := (c490.wr W494 (own_Ch.safe C489 (c490).1.alike))
  have c496 := (c491.wr W494 l472)
  have c497 := (c492.other W494 (Nat.ne_of_lt (Nat.lt_of_lt_of_le (C_1).lt (Nat.le_of_eq g472.symm))))
  refine own_iloadN X494 hx hby own_d5_58 (pc' := 59) rfl rfl ?_
  refine own_iconst X494 hx hby own_d5_59 (pc' := 60) rfl (z := (5 : Int32)) (by decide) ?_
  refine own_icmpNo X494 hx hby own_d5_60 (pc' := 63) rfl (by decide) ?_
  refine own_aloadN X494 hx hby own_d5_63 (pc' := 64) rfl rfl rfl ?_
  refine own_iconst X494 hx hby own_d5_64 (pc' := 65) rfl (z := (5 : Int32)) (by decide) ?_
  refine own_aloadN X494 hx hby own_d5_65 (pc' := 66) rfl rfl rfl ?_
  refine own_iconst X494 hx hby own_d5_66 (pc' := 67) rfl (z := (5 : Int32)) (by decide) ?_
  refine own_caloadC X494 hx hby own_d5_67 (pc' := 68) rfl hZ e494 (c497) (by decide) (by decide) ?_
  intro z498 hz498
  refine own_castoreC X494 hx hby own_d5_68 (pc' := 69) rfl hZ e494 (C494) (by decide) (by decide) ((own_narB hz498).symm ▸ hz498) ?_
  intro T499 h499 X499 e499 W499 C499
  have N499 := Fr.snoc X499 N494 l472
  have c500 := (c495.wr W499 (own_Ch.safe C494 (c495).1.alike))
  have c501 := (c496.wr W499 l472)
  have c502 := (c497.other W499 (Nat.ne_of_lt (Nat.lt_of_lt_of_le (C_1).lt (Nat.le_of_eq g472.symm))))
  refine own_iloadN X499 hx hby own_d5_69 (pc' := 70) rfl rfl ?_
  refine own_bipush X499 hx hby own_d5_70 (pc' := 72) rfl (z := (6 : Int32)) (by decide) ?_
  refine own_icmpNo X499 hx hby own_d5_72 (pc' := 75) rfl (by decide) ?_
  refine own_aloadN X499 hx hby own_d5_75 (pc' := 76) rfl rfl rfl ?_
  refine own_bipush X499 hx hby own_d5_76 (pc' := 78) rfl (z := (6 : Int32)) (by decide) ?_
  refine own_aloadN X499 hx hby own_d5_78 (pc' := 79) rfl rfl rfl ?_
  refine own_bipush X499 hx hby own_d5_79 (pc' := 81) rfl (z := (6 : Int32)) (by decide) ?_
  refine own_caloadC X499 hx hby own_d5_81 (pc' := 82) rfl hZ e499 (c502) (by decide) (by decide) ?_
  intro z503 hz503
  refine own_castoreC X499 hx hby own_d5_82 (pc' := 83) rfl hZ e499 (C499) (by decide) (by decide) ((own_narB hz503).symm ▸ hz503) ?_
  intro T504 h504 X504 e504 W504 C504
  have N504 := Fr.snoc X504 N499 l472
  have c505 := (c500.wr W504 (own_Ch.safe C499 (c500).1.alike))
  have c506 := (c501.wr W504 l472)
  have c507 := (c502.other W504 (Nat.ne_of_lt (Nat.lt_of_lt_of_le (C_1).lt (Nat.le_of_eq g472.symm))))
  refine own_iloadN X504 hx hby own_d5_83 (pc' := 84) rfl rfl ?_
  refine own_bipush X504 hx hby own_d5_84 (pc' := 86) rfl (z := (7 : Int32)) (by decide) ?_
  refine own_icmpNo X504 hx hby own_d5_86 (pc' := 89) rfl (by decide) ?_
  refine own_aloadN X504 hx hby own_d5_89 (pc' := 90) rfl rfl rfl ?_
  refine own_bipush X504 hx hby own_d5_90 (pc' := 92) rfl (z := (7 : Int32)) (by decide) ?_
  refine own_aloadN X504 hx hby own_d5_92 (pc' := 93) rfl rfl rfl ?_
  refine own_bipush X504 hx hby own_d5_93 (pc' := 95) rfl (z := (7 : Int32)) (by decide) ?_
  refine own_caloadC X504 hx hby own_d5_95 (pc' := 96) rfl hZ e504 (c507) (by decide) (by decide) ?_
  intro z508 hz508
  refine own_castoreC X504 hx hby own_d5_96 (pc' := 97) rfl hZ e504 (C504) (by decide) (by decide) ((own_narB hz508).symm ▸ hz508) ?_
  intro T509 h509 X509 e509 W509 C509
  have N509 := Fr.snoc X509 N504 l472
  have c510 := (c505.wr W509 (own_Ch.safe C504 (c505).1.alike))
  have c511 := (c506.wr W509 l472)
  have c512 := (c507.other W509 (Nat.ne_of_lt (Nat.lt_of_lt_of_le (C_1).lt (Nat.le_of_eq g472.symm))))
  refine own_iloadN X509 hx hby own_d5_97 (pc' := 98) rfl rfl ?_
  refine own_bipush X509 hx hby own_d5_98 (pc' := 100) rfl (z := (8 : Int32)) (by decide) ?_
  refine own_icmpNo X509 hx hby own_d5_100 (pc' := 103) rfl (by decide) ?_
  refine own_aloadN X509 hx hby own_d5_103 (pc' := 104) rfl rfl rfl ?_
  refine own_bipush X509 hx hby own_d5_104 (pc' := 106) rfl (z := (8 : Int32)) (by decide) ?_
  refine own_aloadN X509 hx hby own_d5_106 (pc' := 107) rfl rfl rfl ?_
  refine own_bipush X509 hx hby own_d5_107 (pc' := 109) rfl (z := (8 : Int32)) (by decide) ?_
  refine own_caloadC X509 hx hby own_d5_109 (pc' := 110) rfl hZ e509 (c512) (by decide) (by decide) ?_
  intro z513 hz513
  refine own_castoreC X509 hx hby own_d5_110 (pc' := 111) rfl hZ e509 (C509) (by decide) (by decide) ((own_narB hz513).symm ▸ hz513) ?_
  intro T514 h514 X514 e514 W514 C514
  have N514 := Fr.snoc X514 N509 l472
  have c515 := (c510.wr W514 (own_Ch.safe C509 (c510).1.alike))
  have c516 := (c511.wr W514 l472)
  have c517 := (c512.other W514 (Nat.ne_of_lt (Nat.lt_of_lt_of_le (C_1).lt (Nat.le_of_eq g472.symm))))
  refine own_iloadN X514 hx hby own_d5_111 (pc' := 112) rfl rfl ?_
  refine own_bipush X514 hx hby own_d5_112 (pc' := 114) rfl (z := (9 : Int32)) (by decide) ?_
  refine own_icmpNo X514 hx hby own_d5_114 (pc' := 117) rfl (by decide) ?_
  refine own_aloadN X514 hx hby own_d5_117 (pc' := 118) rfl rfl rfl ?_
  refine own_bipush X514 hx hby own_d5_118 (pc' := 120) rfl (z := (9 : Int32)) (by decide) ?_
  refine own_aloadN X514 hx hby own_d5_120 (pc' := 121) rfl rfl rfl ?_
  refine own_bipush X514 hx hby own_d5_121 (pc' := 123) rfl (z := (9 : Int32)) (by decide) ?_
  refine own_caloadC X514 hx hby own_d5_123 (pc' := 124) rfl hZ e514 (c517) (by decide) (by decide) ?_
  intro z518 hz518
  refine own_castoreC X514 hx hby own_d5_124 (pc' := 125) rfl hZ e514 (C514) (by decide) (by decide) ((own_narB hz518).symm ▸ hz518) ?_
  intro T519 h519 X519 e519 W519 C519
  have N519 := Fr.snoc X519 N514 l472
  have c520 := (c515.wr W519 (own_Ch.safe C514 (c515).1.alike))
  have c521 := (c516.wr W519 l472)
  have c522 := (c517.other W519 (Nat.ne_of_lt (Nat.lt_of_lt_of_le (C_1).lt (Nat.le_of_eq g472.symm))))
  refine own_iloadN X519 hx hby own_d5_125 (pc' := 126) rfl rfl ?_
  refine own_bipush X519 hx hby own_d5_126 (pc' := 128) rfl (z := (10 : Int32)) (by decide) ?_
  refine own_icmpNo X519 hx hby own_d5_128 (pc' := 131) rfl (by decide) ?_
  refine own_aloadN X519 hx hby own_d5_131 (pc' := 132) rfl rfl rfl ?_
  refine own_bipush X519 hx hby own_d5_132 (pc' := 134) rfl (z := (10 : Int32)) (by decide) ?_
  refine own_aloadN X519 hx hby own_d5_134 (pc' := 135) rfl rfl rfl ?_
  refine own_bipush X519 hx hby own_d5_135 (pc' := 137) rfl (z := (10 : Int32)) (by decide) ?_
  refine own_caloadC X519 hx hby own_d5_137 (pc' := 138) rfl hZ e519 (c522) (by decide) (by decide) ?_
  intro z523 hz523
  refine own_castoreC X519 hx hby own_d5_138 (pc' := 139) rfl hZ e519 (C519) (by decide) (by decide) ((own_narB hz523).symm ▸ hz523) ?_
  intro T524 h524 X524 e524 W524 C524
  have N524 := Fr.snoc X524 N519 l472
  have c525 := (c520.wr W524 (own_Ch.safe C519 (c520).1.alike))
  have c526 := (c521.wr W524 l472)
  have c527 := (c522.other W524 (Nat.ne_of_lt (Nat.lt_of_lt_of_le (C_1).lt (Nat.le_of_eq g472.symm))))
  refine own_iloadN X524 hx hby own_d5_139 (pc' := 140) rfl rfl ?_
  refine own_bipush X524 hx hby own_d5_140 (pc' := 142) rfl (z := (11 : Int32)) (by decide) ?_
  refine own_icmpNo X524 hx hby own_d5_142 (pc' := 145) rfl (by decide) ?_
  refine own_aloadN X524 hx hby own_d5_145 (pc' := 146) rfl rfl rfl ?_
  refine own_bipush X524 hx hby own_d5_146 (pc' := 148) rfl (z := (11 : Int32)) (by decide) ?_
  refine own_aloadN X524 hx hby own_d5_148 (pc' := 149) rfl rfl rfl ?_
  refine own_bipush X524 hx hby own_d5_149 (pc' := 151) rfl (z := (11 : Int32)) (by decide) ?_
  refine own_caloadC X524 hx hby own_d5_151 (pc' := 152) rfl hZ e524 (c527) (by decide) (by decide) ?_
  intro z528 hz528
  refine own_castoreC X524 hx hby own_d5_152 (pc' := 153) rfl hZ e524 (C524) (by decide) (by decide) ((own_narB hz528).symm ▸ hz528) ?_
  intro T529 h529 X529 e529 W529 C529
  have N529 := Fr.snoc X529 N524 l472
  have c530 := (c525.wr W529 (own_Ch.safe C524 (c525).1.alike))
  have c531 := (c526.wr W529 l472)
  have c532 := (c527.other W529 (Nat.ne_of_lt (Nat.lt_of_lt_of_le (C_1).lt (Nat.le_of_eq g472.symm))))
  refine own_iloadN X529 hx hby own_d5_153 (pc' := 154) rfl rfl ?_
  refine own_bipush X529 hx hby own_d5_154 (pc' := 156) rfl (z := (12 : Int32)) (by decide) ?_
  refine own_icmpNo X529 hx hby own_d5_156 (pc' := 159) rfl (by decide) ?_
  refine own_aloadN X529 hx hby own_d5_159 (pc' := 160) rfl rfl rfl ?_
  refine own_bipush X529 hx hby own_d5_160 (pc' := 162) rfl (z := (12 : Int32)) (by decide) ?_
  refine own_aloadN X529 hx hby own_d5_162 (pc' := 163) rfl rfl rfl ?_
  refine own_bipush X529 hx hby own_d5_163 (pc' := 165) rfl (z := (12 : Int32)) (by decide) ?_
  refine own_caloadC X529 hx hby own_d5_165 (pc' := 166) rfl hZ e529 (c532) (by decide) (by decide) ?_
  intro z533 hz533
  refine own_castoreC X529 hx hby own_d5_166 (pc' := 167) rfl hZ e529 (C529) (by decide) (by decide) ((own_narB hz533).symm ▸ hz533) ?_
  intro T534 h534 X534 e534 W534 C534
  have N534 := Fr.snoc X534 N529 l472
  have c535 := (c530.wr W534 (own_Ch.safe C529 (c530).1.alike))
  have c536 := (c531.wr W534 l472)
  have c537 := (c532.other W534 (Nat.ne_of_lt (Nat.lt_of_lt_of_le (C_1).lt (Nat.le_of_eq g472.symm))))
  refine own_iloadN X534 hx hby own_d5_167 (pc' := 168) rfl rfl ?_
  refine own_bipush X534 hx hby own_d5_168 (pc' := 170) rfl (z := (13 : Int32)) (by decide) ?_
  refine own_icmpYes X534 hx hby own_d5_170 (pc' := 181) (by decide) (by decide) ?_
  refine own_iloadN X534 hx hby own_d5_181 (pc' := 182) rfl rfl ?_
  refine own_bipush X534 hx hby own_d5_182 (pc' := 184) rfl (z := (14 : Int32)) (by decide) ?_
  refine own_icmpYes X534 hx hby own_d5_184 (pc' := 195) (by decide) (by decide) ?_
  refine own_new X534 hx hby own_d5_195 (pc' := 198) rfl hZ hown (hw _ (List.mem_of_getElem? (i := 44) rfl)) (hw _ (List.mem_of_getElem? (i := 34) rfl)) (hw _ (List.mem_of_getElem? (i := 31) rfl)) e534 (by decide) (by decide) ?_
  intro T538 h538 b538 X538 e538 g538 E538 A538 D538
  have F538_value : Fld Z h538 b538 "java/lang/String" "value" "[B" .null := D538 (Or.inr (hw _ (List.mem_of_getElem? (i := 36) rfl))) (ty := (.array .byte)) (by decide)
  have F538_coder : Fld Z h538 b538 "java/lang/String" "coder" "B" (.int (0 : Int32)) := D538 (Or.inr (hw _ (List.mem_of_getElem? (i := 37) rfl))) (ty := .byte) (by decide)
  have l538 : n0 ≤ b538 := (Nat.le_trans Z0 (Nat.le_trans (Nat.le_trans (Nat.le_trans (Nat.le_trans (Nat.le_trans (Nat.le_trans (Nat.le_trans (Nat.le_trans (Nat.le_trans (Nat.le_trans (Nat.le_trans (Nat.le_trans (Nat.le_trans (Nat.le_trans (Nat.le_trans (Nat.le_refl _) E472.1) (Nat.le_of_eq (Wr.size W474).symm)) (Nat.le_of_eq (Wr.size W479).symm)) (Nat.le_of_eq (Wr.size W484).symm)) (Nat.le_of_eq (Wr.size W489).symm)) (Nat.le_of_eq (Wr.size W494).symm)) (Nat.le_of_eq (Wr.size W499).symm)) (Nat.le_of_eq (Wr.size W504).symm)) (Nat.le_of_eq (Wr.size W509).symm)) (Nat.le_of_eq (Wr.size W514).symm)) (Nat.le_of_eq (Wr.size W519).symm)) (Nat.le_of_eq (Wr.size W524).symm)) (Nat.le_of_eq (Wr.size W529).symm)) (Nat.le_of_eq (Wr.size W534).symm)) (Nat.le_of_eq g538.symm)))
  refine own_dup X538 hx hby own_d5_198 (pc' := 199) rfl rfl ?_
  refine own_aloadN X538 hx hby own_d5_199 (pc' := 200) rfl rfl rfl ?_
  refine own_callSpB X538 hx hZ (own_strB (W := 1) hZ hws (hw _ (List.mem_of_getElem? (i := 34) rfl)) l538 (own_Z0 ((c536.ext E538))) (A538) (F538_value) (F538_coder) ((C534.ext E538)) (S_S.ext ((c536.ext E538)).2) hS (by decide) (by decide) (by decide) (by decide)) rfl hown (hw _ (List.mem_of_getElem? (i := 45) rfl)) (hw _ (List.mem_of_getElem? (i := 46) rfl)) (hw _ (List.mem_of_getElem? (i := 47) rfl)) (by decide) (by rw [hml]; rfl) (argsL := [(.ref b472)]) (rest := [(.ref b538)]) rfl (lenOf own_pd3 rfl) rfl (Nat.le_of_eq rfl) (hb hby own_d5_200) e538 (by decide) (by decide) ?_
  intro v539 T539 L539 X539 hQ539
  obtain ⟨hv539, N539q, K539, cs539, F539⟩ := hQ539
  subst hv539
  have N539 := Fr.app N534 N539q
  have c540 := ((c535.ext E538).keep K539 (allS (Safe.ext E538 (c535).ch (Safe.new (Nat.le_of_eq g538.symm))) all0))
  have c541 := ((c536.ext E538).keep K539 (allS l538 all0))
  show own_Go p.tables e below (T539.setTop (mkF m 203 #[.val (.ref a1), .val (.int (13 : Int32)), .val (.ref b472)] [(.ref b538)])) _
  exact own_retAW X539 hx hEL (c540) rfl hret rfl rfl (hb hby own_d5_203) hlk (by decide) (by decide) ⟨_, cs539, rfl, N539, (((((((((((((((((Keep.refl h0 []).ext E472).wr W474 (Or.inr (Nat.le_trans (Nat.le_refl _) (Nat.le_of_eq g472.symm)))).wr W479 (Or.inr (Nat.le_trans (Nat.le_refl _) (Nat.le_of_eq g472.symm)))).wr W484 (Or.inr (Nat.le_trans (Nat.le_refl _) (Nat.le_of_eq g472.symm)))).wr W489 (Or.inr (Nat.le_trans (Nat.le_refl _) (Nat.le_of_eq g472.symm)))).wr W494 (Or.inr (Nat.le_trans (Nat.le_refl _) (Nat.le_of_eq g472.symm)))).wr W499 (Or.inr (Nat.le_trans (Nat.le_refl _) (Nat.le_of_eq g472.symm)))).wr W504 (Or.inr (Nat.le_trans (Nat.le_refl _) (Nat.le_of_eq g472.symm)))).wr W509 (Or.inr (Nat.le_trans (Nat.le_refl _) (Nat.le_of_eq g472.symm)))).wr W514 (Or.inr (Nat.le_trans (Nat.le_refl _) (Nat.le_of_eq g472.symm)))).wr W519 (Or.inr (Nat.le_trans (Nat.le_refl _) (Nat.le_of_eq g472.symm)))).wr W524 (Or.inr (Nat.le_trans (Nat.le_refl _) (Nat.le_of_eq g472.symm)))).wr W529 (Or.inr (Nat.le_trans (Nat.le_refl _) (Nat.le_of_eq g472.symm)))).wr W534 (Or.inr (Nat.le_trans (Nat.le_refl _) (Nat.le_of_eq g472.symm)))).ext E538).trans K539 (allS (Or.inr (Nat.le_trans (Nat.le_trans (Nat.le_trans (Nat.le_trans (Nat.le_trans (Nat.le_trans (Nat.le_trans (Nat.le_trans (Nat.le_trans (Nat.le_trans (Nat.le_trans (Nat.le_trans (Nat.le_trans (Nat.le_trans (Nat.le_trans (Nat.le_refl _) E472.1) (Nat.le_of_eq (Wr.size W474).symm)) (Nat.le_of_eq (Wr.size W479).symm)) (Nat.le_of_eq (Wr.size W484).symm)) (Nat.le_of_eq (Wr.size W489).symm)) (Nat.le_of_eq (Wr.size W494).symm)) (Nat.le_of_eq (Wr.size W499).symm)) (Nat.le_of_eq (Wr.size W504).symm)) (Nat.le_of_eq (Wr.size W509).symm)) (Nat.le_of_eq (Wr.size W514).symm)) (Nat.le_of_eq (Wr.size W519).symm)) (Nat.le_of_eq (Wr.size W524).symm)) (Nat.le_of_eq (Wr.size W529).symm)) (Nat.le_of_eq (Wr.size W534).symm)) (Nat.le_of_eq g538.symm))) all0)), F539⟩
theorem own_d5_173 : decode method_3_code 173 = .ok (.aload_n 2, 1) := by decide +kernel
theorem own_d5_174 : decode method_3_code 174 = .ok (.bipush 13, 2) := by decide +kernel
theorem own_d5_176 : decode method_3_code 176 = .ok (.aload_n 0, 1) := by decide +kernel
theorem own_d5_177 : decode method_3_code 177 = .ok (.bipush 13, 2) := by decide +kernel
theorem own_d5_179 : decode method_3_code 179 = .ok (.caload, 1) := by decide +kernel
theorem own_d5_180 : decode method_3_code 180 = .ok (.castore, 1) := by decide +kernel
theorem own_ef_rm_px14 (m : MethodId) (a1 : Addr) : entryFrame m #[(.ref a1), (.int (14 : Int32))] 3 = mkF m 0 #[.val (.ref a1), .val (.int (14 : Int32)), .unset] [] := by first | (simp [entryFrame, mkF, argsToLocals, Value.category]; done) | rfl
def Qrm_px14 (Z : State) (a1 : Addr) (gS : Int32) (h0 : Heap) (n0 : Nat) (v : Option Value) (h : Heap) (L : List Loc) : Prop := ∃ x cs, v = some (.ref x) ∧ Fr n0 L ∧ Keep h0 h [] ∧ own_Str Z h h.size x cs
set_option maxRecDepth 65536 in
set_option maxHeartbeats 40000000 in
theorem rm_px14 (l : Launch) (Z : State) (a0 : Array Value) (hw : ∀ d ∈ tables_1, d.before a0 Z = true) (ws : List Jvm.Cond) (a1 : Addr) (gS : Int32) (h0 : Heap) (n0 : Nat) (hEL : EW Z a0 own_EL) (O_0 : Old Z n0 h0) (S_S : Sta Z Z.heap "java/lang/String" "COMPACT_STRINGS" "Z" (.int gS)) (hS : ¬ gS = 0) (C_1 : own_Ch Z h0 a1 16) :
    own_MetW l (⟨"com/example/tranchebook/tranchebook/model/FeeByRateNamePinLaw", "prefix", "([CI)Ljava/lang/String;"⟩ : MethodName) method_3_code 3 (some (.object "java/lang/String")) ws ({ frames := 5, cells := 7, slots := 44, locals := 80 } : Room) #[(.ref a1), (.int (14 : Int32))] Z own_EL h0 (Qrm_px14 Z a1 gS h0 n0) := by
  refine own_bodyW own_pn5 ?_
  intro p e s m below meth c T0 X0 hx hby hml hnm hret hlk W0 e0
  have hZ := W0.1
  have hown := W0.2.1
  have N0 := Fr.nil n0
  refine own_st (fun t k => castTop (own_ef_rm_px14 m a1) k) ?_
  show own_Go p.tables e below (T0.setTop (mkF m 0 #[.val (.ref a1), .val (.int (14 : Int32)), .unset] [])) _
  have Z0 := own_Z0 O_0
  have hws : ∀ d ∈ StrChars.Road.words, d.before a0 Z = true := fun d hd => hw d ((by decide +kernel : ∀ d ∈ StrChars.Road.words, d ∈ tables_1) d hd)
  refine own_iloadN X0 hx hby own_d5_0 (pc' := 1) rfl rfl ?_
  refine own_newA X0 hx hby own_d5_1 (pc' := 3) rfl hZ (hw _ (List.mem_of_getElem? (i := 0) rfl)) e0 (by decide) (cap := 14) (by decide) (by decide) (by decide) (by decide) (vs := List.replicate 14 (.int 0)) (by rfl) ?_
  intro T542 h542 b542 X542 e542 g542 E542 A542
  have c542 := own_Ch.new A542
  have l542 : n0 ≤ b542 := (Nat.le_trans Z0 (Nat.le_trans (Nat.le_refl _) (Nat.le_of_eq g542.symm)))
  refine own_astoreN X542 hx hby own_d5_3 (pc' := 4) rfl rfl (Ls' := #[.val (.ref a1), .val (.int (14 : Int32)), .val (.ref b542)]) rfl ?_
  refine own_iloadN X542 hx hby own_d5_4 (pc' := 5) rfl rfl ?_
  refine own_ifNo X542 hx hby own_d5_5 (pc' := 8) rfl (by decide) ?_
  refine own_aloadN X542 hx hby own_d5_8 (pc' := 9) rfl rfl rfl ?_
  refine own_iconst X542 hx hby own_d5_9 (pc' := 10) rfl (z := (0 : Int32)) (by decide) ?_
  refine own_aloadN X542 hx hby own_d5_10 (pc' := 11) rfl rfl rfl ?_
  refine own_iconst X542 hx hby own_d5_11 (pc' := 12) rfl (z := (0 : Int32)) (by decide) ?_
  refine own_caloadC X542 hx hby own_d5_12 (pc' := 13) rfl hZ e542 ((C_1.ext E542)) (by decide) (by decide) ?_
  intro z543 hz543
  refine own_castoreC X542 hx hby own_d5_13 (pc' := 14) rfl hZ e542 (c542) (by decide) (by decide) ((own_narB hz543).symm ▸ hz543) ?_
  intro T544 h544 X544 e544 W544 C544
  have N544 := Fr.snoc X544 N0 l542
  have c545 := ((W0.ext E542).wr W544 (own_Ch.safe c542 ((W0.ext E542)).1.alike))
  have c546 := ((O_0.ext E542).wr W544 l542)
  have c547 := ((C_1.ext E542).other W544 (Nat.ne_of_lt (Nat.lt_of_lt_of_le (C_1).lt (Nat.le_of_eq g542.symm))))
  refine own_iloadN X544 hx hby own_d5_14 (pc' := 15) rfl rfl ?_
  refine own_iconst X544 hx hby own_d5_15 (pc' := 16) rfl (z := (1 : Int32)) (by decide) ?_
  refine own_icmpNo X544 hx hby own_d5_16 (pc' := 19) rfl (by decide) ?_
  refine own_aloadN X544 hx hby own_d5_19 (pc' := 20) rfl rfl rfl ?_
  refine own_iconst X544 hx hby own_d5_20 (pc' := 21) rfl (z := (1 : Int32)) (by decide) ?_
  refine own_aloadN X544 hx hby own_d5_21 (pc' := 22) rfl rfl rfl ?_
  refine own_iconst X544 hx hby own_d5_22 (pc' := 23) rfl (z := (1 : Int32)) (by decide) ?_
  refine own_caloadC X544 hx hby own_d5_23 (pc' := 24) rfl hZ e544 (c547) (by decide) (by decide) ?_
  intro z548 hz548
  refine own_castoreC X544 hx hby own_d5_24 (pc' := 25) rfl hZ e544 (C544) (by decide) (by decide) ((own_narB hz548).symm ▸ hz548) ?_
  intro T549 h549 X549 e549 W549 C549
  have N549 := Fr.snoc X549 N544 l542
  have c550 := (c545.wr W549 (own_Ch.safe C544 (c545).1.alike))
  have c551 := (c546.wr W549 l542)
  have c552 := (c547.other W549 (Nat.ne_of_lt (Nat.lt_of_lt_of_le (C_1).lt (Nat.le_of_eq g542.symm))))
  refine own_iloadN X549 hx hby own_d5_25 (pc' := 26) rfl rfl ?_
  refine own_iconst X549 hx hby own_d5_26 (pc' := 27) rfl (z := (2 : Int32)) (by decide) ?_
  refine own_icmpNo X549 hx hby own_d5_27 (pc' := 30) rfl (by decide) ?_
  refine own_aloadN X549 hx hby own_d5_30 (pc' := 31) rfl rfl rfl ?_
  refine own_iconst X549 hx hby own_d5_31 (pc' := 32) rfl (z := (2 : Int32)) (by decide) ?_
  refine own_aloadN X549 hx hby own_d5_32 (pc' := 33) rfl rfl rfl ?_
  refine own_iconst X549 hx hby own_d5_33 (pc' := 34) rfl (z := (2 : Int32)) (by decide) ?_
  refine own_caloadC X549 hx hby own_d5_34 (pc' := 35) rfl hZ e549 (c552) (by decide) (by decide) ?_
  intro z553 hz553
  refine own_castoreC X549 hx hby own_d5_35 (pc' := 36) rfl hZ e549 (C549) (by decide) (by decide) ((own_narB hz553).symm ▸ hz553) ?_
  intro T554 h554 X554 e554 W554 C554
  have N554 := Fr.snoc X554 N549 l542
  have c555 := (c550.wr W554 (own_Ch.safe C549 (c550).1.alike))
  have c556 := (c551.wr W554 l542)
  have c557 := (c552.other W554 (Nat.ne_of_lt (Nat.lt_of_lt_of_le (C_1).lt (Nat.le_of_eq g542.symm))))
  refine own_iloadN X554 hx hby own_d5_36 (pc' := 37) rfl rfl ?_
  refine own_iconst X554 hx hby own_d5_37 (pc' := 38) rfl (z := (3 : Int32)) (by decide) ?_
  refine own_icmpNo X554 hx hby own_d5_38 (pc' := 41) rfl (by decide) ?_
  refine own_aloadN X554 hx hby own_d5_41 (pc' := 42) rfl rfl rfl ?_
  refine own_iconst X554 hx hby own_d5_42 (pc' := 43) rfl (z := (3 : Int32)) (by decide) ?_
  refine own_aloadN X554 hx hby own_d5_43 (pc' := 44) rfl rfl rfl ?_
  refine own_iconst X554 hx hby own_d5_44 (pc' := 45) rfl (z := (3 : Int32)) (by decide) ?_
  refine own_caloadC X554 hx hby own_d5_45 (pc' := 46) rfl hZ e554 (c557) (by decide) (by decide) ?_
  intro z558 hz558
  refine own_castoreC X554 hx hby own_d5_46 (pc' := 47) rfl hZ e554 (C554) (by decide) (by decide) ((own_narB hz558).symm ▸ hz558) ?_
  intro T559 h559 X559 e559 W559 C559
  have N559 := Fr.snoc X559 N554 l542
  have c560 := (c555.wr W559 (own_Ch.safe C554 (c555).1.alike))
  have c561 := (c556.wr W559 l542)
  have c562 := (c557.other W559 (Nat.ne_of_lt (Nat.lt_of_lt_of_le (C_1).lt (Nat.le_of_eq g542.symm))))
  refine own_iloadN X559 hx hby own_d5_47 (pc' := 48) rfl rfl ?_
  refine own_iconst X559 hx hby own_d5_48 (pc' := 49) rfl (z := (4 : Int32)) (by decide) ?_
  refine own_icmpNo X559 hx hby own_d5_49 (pc' := 52) rfl (by decide) ?_
  refine own_aloadN X559 hx hby own_d5_52 (pc' := 53) rfl rfl rfl ?_
  refine own_iconst X559 hx hby own_d5_53 (pc' := 54) rfl (z := (4 : Int32)) (by decide) ?_
  refine own_aloadN X559 hx hby own_d5_54 (pc' := 55) rfl rfl rfl ?_
  refine own_iconst X559 hx hby own_d5_55 (pc' := 56) rfl (z := (4 : Int32)) (by decide) ?_
  refine own_caloadC X559 hx hby own_d5_56 (pc' := 57) rfl hZ e559 (c562) (by decide) (by decide) ?_
  intro z563 hz563
  refine own_castoreC X559 hx hby own_d5_57 (pc' := 58) rfl hZ e559 (C559) (by decide) (by decide) ((own_narB hz563).symm ▸ hz563) ?_
  intro T564 h564 X564 e564 W564 C564
  have N564 := Fr.snoc X564 N559 l542
  have c565 := (c560.wr W564 (own_Ch.safe C559 (c560).1.alike))
  have c566 := (c561.wr W564 l542)
  have c567 := (c562.other W564 (Nat.ne_of_lt (Nat.lt_of_lt_of_le (C_1).lt (Nat.le_of_eq g542.symm))))
  refine own_iloadN X564 hx hby own_d5_58 (pc' := 59) rfl rfl ?_
  refine own_iconst X564 hx hby own_d5_59 (pc' := 60) rfl (z := (5 : Int32)) (by decide) ?_
  refine own_icmpNo X564 hx hby own_d5_60 (pc' := 63) rfl (by decide) ?_
  refine own_aloadN X564 hx hby own_d5_63 (pc' := 64) rfl rfl rfl ?_
  refine own_iconst X564 hx hby own_d5_64 (pc' := 65) rfl (z := (5 : Int32)) (by decide) ?_
  refine own_aloadN X564 hx hby own_d5_65 (pc' := 66) rfl rfl rfl ?_
  refine own_iconst X564 hx hby own_d5_66 (pc' := 67) rfl (z := (5 : Int32)) (by decide) ?_
  refine own_caloadC X564 hx hby own_d5_67 (pc' := 68) rfl hZ e564 (c567) (by decide) (by decide) ?_
  intro z568 hz568
  refine own_castoreC X564 hx hby own_d5_68 (pc' := 69) rfl hZ e564 (C564) (by decide) (by decide) ((own_narB hz568).symm ▸ hz568) ?_
  intro T569 h569 X569 e569 W569 C569
  have N569 := Fr.snoc X569 N564 l542
  have c570 := (c565.wr W569 (own_Ch.safe C564 (c565).1.alike))
  have c571 := (c566.wr W569 l542)
  have c572 := (c567.other W569 (Nat.ne_of_lt (Nat.lt_of_lt_of_le (C_1).lt (Nat.le_of_eq g542.symm))))
  refine own_iloadN X569 hx hby own_d5_69 (pc' := 70) rfl rfl ?_
  refine own_bipush X569 hx hby own_d5_70 (pc' := 72) rfl (z := (6 : Int32)) (by decide) ?_
  refine own_icmpNo X569 hx hby own_d5_72 (pc' := 75) rfl (by decide) ?_
  refine own_aloadN X569 hx hby own_d5_75 (pc' := 76) rfl rfl rfl ?_
  refine own_bipush X569 hx hby own_d5_76 (pc' := 78) rfl (z := (6 : Int32)) (by decide) ?_
  refine own_aloadN X569 hx hby own_d5_78 (pc' := 79) rfl rfl rfl ?_
  refine own_bipush X569 hx hby own_d5_79 (pc' := 81) rfl (z := (6 : Int32)) (by decide) ?_
  refine own_caloadC X569 hx hby own_d5_81 (pc' := 82) rfl hZ e569 (c572) (by decide) (by decide) ?_
  intro z573 hz573
  refine own_castoreC X569 hx hby own_d5_82 (pc' := 83) rfl hZ e569 (C569) (by decide) (by decide) ((own_narB hz573).symm ▸ hz573) ?_
  intro T574 h574 X574 e574 W574 C574
  have N574 := Fr.snoc X574 N569 l542
  have c575 := (c570.wr W574 (own_Ch.safe C569 (c570).1.alike))
  have c576 := (c571.wr W574 l542)
  have c577 := (c572.other W574 (Nat.ne_of_lt (Nat.lt_of_lt_of_le (C_1).lt (Nat.le_of_eq g542.symm))))
  refine own_iloadN X574 hx hby own_d5_83 (pc' := 84) rfl rfl ?_
  refine own_bipush X574 hx hby own_d5_84 (pc' := 86) rfl (z := (7 : Int32)) (by decide) ?_
  refine own_icmpNo X574 hx hby own_d5_86 (pc' := 89) rfl (by decide) ?_
  refine own_aloadN X574 hx hby own_d5_89 (pc' := 90) rfl rfl rfl ?_
  refine own_bipush X574 hx hby own_d5_90 (pc' := 92) rfl (z := (7 : Int32)) (by decide) ?_
  refine own_aloadN X574 hx hby own_d5_92 (pc' := 93) rfl rfl rfl ?_
  refine own_bipush X574 hx hby own_d5_93 (pc' := 95) rfl (z := (7 : Int32)) (by decide) ?_
  refine own_caloadC X574 hx hby own_d5_95 (pc' := 96) rfl hZ e574 (c577) (by decide) (by decide) ?_
  intro z578 hz578
  refine own_castoreC X574 hx hby own_d5_96 (pc' := 97) rfl hZ e574 (C574) (by decide) (by decide) ((own_narB hz578).symm ▸ hz578) ?_
  intro T579 h579 X579 e579 W579 C579
  have N579 := Fr.snoc X579 N574 l542
  have c580 := (c575.wr W579 (own_Ch.safe C574 (c575).1.alike))
  have c581 := (c576.wr W579 l542)
  have c582 := (c577.other W579 (Nat.ne_of_lt (Nat.lt_of_lt_of_le (C_1).lt (Nat.le_of_eq g542.symm))))
  refine own_iloadN X579 hx hby own_d5_97 (pc' := 98) rfl rfl ?_
  refine own_bipush X579 hx hby own_d5_98 (pc' := 100) rfl (z := (8 : Int32)) (by decide) ?_
  refine own_icmpNo X579 hx hby own_d5_100 (pc' := 103) rfl (by decide) ?_
  refine own_aloadN X579 hx hby own_d5_103 (pc' := 104) rfl rfl rfl ?_
  refine own_bipush X579 hx hby own_d5_104 (pc' := 106) rfl (z := (8 : Int32)) (by decide) ?_
  refine own_aloadN X579 hx hby own_d5_106 (pc' := 107) rfl rfl rfl ?_
  refine own_bipush X579 hx hby own_d5_107 (pc' := 109) rfl (z := (8 : Int32)) (by decide) ?_
  refine own_caloadC X579 hx hby own_d5_109 (pc' := 110) rfl hZ e579 (c582) (by decide) (by decide) ?_
  intro z583 hz583
  refine own_castoreC X579 hx hby own_d5_110 (pc' := 111) rfl hZ e579 (C579) (by decide) (by decide) ((own_narB hz583).symm ▸ hz583) ?_
  intro T584 h584 X584 e584 W584 C584
  have N584 := Fr.snoc X584 N579 l542
  have c585 := (c580.wr W584 (own_Ch.safe C579 (c580).1.alike))
  have c586 := (c581.wr W584 l542)
  have c587 := (c582.other W584 (Nat.ne_of_lt (Nat.lt_of_lt_of_le (C_1).lt (Nat.le_of_eq g542.symm))))
  refine own_iloadN X584 hx hby own_d5_111 (pc' := 112) rfl rfl ?_
  refine own_bipush X584 hx hby own_d5_112 (pc' := 114) rfl (z := (9 : Int32)) (by decide) ?_
  refine own_icmpNo X584 hx hby own_d5_114 (pc' := 117) rfl (by decide) ?_
  refine own_aloadN X584 hx hby own_d5_117 (pc' := 118) rfl rfl rfl ?_
  refine own_bipush X584 hx hby own_d5_118 (pc' := 120) rfl (z := (9 : Int32)) (by decide) ?_
  refine own_aloadN X584 hx hby own_d5_120 (pc' := 121) rfl rfl rfl ?_
  refine own_bipush X584 hx hby own_d5_121 (pc' := 123) rfl (z := (9 : Int32)) (by decide) ?_
  refine own_caloadC X584 hx hby own_d5_123 (pc' := 124) rfl hZ e584 (c587) (by decide) (by decide) ?_
  intro z588 hz588
  refine own_castoreC X584 hx hby own_d5_124 (pc' := 125) rfl hZ e584 (C584) (by decide) (by decide) ((own_narB hz588).symm ▸ hz588) ?_
  intro T589 h589 X589 e589 W589 C589
  have N589 := Fr.snoc X589 N584 l542
  have c590 := (c585.wr W589 (own_Ch.safe C584 (c585).1.alike))
  have c591 := (c586.wr W589 l542)
  have c592 := (c587.other W589 (Nat.ne_of_lt (Nat.lt_of_lt_of_le (C_1).lt (Nat.le_of_eq g542.symm))))
  refine own_iloadN X589 hx hby own_d5_125 (pc' := 126) rfl rfl ?_
  refine own_bipush X589 hx hby own_d5_126 (pc' := 128) rfl (z := (10 : Int32)) (by decide) ?_
  refine own_icmpNo X589 hx hby own_d5_128 (pc' := 131) rfl (by decide) ?_
  refine own_aloadN X589 hx hby own_d5_131 (pc' := 132) rfl rfl rfl ?_
  refine own_bipush X589 hx hby own_d5_132 (pc' := 134) rfl (z := (10 : Int32)) (by decide) ?_
  refine own_aloadN X589 hx hby own_d5_134 (pc' := 135) rfl rfl rfl ?_
  refine own_bipush X589 hx hby own_d5_135 (pc' := 137) rfl (z := (10 : Int32)) (by decide) ?_
  refine own_caloadC X589 hx hby own_d5_137 (pc' := 138) rfl hZ e589 (c592) (by decide) (by decide) ?_
  intro z593 hz593
  refine own_castoreC X589 hx hby own_d5_138 (pc' := 139) rfl hZ e589 (C589) (by decide) (by decide) ((own_narB hz593).symm ▸ hz593) ?_
  intro T594 h594 X594 e594 W594 C594
  have N594 := Fr.snoc X594 N589 l542
  have c595 := (c590.wr W594 (own_Ch.safe C589 (c590).1.alike))
  have c596 := (c591.wr W594 l542)
  have c597 := (c592.other W594 (Nat.ne_of_lt (Nat.lt_of_lt_of_le (C_1).lt (Nat.le_of_eq g542.symm))))
  refine own_iloadN X594 hx hby own_d5_139 (pc' := 140) rfl rfl ?_
  refine own_bipush X594 hx hby own_d5_140 (pc' := 142) rfl (z := (11 : Int32)) (by decide) ?_
  refine own_icmpNo X594 hx hby own_d5_142 (pc' := 145) rfl (by decide) ?_
  refine own_aloadN X594 hx hby own_d5_145 (pc' := 146) rfl rfl rfl ?_
  refine own_bipush X594 hx hby own_d5_146 (pc' := 148) rfl (z := (11 : Int32)) (by decide) ?_
  refine own_aloadN X594 hx hby own_d5_148 (pc' := 149) rfl rfl rfl ?_
  refine own_bipush X594 hx hby own_d5_149 (pc' := 151) rfl (z := (11 : Int32)) (by decide) ?_
  refine own_caloadC X594 hx hby own_d5_151 (pc' := 152) rfl hZ e594 (c597) (by decide) (by decide) ?_
  intro z598 hz598
  refine own_castoreC X594 hx hby own_d5_152 (pc' := 153) rfl hZ e594 (C594) (by decide) (by decide) ((own_narB hz598).symm ▸ hz598) ?_
  intro T599 h599 X599 e599 W599 C599
  have N599 := Fr.snoc X599 N594 l542
  have c600 := (c595.wr W599 (own_Ch.safe C594 (c595).1.alike))
  have c601 := (c596.wr W599 l542)
  have c602 := (c597.other W599 (Nat.ne_of_lt (Nat.lt_of_lt_of_le (C_1).lt (Nat.le_of_eq g542.symm))))
  refine own_iloadN X599 hx hby own_d5_153 (pc' := 154) rfl rfl ?_
  refine own_bipush X599 hx hby own_d5_154 (pc' := 156) rfl (z := (12 : Int32)) (by decide) ?_
  refine own_icmpNo X599 hx hby own_d5_156 (pc' := 159) rfl (by decide) ?_
  refine own_aloadN X599 hx hby own_d5_159 (pc' := 160) rfl rfl rfl ?_
  refine own_bipush X599 hx hby own_d5_160 (pc' := 162) rfl (z := (12 : Int32)) (by decide) ?_
  refine own_aloadN X599 hx hby own_d5_162 (pc' := 163) rfl rfl rfl ?_
  refine own_bipush X599 hx hby own_d5_163 (pc' := 165) rfl (z := (12 : Int32)) (by decide) ?_
  refine own_caloadC X599 hx hby own_d5_165 (pc' := 166) rfl hZ e599 (c602) (by decide) (by decide) ?_
  intro z603 hz603
  refine own_castoreC X599 hx hby own_d5_166 (pc' := 167) rfl hZ e599 (C599) (by decide) (by decide) ((own_narB hz603).symm ▸ hz603) ?_
  intro T604 h604 X604 e604 W604 C604
  have N604 := Fr.snoc X604 N599 l542
  have c605 := (c600.wr W604 (own_Ch.safe C599 (c600).1.alike))
  have c606 := (c601.wr W604 l542)
  have c607 := (c602.other W604 (Nat.ne_of_lt (Nat.lt_of_lt_of_le (C_1).lt (Nat.le_of_eq g542.symm))))
  refine own_iloadN X604 hx hby own_d5_167 (pc' := 168) rfl rfl ?_
  refine own_bipush X604 hx hby own_d5_168 (pc' := 170) rfl (z := (13 : Int32)) (by decide) ?_
  refine own_icmpNo X604 hx hby own_d5_170 (pc' := 173) rfl (by decide) ?_
  refine own_aloadN X604 hx hby own_d5_173 (pc' := 174) rfl rfl rfl ?_
  refine own_bipush X604 hx hby own_d5_174 (pc' := 176) rfl (z := (13 : Int32)) (by decide) ?_
  refine own_aloadN X604 hx hby own_d5_176 (pc' := 177) rfl rfl rfl ?_
  refine own_bipush X604 hx hby own_d5_177 (pc' := 179) rfl (z := (13 : Int32)) (by decide) ?_
  refine own_caloadC X604 hx hby own_d5_179 (pc' := 180) rfl hZ e604 (c607) (by decide) (by decide) ?_
  intro z608 hz608
  refine own_castoreC X604 hx hby own_d5_180 (pc' := 181) rfl hZ e604 (C604) (by decide) (by decide) ((own_narB hz608).symm ▸ hz608) ?_
  intro T609 h609 X609 e609 W609 C609
  have N609 := Fr.snoc X609 N604 l542
  have c610 := (c605.wr W609 (own_Ch.safe C604 (c605).1.alike))
  have c611 := (c606.wr W609 l542)
  have c612 := (c607.other W609 (Nat.ne_of_lt (Nat.lt_of_lt_of_le (C_1).lt (Nat.le_of_eq g542.symm))))
  refine own_iloadN X609 hx hby own_d5_181 (pc' := 182) rfl rfl ?_
  refine own_bipush X609 hx hby own_d5_182 (pc' := 184) rfl (z := (14 : Int32)) (by decide) ?_
  refine own_icmpYes X609 hx hby own_d5_184 (pc' := 195) (by decide) (by decide) ?_
  refine own_new X609 hx hby own_d5_195 (pc' := 198) rfl hZ hown (hw _ (List.mem_of_getElem? (i := 44) rfl)) (hw _ (List.mem_of_getElem? (i := 34) rfl)) (hw _ (List.mem_of_getElem? (i := 31) rfl)) e609 (by decide) (by decide) ?_
  intro T613 h613 b613 X613 e613 g613 E613 A613 D613
  have F613_value : Fld Z h613 b613 "java/lang/String" "value" "[B" .null := D613 (Or.inr (hw _ (List.mem_of_getElem? (i := 36) rfl))) (ty := (.array .byte)) (by decide)
  have F613_coder : Fld Z h613 b613 "java/lang/String" "coder" "B" (.int (0 : Int32)) := D613 (Or.inr (hw _ (List.mem_of_getElem? (i := 37) rfl))) (ty := .byte) (by decide)
  have l613 : n0 ≤ b613 := (Nat.le_trans Z0 (Nat.le_trans (Nat.le_trans (Nat.le_trans (Nat.le_trans (Nat.le_trans (Nat.le_trans (Nat.le_trans (Nat.le_trans (Nat.le_trans (Nat.le_trans (Nat.le_trans (Nat.le_trans (Nat.le_trans (Nat.le_trans (Nat.le_trans (Nat.le_trans (Nat.le_refl _) E542.1) (Nat.le_of_eq (Wr.size W544).symm)) (Nat.le_of_eq (Wr.size W549).symm)) (Nat.le_of_eq (Wr.size W554).symm)) (Nat.le_of_eq (Wr.size W559).symm)) (Nat.le_of_eq (Wr.size W564).symm)) (Nat.le_of_eq (Wr.size W569).symm)) (Nat.le_of_eq (Wr.size W574).symm)) (Nat.le_of_eq (Wr.size W579).symm)) (Nat.le_of_eq (Wr.size W584).symm)) (Nat.le_of_eq (Wr.size W589).symm)) (Nat.le_of_eq (Wr.size W594).symm)) (Nat.le_of_eq (Wr.size W599).symm)) (Nat.le_of_eq (Wr.size W604).symm)) (Nat.le_of_eq (Wr.size W609).symm)) (Nat.le_of_eq g613.symm)))
  refine own_dup X613 hx hby own_d5_198 (pc' := 199) rfl rfl ?_
  refine own_aloadN X613 hx hby own_d5_199 (pc' := 200) rfl rfl rfl ?_
  refine own_callSpB X613 hx hZ (own_strB (W := 1) hZ hws (hw _ (List.mem_of_getElem? (i := 34) rfl)) l613 (own_Z0 ((c611.ext E613))) (A613) (F613_value) (F613_coder) ((C609.ext E613)) (S_S.ext ((c611.ext E613)).2) hS (by decide) (by decide) (by decide) (by decide)) rfl hown (hw _ (List.mem_of_getElem? (i := 45) rfl)) (hw _ (List.mem_of_getElem? (i := 46) rfl)) (hw _ (List.mem_of_getElem? (i := 47) rfl)) (by decide) (by rw [hml]; rfl) (argsL := [(.ref b542)]) (rest := [(.ref b613)]) rfl (lenOf own_pd3 rfl) rfl (Nat.le_of_eq rfl) (hb hby own_d5_200) e613 (by decide) (by decide) ?_
  intro v614 T614 L614 X614 hQ614
  obtain ⟨hv614, N614q, K614, cs614, F614⟩ := hQ614
  subst hv614
  have N614 := Fr.app N609 N614q
  have c615 := ((c610.ext E613).keep K614 (allS (Safe.ext E613 (c610).ch (Safe.new (Nat.le_of_eq g613.symm))) all0))
  have c616 := ((c611.ext E613).keep K614 (allS l613 all0))
  show own_Go p.tables e below (T614.setTop (mkF m 203 #[.val (.ref a1), .val (.int (14 : Int32)), .val (.ref b542)] [(.ref b613)])) _
  exact own_retAW X614 hx hEL (c615) rfl hret rfl rfl (hb hby own_d5_203) hlk (by decide) (by decide) ⟨_, cs614, rfl, N614, ((((((((((((((((((Keep.refl h0 []).ext E542).wr W544 (Or.inr (Nat.le_trans (Nat.le_refl _) (Nat.le_of_eq g542.symm)))).wr W549 (Or.inr (Nat.le_trans (Nat.le_refl _) (Nat.le_of_eq g542.symm)))).wr W554 (Or.inr (Nat.le_trans (Nat.le_refl _) (Nat.le_of_eq g542.symm)))).wr W559 (Or.inr (Nat.le_trans (Nat.le_refl _) (Nat.le_of_eq g542.symm)))).wr W564 (Or.inr (Nat.le_trans (Nat.le_refl _) (Nat.le_of_eq g542.symm)))).wr W569 (Or.inr (Nat.le_trans (Nat.le_refl _) (Nat.le_of_eq g542.symm)))).wr W574 (Or.inr (Nat.le_trans (Nat.le_refl _) (Nat.le_of_eq g542.symm)))).wr W579 (Or.inr (Nat.le_trans (Nat.le_refl _) (Nat.le_of_eq g542.symm)))).wr W584 (Or.inr (Nat.le_trans (Nat.le_refl _) (Nat.le_of_eq g542.symm)))).wr W589 (Or.inr (Nat.le_trans (Nat.le_refl _) (Nat.le_of_eq g542.symm)))).wr W594 (Or.inr (Nat.le_trans (Nat.le_refl _) (Nat.le_of_eq g542.symm)))).wr W599 (Or.inr (Nat.le_trans (Nat.le_refl _) (Nat.le_of_eq g542.symm)))).wr W604 (Or.inr (Nat.le_trans (Nat.le_refl _) (Nat.le_of_eq g542.symm)))).wr W609 (Or.inr (Nat.le_trans (Nat.le_refl _) (Nat.le_of_eq g542.symm)))).ext E613).trans K614 (allS (Or.inr (Nat.le_trans (Nat.le_trans (Nat.le_trans (Nat.le_trans (Nat.le_trans (Nat.le_trans (Nat.le_trans (Nat.le_trans (Nat.le_trans (Nat.le_trans (Nat.le_trans (Nat.le_trans (Nat.le_trans (Nat.le_trans (Nat.le_trans (Nat.le_trans (Nat.le_refl _) E542.1) (Nat.le_of_eq (Wr.size W544).symm)) (Nat.le_of_eq (Wr.size W549).symm)) (Nat.le_of_eq (Wr.size W554).symm)) (Nat.le_of_eq (Wr.size W559).symm)) (Nat.le_of_eq (Wr.size W564).symm)) (Nat.le_of_eq (Wr.size W569).symm)) (Nat.le_of_eq (Wr.size W574).symm)) (Nat.le_of_eq (Wr.size W579).symm)) (Nat.le_of_eq (Wr.size W584).symm)) (Nat.le_of_eq (Wr.size W589).symm)) (Nat.le_of_eq (Wr.size W594).symm)) (Nat.le_of_eq (Wr.size W599).symm)) (Nat.le_of_eq (Wr.size W604).symm)) (Nat.le_of_eq (Wr.size W609).symm)) (Nat.le_of_eq g613.symm))) all0)), F614⟩
theorem own_d5_187 : decode method_3_code 187 = .ok (.aload_n 2, 1) := by decide +kernel
theorem own_d5_188 : decode method_3_code 188 = .ok (.bipush 14, 2) := by decide +kernel
theorem own_d5_190 : decode method_3_code 190 = .ok (.aload_n 0, 1) := by decide +kernel
theorem own_d5_191 : decode method_3_code 191 = .ok (.bipush 14, 2) := by decide +kernel
theorem own_d5_193 : decode method_3_code 193 = .ok (.caload, 1) := by decide +kernel
theorem own_d5_194 : decode method_3_code 194 = .ok (.castore, 1) := by decide +kernel
theorem own_ef_rm_px15 (m : MethodId) (a1 : Addr) : entryFrame m #[(.ref a1), (.int (15 : Int32))] 3 = mkF m 0 #[.val (.ref a1), .val (.int (15 : Int32)), .unset] [] := by first | (simp [entryFrame, mkF, argsToLocals, Value.category]; done) | rfl
def Qrm_px15 (Z : State) (a1 : Addr) (gS : Int32) (h0 : Heap) (n0 : Nat) (v : Option Value) (h : Heap) (L : List Loc) : Prop := ∃ x cs, v = some (.ref x) ∧ Fr n0 L ∧ Keep h0 h [] ∧ own_Str Z h h.size x cs
set_option maxRecDepth 65536 in
set_option maxHeartbeats 40000000 in
theorem rm_px15 (l : Launch) (Z : State) (a0 : Array Value) (hw : ∀ d ∈ tables_1, d.before a0 Z = true) (ws : List Jvm.Cond) (a1 : Addr) (gS : Int32) (h0 : Heap) (n0 : Nat) (hEL : EW Z a0 own_EL) (O_0 : Old Z n0 h0) (S_S : Sta Z Z.heap "java/lang/String" "COMPACT_STRINGS" "Z" (.int gS)) (hS : ¬ gS = 0) (C_1 : own_Ch Z h0 a1 16) :
    own_MetW l (⟨"com/example/tranchebook/tranchebook/model/FeeByRateNamePinLaw", "prefix", "([CI)Ljava/lang/String;"⟩ : MethodName) method_3_code 3 (some (.object "java/lang/String")) ws ({ frames := 5, cells := 7, slots := 44, locals := 80 } : Room) #[(.ref a1), (.int (15 : Int32))] Z own_EL h0 (Qrm_px15 Z a1 gS h0 n0) := by
  refine own_bodyW own_pn5 ?_
  intro p e s m below meth c T0 X0 hx hby hml hnm hret hlk W0 e0
  have hZ := W0.1
  have hown := W0.2.1
  have N0 := Fr.nil n0
  refine own_st (fun t k => castTop (own_ef_rm_px15 m a1) k) ?_
  show own_Go p.tables e below (T0.setTop (mkF m 0 #[.val (.ref a1), .val (.int (15 : Int32)), .unset] [])) _
  have Z0 := own_Z0 O_0
  have hws : ∀ d ∈ StrChars.Road.words, d.before a0 Z = true := fun d hd => hw d ((by decide +kernel : ∀ d ∈ StrChars.Road.words, d ∈ tables_1) d hd)
  refine own_iloadN X0 hx hby own_d5_0 (pc' := 1) rfl rfl ?_
  refine own_newA X0 hx hby own_d5_1 (pc' := 3) rfl hZ (hw _ (List.mem_of_getElem? (i := 0) rfl)) e0 (by decide) (cap := 15) (by decide) (by decide) (by decide) (by decide) (vs := List.replicate 15 (.int 0)) (by rfl) ?_
  intro T617 h617 b617 X617 e617 g617 E617 A617
  have c617 := own_Ch.new A617
  have l617 : n0 ≤ b617 := (Nat.le_trans Z0 (Nat.le_trans (Nat.le_refl _) (Nat.le_of_eq g617.symm)))
  refine own_astoreN X617 hx hby own_d5_3 (pc' := 4) rfl rfl (Ls' := #[.val (.ref a1), .val (.int (15 : Int32)), .val (.ref b617)]) rfl ?_
  refine own_iloadN X617 hx hby own_d5_4 (pc' := 5) rfl rfl ?_
  refine own_ifNo X617 hx hby own_d5_5 (pc' := 8) rfl (by decide) ?_
  refine own_aloadN X617 hx hby own_d5_8 (pc' := 9) rfl rfl rfl ?_
  refine own_iconst X617 hx hby own_d5_9 (pc' := 10) rfl (z := (0 : Int32)) (by decide) ?_
  refine own_aloadN X617 hx hby own_d5_10 (pc' := 11) rfl rfl rfl ?_
  refine own_iconst X617 hx hby own_d5_11 (pc' := 12) rfl (z := (0 : Int32)) (by decide) ?_
  refine own_caloadC X617 hx hby own_d5_12 (pc' := 13) rfl hZ e617 ((C_1.ext E617)) (by decide) (by decide) ?_
  intro z618 hz618
  refine own_castoreC X617 hx hby own_d5_13 (pc' := 14) rfl hZ e617 (c617) (by decide) (by decide) ((own_narB hz618).symm ▸ hz618) ?_
  intro T619 h619 X619 e619 W619 C619
  have N619 := Fr.snoc X619 N0 l617
  have c620 := ((W0.ext E617).wr W619 (own_Ch.safe c617 ((W0.ext E617)).1.alike))
  have c621 := ((O_0.ext E617).wr W619 l617)
  have c622 := ((C_1.ext E617).other W619 (Nat.ne_of_lt (Nat.lt_of_lt_of_le (C_1).lt (Nat.le_of_eq g617.symm))))
  refine own_iloadN X619 hx hby own_d5_14 (pc' := 15) rfl rfl ?_
  refine own_iconst X619 hx hby own_d5_15 (pc' := 16) rfl (z := (1 : Int32)) (by decide) ?_
  refine own_icmpNo X619 hx hby own_d5_16 (pc' := 19) rfl (by decide) ?_
  refine own_aloadN X619 hx hby own_d5_19 (pc' := 20) rfl rfl rfl ?_
  refine own_iconst X619 hx hby own_d5_20 (pc' := 21) rfl (z := (1 : Int32)) (by decide) ?_
  refine own_aloadN X619 hx hby own_d5_21 (pc' := 22) rfl rfl rfl ?_
  refine own_iconst X619 hx hby own_d5_22 (pc' := 23) rfl (z := (1 : Int32)) (by decide) ?_
  refine own_caloadC X619 hx hby own_d5_23 (pc' := 24) rfl hZ e619 (c622) (by decide) (by decide) ?_
  intro z623 hz623
  refine own_castoreC X619 hx hby own_d5_24 (pc' := 25) rfl hZ e619 (C619) (by decide) (by decide) ((own_narB hz623).symm ▸ hz623) ?_
  intro T624 h624 X624 e624 W624 C624
  have N624 := Fr.snoc X624 N619 l617
  have c625 := (c620.wr W624 (own_Ch.safe C619 (c620).1.alike))
  have c626 := (c621.wr W624 l617)
  have c627 := (c622.other W624 (Nat.ne_of_lt (Nat.lt_of_lt_of_le (C_1).lt (Nat.le_of_eq g617.symm))))
  refine own_iloadN X624 hx hby own_d5_25 (pc' := 26) rfl rfl ?_
  refine own_iconst X624 hx hby own_d5_26 (pc' := 27) rfl (z := (2 : Int32)) (by decide) ?_
  refine own_icmpNo X624 hx hby own_d5_27 (pc' := 30) rfl (by decide) ?_
  refine own_aloadN X624 hx hby own_d5_30 (pc' := 31) rfl rfl rfl ?_
  refine own_iconst X624 hx hby own_d5_31 (pc' := 32) rfl (z := (2 : Int32)) (by decide) ?_
  refine own_aloadN X624 hx hby own_d5_32 (pc' := 33) rfl rfl rfl ?_
  refine own_iconst X624 hx hby own_d5_33 (pc' := 34) rfl (z := (2 : Int32)) (by decide) ?_
  refine own_caloadC X624 hx hby own_d5_34 (pc' := 35) rfl hZ e624 (c627) (by decide) (by decide) ?_
  intro z628 hz628
  refine own_castoreC X624 hx hby own_d5_35 (pc' := 36) rfl hZ e624 (C624) (by decide) (by decide) ((own_narB hz628).symm ▸ hz628) ?_
  intro T629 h629 X629 e629 W629 C629
  have N629 := Fr.snoc X629 N624 l617
  have c630 := (c625.wr W629 (own_Ch.safe C624 (c625).1.alike))
  have c631 := (c626.wr W629 l617)
  have c632 := (c627.other W629 (Nat.ne_of_lt (Nat.lt_of_lt_of_le (C_1).lt (Nat.le_of_eq g617.symm))))
  refine own_iloadN X629 hx hby own_d5_36 (pc' := 37) rfl rfl ?_
  refine own_iconst X629 hx hby own_d5_37 (pc' := 38) rfl (z := (3 : Int32)) (by decide) ?_
  refine own_icmpNo X629 hx hby own_d5_38 (pc' := 41) rfl (by decide) ?_
  refine own_aloadN X629 hx hby own_d5_41 (pc' := 42) rfl rfl rfl ?_
  refine own_iconst X629 hx hby own_d5_42 (pc' := 43) rfl (z := (3 : Int32)) (by decide) ?_
  refine own_aloadN X629 hx hby own_d5_43 (pc' := 44) rfl rfl rfl ?_
  refine own_iconst X629 hx hby own_d5_44 (pc' := 45) rfl (z := (3 : Int32)) (by decide) ?_
  refine own_caloadC X629 hx hby own_d5_45 (pc' := 46) rfl hZ e629 (c632) (by decide) (by decide) ?_
  intro z633 hz633
  refine own_castoreC X629 hx hby own_d5_46 (pc' := 47) rfl hZ e629 (C629) (by decide) (by decide) ((own_narB hz633).symm ▸ hz633) ?_
  intro T634 h634 X634 e634 W634 C634
  have N634 := Fr.snoc X634 N629 l617
  have c635 := (c630.wr W634 (own_Ch.safe C629 (c630).1.alike))
  have c636 := (c631.wr W634 l617)
  have c637 := (c632.other W634 (Nat.ne_of_lt (Nat.lt_of_lt_of_le (C_1).lt (Nat.le_of_eq g617.symm))))
  refine own_iloadN X634 hx hby own_d5_47 (pc' := 48) rfl rfl ?_
  refine own_iconst X634 hx hby own_d5_48 (pc' := 49) rfl (z := (4 : Int32)) (by decide) ?_
  refine own_icmpNo X634 hx hby own_d5_49 (pc' := 52) rfl (by decide) ?_
  refine own_aloadN X634 hx hby own_d5_52 (pc' := 53) rfl rfl rfl ?_
  refine own_iconst X634 hx hby own_d5_53 (pc' := 54) rfl (z := (4 : Int32)) (by decide) ?_
  refine own_aloadN X634 hx hby own_d5_54 (pc' := 55) rfl rfl rfl ?_
  refine own_iconst X634 hx hby own_d5_55 (pc' := 56) rfl (z := (4 : Int32)) (by decide) ?_
  refine own_caloadC X634 hx hby own_d5_56 (pc' := 57) rfl hZ e634 (c637) (by decide) (by decide) ?_
  intro z638 hz638
  refine own_castoreC X634 hx hby own_d5_57 (pc' := 58) rfl hZ e634 (C634) (by decide) (by decide) ((own_narB hz638).symm ▸ hz638) ?_
  intro T639 h639 X639 e639 W639 C639
  have N639 := Fr.snoc X639 N634 l617
  have c640 := (c635.wr W639 (own_Ch.safe C634 (c635).1.alike))
  have c641 := (c636.wr W639 l617)
  have c642 := (c637.other W639 (Nat.ne_of_lt (Nat.lt_of_lt_of_le (C_1).lt (Nat.le_of_eq g617.symm))))
  refine own_iloadN X639 hx hby own_d5_58 (pc' := 59) rfl rfl ?_
  refine own_iconst X639 hx hby own_d5_59 (pc' := 60) rfl (z := (5 : Int32)) (by decide) ?_
  refine own_icmpNo X639 hx hby own_d5_60 (pc' := 63) rfl (by decide) ?_
  refine own_aloadN X639 hx hby own_d5_63 (pc' := 64) rfl rfl rfl ?_
  refine own_iconst X639 hx hby own_d5_64 (pc' := 65) rfl (z := (5 : Int32)) (by decide) ?_
  refine own_aloadN X639 hx hby own_d5_65 (pc' := 66) rfl rfl rfl ?_
  refine own_iconst X639 hx hby own_d5_66 (pc' := 67) rfl (z := (5 : Int32)) (by decide) ?_
  refine own_caloadC X639 hx hby own_d5_67 (pc' := 68) rfl hZ e639 (c642) (by decide) (by decide) ?_
  intro z643 hz643
  refine own_castoreC X639 hx hby own_d5_68 (pc' := 69) rfl hZ e639 (C639) (by decide) (by decide) ((own_narB hz643).symm ▸ hz643) ?_
  intro T644 h644 X644 e644 W644 C644
  have N644 := Fr.snoc X644 N639 l617
  have c645 := (c640.wr W644 (own_Ch.safe C639 (c640).1.alike))
  have c646 := (c641.wr W644 l617)
  have c647 := (c642.other W644 (Nat.ne_of_lt (Nat.lt_of_lt_of_le (C_1).lt (Nat.le_of_eq g617.symm))))
  refine own_iloadN X644 hx hby own_d5_69 (pc' := 70) rfl rfl ?_
  refine own_bipush X644 hx hby own_d5_70 (pc' := 72) rfl (z := (6 : Int32)) (by decide) ?_
  refine own_icmpNo X644 hx hby own_d5_72 (pc' := 75) rfl (by decide) ?_
  refine own_aloadN X644 hx hby own_d5_75 (pc' := 76) rfl rfl rfl ?_
  refine own_bipush X644 hx hby own_d5_76 (pc' := 78) rfl (z := (6 : Int32)) (by decide) ?_
  refine own_aloadN X644 hx hby own_d5_78 (pc' := 79) rfl rfl rfl ?_
  refine own_bipush X644 hx hby own_d5_79 (pc' := 81) rfl (z := (6 : Int32)) (by decide) ?_
  refine own_caloadC X644 hx hby own_d5_81 (pc' := 82) rfl hZ e644 (c647) (by decide) (by decide) ?_
  intro z648 hz648
  refine own_castoreC X644 hx hby own_d5_82 (pc' := 83) rfl hZ e644 (C644) (by decide) (by decide) ((own_narB hz648).symm ▸ hz648) ?_
  intro T649 h649 X649 e649 W649 C649
  have N649 := Fr.snoc X649 N644 l617
  have c650 := (c645.wr W649 (own_Ch.safe C644 (c645).1.alike))
  have c651 := (c646.wr W649 l617)
  have c652 := (c647.other W649 (Nat.ne_of_lt (Nat.lt_of_lt_of_le (C_1).lt (Nat.le_of_eq g617.symm))))
  refine own_iloadN X649 hx hby own_d5_83 (pc' := 84) rfl rfl ?_
  refine own_bipush X649 hx hby own_d5_84 (pc' := 86) rfl (z := (7 : Int32)) (by decide) ?_
  refine own_icmpNo X649 hx hby own_d5_86 (pc' := 89) rfl (by decide) ?_
  refine own_aloadN X649 hx hby own_d5_89 (pc' := 90) rfl rfl rfl ?_
  refine own_bipush X649 hx hby own_d5_90 (pc' := 92) rfl (z := (7 : Int32)) (by decide) ?_
  refine own_aloadN X649 hx hby own_d5_92 (pc' := 93) rfl rfl rfl ?_
  refine own_bipush X649 hx hby own_d5_93 (pc' := 95) rfl (z := (7 : Int32)) (by decide) ?_
  refine own_caloadC X649 hx hby own_d5_95 (pc' := 96) rfl hZ e649 (c652) (by decide) (by decide) ?_
  intro z653 hz653
  refine own_castoreC X649 hx hby own_d5_96 (pc' := 97) rfl hZ e649 (C649) (by decide) (by decide) ((own_narB hz653).symm ▸ hz653) ?_
  intro T654 h654 X654 e654 W654 C654
  have N654 := Fr.snoc X654 N649 l617
  have c655 := (c650.wr W654 (own_Ch.safe C649 (c650).1.alike))
  have c656 := (c651.wr W654 l617)
  have c657 := (c652.other W654 (Nat.ne_of_lt (Nat.lt_of_lt_of_le (C_1).lt (Nat.le_of_eq g617.symm))))
  refine own_iloadN X654 hx hby own_d5_97 (pc' := 98) rfl rfl ?_
  refine own_bipush X654 hx hby own_d5_98 (pc' := 100) rfl (z := (8 : Int32)) (by decide) ?_
  refine own_icmpNo X654 hx hby own_d5_100 (pc' := 103) rfl (by decide) ?_
  refine own_aloadN X654 hx hby own_d5_103 (pc' := 104) rfl rfl rfl ?_
  refine own_bipush X654 hx hby own_d5_104 (pc' := 106) rfl (z := (8 : Int32)) (by decide) ?_
  refine own_aloadN X654 hx hby own_d5_106 (pc' := 107) rfl rfl rfl ?_
  refine own_bipush X654 hx hby own_d5_107 (pc' := 109) rfl (z := (8 : Int32)) (by decide) ?_
  refine own_caloadC X654 hx hby own_d5_109 (pc' := 110) rfl hZ e654 (c657) (by decide) (by decide) ?_
  intro z658 hz658
  refine own_castoreC X654 hx hby own_d5_110 (pc' := 111) rfl hZ e654 (C654) (by decide) (by decide) ((own_narB hz658).symm ▸ hz658) ?_
  intro T659 h659 X659 e659 W659 C659
  have N659 := Fr.snoc X659 N654 l617
  have c660 := (c655.wr W659 (own_Ch.safe C654 (c655).1.alike))
  have c661 := (c656.wr W659 l617)
  have c662 := (c657.other W659 (Nat.ne_of_lt (Nat.lt_of_lt_of_le (C_1).lt (Nat.le_of_eq g617.symm))))
  refine own_iloadN X659 hx hby own_d5_111 (pc' := 112) rfl rfl ?_
  refine own_bipush X659 hx hby own_d5_112 (pc' := 114) rfl (z := (9 : Int32)) (by decide) ?_
  refine own_icmpNo X659 hx hby own_d5_114 (pc' := 117) rfl (by decide) ?_
  refine own_aloadN X659 hx hby own_d5_117 (pc' := 118) rfl rfl rfl ?_
  refine own_bipush X659 hx hby own_d5_118 (pc' := 120) rfl (z := (9 : Int32)) (by decide) ?_
  refine own_aloadN X659 hx hby own_d5_120 (pc' := 121) rfl rfl rfl ?_
  refine own_bipush X659 hx hby own_d5_121 (pc' := 123) rfl (z := (9 : Int32)) (by decide) ?_
  refine own_caloadC X659 hx hby own_d5_123 (pc' := 124) rfl hZ e659 (c662) (by decide) (by decide) ?_
  intro z663 hz663
  refine own_castoreC X659 hx hby own_d5_124 (pc' := 125) rfl hZ e659 (C659) (by decide) (by decide) ((own_narB hz663).symm ▸ hz663) ?_
  intro T664 h664 X664 e664 W664 C664
  have N664 := Fr.snoc X664 N659 l617
  have c665 := (c660.wr W664 (own_Ch.safe C659 (c660).1.alike))
  have c666 := (c661.wr W664 l617)
  have c667 := (c662.other W664 (Nat.ne_of_lt (Nat.lt_of_lt_of_le (C_1).lt (Nat.le_of_eq g617.symm))))
  refine own_iloadN X664 hx hby own_d5_125 (pc' := 126) rfl rfl ?_
  refine own_bipush X664 hx hby own_d5_126 (pc' := 128) rfl (z := (10 : Int32)) (by decide) ?_
  refine own_icmpNo X664 hx hby own_d5_128 (pc' := 131) rfl (by decide) ?_
  refine own_aloadN X664 hx hby own_d5_131 (pc' := 132) rfl rfl rfl ?_
  refine own_bipush X664 hx hby own_d5_132 (pc' := 134) rfl (z := (10 : Int32)) (by decide) ?_
  refine own_aloadN X664 hx hby own_d5_134 (pc' := 135) rfl rfl rfl ?_
  refine own_bipush X664 hx hby own_d5_135 (pc' := 137) rfl (z := (10 : Int32)) (by decide) ?_
  refine own_caloadC X664 hx hby own_d5_137 (pc' := 138) rfl hZ e664 (c667) (by decide) (by decide) ?_
  intro z668 hz668
  refine own_castoreC X664 hx hby own_d5_138 (pc' := 139) rfl hZ e664 (C664) (by decide) (by decide) ((own_narB hz668).symm ▸ hz668) ?_
  intro T669 h669 X669 e669 W669 C669
  have N669 := Fr.snoc X669 N664 l617
  have c670 := (c665.wr W669 (own_Ch.safe C664 (c665).1.alike))
  have c671 := (c666.wr W669 l617)
  have c672 := (c667.other W669 (Nat.ne_of_lt (Nat.lt_of_lt_of_le (C_1).lt (Nat.le_of_eq g617.symm))))
  refine own_iloadN X669 hx hby own_d5_139 (pc' := 140) rfl rfl ?_
  refine own_bipush X669 hx hby own_d5_140 (pc' := 142) rfl (z := (11 : Int32)) (by decide) ?_
  refine own_icmpNo X669 hx hby own_d5_142 (pc' := 145) rfl (by decide) ?_
  refine own_aloadN X669 hx hby own_d5_145 (pc' := 146) rfl rfl rfl ?_
  refine own_bipush X669 hx hby own_d5_146 (pc' := 148) rfl (z := (11 : Int32)) (by decide) ?_
  refine own_aloadN X669 hx hby own_d5_148 (pc' := 149) rfl rfl rfl ?_
  refine own_bipush X669 hx hby own_d5_149 (pc' := 151) rfl (z := (11 : Int32)) (by decide) ?_
  refine own_caloadC X669 hx hby own_d5_151 (pc' := 152) rfl hZ e669 (c672) (by decide) (by decide) ?_
  intro z673 hz673
  refine own_castoreC X669 hx hby own_d5_152 (pc' := 153) rfl hZ e669 (C669) (by decide) (by decide) ((own_narB hz673).symm ▸ hz673) ?_
  intro T674 h674 X674 e674 W674 C674
  have N674 := Fr.snoc X674 N669 l617
  have c675 := (c670.wr W674 (own_Ch.safe C669 (c670).1.alike))
  have c676 := (c671.wr W674 l617)
  have c677 := (c672.other W674 (Nat.ne_of_lt (Nat.lt_of_lt_of_le (C_1).lt (Nat.le_of_eq g617.symm))))
  refine own_iloadN X674 hx hby own_d5_153 (pc' := 154) rfl rfl ?_
  refine own_bipush X674 hx hby own_d5_154 (pc' := 156) rfl (z := (12 : Int32)) (by decide) ?_
  refine own_icmpNo X674 hx hby own_d5_156 (pc' := 159) rfl (by decide) ?_
  refine own_aloadN X674 hx hby own_d5_159 (pc' := 160) rfl rfl rfl ?_
  refine own_bipush X674 hx hby own_d5_160 (pc' := 162) rfl (z := (12 : Int32)) (by decide) ?_
  refine own_aloadN X674 hx hby own_d5_162 (pc' := 163) rfl rfl rfl ?_
  refine own_bipush X674 hx hby own_d5_163 (pc' := 165) rfl (z := (12 : Int32)) (by decide) ?_
  refine own_caloadC X674 hx hby own_d5_165 (pc' := 166) rfl hZ e674 (c677) (by decide) (by decide) ?_
  intro z678 hz678
  refine own_castoreC X674 hx hby own_d5_166 (pc' := 167) rfl hZ e674 (C674) (by decide) (by decide) ((own_narB hz678).symm ▸ hz678) ?_
  intro T679 h679 X679 e679 W679 C679
  have N679 := Fr.snoc X679 N674 l617
  have c680 := (c675.wr W679 (own_Ch.safe C674 (c675).1.alike))
  have c681 := (c676.wr W679 l617)
  have c682 := (c677.other W679 (Nat.ne_of_lt (Nat.lt_of_lt_of_le (C_1).lt (Nat.le_of_eq g617.symm))))
  refine own_iloadN X679 hx hby own_d5_167 (pc' := 168) rfl rfl ?_
  refine own_bipush X679 hx hby own_d5_168 (pc' := 170) rfl (z := (13 : Int32)) (by decide) ?_
  refine own_icmpNo X679 hx hby own_d5_170 (pc' := 173) rfl (by decide) ?_
  refine own_aloadN X679 hx hby own_d5_173 (pc' := 174) rfl rfl rfl ?_
  refine own_bipush X679 hx hby own_d5_174 (pc' := 176) rfl (z := (13 : Int32)) (by decide) ?_
  refine own_aloadN X679 hx hby own_d5_176 (pc' := 177) rfl rfl rfl ?_
  refine own_bipush X679 hx hby own_d5_177 (pc' := 179) rfl (z := (13 : Int32)) (by decide) ?_
  refine own_caloadC X679 hx hby own_d5_179 (pc' := 180) rfl hZ e679 (c682) (by decide) (by decide) ?_
  intro z683 hz683
  refine own_castoreC X679 hx hby own_d5_180 (pc' := 181) rfl hZ e679 (C679) (by decide) (by decide) ((own_narB hz683).symm ▸ hz683) ?_
  intro T684 h684 X684 e684 W684 C684
  have N684 := Fr.snoc X684 N679 l617
  have c685 := (c680.wr W684 (own_Ch.safe C679 (c680).1.alike))
  have c686 := (c681.wr W684 l617)
  have c687 := (c682.other W684 (Nat.ne_of_lt (Nat.lt_of_lt_of_le (C_1).lt (Nat.le_of_eq g617.symm))))
  refine own_iloadN X684 hx hby own_d5_181 (pc' := 182) rfl rfl ?_
  refine own_bipush X684 hx hby own_d5_182 (pc' := 184) rfl (z := (14 : Int32)) (by decide) ?_
  refine own_icmpNo X684 hx hby own_d5_184 (pc' := 187) rfl (by decide) ?_
  refine own_aloadN X684 hx hby own_d5_187 (pc' := 188) rfl rfl rfl ?_
  refine own_bipush X684 hx hby own_d5_188 (pc' := 190) rfl (z := (14 : Int32)) (by decide) ?_
  refine own_aloadN X684 hx hby own_d5_190 (pc' := 191) rfl rfl rfl ?_
  refine own_bipush X684 hx hby own_d5_191 (pc' := 193) rfl (z := (14 : Int32)) (by decide) ?_
  refine own_caloadC X684 hx hby own_d5_193 (pc' := 194) rfl hZ e684 (c687) (by decide) (by decide) ?_
  intro z688 hz688
  refine own_castoreC X684 hx hby own_d5_194 (pc' := 195) rfl hZ e684 (C684) (by decide) (by decide) ((own_narB hz688).symm ▸ hz688) ?_
  intro T689 h689 X689 e689 W689 C689
  have N689 := Fr.snoc X689 N684 l617
  have c690 := (c685.wr W689 (own_Ch.safe C684 (c685).1.alike))
  have c691 := (c686.wr W689 l617)
  have c692 := (c687.other W689 (Nat.ne_of_lt (Nat.lt_of_lt_of_le (C_1).lt (Nat.le_of_eq g617.symm))))
  refine own_new X689 hx hby own_d5_195 (pc' := 198) rfl hZ hown (hw _ (List.mem_of_getElem? (i := 44) rfl)) (hw _ (List.mem_of_getElem? (i := 34) rfl)) (hw _ (List.mem_of_getElem? (i := 31) rfl)) e689 (by decide) (by decide) ?_
  intro T693 h693 b693 X693 e693 g693 E693 A693 D693
  have F693_value : Fld Z h693 b693 "java/lang/String" "value" "[B" .null := D693 (Or.inr (hw _ (List.mem_of_getElem? (i := 36) rfl))) (ty := (.array .byte)) (by decide)
  have F693_coder : Fld Z h693 b693 "java/lang/String" "coder" "B" (.int (0 : Int32)) := D693 (Or.inr (hw _ (List.mem_of_getElem? (i := 37) rfl))) (ty := .byte) (by decide)
  have l693 : n0 ≤ b693 := (Nat.le_trans Z0 (Nat.le_trans (Nat.le_trans (Nat.le_trans (Nat.le_trans (Nat.le_trans (Nat.le_trans (Nat.le_trans (Nat.le_trans (Nat.le_trans (Nat.le_trans (Nat.le_trans (Nat.le_trans (Nat.le_trans (Nat.le_trans (Nat.le_trans (Nat.le_trans (Nat.le_trans (Nat.le_refl _) E617.1) (Nat.le_of_eq (Wr.size W619).symm)) (Nat.le_of_eq (Wr.size W624).symm)) (Nat.le_of_eq (Wr.size W629).symm)) (Nat.le_of_eq (Wr.size W634).symm)) (Nat.le_of_eq (Wr.size W639).symm)) (Nat.le_of_eq (Wr.size W644).symm)) (Nat.le_of_eq (Wr.size W649).symm)) (Nat.le_of_eq (Wr.size W654).symm)) (Nat.le_of_eq (Wr.size W659).symm)) (Nat.le_of_eq (Wr.size W664).symm)) (Nat.le_of_eq (Wr.size W669).symm)) (Nat.le_of_eq (Wr.size W674).symm)) (Nat.le_of_eq (Wr.size W679).symm)) (Nat.le_of_eq (Wr.size W684).symm)) (Nat.le_of_eq (Wr.size W689).symm)) (Nat.le_of_eq g693.symm)))
  refine own_dup X693 hx hby own_d5_198 (pc' := 199) rfl rfl ?_
  refine own_aloadN X693 hx hby own_d5_199 (pc' := 200) rfl rfl rfl ?_
  refine own_callSpB X693 hx hZ (own_strB (W := 1) hZ hws (hw _ (List.mem_of_getElem? (i := 34) rfl)) l693 (own_Z0 ((c691.ext E693))) (A693) (F693_value) (F693_coder) ((C689.ext E693)) (S_S.ext ((c691.ext E693)).2) hS (by decide) (by decide) (by decide) (by decide)) rfl hown (hw _ (List.mem_of_getElem? (i := 45) rfl)) (hw _ (List.mem_of_getElem? (i := 46) rfl)) (hw _ (List.mem_of_getElem? (i := 47) rfl)) (by decide) (by rw [hml]; rfl) (argsL := [(.ref b617)]) (rest := [(.ref b693)]) rfl (lenOf own_pd3 rfl) rfl (Nat.le_of_eq rfl) (hb hby own_d5_200) e693 (by decide) (by decide) ?_
  intro v694 T694 L694 X694 hQ694
  obtain ⟨hv694, N694q, K694, cs694, F694⟩ := hQ694
  subst hv694
  have N694 := Fr.app N689 N694q
  have c695 := ((c690.ext E693).keep K694 (allS (Safe.ext E693 (c690).ch (Safe.new (Nat.le_of_eq g693.symm))) all0))
  have c696 := ((c691.ext E693).keep K694 (allS l693 all0))
  show own_Go p.tables e below (T694.setTop (mkF m 203 #[.val (.ref a1), .val (.int (15 : Int32)), .val (.ref b617)] [(.ref b693)])) _
  exact own_retAW X694 hx hEL (c695) rfl hret rfl rfl (hb hby own_d5_203) hlk (by decide) (by decide) ⟨_, cs694, rfl, N694, (((((((((((((((((((Keep.refl h0 []).ext E617).wr W619 (Or.inr (Nat.le_trans (Nat.le_refl _) (Nat.le_of_eq g617.symm)))).wr W624 (Or.inr (Nat.le_trans (Nat.le_refl _) (Nat.le_of_eq g617.symm)))).wr W629 (Or.inr (Nat.le_trans (Nat.le_refl _) (Nat.le_of_eq g617.symm)))).wr W634 (Or.inr (Nat.le_trans (Nat.le_refl _) (Nat.le_of_eq g617.symm)))).wr W639 (Or.inr (Nat.le_trans (Nat.le_refl _) (Nat.le_of_eq g617.symm)))).wr W644 (Or.inr (Nat.le_trans (Nat.le_refl _) (Nat.le_of_eq g617.symm)))).wr W649 (Or.inr (Nat.le_trans (Nat.le_refl _) (Nat.le_of_eq g617.symm)))).wr W654 (Or.inr (Nat.le_trans (Nat.le_refl _) (Nat.le_of_eq g617.symm)))).wr W659 (Or.inr (Nat.le_trans (Nat.le_refl _) (Nat.le_of_eq g617.symm)))).wr W664 (Or.inr (Nat.le_trans (Nat.le_refl _) (Nat.le_of_eq g617.symm)))).wr W669 (Or.inr (Nat.le_trans (Nat.le_refl _) (Nat.le_of_eq g617.symm)))).wr W674 (Or.inr (Nat.le_trans (Nat.le_refl _) (Nat.le_of_eq g617.symm)))).wr W679 (Or.inr (Nat.le_trans (Nat.le_refl _) (Nat.le_of_eq g617.symm)))).wr W684 (Or.inr (Nat.le_trans (Nat.le_refl _) (Nat.le_of_eq g617.symm)))).wr W689 (Or.inr (Nat.le_trans (Nat.le_refl _) (Nat.le_of_eq g617.symm)))).ext E693).trans K694 (allS (Or.inr (Nat.le_trans (Nat.le_trans (Nat.le_trans (Nat.le_trans (Nat.le_trans (Nat.le_trans (Nat.le_trans (Nat.le_trans (Nat.le_trans (Nat.le_trans (Nat.le_trans (Nat.le_trans (Nat.le_trans (Nat.le_trans (Nat.le_trans (Nat.le_trans (Nat.le_trans (Nat.le_refl _) E617.1) (Nat.le_of_eq (Wr.size W619).symm)) (Nat.le_of_eq (Wr.size W624).symm)) (Nat.le_of_eq (Wr.size W629).symm)) (Nat.le_of_eq (Wr.size W634).symm)) (Nat.le_of_eq (Wr.size W639).symm)) (Nat.le_of_eq (Wr.size W644).symm)) (Nat.le_of_eq (Wr.size W649).symm)) (Nat.le_of_eq (Wr.size W654).symm)) (Nat.le_of_eq (Wr.size W659).symm)) (Nat.le_of_eq (Wr.size W664).symm)) (Nat.le_of_eq (Wr.size W669).symm)) (Nat.le_of_eq (Wr.size W674).symm)) (Nat.le_of_eq (Wr.size W679).symm)) (Nat.le_of_eq (Wr.size W684).symm)) (Nat.le_of_eq (Wr.size W689).symm)) (Nat.le_of_eq g693.symm))) all0)), F694⟩
theorem own_pd4 : parseMethodDescriptor "(Ljava/lang/String;)Lcom/example/tranchebook/tranchebook/model/Fee;" = some ⟨[(.object "java/lang/String")], some (.object "com/example/tranchebook/tranchebook/model/Fee")⟩ := by decide +kernel
set_option maxRecDepth 65536 in
set_option maxHeartbeats 40000000 in
theorem tl_s {p : Program} {l : Launch} {e : Env} {s : State} {m : MethodId} {args : Array Value} {below : List Frame} {meth : Method} {c : Code} {T0 : State} {locs : List Loc} {Z : State} {a0 : Array Value} {h0 : Heap} {n0 : Nat} {vm0 : Vm} {Q : Option Value → Heap → List Loc → Prop} (hx : p.tables.exec = Jvm.exec) (hw : ∀ d ∈ tables_1, d.before a0 Z = true) (hEL : EW Z a0 own_EL) (hby : c.code = code) (hml : c.maxLocals = maxLocals) (hret : meth.sig.returnType = ret) (hlk : meth.locks = false) (W0 : own_Wd Z own_EL s vm0 m x.cls h0) (X0 : Stand p l e room_1 (s.setVm vm0) m args below meth c T0 locs 12 200) (e0 : T0.heap = h0) (N0 : Fr n0 locs) (hQ : ∀ h L, Fr n0 L → Q (some (.int 1)) h L) (p1 : Int32) (p2 : Int32) (p3 : Int32) (p4 : Int64) (p5 : Int64) (q7 : Int32) (a8 : Addr) (q9 : Int32) (a10 : Addr) (cs : List Int32) (k1 : Nat) (aV : Addr) (kV : Cell) (r0 : Addr) (f0 : Addr) (gS : Int32) (O_0 : Old Z n0 h0) (S_V : Sta Z Z.heap "com/example/tranchebook/tranchebook/model/Fee" "$VALUES" "[Lcom/example/tranchebook/tranchebook/model/Fee;" (.ref aV)) (A_V : Arr Z Z.heap aV kV (.object "com/example/tranchebook/tranchebook/model/Fee")) (E_V : Exa Z Z.heap aV "[Lcom/example/tranchebook/tranchebook/model/Fee;") (FC : FitC Z kV) (hs : kV.slots.toList = [.ref r0]) (F_0 : Fld Z Z.heap r0 "com/example/tranchebook/tranchebook/model/Fee" "rateName" "Ljava/lang/String;" (.ref f0)) (T_f : own_Str Z Z.heap Z.heap.size f0 own_CF) (S_C : Sta Z Z.heap "com/example/tranchebook/tranchebook/model/Fee" "COMMITMENT" "Lcom/example/tranchebook/tranchebook/model/Fee;" (.ref r0)) (S_S : Sta Z Z.heap "java/lang/String" "COMPACT_STRINGS" "Z" (.int gS)) (hS : ¬ gS = 0) (T_1 : own_Str Z h0 k1 a10 cs) :
    own_Go p.tables e below (T0.setTop (mkF m 352 #[.val (.int p1), .val (.int p2), .val (.int p3), .val (.long p4), .second, .val (.long p5), .second, .val (.int q7), .val (.ref a8), .val (.int q9), .val (.ref a10), .unset, .unset] [])) (own_RH Z own_EL s Q room_1.cells room_1.slots) := by
  have hZ := W0.1
  have hown := W0.2.1
  have Z0 := own_Z0 O_0
  have hws : ∀ d ∈ StrChars.Road.words, d.before a0 Z = true := fun d hd => hw d ((by decide +kernel : ∀ d ∈ StrChars.Road.words, d ∈ tables_1) d hd)
  have hwE : ∀ d ∈ StrChars.Road.wordsEq, d.before a0 Z = true := fun d hd => hw d ((by decide +kernel : ∀ d ∈ StrChars.Road.wordsEq, d ∈ tables_1) d hd)
  have wS : ∀ d ∈ Bundle.stringAtoms, d.before a0 Z = true := fun d hd => hw d ((by decide +kernel : ∀ d ∈ Bundle.stringAtoms, d ∈ tables_1) d hd)
  by_cases hcs : cs = own_CF
  · skip
    refine own_aload X0 hx hby at_352 (pc' := 354) rfl rfl rfl ?_
    refine own_callS X0 hx hZ (rm_brs l Z a0 hw [] a10 aV kV r0 f0 gS cs k1 h0 n0 (O_0) S_V A_V E_V FC hs F_0 T_f S_S hS (T_1)) hown (hw _ (List.mem_of_getElem? (i := 6) rfl)) (hw _ (List.mem_of_getElem? (i := 7) rfl)) (hw _ (List.mem_of_getElem? (i := 8) rfl)) (hw _ (List.mem_of_getElem? (i := 9) rfl)) (by decide) (W := 0) (by decide) (by decide) (by rw [hml]; rfl) (argsL := [(.ref a10)]) (rest := []) rfl (lenOf own_pd4 rfl) rfl (Nat.le_of_eq rfl) (hb hby at_354) e0 (by decide) (by decide) ?_
    intro v697 T697 L697 X697 hQ697
    obtain ⟨hv697, N697q, K697⟩ := hQ697
    rw [show own_fee cs r0 = .ref r0 from if_pos hcs] at hv697
    subst hv697
    have N697 := Fr.app N0 N697q
    show own_Go p.tables e below (T697.setTop (mkF m 357 #[.val (.int p1), .val (.int p2), .val (.int p3), .val (.long p4), .second, .val (.long p5), .second, .val (.int q7), .val (.ref a8), .val (.int q9), .val (.ref a10), .unset, .unset] [(.ref r0)])) _
    refine own_astore X697 hx hby at_357 (pc' := 359) rfl rfl (Ls' := #[.val (.int p1), .val (.int p2), .val (.int p3), .val (.long p4), .second, .val (.long p5), .second, .val (.int q7), .val (.ref a8), .val (.int q9), .val (.ref a10), .val (.ref r0), .unset]) rfl ?_
    refine own_ldcS X697 hx hby at_359 (pc' := 361) rfl (hw _ (List.mem_of_getElem? (i := 33) rfl)) wS rfl hEL (by decide) ((W0.keep K697 all0)) (vs := [(.int (67 : Int32)), (.int (79 : Int32)), (.int (77 : Int32)), (.int (77 : Int32)), (.int (73 : Int32)), (.int (84 : Int32)), (.int (77 : Int32)), (.int (69 : Int32)), (.int (78 : Int32)), (.int (84 : Int32)), (.int (95 : Int32)), (.int (70 : Int32)), (.int (69 : Int32)), (.int (69 : Int32))]) (z := (14 : Int32)) ⟨by decide, by rfl⟩ (by decide) (by rfl) (n := 56) (by decide) (by decide) (by decide) (by decide) ?_
    intro T698 h698 a698 b698 k698 vm698 X698 e698 E698 W698 C698 G698 Gc698 Gv698 Gb698 S698
    have hZ := W698.1
    have hown := W698.2.1
    have F698 := own_Str.mk G698 Gc698 Gv698 Gb698 ([67, 79, 77, 77, 73, 84, 77, 69, 78, 84, 95, 70, 69, 69] : List Int32) (by decide) (by decide) rfl (by first | rfl | decide +kernel)
    refine own_aload X698 hx hby at_361 (pc' := 363) rfl rfl rfl ?_
    refine own_callVB X698 hx hZ (own_eqB (W := 0) hZ hwE (hw _ (List.mem_of_getElem? (i := 34) rfl)) (F698) (((T_1.keep K697 all0).ext E698)) (S_S.ext (((O_0.keep K697 all0).ext E698)).2) hS (by decide) (by decide)) hown (hw _ (List.mem_of_getElem? (i := 40) rfl)) (hw _ (List.mem_of_getElem? (i := 28) rfl)) (hw _ (List.mem_of_getElem? (i := 30) rfl)) (hw _ (List.mem_of_getElem? (i := 29) rfl)) (by decide) (F698).exa (by rw [hml]; rfl) (argsL := [(.ref a10)]) (rest := []) rfl (lenOf own_pd2 rfl) rfl (Nat.le_of_eq rfl) (hb hby at_363) e698 (by decide) (by decide) ?_
    intro v699 T699 L699 X699 hQ699
    obtain ⟨hq699, hL699, e699⟩ := hQ699
    subst hL699
    have hv699 : v699 = some (.int (1 : Int32)) := by
      rcases hq699 with ⟨a, q⟩ | ⟨a, q⟩
      · exact a
      · exact absurd hcs.symm q
    subst hv699
    have N699 := Fr.app N697 (Fr.nil n0)
    show own_Go p.tables e below (T699.setTop (mkF m 366 #[.val (.int p1), .val (.int p2), .val (.int p3), .val (.long p4), .second, .val (.long p5), .second, .val (.int q7), .val (.ref a8), .val (.int q9), .val (.ref a10), .val (.ref r0), .unset] [(.int (1 : Int32))])) _
    refine own_istore X699 hx hby at_366 (pc' := 368) rfl (Ls' := #[.val (.int p1), .val (.int p2), .val (.int p3), .val (.long p4), .second, .val (.long p5), .second, .val (.int q7), .val (.ref a8), .val (.int q9), .val (.ref a10), .val (.ref r0), .val (.int (1 : Int32))]) rfl ?_
    refine own_iload X699 hx hby at_368 (pc' := 370) rfl rfl ?_
    refine own_ifNo X699 hx hby at_370 (pc' := 373) rfl (by decide) ?_
    refine own_aload X699 hx hby at_373 (pc' := 375) rfl rfl rfl ?_
    refine own_getS X699 hx hby at_375 (pc' := 378) rfl hZ hown (host := "") (Or.inl (hw _ (List.mem_of_getElem? (i := 73) rfl))) Via.refl e699 (S_C.ext (((O_0.keep K697 all0).ext E698)).2) ?_
    intro T700 X700 e700
    refine own_acmp X700 hx hby at_378 (pc' := 381) (same := true) rfl rfl (decide_eq_true rfl) (by decide) ?_
    refine own_iconst X700 hx hby at_381 (pc' := 382) rfl (z := (1 : Int32)) (by decide) ?_
    refine own_goto X700 hx hby at_382 (pc' := 386) (by decide) ?_
    exact own_retZW (t := .boolean) X700 hx hEL (W698) e700 hret (by simp) (hb hby at_386) hlk (by decide) (by decide) (by rw [own_nar1]; exact hQ _ _ N699)
  · skip
    refine own_aload X0 hx hby at_352 (pc' := 354) rfl rfl rfl ?_
    refine own_callS X0 hx hZ (rm_brs l Z a0 hw [] a10 aV kV r0 f0 gS cs k1 h0 n0 (O_0) S_V A_V E_V FC hs F_0 T_f S_S hS (T_1)) hown (hw _ (List.mem_of_getElem? (i := 6) rfl)) (hw _ (List.mem_of_getElem? (i := 7) rfl)) (hw _ (List.mem_of_getElem? (i := 8) rfl)) (hw _ (List.mem_of_getElem? (i := 9) rfl)) (by decide) (W := 0) (by decide) (by decide) (by rw [hml]; rfl) (argsL := [(.ref a10)]) (rest := []) rfl (lenOf own_pd4 rfl) rfl (Nat.le_of_eq rfl) (hb hby at_354) e0 (by decide) (by decide) ?_
    intro v701 T701 L701 X701 hQ701
    obtain ⟨hv701, N701q, K701⟩ := hQ701
    rw [show own_fee cs r0 = .null from if_neg hcs] at hv701
    subst hv701
    have N701 := Fr.app N0 N701q
    show own_Go p.tables e below (T701.setTop (mkF m 357 #[.val (.int p1), .val (.int p2), .val (.int p3), .val (.long p4), .second, .val (.long p5), .second, .val (.int q7), .val (.ref a8), .val (.int q9), .val (.ref a10), .unset, .unset] [.null])) _
    refine own_astore X701 hx hby at_357 (pc' := 359) rfl rfl (Ls' := #[.val (.int p1), .val (.int p2), .val (.int p3), .val (.long p4), .second, .val (.long p5), .second, .val (.int q7), .val (.ref a8), .val (.int q9), .val (.ref a10), .val .null, .unset]) rfl ?_
    refine own_ldcS X701 hx hby at_359 (pc' := 361) rfl (hw _ (List.mem_of_getElem? (i := 33) rfl)) wS rfl hEL (by decide) ((W0.keep K701 all0)) (vs := [(.int (67 : Int32)), (.int (79 : Int32)), (.int (77 : Int32)), (.int (77 : Int32)), (.int (73 : Int32)), (.int (84 : Int32)), (.int (77 : Int32)), (.int (69 : Int32)), (.int (78 : Int32)), (.int (84 : Int32)), (.int (95 : Int32)), (.int (70 : Int32)), (.int (69 : Int32)), (.int (69 : Int32))]) (z := (14 : Int32)) ⟨by decide, by rfl⟩ (by decide) (by rfl) (n := 56) (by decide) (by decide) (by decide) (by decide) ?_
    intro T702 h702 a702 b702 k702 vm702 X702 e702 E702 W702 C702 G702 Gc702 Gv702 Gb702 S702
    have hZ := W702.1
    have hown := W702.2.1
    have F702 := own_Str.mk G702 Gc702 Gv702 Gb702 ([67, 79, 77, 77, 73, 84, 77, 69, 78, 84, 95, 70, 69, 69] : List Int32) (by decide) (by decide) rfl (by first | rfl | decide +kernel)
    refine own_aload X702 hx hby at_361 (pc' := 363) rfl rfl rfl ?_
    refine own_callVB X702 hx hZ (own_eqB (W := 0) hZ hwE (hw _ (List.mem_of_getElem? (i := 34) rfl)) (F702) (((T_1.keep K701 all0).ext E702)) (S_S.ext (((O_0.keep K701 all0).ext E702)).2) hS (by decide) (by decide)) hown (hw _ (List.mem_of_getElem? (i := 40) rfl)) (hw _ (List.mem_of_getElem? (i := 28) rfl)) (hw _ (List.mem_of_getElem? (i := 30) rfl)) (hw _ (List.mem_of_getElem? (i := 29) rfl)) (by decide) (F702).exa (by rw [hml]; rfl) (argsL := [(.ref a10)]) (rest := []) rfl (lenOf own_pd2 rfl) rfl (Nat.le_of_eq rfl) (hb hby at_363) e702 (by decide) (by decide) ?_
    intro v703 T703 L703 X703 hQ703
    obtain ⟨hq703, hL703, e703⟩ := hQ703
    subst hL703
    have hv703 : v703 = some (.int (0 : Int32)) := by
      rcases hq703 with ⟨a, q⟩ | ⟨a, q⟩
      · exact absurd q.symm hcs
      · exact a
    subst hv703
    have N703 := Fr.app N701 (Fr.nil n0)
    show own_Go p.tables e below (T703.setTop (mkF m 366 #[.val (.int p1), .val (.int p2), .val (.int p3), .val (.long p4), .second, .val (.long p5), .second, .val (.int q7), .val (.ref a8), .val (.int q9), .val (.ref a10), .val .null, .unset] [(.int (0 : Int32))])) _
    refine own_istore X703 hx hby at_366 (pc' := 368) rfl (Ls' := #[.val (.int p1), .val (.int p2), .val (.int p3), .val (.long p4), .second, .val (.long p5), .second, .val (.int q7), .val (.ref a8), .val (.int q9), .val (.ref a10), .val .null, .val (.int (0 : Int32))]) rfl ?_
    refine own_iload X703 hx hby at_368 (pc' := 370) rfl rfl ?_
    refine own_ifYes X703 hx hby at_370 (pc' := 387) (by decide) (by decide) ?_
    refine own_aload X703 hx hby at_387 (pc' := 389) rfl rfl rfl ?_
    refine own_ifnonnullNo X703 hx hby at_389 (pc' := 392) rfl ?_
    refine own_iconst X703 hx hby at_392 (pc' := 393) rfl (z := (1 : Int32)) (by decide) ?_
    refine own_goto X703 hx hby at_393 (pc' := 397) (by decide) ?_
    exact own_retZW (t := .boolean) X703 hx hEL (W702) e703 hret (by simp) (hb hby at_397) hlk (by decide) (by decide) (by rw [own_nar1]; exact hQ _ _ N703)
theorem own_c16 {q : Int32} (h1 : ¬ q < 0) (h2 : ¬ (15 : Int32) < q) : q = 0 ∨ q = 1 ∨ q = 2 ∨ q = 3 ∨ q = 4 ∨ q = 5 ∨ q = 6 ∨ q = 7 ∨ q = 8 ∨ q = 9 ∨ q = 10 ∨ q = 11 ∨ q = 12 ∨ q = 13 ∨ q = 14 ∨ q = 15 := by
  have e0 : (0 : Int32).toInt = 0 := by decide
  have e15 : (15 : Int32).toInt = 15 := by decide
  rw [Int32.lt_iff_toInt_lt] at h1 h2
  simp only [← Int32.toInt_inj]
  have : (1 : Int32).toInt = 1 := by decide
  have : (2 : Int32).toInt = 2 := by decide
  have : (3 : Int32).toInt = 3 := by decide
  have : (4 : Int32).toInt = 4 := by decide
  have : (5 : Int32).toInt = 5 := by decide
  have : (6 : Int32).toInt = 6 := by decide
  have : (7 : Int32).toInt = 7 := by decide
  have : (8 : Int32).toInt = 8 := by decide
  have : (9 : Int32).toInt = 9 := by decide
  have : (10 : Int32).toInt = 10 := by decide
  have : (11 : Int32).toInt = 11 := by decide
  have : (12 : Int32).toInt = 12 := by decide
  have : (13 : Int32).toInt = 13 := by decide
  have : (14 : Int32).toInt = 14 := by decide
  omega
theorem own_n15 (x : Int32) : ¬ (x &&& (15 : Int32)) < 0 ∧ ¬ (15 : Int32) < (x &&& (15 : Int32)) := by
  have h := c_and x 15 (by decide)
  have e2 : (15 : Int32).toInt = 15 := by decide
  have e0 : (0 : Int32).toInt = 0 := by decide
  rw [Int32.lt_iff_toInt_lt, Int32.lt_iff_toInt_lt]
  omega
theorem own_pd5 : parseMethodDescriptor "([CI)Ljava/lang/String;" = some ⟨[(.array .char), .int], some (.object "java/lang/String")⟩ := by decide +kernel
set_option maxRecDepth 65536 in
set_option maxHeartbeats 40000000 in
theorem tl_j {p : Program} {l : Launch} {e : Env} {s : State} {m : MethodId} {args : Array Value} {below : List Frame} {meth : Method} {c : Code} {T0 : State} {locs : List Loc} {Z : State} {a0 : Array Value} {h0 : Heap} {n0 : Nat} {vm0 : Vm} {Q : Option Value → Heap → List Loc → Prop} (hx : p.tables.exec = Jvm.exec) (hw : ∀ d ∈ tables_1, d.before a0 Z = true) (hEL : EW Z a0 own_EL) (hby : c.code = code) (hml : c.maxLocals = maxLocals) (hret : meth.sig.returnType = ret) (hlk : meth.locks = false) (W0 : own_Wd Z own_EL s vm0 m x.cls h0) (X0 : Stand p l e room_1 (s.setVm vm0) m args below meth c T0 locs 2 16) (e0 : T0.heap = h0) (N0 : Fr n0 locs) (hQ : ∀ h L, Fr n0 L → Q (some (.int 1)) h L) (p1 : Int32) (p2 : Int32) (p3 : Int32) (p4 : Int64) (p5 : Int64) (q7 : Int32) (a8 : Addr) (q9 : Int32) (aV : Addr) (kV : Cell) (r0 : Addr) (f0 : Addr) (gS : Int32) (O_0 : Old Z n0 h0) (S_V : Sta Z Z.heap "com/example/tranchebook/tranchebook/model/Fee" "$VALUES" "[Lcom/example/tranchebook/tranchebook/model/Fee;" (.ref aV)) (A_V : Arr Z Z.heap aV kV (.object "com/example/tranchebook/tranchebook/model/Fee")) (E_V : Exa Z Z.heap aV "[Lcom/example/tranchebook/tranchebook/model/Fee;") (FC : FitC Z kV) (hs : kV.slots.toList = [.ref r0]) (F_0 : Fld Z Z.heap r0 "com/example/tranchebook/tranchebook/model/Fee" "rateName" "Ljava/lang/String;" (.ref f0)) (T_f : own_Str Z Z.heap Z.heap.size f0 own_CF) (S_C : Sta Z Z.heap "com/example/tranchebook/tranchebook/model/Fee" "COMMITMENT" "Lcom/example/tranchebook/tranchebook/model/Fee;" (.ref r0)) (S_S : Sta Z Z.heap "java/lang/String" "COMPACT_STRINGS" "Z" (.int gS)) (hS : ¬ gS = 0) (C_8 : own_Ch Z h0 a8 16) (hn1 : ¬ q9 < 0) (hn2 : ¬ (15 : Int32) < q9) :
    own_Go p.tables e below (T0.setTop (mkF m 335 #[.val (.int p1), .val (.int p2), .val (.int p3), .val (.long p4), .second, .val (.long p5), .second, .val (.int q7), .val (.ref a8), .val (.int q9), .unset, .unset, .unset] [])) (own_RH Z own_EL s Q room_1.cells room_1.slots) := by
  have hZ := W0.1
  have hown := W0.2.1
  have Z0 := own_Z0 O_0
  have hws : ∀ d ∈ StrChars.Road.words, d.before a0 Z = true := fun d hd => hw d ((by decide +kernel : ∀ d ∈ StrChars.Road.words, d ∈ tables_1) d hd)
  have hwE : ∀ d ∈ StrChars.Road.wordsEq, d.before a0 Z = true := fun d hd => hw d ((by decide +kernel : ∀ d ∈ StrChars.Road.wordsEq, d ∈ tables_1) d hd)
  have wS : ∀ d ∈ Bundle.stringAtoms, d.before a0 Z = true := fun d hd => hw d ((by decide +kernel : ∀ d ∈ Bundle.stringAtoms, d ∈ tables_1) d hd)
  refine own_aconst_null X0 hx hby at_335 (pc' := 336) rfl ?_
  refine own_astore X0 hx hby at_336 (pc' := 338) rfl rfl (Ls' := #[.val (.int p1), .val (.int p2), .val (.int p3), .val (.long p4), .second, .val (.long p5), .second, .val (.int q7), .val (.ref a8), .val (.int q9), .val .null, .unset, .unset]) rfl ?_
  refine own_iload X0 hx hby at_338 (pc' := 340) rfl rfl ?_
  by_cases hc340 : q7 = (0 : Int32)
  · skip
    refine own_ifYes X0 hx hby at_340 (pc' := 352) (by decide) (teq hc340).1 ?_
    refine own_aload X0 hx hby at_352 (pc' := 354) rfl rfl rfl ?_
    refine own_callS X0 hx hZ (rm_brn l Z a0 hw [] aV kV r0 f0 h0 n0 (O_0) S_V A_V E_V FC hs F_0 T_f) hown (hw _ (List.mem_of_getElem? (i := 6) rfl)) (hw _ (List.mem_of_getElem? (i := 7) rfl)) (hw _ (List.mem_of_getElem? (i := 8) rfl)) (hw _ (List.mem_of_getElem? (i := 9) rfl)) (by decide) (W := 0) (by decide) (by decide) (by rw [hml]; rfl) (argsL := [.null]) (rest := []) rfl (lenOf own_pd4 rfl) rfl (Nat.le_of_eq rfl) (hb hby at_354) e0 (by decide) (by decide) ?_
    intro v704 T704 L704 X704 hQ704
    obtain ⟨hv704, N704q, K704⟩ := hQ704
    subst hv704
    have N704 := Fr.app N0 N704q
    show own_Go p.tables e below (T704.setTop (mkF m 357 #[.val (.int p1), .val (.int p2), .val (.int p3), .val (.long p4), .second, .val (.long p5), .second, .val (.int q7), .val (.ref a8), .val (.int q9), .val .null, .unset, .unset] [.null])) _
    refine own_astore X704 hx hby at_357 (pc' := 359) rfl rfl (Ls' := #[.val (.int p1), .val (.int p2), .val (.int p3), .val (.long p4), .second, .val (.long p5), .second, .val (.int q7), .val (.ref a8), .val (.int q9), .val .null, .val .null, .unset]) rfl ?_
    refine own_ldcS X704 hx hby at_359 (pc' := 361) rfl (hw _ (List.mem_of_getElem? (i := 33) rfl)) wS rfl hEL (by decide) ((W0.keep K704 all0)) (vs := [(.int (67 : Int32)), (.int (79 : Int32)), (.int (77 : Int32)), (.int (77 : Int32)), (.int (73 : Int32)), (.int (84 : Int32)), (.int (77 : Int32)), (.int (69 : Int32)), (.int (78 : Int32)), (.int (84 : Int32)), (.int (95 : Int32)), (.int (70 : Int32)), (.int (69 : Int32)), (.int (69 : Int32))]) (z := (14 : Int32)) ⟨by decide, by rfl⟩ (by decide) (by rfl) (n := 56) (by decide) (by decide) (by decide) (by decide) ?_
    intro T705 h705 a705 b705 k705 vm705 X705 e705 E705 W705 C705 G705 Gc705 Gv705 Gb705 S705
    have hZ := W705.1
    have hown := W705.2.1
    have F705 := own_Str.mk G705 Gc705 Gv705 Gb705 ([67, 79, 77, 77, 73, 84, 77, 69, 78, 84, 95, 70, 69, 69] : List Int32) (by decide) (by decide) rfl (by first | rfl | decide +kernel)
    refine own_aload X705 hx hby at_361 (pc' := 363) rfl rfl rfl ?_
    refine own_callV X705 hx hZ (rm_eqn l Z a0 hw [] a705 h705 n0) hown (hw _ (List.mem_of_getElem? (i := 40) rfl)) (hw _ (List.mem_of_getElem? (i := 28) rfl)) (hw _ (List.mem_of_getElem? (i := 30) rfl)) (hw _ (List.mem_of_getElem? (i := 29) rfl)) (hw _ (List.mem_of_getElem? (i := 32) rfl)) (hw _ (List.mem_of_getElem? (i := 31) rfl)) (by decide) (F705).exa (W := 0) (by decide) (by decide) (by rw [hml]; rfl) (argsL := [.null]) (rest := []) rfl (lenOf own_pd2 rfl) rfl (Nat.le_of_eq rfl) (hb hby at_363) e705 (by decide) (by decide) ?_
    intro v706 T706 L706 X706 hQ706
    obtain ⟨hv706, N706q, e706⟩ := hQ706
    subst hv706
    have N706 := Fr.app N704 N706q
    show own_Go p.tables e below (T706.setTop (mkF m 366 #[.val (.int p1), .val (.int p2), .val (.int p3), .val (.long p4), .second, .val (.long p5), .second, .val (.int q7), .val (.ref a8), .val (.int q9), .val .null, .val .null, .unset] [(.int (0 : Int32))])) _
    refine own_istore X706 hx hby at_366 (pc' := 368) rfl (Ls' := #[.val (.int p1), .val (.int p2), .val (.int p3), .val (.long p4), .second, .val (.long p5), .second, .val (.int q7), .val (.ref a8), .val (.int q9), .val .null, .val .null, .val (.int (0 : Int32))]) rfl ?_
    refine own_iload X706 hx hby at_368 (pc' := 370) rfl rfl ?_
    refine own_ifYes X706 hx hby at_370 (pc' := 387) (by decide) (by decide) ?_
    refine own_aload X706 hx hby at_387 (pc' := 389) rfl rfl rfl ?_
    refine own_ifnonnullNo X706 hx hby at_389 (pc' := 392) rfl ?_
    refine own_iconst X706 hx hby at_392 (pc' := 393) rfl (z := (1 : Int32)) (by decide) ?_
    refine own_goto X706 hx hby at_393 (pc' := 397) (by decide) ?_
    exact own_retZW (t := .boolean) X706 hx hEL (W705) e706 hret (by simp) (hb hby at_397) hlk (by decide) (by decide) (by rw [own_nar1]; exact hQ _ _ N706)
  · skip
    refine own_ifNo X0 hx hby at_340 (pc' := 343) rfl (feq hc340).1 ?_
    refine own_aload X0 hx hby at_343 (pc' := 345) rfl rfl rfl ?_
    refine own_iload X0 hx hby at_345 (pc' := 347) rfl rfl ?_
    rcases own_c16 hn1 hn2 with rfl | rfl | rfl | rfl | rfl | rfl | rfl | rfl | rfl | rfl | rfl | rfl | rfl | rfl | rfl | rfl
    · skip
      refine own_callSW X0 hx hEL (W0) (rm_px0 l Z a0 hw [] a8 gS h0 n0 hEL (O_0) S_S hS (C_8)) (hw _ (List.mem_of_getElem? (i := 41) rfl)) (hw _ (List.mem_of_getElem? (i := 42) rfl)) (hw _ (List.mem_of_getElem? (i := 3) rfl)) (hw _ (List.mem_of_getElem? (i := 43) rfl)) (by decide) (W := 0) (by decide) (by decide) (by rw [hml]; rfl) (argsL := [(.ref a8), (.int (0 : Int32))]) (rest := []) rfl (lenOf own_pd5 rfl) rfl (Nat.le_of_eq rfl) (hb hby at_347) e0 (by decide) (by decide) ?_
      intro v707 T707 L707 vm707 X707 hQ707 W707 C707
      obtain ⟨x707, cs707, hv707, N707q, K707, F707⟩ := hQ707
      subst hv707
      have N707 := Fr.app N0 N707q
      have hZ := W707.1
      have hown := W707.2.1
      show own_Go p.tables e below (T707.setTop (mkF m 350 #[.val (.int p1), .val (.int p2), .val (.int p3), .val (.long p4), .second, .val (.long p5), .second, .val (.int q7), .val (.ref a8), .val (.int (0 : Int32)), .val .null, .unset, .unset] [(.ref x707)])) _
      refine own_astore X707 hx hby at_350 (pc' := 352) rfl rfl (Ls' := #[.val (.int p1), .val (.int p2), .val (.int p3), .val (.long p4), .second, .val (.long p5), .second, .val (.int q7), .val (.ref a8), .val (.int (0 : Int32)), .val (.ref x707), .unset, .unset]) rfl ?_
      exact tl_s hx hw hEL hby hml hret hlk (W707) (own_more X707 (by decide) (by decide)) rfl N707 hQ p1 p2 p3 p4 p5 q7 a8 (0 : Int32) x707 cs707 _ aV kV r0 f0 gS ((O_0.keep K707 all0)) S_V A_V E_V FC hs F_0 T_f S_C S_S hS (F707)
    · skip
      refine own_callSW X0 hx hEL (W0) (rm_px1 l Z a0 hw [] a8 gS h0 n0 hEL (O_0) S_S hS (C_8)) (hw _ (List.mem_of_getElem? (i := 41) rfl)) (hw _ (List.mem_of_getElem? (i := 42) rfl)) (hw _ (List.mem_of_getElem? (i := 3) rfl)) (hw _ (List.mem_of_getElem? (i := 43) rfl)) (by decide) (W := 0) (by decide) (by decide) (by rw [hml]; rfl) (argsL := [(.ref a8), (.int (1 : Int32))]) (rest := []) rfl (lenOf own_pd5 rfl) rfl (Nat.le_of_eq rfl) (hb hby at_347) e0 (by decide) (by decide) ?_
      intro v708 T708 L708 vm708 X708 hQ708 W708 C708
      obtain ⟨x708, cs708, hv708, N708q, K708, F708⟩ := hQ708
      subst hv708
      have N708 := Fr.app N0 N708q
      have hZ := W708.1
      have hown := W708.2.1
      show own_Go p.tables e below (T708.setTop (mkF m 350 #[.val (.int p1), .val (.int p2), .val (.int p3), .val (.long p4), .second, .val (.long p5), .second, .val (.int q7), .val (.ref a8), .val (.int (1 : Int32)), .val .null, .unset, .unset] [(.ref x708)])) _
      refine own_astore X708 hx hby at_350 (pc' := 352) rfl rfl (Ls' := #[.val (.int p1), .val (.int p2), .val (.int p3), .val (.long p4), .second, .val (.long p5), .second, .val (.int q7), .val (.ref a8), .val (.int (1 : Int32)), .val (.ref x708), .unset, .unset]) rfl ?_
      exact tl_s hx hw hEL hby hml hret hlk (W708) (own_more X708 (by decide) (by decide)) rfl N708 hQ p1 p2 p3 p4 p5 q7 a8 (1 : Int32) x708 cs708 _ aV kV r0 f0 gS ((O_0.keep K708 all0)) S_V A_V E_V FC hs F_0 T_f S_C S_S hS (F708)
    · skip
      refine own_callSW X0 hx hEL (W0) (rm_px2 l Z a0 hw [] a8 gS h0 n0 hEL (O_0) S_S hS (C_8)) (hw _ (List.mem_of_getElem? (i := 41) rfl)) (hw _ (List.mem_of_getElem? (i := 42) rfl)) (hw _ (List.mem_of_getElem? (i := 3) rfl)) (hw _ (List.mem_of_getElem? (i := 43) rfl)) (by decide) (W := 0) (by decide) (by decide) (by rw [hml]; rfl) (argsL := [(.ref a8), (.int (2 : Int32))]) (rest := []) rfl (lenOf own_pd5 rfl) rfl (Nat.le_of_eq rfl) (hb hby at_347) e0 (by decide) (by decide) ?_
      intro v709 T709 L709 vm709 X709 hQ709 W709 C709
      obtain ⟨x709, cs709, hv709, N709q, K709, F709⟩ := hQ709
      subst hv709
      have N709 := Fr.app N0 N709q
      have hZ := W709.1
      have hown := W709.2.1
      show own_Go p.tables e below (T709.setTop (mkF m 350 #[.val (.int p1), .val (.int p2), .val (.int p3), .val (.long p4), .second, .val (.long p5), .second, .val (.int q7), .val (.ref a8), .val (.int (2 : Int32)), .val .null, .unset, .unset] [(.ref x709)])) _
      refine own_astore X709 hx hby at_350 (pc' := 352) rfl rfl (Ls' := #[.val (.int p1), .val (.int p2), .val (.int p3), .val (.long p4), .second, .val (.long p5), .second, .val (.int q7), .val (.ref a8), .val (.int (2 : Int32)), .val (.ref x709), .unset, .unset]) rfl ?_
      exact tl_s hx hw hEL hby hml hret hlk (W709) (own_more X709 (by decide) (by decide)) rfl N709 hQ p1 p2 p3 p4 p5 q7 a8 (2 : Int32) x709 cs709 _ aV kV r0 f0 gS ((O_0.keep K709 all0)) S_V A_V E_V FC hs F_0 T_f S_C S_S hS (F709)
    · skip
      refine own_callSW X0 hx hEL (W0) (rm_px3 l Z a0 hw [] a8 gS h0 n0 hEL (O_0) S_S hS (C_8)) (hw _ (List.mem_of_getElem? (i := 41) rfl)) (hw _ (List.mem_of_getElem? (i := 42) rfl)) (hw _ (List.mem_of_getElem? (i := 3) rfl)) (hw _ (List.mem_of_getElem? (i := 43) rfl)) (by decide) (W := 0) (by decide) (by decide) (by rw [hml]; rfl) (argsL := [(.ref a8), (.int (3 : Int32))]) (rest := []) rfl (lenOf own_pd5 rfl) rfl (Nat.le_of_eq rfl) (hb hby at_347) e0 (by decide) (by decide) ?_
      intro v710 T710 L710 vm710 X710 hQ710 W710 C710
      obtain ⟨x710, cs710, hv710, N710q, K710, F710⟩ := hQ710
      subst hv710
      have N710 := Fr.app N0 N710q
      have hZ := W710.1
      have hown := W710.2.1
      show own_Go p.tables e below (T710.setTop (mkF m 350 #[.val (.int p1), .val (.int p2), .val (.int p3), .val (.long p4), .second, .val (.long p5), .second, .val (.int q7), .val (.ref a8), .val (.int (3 : Int32)), .val .null, .unset, .unset] [(.ref x710)])) _
      refine own_astore X710 hx hby at_350 (pc' := 352) rfl rfl (Ls' := #[.val (.int p1), .val (.int p2), .val (.int p3), .val (.long p4), .second, .val (.long p5), .second, .val (.int q7), .val (.ref a8), .val (.int (3 : Int32)), .val (.ref x710), .unset, .unset]) rfl ?_
      exact tl_s hx hw hEL hby hml hret hlk (W710) (own_more X710 (by decide) (by decide)) rfl N710 hQ p1 p2 p3 p4 p5 q7 a8 (3 : Int32) x710 cs710 _ aV kV r0 f0 gS ((O_0.keep K710 all0)) S_V A_V E_V FC hs F_0 T_f S_C S_S hS (F710)
    · skip
      refine own_callSW X0 hx hEL (W0) (rm_px4 l Z a0 hw [] a8 gS h0 n0 hEL (O_0) S_S hS (C_8)) (hw _ (List.mem_of_getElem? (i := 41) rfl)) (hw _ (List.mem_of_getElem? (i := 42) rfl)) (hw _ (List.mem_of_getElem? (i := 3) rfl)) (hw _ (List.mem_of_getElem? (i := 43) rfl)) (by decide) (W := 0) (by decide) (by decide) (by rw [hml]; rfl) (argsL := [(.ref a8), (.int (4 : Int32))]) (rest := []) rfl (lenOf own_pd5 rfl) rfl (Nat.le_of_eq rfl) (hb hby at_347) e0 (by decide) (by decide) ?_
      intro v711 T711 L711 vm711 X711 hQ711 W711 C711
      obtain ⟨x711, cs711, hv711, N711q, K711, F711⟩ := hQ711
      subst hv711
      have N711 := Fr.app N0 N711q
      have hZ := W711.1
      have hown := W711.2.1
      show own_Go p.tables e below (T711.setTop (mkF m 350 #[.val (.int p1), .val (.int p2), .val (.int p3), .val (.long p4), .second, .val (.long p5), .second, .val (.int q7), .val (.ref a8), .val (.int (4 : Int32)), .val .null, .unset, .unset] [(.ref x711)])) _
      refine own_astore X711 hx hby at_350 (pc' := 352) rfl rfl (Ls' := #[.val (.int p1), .val (.int p2), .val (.int p3), .val (.long p4), .second, .val (.long p5), .second, .val (.int q7), .val (.ref a8), .val (.int (4 : Int32)), .val (.ref x711), .unset, .unset]) rfl ?_
      exact tl_s hx hw hEL hby hml hret hlk (W711) (own_more X711 (by decide) (by decide)) rfl N711 hQ p1 p2 p3 p4 p5 q7 a8 (4 : Int32) x711 cs711 _ aV kV r0 f0 gS ((O_0.keep K711 all0)) S_V A_V E_V FC hs F_0 T_f S_C S_S hS (F711)
    · skip
      refine own_callSW X0 hx hEL (W0) (rm_px5 l Z a0 hw [] a8 gS h0 n0 hEL (O_0) S_S hS (C_8)) (hw _ (List.mem_of_getElem? (i := 41) rfl)) (hw _ (List.mem_of_getElem? (i := 42) rfl)) (hw _ (List.mem_of_getElem? (i := 3) rfl)) (hw _ (List.mem_of_getElem? (i := 43) rfl)) (by decide) (W := 0) (by decide) (by decide) (by rw [hml]; rfl) (argsL := [(.ref a8), (.int (5 : Int32))]) (rest := []) rfl (lenOf own_pd5 rfl) rfl (Nat.le_of_eq rfl) (hb hby at_347) e0 (by decide) (by decide) ?_
      intro v712 T712 L712 vm712 X712 hQ712 W712 C712
      obtain ⟨x712, cs712, hv712, N712q, K712, F712⟩ := hQ712
      subst hv712
      have N712 := Fr.app N0 N712q
      have hZ := W712.1
      have hown := W712.2.1
      show own_Go p.tables e below (T712.setTop (mkF m 350 #[.val (.int p1), .val (.int p2), .val (.int p3), .val (.long p4), .second, .val (.long p5), .second, .val (.int q7), .val (.ref a8), .val (.int (5 : Int32)), .val .null, .unset, .unset] [(.ref x712)])) _
      refine own_astore X712 hx hby at_350 (pc' := 352) rfl rfl (Ls' := #[.val (.int p1), .val (.int p2), .val (.int p3), .val (.long p4), .second, .val (.long p5), .second, .val (.int q7), .val (.ref a8), .val (.int (5 : Int32)), .val (.ref x712), .unset, .unset]) rfl ?_
      exact tl_s hx hw hEL hby hml hret hlk (W712) (own_more X712 (by decide) (by decide)) rfl N712 hQ p1 p2 p3 p4 p5 q7 a8 (5 : Int32) x712 cs712 _ aV kV r0 f0 gS ((O_0.keep K712 all0)) S_V A_V E_V FC hs F_0 T_f S_C S_S hS (F712)
    · skip
      refine own_callSW X0 hx hEL (W0) (rm_px6 l Z a0 hw [] a8 gS h0 n0 hEL (O_0) S_S hS (C_8)) (hw _ (List.mem_of_getElem? (i := 41) rfl)) (hw _ (List.mem_of_getElem? (i := 42) rfl)) (hw _ (List.mem_of_getElem? (i := 3) rfl)) (hw _ (List.mem_of_getElem? (i := 43) rfl)) (by decide) (W := 0) (by decide) (by decide) (by rw [hml]; rfl) (argsL := [(.ref a8), (.int (6 : Int32))]) (rest := []) rfl (lenOf own_pd5 rfl) rfl (Nat.le_of_eq rfl) (hb hby at_347) e0 (by decide) (by decide) ?_
      intro v713 T713 L713 vm713 X713 hQ713 W713 C713
      obtain ⟨x713, cs713, hv713, N713q, K713, F713⟩ := hQ713
      subst hv713
      have N713 := Fr.app N0 N713q
      have hZ := W713.1
      have hown := W713.2.1
      show own_Go p.tables e below (T713.setTop (mkF m 350 #[.val (.int p1), .val (.int p2), .val (.int p3), .val (.long p4), .second, .val (.long p5), .second, .val (.int q7), .val (.ref a8), .val (.int (6 : Int32)), .val .null, .unset, .unset] [(.ref x713)])) _
      refine own_astore X713 hx hby at_350 (pc' := 352) rfl rfl (Ls' := #[.val (.int p1), .val (.int p2), .val (.int p3), .val (.long p4), .second, .val (.long p5), .second, .val (.int q7), .val (.ref a8), .val (.int (6 : Int32)), .val (.ref x713), .unset, .unset]) rfl ?_
      exact tl_s hx hw hEL hby hml hret hlk (W713) (own_more X713 (by decide) (by decide)) rfl N713 hQ p1 p2 p3 p4 p5 q7 a8 (6 : Int32) x713 cs713 _ aV kV r0 f0 gS ((O_0.keep K713 all0)) S_V A_V E_V FC hs F_0 T_f S_C S_S hS (F713)
    · skip
      refine own_callSW X0 hx hEL (W0) (rm_px7 l Z a0 hw [] a8 gS h0 n0 hEL (O_0) S_S hS (C_8)) (hw _ (List.mem_of_getElem? (i := 41) rfl)) (hw _ (List.mem_of_getElem? (i := 42) rfl)) (hw _ (List.mem_of_getElem? (i := 3) rfl)) (hw _ (List.mem_of_getElem? (i := 43) rfl)) (by decide) (W := 0) (by decide) (by decide) (by rw [hml]; rfl) (argsL := [(.ref a8), (.int (7 : Int32))]) (rest := []) rfl (lenOf own_pd5 rfl) rfl (Nat.le_of_eq rfl) (hb hby at_347) e0 (by decide) (by decide) ?_
      intro v714 T714 L714 vm714 X714 hQ714 W714 C714
      obtain ⟨x714, cs714, hv714, N714q, K714, F714⟩ := hQ714
      subst hv714
      have N714 := Fr.app N0 N714q
      have hZ := W714.1
      have hown := W714.2.1
      show own_Go p.tables e below (T714.setTop (mkF m 350 #[.val (.int p1), .val (.int p2), .val (.int p3), .val (.long p4), .second, .val (.long p5), .second, .val (.int q7), .val (.ref a8), .val (.int (7 : Int32)), .val .null, .unset, .unset] [(.ref x714)])) _
      refine own_astore X714 hx hby at_350 (pc' := 352) rfl rfl (Ls' := #[.val (.int p1), .val (.int p2), .val (.int p3), .val (.long p4), .second, .val (.long p5), .second, .val (.int q7), .val (.ref a8), .val (.int (7 : Int32)), .val (.ref x714), .unset, .unset]) rfl ?_
      exact tl_s hx hw hEL hby hml hret hlk (W714) (own_more X714 (by decide) (by decide)) rfl N714 hQ p1 p2 p3 p4 p5 q7 a8 (7 : Int32) x714 cs714 _ aV kV r0 f0 gS ((O_0.keep K714 all0)) S_V A_V E_V FC hs F_0 T_f S_C S_S hS (F714)
    · skip
      refine own_callSW X0 hx hEL (W0) (rm_px8 l Z a0 hw [] a8 gS h0 n0 hEL (O_0) S_S hS (C_8)) (hw _ (List.mem_of_getElem? (i := 41) rfl)) (hw _ (List.mem_of_getElem? (i := 42) rfl)) (hw _ (List.mem_of_getElem? (i := 3) rfl)) (hw _ (List.mem_of_getElem? (i := 43) rfl)) (by decide) (W := 0) (by decide) (by decide) (by rw [hml]; rfl) (argsL := [(.ref a8), (.int (8 : Int32))]) (rest := []) rfl (lenOf own_pd5 rfl) rfl (Nat.le_of_eq rfl) (hb hby at_347) e0 (by decide) (by decide) ?_
      intro v715 T715 L715 vm715 X715 hQ715 W715 C715
      obtain ⟨x715, cs715, hv715, N715q, K715, F715⟩ := hQ715
      subst hv715
      have N715 := Fr.app N0 N715q
      have hZ := W715.1
      have hown := W715.2.1
      show own_Go p.tables e below (T715.setTop (mkF m 350 #[.val (.int p1), .val (.int p2), .val (.int p3), .val (.long p4), .second, .val (.long p5), .second, .val (.int q7), .val (.ref a8), .val (.int (8 : Int32)), .val .null, .unset, .unset] [(.ref x715)])) _
      refine own_astore X715 hx hby at_350 (pc' := 352) rfl rfl (Ls' := #[.val (.int p1), .val (.int p2), .val (.int p3), .val (.long p4), .second, .val (.long p5), .second, .val (.int q7), .val (.ref a8), .val (.int (8 : Int32)), .val (.ref x715), .unset, .unset]) rfl ?_
      exact tl_s hx hw hEL hby hml hret hlk (W715) (own_more X715 (by decide) (by decide)) rfl N715 hQ p1 p2 p3 p4 p5 q7 a8 (8 : Int32) x715 cs715 _ aV kV r0 f0 gS ((O_0.keep K715 all0)) S_V A_V E_V FC hs F_0 T_f S_C S_S hS (F715)
    · skip
      refine own_callSW X0 hx hEL (W0) (rm_px9 l Z a0 hw [] a8 gS h0 n0 hEL (O_0) S_S hS (C_8)) (hw _ (List.mem_of_getElem? (i := 41) rfl)) (hw _ (List.mem_of_getElem? (i := 42) rfl)) (hw _ (List.mem_of_getElem? (i := 3) rfl)) (hw _ (List.mem_of_getElem? (i := 43) rfl)) (by decide) (W := 0) (by decide) (by decide) (by rw [hml]; rfl) (argsL := [(.ref a8), (.int (9 : Int32))]) (rest := []) rfl (lenOf own_pd5 rfl) rfl (Nat.le_of_eq rfl) (hb hby at_347) e0 (by decide) (by decide) ?_
      intro v716 T716 L716 vm716 X716 hQ716 W716 C716
      obtain ⟨x716, cs716, hv716, N716q, K716, F716⟩ := hQ716
      subst hv716
      have N716 := Fr.app N0 N716q
      have hZ := W716.1
      have hown := W716.2.1
      show own_Go p.tables e below (T716.setTop (mkF m 350 #[.val (.int p1), .val (.int p2), .val (.int p3), .val (.long p4), .second, .val (.long p5), .second, .val (.int q7), .val (.ref a8), .val (.int (9 : Int32)), .val .null, .unset, .unset] [(.ref x716)])) _
      refine own_astore X716 hx hby at_350 (pc' := 352) rfl rfl (Ls' := #[.val (.int p1), .val (.int p2), .val (.int p3), .val (.long p4), .second, .val (.long p5), .second, .val (.int q7), .val (.ref a8), .val (.int (9 : Int32)), .val (.ref x716), .unset, .unset]) rfl ?_
      exact tl_s hx hw hEL hby hml hret hlk (W716) (own_more X716 (by decide) (by decide)) rfl N716 hQ p1 p2 p3 p4 p5 q7 a8 (9 : Int32) x716 cs716 _ aV kV r0 f0 gS ((O_0.keep K716 all0)) S_V A_V E_V FC hs F_0 T_f S_C S_S hS (F716)
    · skip
      refine own_callSW X0 hx hEL (W0) (rm_px10 l Z a0 hw [] a8 gS h0 n0 hEL (O_0) S_S hS (C_8)) (hw _ (List.mem_of_getElem? (i := 41) rfl)) (hw _ (List.mem_of_getElem? (i := 42) rfl)) (hw _ (List.mem_of_getElem? (i := 3) rfl)) (hw _ (List.mem_of_getElem? (i := 43) rfl)) (by decide) (W := 0) (by decide) (by decide) (by rw [hml]; rfl) (argsL := [(.ref a8), (.int (10 : Int32))]) (rest := []) rfl (lenOf own_pd5 rfl) rfl (Nat.le_of_eq rfl) (hb hby at_347) e0 (by decide) (by decide) ?_
      intro v717 T717 L717 vm717 X717 hQ717 W717 C717
      obtain ⟨x717, cs717, hv717, N717q, K717, F717⟩ := hQ717
      subst hv717
      have N717 := Fr.app N0 N717q
      have hZ := W717.1
      have hown := W717.2.1
      show own_Go p.tables e below (T717.setTop (mkF m 350 #[.val (.int p1), .val (.int p2), .val (.int p3), .val (.long p4), .second, .val (.long p5), .second, .val (.int q7), .val (.ref a8), .val (.int (10 : Int32)), .val .null, .unset, .unset] [(.ref x717)])) _
      refine own_astore X717 hx hby at_350 (pc' := 352) rfl rfl (Ls' := #[.val (.int p1), .val (.int p2), .val (.int p3), .val (.long p4), .second, .val (.long p5), .second, .val (.int q7), .val (.ref a8), .val (.int (10 : Int32)), .val (.ref x717), .unset, .unset]) rfl ?_
      exact tl_s hx hw hEL hby hml hret hlk (W717) (own_more X717 (by decide) (by decide)) rfl N717 hQ p1 p2 p3 p4 p5 q7 a8 (10 : Int32) x717 cs717 _ aV kV r0 f0 gS ((O_0.keep K717 all0)) S_V A_V E_V FC hs F_0 T_f S_C S_S hS (F717)
    · skip
      refine own_callSW X0 hx hEL (W0) (rm_px11 l Z a0 hw [] a8 gS h0 n0 hEL (O_0) S_S hS (C_8)) (hw _ (List.mem_of_getElem? (i := 41) rfl)) (hw _ (List.mem_of_getElem? (i := 42) rfl)) (hw _ (List.mem_of_getElem? (i := 3) rfl)) (hw _ (List.mem_of_getElem? (i := 43) rfl)) (by decide) (W := 0) (by decide) (by decide) (by rw [hml]; rfl) (argsL := [(.ref a8), (.int (11 : Int32))]) (rest := []) rfl (lenOf own_pd5 rfl) rfl (Nat.le_of_eq rfl) (hb hby at_347) e0 (by decide) (by decide) ?_
      intro v718 T718 L718 vm718 X718 hQ718 W718 C718
      obtain ⟨x718, cs718, hv718, N718q, K718, F718⟩ := hQ718
      subst hv718
      have N718 := Fr.app N0 N718q
      have hZ := W718.1
      have hown := W718.2.1
      show own_Go p.tables e below (T718.setTop (mkF m 350 #[.val (.int p1), .val (.int p2), .val (.int p3), .val (.long p4), .second, .val (.long p5), .second, .val (.int q7), .val (.ref a8), .val (.int (11 : Int32)), .val .null, .unset, .unset] [(.ref x718)])) _
      refine own_astore X718 hx hby at_350 (pc' := 352) rfl rfl (Ls' := #[.val (.int p1), .val (.int p2), .val (.int p3), .val (.long p4), .second, .val (.long p5), .second, .val (.int q7), .val (.ref a8), .val (.int (11 : Int32)), .val (.ref x718), .unset, .unset]) rfl ?_
      exact tl_s hx hw hEL hby hml hret hlk (W718) (own_more X718 (by decide) (by decide)) rfl N718 hQ p1 p2 p3 p4 p5 q7 a8 (11 : Int32) x718 cs718 _ aV kV r0 f0 gS ((O_0.keep K718 all0)) S_V A_V E_V FC hs F_0 T_f S_C S_S hS (F718)
    · skip
      refine own_callSW X0 hx hEL (W0) (rm_px12 l Z a0 hw [] a8 gS h0 n0 hEL (O_0) S_S hS (C_8)) (hw _ (List.mem_of_getElem? (i := 41) rfl)) (hw _ (List.mem_of_getElem? (i := 42) rfl)) (hw _ (List.mem_of_getElem? (i := 3) rfl)) (hw _ (List.mem_of_getElem? (i := 43) rfl)) (by decide) (W := 0) (by decide) (by decide) (by rw [hml]; rfl) (argsL := [(.ref a8), (.int (12 : Int32))]) (rest := []) rfl (lenOf own_pd5 rfl) rfl (Nat.le_of_eq rfl) (hb hby at_347) e0 (by decide) (by decide) ?_
      intro v719 T719 L719 vm719 X719 hQ719 W719 C719
      obtain ⟨x719, cs719, hv719, N719q, K719, F719⟩ := hQ719
      subst hv719
      have N719 := Fr.app N0 N719q
      have hZ := W719.1
      have hown := W719.2.1
      show own_Go p.tables e below (T719.setTop (mkF m 350 #[.val (.int p1), .val (.int p2), .val (.int p3), .val (.long p4), .second, .val (.long p5), .second, .val (.int q7), .val (.ref a8), .val (.int (12 : Int32)), .val .null, .unset, .unset] [(.ref x719)])) _
      refine own_astore X719 hx hby at_350 (pc' := 352) rfl rfl (Ls' := #[.val (.int p1), .val (.int p2), .val (.int p3), .val (.long p4), .second, .val (.long p5), .second, .val (.int q7), .val (.ref a8), .val (.int (12 : Int32)), .val (.ref x719), .unset, .unset]) rfl ?_
      exact tl_s hx hw hEL hby hml hret hlk (W719) (own_more X719 (by decide) (by decide)) rfl N719 hQ p1 p2 p3 p4 p5 q7 a8 (12 : Int32) x719 cs719 _ aV kV r0 f0 gS ((O_0.keep K719 all0)) S_V A_V E_V FC hs F_0 T_f S_C S_S hS (F719)
    · skip
      refine own_callSW X0 hx hEL (W0) (rm_px13 l Z a0 hw [] a8 gS h0 n0 hEL (O_0) S_S hS (C_8)) (hw _ (List.mem_of_getElem? (i := 41) rfl)) (hw _ (List.mem_of_getElem? (i := 42) rfl)) (hw _ (List.mem_of_getElem? (i := 3) rfl)) (hw _ (List.mem_of_getElem? (i := 43) rfl)) (by decide) (W := 0) (by decide) (by decide) (by rw [hml]; rfl) (argsL := [(.ref a8), (.int (13 : Int32))]) (rest := []) rfl (lenOf own_pd5 rfl) rfl (Nat.le_of_eq rfl) (hb hby at_347) e0 (by decide) (by decide) ?_
      intro v720 T720 L720 vm720 X720 hQ720 W720 C720
      obtain ⟨x720, cs720, hv720, N720q, K720, F720⟩ := hQ720
      subst hv720
      have N720 := Fr.app N0 N720q
      have hZ := W720.1
      have hown := W720.2.1
      show own_Go p.tables e below (T720.setTop (mkF m 350 #[.val (.int p1), .val (.int p2), .val (.int p3), .val (.long p4), .second, .val (.long p5), .second, .val (.int q7), .val (.ref a8), .val (.int (13 : Int32)), .val .null, .unset, .unset] [(.ref x720)])) _
      refine own_astore X720 hx hby at_350 (pc' := 352) rfl rfl (Ls' := #[.val (.int p1), .val (.int p2), .val (.int p3), .val (.long p4), .second, .val (.long p5), .second, .val (.int q7), .val (.ref a8), .val (.int (13 : Int32)), .val (.ref x720), .unset, .unset]) rfl ?_
      exact tl_s hx hw hEL hby hml hret hlk (W720) (own_more X720 (by decide) (by decide)) rfl N720 hQ p1 p2 p3 p4 p5 q7 a8 (13 : Int32) x720 cs720 _ aV kV r0 f0 gS ((O_0.keep K720 all0)) S_V A_V E_V FC hs F_0 T_f S_C S_S hS (F720)
    · skip
      refine own_callSW X0 hx hEL (W0) (rm_px14 l Z a0 hw [] a8 gS h0 n0 hEL (O_0) S_S hS (C_8)) (hw _ (List.mem_of_getElem? (i := 41) rfl)) (hw _ (List.mem_of_getElem? (i := 42) rfl)) (hw _ (List.mem_of_getElem? (i := 3) rfl)) (hw _ (List.mem_of_getElem? (i := 43) rfl)) (by decide) (W := 0) (by decide) (by decide) (by rw [hml]; rfl) (argsL := [(.ref a8), (.int (14 : Int32))]) (rest := []) rfl (lenOf own_pd5 rfl) rfl (Nat.le_of_eq rfl) (hb hby at_347) e0 (by decide) (by decide) ?_
      intro v721 T721 L721 vm721 X721 hQ721 W721 C721
      obtain ⟨x721, cs721, hv721, N721q, K721, F721⟩ := hQ721
      subst hv721
      have N721 := Fr.app N0 N721q
      have hZ := W721.1
      have hown := W721.2.1
      show own_Go p.tables e below (T721.setTop (mkF m 350 #[.val (.int p1), .val (.int p2), .val (.int p3), .val (.long p4), .second, .val (.long p5), .second, .val (.int q7), .val (.ref a8), .val (.int (14 : Int32)), .val .null, .unset, .unset] [(.ref x721)])) _
      refine own_astore X721 hx hby at_350 (pc' := 352) rfl rfl (Ls' := #[.val (.int p1), .val (.int p2), .val (.int p3), .val (.long p4), .second, .val (.long p5), .second, .val (.int q7), .val (.ref a8), .val (.int (14 : Int32)), .val (.ref x721), .unset, .unset]) rfl ?_
      exact tl_s hx hw hEL hby hml hret hlk (W721) (own_more X721 (by decide) (by decide)) rfl N721 hQ p1 p2 p3 p4 p5 q7 a8 (14 : Int32) x721 cs721 _ aV kV r0 f0 gS ((O_0.keep K721 all0)) S_V A_V E_V FC hs F_0 T_f S_C S_S hS (F721)
    · skip
      refine own_callSW X0 hx hEL (W0) (rm_px15 l Z a0 hw [] a8 gS h0 n0 hEL (O_0) S_S hS (C_8)) (hw _ (List.mem_of_getElem? (i := 41) rfl)) (hw _ (List.mem_of_getElem? (i := 42) rfl)) (hw _ (List.mem_of_getElem? (i := 3) rfl)) (hw _ (List.mem_of_getElem? (i := 43) rfl)) (by decide) (W := 0) (by decide) (by decide) (by rw [hml]; rfl) (argsL := [(.ref a8), (.int (15 : Int32))]) (rest := []) rfl (lenOf own_pd5 rfl) rfl (Nat.le_of_eq rfl) (hb hby at_347) e0 (by decide) (by decide) ?_
      intro v722 T722 L722 vm722 X722 hQ722 W722 C722
      obtain ⟨x722, cs722, hv722, N722q, K722, F722⟩ := hQ722
      subst hv722
      have N722 := Fr.app N0 N722q
      have hZ := W722.1
      have hown := W722.2.1
      show own_Go p.tables e below (T722.setTop (mkF m 350 #[.val (.int p1), .val (.int p2), .val (.int p3), .val (.long p4), .second, .val (.long p5), .second, .val (.int q7), .val (.ref a8), .val (.int (15 : Int32)), .val .null, .unset, .unset] [(.ref x722)])) _
      refine own_astore X722 hx hby at_350 (pc' := 352) rfl rfl (Ls' := #[.val (.int p1), .val (.int p2), .val (.int p3), .val (.long p4), .second, .val (.long p5), .second, .val (.int q7), .val (.ref a8), .val (.int (15 : Int32)), .val (.ref x722), .unset, .unset]) rfl ?_
      exact tl_s hx hw hEL hby hml hret hlk (W722) (own_more X722 (by decide) (by decide)) rfl N722 hQ p1 p2 p3 p4 p5 q7 a8 (15 : Int32) x722 cs722 _ aV kV r0 f0 gS ((O_0.keep K722 all0)) S_V A_V E_V FC hs F_0 T_f S_C S_S hS (F722)
theorem own_i16 (x : Int32) : (x &&& (15 : Int32)).toNatClampNeg < 16 := by
  have h := c_and x 15 (by decide)
  have e2 : (15 : Int32).toInt = 15 := by decide
  simp only [Int32.toNatClampNeg]
  omega
theorem own_pd6 : parseMethodDescriptor "(JI)C" = some ⟨[.long, .int], some .char⟩ := by decide +kernel
theorem own_ef_rm0 (m : MethodId) (p1 : Int32) (p2 : Int32) (p3 : Int32) (p4 : Int64) (p5 : Int64) : entryFrame m #[(.int p1), (.int p2), (.int p3), (.long p4), (.long p5)] maxLocals = mkF m 0 #[.val (.int p1), .val (.int p2), .val (.int p3), .val (.long p4), .second, .val (.long p5), .second, .unset, .unset, .unset, .unset, .unset, .unset] [] := by first | (simp [entryFrame, mkF, argsToLocals, Value.category, maxLocals]; done) | rfl
def Qrm0 (Z : State) (p1 : Int32) (p2 : Int32) (p3 : Int32) (p4 : Int64) (p5 : Int64) (aV : Addr) (kV : Cell) (r0 : Addr) (f0 : Addr) (gS : Int32) (h0 : Heap) (n0 : Nat) (v : Option Value) (h : Heap) (L : List Loc) : Prop := v = some (.int (1 : Int32)) ∧ Fr n0 L
set_option maxRecDepth 65536 in
set_option maxHeartbeats 40000000 in
theorem rm0 (l : Launch) (Z : State) (a0 : Array Value) (hw : ∀ d ∈ tables_1, d.before a0 Z = true) (ws : List Jvm.Cond) (p1 : Int32) (p2 : Int32) (p3 : Int32) (p4 : Int64) (p5 : Int64) (aV : Addr) (kV : Cell) (r0 : Addr) (f0 : Addr) (gS : Int32) (h0 : Heap) (n0 : Nat) (hEL : EW Z a0 own_EL) (O_0 : Old Z n0 h0) (S_V : Sta Z Z.heap "com/example/tranchebook/tranchebook/model/Fee" "$VALUES" "[Lcom/example/tranchebook/tranchebook/model/Fee;" (.ref aV)) (A_V : Arr Z Z.heap aV kV (.object "com/example/tranchebook/tranchebook/model/Fee")) (E_V : Exa Z Z.heap aV "[Lcom/example/tranchebook/tranchebook/model/Fee;") (FC : FitC Z kV) (hs : kV.slots.toList = [.ref r0]) (F_0 : Fld Z Z.heap r0 "com/example/tranchebook/tranchebook/model/Fee" "rateName" "Ljava/lang/String;" (.ref f0)) (T_f : own_Str Z Z.heap Z.heap.size f0 own_CF) (S_C : Sta Z Z.heap "com/example/tranchebook/tranchebook/model/Fee" "COMMITMENT" "Lcom/example/tranchebook/tranchebook/model/Fee;" (.ref r0)) (S_S : Sta Z Z.heap "java/lang/String" "COMPACT_STRINGS" "Z" (.int gS)) (hS : ¬ gS = 0) :
    own_MetW l x code maxLocals ret ws room_1 #[(.int p1), (.int p2), (.int p3), (.long p4), (.long p5)] Z own_EL h0 (Qrm0 Z p1 p2 p3 p4 p5 aV kV r0 f0 gS h0 n0) := by
  refine own_bodyW own_pn0 ?_
  intro p e s m below meth c T0 X0 hx hby hml hnm hret hlk W0 e0
  have hZ := W0.1
  have hown := W0.2.1
  have N0 := Fr.nil n0
  refine own_st (fun t k => castTop (own_ef_rm0 m p1 p2 p3 p4 p5) k) ?_
  show own_Go p.tables e below (T0.setTop (mkF m 0 #[.val (.int p1), .val (.int p2), .val (.int p3), .val (.long p4), .second, .val (.long p5), .second, .unset, .unset, .unset, .unset, .unset, .unset] [])) _
  have Z0 := own_Z0 O_0
  have hws : ∀ d ∈ StrChars.Road.words, d.before a0 Z = true := fun d hd => hw d ((by decide +kernel : ∀ d ∈ StrChars.Road.words, d ∈ tables_1) d hd)
  have hwE : ∀ d ∈ StrChars.Road.wordsEq, d.before a0 Z = true := fun d hd => hw d ((by decide +kernel : ∀ d ∈ StrChars.Road.wordsEq, d ∈ tables_1) d hd)
  have wS : ∀ d ∈ Bundle.stringAtoms, d.before a0 Z = true := fun d hd => hw d ((by decide +kernel : ∀ d ∈ Bundle.stringAtoms, d ∈ tables_1) d hd)
  refine own_iloadN X0 hx hby at_0 (pc' := 1) rfl rfl ?_
  refine own_iconst X0 hx hby at_1 (pc' := 2) rfl (z := (3 : Int32)) (by decide) ?_
  refine own_iand X0 hx hby at_2 (pc' := 3) rfl rfl ?_
  refine own_istore X0 hx hby at_3 (pc' := 5) rfl (Ls' := #[.val (.int p1), .val (.int p2), .val (.int p3), .val (.long p4), .second, .val (.long p5), .second, .val (.int (p1 &&& (3 : Int32))), .unset, .unset, .unset, .unset, .unset]) rfl ?_
  refine own_bipush X0 hx hby at_5 (pc' := 7) rfl (z := (16 : Int32)) (by decide) ?_
  refine own_newA X0 hx hby at_7 (pc' := 9) rfl hZ (hw _ (List.mem_of_getElem? (i := 0) rfl)) e0 (by decide) (cap := 16) (by decide) (by decide) (by decide) (by decide) (vs := List.replicate 16 (.int 0)) (by rfl) ?_
  intro T723 h723 b723 X723 e723 g723 E723 A723
  have c723 := own_Ch.new A723
  have l723 : n0 ≤ b723 := (Nat.le_trans Z0 (Nat.le_trans (Nat.le_refl _) (Nat.le_of_eq g723.symm)))
  refine own_astore X723 hx hby at_9 (pc' := 11) rfl rfl (Ls' := #[.val (.int p1), .val (.int p2), .val (.int p3), .val (.long p4), .second, .val (.long p5), .second, .val (.int (p1 &&& (3 : Int32))), .val (.ref b723), .unset, .unset, .unset, .unset]) rfl ?_
  refine own_iloadN X723 hx hby at_11 (pc' := 12) rfl rfl ?_
  refine own_bipush X723 hx hby at_12 (pc' := 14) rfl (z := (15 : Int32)) (by decide) ?_
  refine own_iand X723 hx hby at_14 (pc' := 15) rfl rfl ?_
  refine own_istore X723 hx hby at_15 (pc' := 17) rfl (Ls' := #[.val (.int p1), .val (.int p2), .val (.int p3), .val (.long p4), .second, .val (.long p5), .second, .val (.int (p1 &&& (3 : Int32))), .val (.ref b723), .val (.int (p3 &&& (15 : Int32))), .unset, .unset, .unset]) rfl ?_
  refine own_iload X723 hx hby at_17 (pc' := 19) rfl rfl ?_
  refine own_iconst X723 hx hby at_19 (pc' := 20) rfl (z := (1 : Int32)) (by decide) ?_
  by_cases hc20 : (p1 &&& (3 : Int32)) = (1 : Int32)
  · skip
    refine own_icmpNo X723 hx hby at_20 (pc' := 23) rfl (teq hc20).2 ?_
    refine own_aload X723 hx hby at_23 (pc' := 25) rfl rfl rfl ?_
    refine own_iconst X723 hx hby at_25 (pc' := 26) rfl (z := (0 : Int32)) (by decide) ?_
    refine own_bipush X723 hx hby at_26 (pc' := 28) rfl (z := (67 : Int32)) (by decide) ?_
    refine own_castoreC X723 hx hby at_28 (pc' := 29) rfl hZ e723 (c723) (by decide) (by decide) (⟨by decide, by decide⟩) ?_
    intro T724 h724 X724 e724 W724 C724
    have N724 := Fr.snoc X724 N0 l723
    have c725 := ((W0.ext E723).wr W724 (own_Ch.safe c723 ((W0.ext E723)).1.alike))
    have c726 := ((O_0.ext E723).wr W724 l723)
    refine own_aload X724 hx hby at_29 (pc' := 31) rfl rfl rfl ?_
    refine own_iconst X724 hx hby at_31 (pc' := 32) rfl (z := (1 : Int32)) (by decide) ?_
    refine own_bipush X724 hx hby at_32 (pc' := 34) rfl (z := (79 : Int32)) (by decide) ?_
    refine own_castoreC X724 hx hby at_34 (pc' := 35) rfl hZ e724 (C724) (by decide) (by decide) (⟨by decide, by decide⟩) ?_
    intro T727 h727 X727 e727 W727 C727
    have N727 := Fr.snoc X727 N724 l723
    have c728 := (c725.wr W727 (own_Ch.safe C724 (c725).1.alike))
    have c729 := (c726.wr W727 l723)
    refine own_aload X727 hx hby at_35 (pc' := 37) rfl rfl rfl ?_
    refine own_iconst X727 hx hby at_37 (pc' := 38) rfl (z := (2 : Int32)) (by decide) ?_
    refine own_bipush X727 hx hby at_38 (pc' := 40) rfl (z := (77 : Int32)) (by decide) ?_
    refine own_castoreC X727 hx hby at_40 (pc' := 41) rfl hZ e727 (C727) (by decide) (by decide) (⟨by decide, by decide⟩) ?_
    intro T730 h730 X730 e730 W730 C730
    have N730 := Fr.snoc X730 N727 l723
    have c731 := (c728.wr W730 (own_Ch.safe C727 (c728).1.alike))
    have c732 := (c729.wr W730 l723)
    refine own_aload X730 hx hby at_41 (pc' := 43) rfl rfl rfl ?_
    refine own_iconst X730 hx hby at_43 (pc' := 44) rfl (z := (3 : Int32)) (by decide) ?_
    refine own_bipush X730 hx hby at_44 (pc' := 46) rfl (z := (77 : Int32)) (by decide) ?_
    refine own_castoreC X730 hx hby at_46 (pc' := 47) rfl hZ e730 (C730) (by decide) (by decide) (⟨by decide, by decide⟩) ?_
    intro T733 h733 X733 e733 W733 C733
    have N733 := Fr.snoc X733 N730 l723
    have c734 := (c731.wr W733 (own_Ch.safe C730 (c731).1.alike))
    have c735 := (c732.wr W733 l723)
    refine own_aload X733 hx hby at_47 (pc' := 49) rfl rfl rfl ?_
    refine own_iconst X733 hx hby at_49 (pc' := 50) rfl (z := (4 : Int32)) (by decide) ?_
    refine own_bipush X733 hx hby at_50 (pc' := 52) rfl (z := (73 : Int32)) (by decide) ?_
    refine own_castoreC X733 hx hby at_52 (pc' := 53) rfl hZ e733 (C733) (by decide) (by decide) (⟨by decide, by decide⟩) ?_
    intro T736 h736 X736 e736 W736 C736
    have N736 := Fr.snoc X736 N733 l723
    have c737 := (c734.wr W736 (own_Ch.safe C733 (c734).1.alike))
    have c738 := (c735.wr W736 l723)
    refine own_aload X736 hx hby at_53 (pc' := 55) rfl rfl rfl ?_
    refine own_iconst X736 hx hby at_55 (pc' := 56) rfl (z := (5 : Int32)) (by decide) ?_
    refine own_bipush X736 hx hby at_56 (pc' := 58) rfl (z := (84 : Int32)) (by decide) ?_
    refine own_castoreC X736 hx hby at_58 (pc' := 59) rfl hZ e736 (C736) (by decide) (by decide) (⟨by decide, by decide⟩) ?_
    intro T739 h739 X739 e739 W739 C739
    have N739 := Fr.snoc X739 N736 l723
    have c740 := (c737.wr W739 (own_Ch.safe C736 (c737).1.alike))
    have c741 := (c738.wr W739 l723)
    refine own_aload X739 hx hby at_59 (pc' := 61) rfl rfl rfl ?_
    refine own_bipush X739 hx hby at_61 (pc' := 63) rfl (z := (6 : Int32)) (by decide) ?_
    refine own_bipush X739 hx hby at_63 (pc' := 65) rfl (z := (77 : Int32)) (by decide) ?_
    refine own_castoreC X739 hx hby at_65 (pc' := 66) rfl hZ e739 (C739) (by decide) (by decide) (⟨by decide, by decide⟩) ?_
    intro T742 h742 X742 e742 W742 C742
    have N742 := Fr.snoc X742 N739 l723
    have c743 := (c740.wr W742 (own_Ch.safe C739 (c740).1.alike))
    have c744 := (c741.wr W742 l723)
    refine own_aload X742 hx hby at_66 (pc' := 68) rfl rfl rfl ?_
    refine own_bipush X742 hx hby at_68 (pc' := 70) rfl (z := (7 : Int32)) (by decide) ?_
    refine own_bipush X742 hx hby at_70 (pc' := 72) rfl (z := (69 : Int32)) (by decide) ?_
    refine own_castoreC X742 hx hby at_72 (pc' := 73) rfl hZ e742 (C742) (by decide) (by decide) (⟨by decide, by decide⟩) ?_
    intro T745 h745 X745 e745 W745 C745
    have N745 := Fr.snoc X745 N742 l723
    have c746 := (c743.wr W745 (own_Ch.safe C742 (c743).1.alike))
    have c747 := (c744.wr W745 l723)
    refine own_aload X745 hx hby at_73 (pc' := 75) rfl rfl rfl ?_
    refine own_bipush X745 hx hby at_75 (pc' := 77) rfl (z := (8 : Int32)) (by decide) ?_
    refine own_bipush X745 hx hby at_77 (pc' := 79) rfl (z := (78 : Int32)) (by decide) ?_
    refine own_castoreC X745 hx hby at_79 (pc' := 80) rfl hZ e745 (C745) (by decide) (by decide) (⟨by decide, by decide⟩) ?_
    intro T748 h748 X748 e748 W748 C748
    have N748 := Fr.snoc X748 N745 l723
    have c749 := (c746.wr W748 (own_Ch.safe C745 (c746).1.alike))
    have c750 := (c747.wr W748 l723)
    refine own_aload X748 hx hby at_80 (pc' := 82) rfl rfl rfl ?_
    refine own_bipush X748 hx hby at_82 (pc' := 84) rfl (z := (9 : Int32)) (by decide) ?_
    refine own_bipush X748 hx hby at_84 (pc' := 86) rfl (z := (84 : Int32)) (by decide) ?_
    refine own_castoreC X748 hx hby at_86 (pc' := 87) rfl hZ e748 (C748) (by decide) (by decide) (⟨by decide, by decide⟩) ?_
    intro T751 h751 X751 e751 W751 C751
    have N751 := Fr.snoc X751 N748 l723
    have c752 := (c749.wr W751 (own_Ch.safe C748 (c749).1.alike))
    have c753 := (c750.wr W751 l723)
    refine own_aload X751 hx hby at_87 (pc' := 89) rfl rfl rfl ?_
    refine own_bipush X751 hx hby at_89 (pc' := 91) rfl (z := (10 : Int32)) (by decide) ?_
    refine own_bipush X751 hx hby at_91 (pc' := 93) rfl (z := (95 : Int32)) (by decide) ?_
    refine own_castoreC X751 hx hby at_93 (pc' := 94) rfl hZ e751 (C751) (by decide) (by decide) (⟨by decide, by decide⟩) ?_
    intro T754 h754 X754 e754 W754 C754
    have N754 := Fr.snoc X754 N751 l723
    have c755 := (c752.wr W754 (own_Ch.safe C751 (c752).1.alike))
    have c756 := (c753.wr W754 l723)
    refine own_aload X754 hx hby at_94 (pc' := 96) rfl rfl rfl ?_
    refine own_bipush X754 hx hby at_96 (pc' := 98) rfl (z := (11 : Int32)) (by decide) ?_
    refine own_bipush X754 hx hby at_98 (pc' := 100) rfl (z := (70 : Int32)) (by decide) ?_
    refine own_castoreC X754 hx hby at_100 (pc' := 101) rfl hZ e754 (C754) (by decide) (by decide) (⟨by decide, by decide⟩) ?_
    intro T757 h757 X757 e757 W757 C757
    have N757 := Fr.snoc X757 N754 l723
    have c758 := (c755.wr W757 (own_Ch.safe C754 (c755).1.alike))
    have c759 := (c756.wr W757 l723)
    refine own_aload X757 hx hby at_101 (pc' := 103) rfl rfl rfl ?_
    refine own_bipush X757 hx hby at_103 (pc' := 105) rfl (z := (12 : Int32)) (by decide) ?_
    refine own_bipush X757 hx hby at_105 (pc' := 107) rfl (z := (69 : Int32)) (by decide) ?_
    refine own_castoreC X757 hx hby at_107 (pc' := 108) rfl hZ e757 (C757) (by decide) (by decide) (⟨by decide, by decide⟩) ?_
    intro T760 h760 X760 e760 W760 C760
    have N760 := Fr.snoc X760 N757 l723
    have c761 := (c758.wr W760 (own_Ch.safe C757 (c758).1.alike))
    have c762 := (c759.wr W760 l723)
    refine own_aload X760 hx hby at_108 (pc' := 110) rfl rfl rfl ?_
    refine own_bipush X760 hx hby at_110 (pc' := 112) rfl (z := (13 : Int32)) (by decide) ?_
    refine own_bipush X760 hx hby at_112 (pc' := 114) rfl (z := (69 : Int32)) (by decide) ?_
    refine own_castoreC X760 hx hby at_114 (pc' := 115) rfl hZ e760 (C760) (by decide) (by decide) (⟨by decide, by decide⟩) ?_
    intro T763 h763 X763 e763 W763 C763
    have N763 := Fr.snoc X763 N760 l723
    have c764 := (c761.wr W763 (own_Ch.safe C760 (c761).1.alike))
    have c765 := (c762.wr W763 l723)
    refine own_aload X763 hx hby at_115 (pc' := 117) rfl rfl rfl ?_
    refine own_bipush X763 hx hby at_117 (pc' := 119) rfl (z := (14 : Int32)) (by decide) ?_
    refine own_lloadN X763 hx hby at_119 (pc' := 120) rfl rfl ?_
    refine own_iconst X763 hx hby at_120 (pc' := 121) rfl (z := (0 : Int32)) (by decide) ?_
    refine own_callS X763 hx hZ (rm_by l Z a0 hw [] p4 (0 : Int32) h763 n0) hown (hw _ (List.mem_of_getElem? (i := 1) rfl)) (hw _ (List.mem_of_getElem? (i := 2) rfl)) (hw _ (List.mem_of_getElem? (i := 3) rfl)) (hw _ (List.mem_of_getElem? (i := 4) rfl)) (by decide) (W := 2) (by decide) (by decide) (by rw [hml]; rfl) (argsL := [(.long p4), (.int (0 : Int32))]) (rest := [(.int (14 : Int32)), (.ref b723)]) rfl (lenOf own_pd6 rfl) rfl (Nat.le_of_eq rfl) (hb hby at_121) e763 (by decide) (by decide) ?_
    intro v766 T766 L766 X766 hQ766
    obtain ⟨z766, hv766, hz766, N766q, e766⟩ := hQ766
    subst hv766
    have N766 := Fr.app N763 N766q
    show own_Go p.tables e below (T766.setTop (mkF m 124 #[.val (.int p1), .val (.int p2), .val (.int p3), .val (.long p4), .second, .val (.long p5), .second, .val (.int (p1 &&& (3 : Int32))), .val (.ref b723), .val (.int (p3 &&& (15 : Int32))), .unset, .unset, .unset] [(.int z766), (.int (14 : Int32)), (.ref b723)])) _
    refine own_castoreC X766 hx hby at_124 (pc' := 125) rfl hZ e766 (C763) (by decide) (by decide) ((own_narB hz766).symm ▸ hz766) ?_
    intro T767 h767 X767 e767 W767 C767
    have N767 := Fr.snoc X767 N766 l723
    have c768 := (c764.wr W767 (own_Ch.safe C763 (c764).1.alike))
    have c769 := (c765.wr W767 l723)
    refine own_aload X767 hx hby at_125 (pc' := 127) rfl rfl rfl ?_
    refine own_bipush X767 hx hby at_127 (pc' := 129) rfl (z := (15 : Int32)) (by decide) ?_
    refine own_lload X767 hx hby at_129 (pc' := 131) rfl rfl ?_
    refine own_iconst X767 hx hby at_131 (pc' := 132) rfl (z := (0 : Int32)) (by decide) ?_
    refine own_callS X767 hx hZ (rm_by l Z a0 hw [] p5 (0 : Int32) h767 n0) hown (hw _ (List.mem_of_getElem? (i := 1) rfl)) (hw _ (List.mem_of_getElem? (i := 2) rfl)) (hw _ (List.mem_of_getElem? (i := 3) rfl)) (hw _ (List.mem_of_getElem? (i := 4) rfl)) (by decide) (W := 2) (by decide) (by decide) (by rw [hml]; rfl) (argsL := [(.long p5), (.int (0 : Int32))]) (rest := [(.int (15 : Int32)), (.ref b723)]) rfl (lenOf own_pd6 rfl) rfl (Nat.le_of_eq rfl) (hb hby at_132) e767 (by decide) (by decide) ?_
    intro v770 T770 L770 X770 hQ770
    obtain ⟨z770, hv770, hz770, N770q, e770⟩ := hQ770
    subst hv770
    have N770 := Fr.app N767 N770q
    show own_Go p.tables e below (T770.setTop (mkF m 135 #[.val (.int p1), .val (.int p2), .val (.int p3), .val (.long p4), .second, .val (.long p5), .second, .val (.int (p1 &&& (3 : Int32))), .val (.ref b723), .val (.int (p3 &&& (15 : Int32))), .unset, .unset, .unset] [(.int z770), (.int (15 : Int32)), (.ref b723)])) _
    refine own_castoreC X770 hx hby at_135 (pc' := 136) rfl hZ e770 (C767) (by decide) (by decide) ((own_narB hz770).symm ▸ hz770) ?_
    intro T771 h771 X771 e771 W771 C771
    have N771 := Fr.snoc X771 N770 l723
    have c772 := (c768.wr W771 (own_Ch.safe C767 (c768).1.alike))
    have c773 := (c769.wr W771 l723)
    refine own_iloadN X771 hx hby at_136 (pc' := 137) rfl rfl ?_
    refine own_bipush X771 hx hby at_137 (pc' := 139) rfl (z := (16 : Int32)) (by decide) ?_
    refine own_iand X771 hx hby at_139 (pc' := 140) rfl rfl ?_
    by_cases hc140 : (p2 &&& (16 : Int32)) = (0 : Int32)
    · skip
      refine own_ifYes X771 hx hby at_140 (pc' := 155) (by decide) (teq hc140).1 ?_
      refine own_iloadN X771 hx hby at_155 (pc' := 156) rfl rfl ?_
      refine own_bipush X771 hx hby at_156 (pc' := 158) rfl (z := (16 : Int32)) (by decide) ?_
      refine own_iand X771 hx hby at_158 (pc' := 159) rfl rfl ?_
      by_cases hc159 : (p3 &&& (16 : Int32)) = (0 : Int32)
      · skip
        refine own_ifYes X771 hx hby at_159 (pc' := 335) (by decide) (teq hc159).1 ?_
        have hQ : ∀ h L, Fr n0 L → Qrm0 Z p1 p2 p3 p4 p5 aV kV r0 f0 gS h0 n0 (some (.int 1)) h L := fun h L k => ⟨rfl, k⟩
        exact tl_j hx hw hEL hby hml hret hlk (c772) (own_more X771 (by decide) (by decide)) e771 N771 hQ p1 p2 p3 p4 p5 (p1 &&& (3 : Int32)) b723 (p3 &&& (15 : Int32)) aV kV r0 f0 gS (c773) S_V A_V E_V FC hs F_0 T_f S_C S_S hS (C771) (own_n15 p3).1 (own_n15 p3).2
      · skip
        refine own_ifNo X771 hx hby at_159 (pc' := 162) rfl (feq hc159).1 ?_
        refine own_bipush X771 hx hby at_162 (pc' := 164) rfl (z := (14 : Int32)) (by decide) ?_
        refine own_istore X771 hx hby at_164 (pc' := 166) rfl (Ls' := #[.val (.int p1), .val (.int p2), .val (.int p3), .val (.long p4), .second, .val (.long p5), .second, .val (.int (p1 &&& (3 : Int32))), .val (.ref b723), .val (.int (14 : Int32)), .unset, .unset, .unset]) rfl ?_
        refine own_goto X771 hx hby at_166 (pc' := 335) (by decide) ?_
        have hQ : ∀ h L, Fr n0 L → Qrm0 Z p1 p2 p3 p4 p5 aV kV r0 f0 gS h0 n0 (some (.int 1)) h L := fun h L k => ⟨rfl, k⟩
        exact tl_j hx hw hEL hby hml hret hlk (c772) (own_more X771 (by decide) (by decide)) e771 N771 hQ p1 p2 p3 p4 p5 (p1 &&& (3 : Int32)) b723 (14 : Int32) aV kV r0 f0 gS (c773) S_V A_V E_V FC hs F_0 T_f S_C S_S hS (C771) (by decide) (by decide)
    · skip
      refine own_ifNo X771 hx hby at_140 (pc' := 143) rfl (feq hc140).1 ?_
      refine own_aload X771 hx hby at_143 (pc' := 145) rfl rfl rfl ?_
      refine own_iloadN X771 hx hby at_145 (pc' := 146) rfl rfl ?_
      refine own_bipush X771 hx hby at_146 (pc' := 148) rfl (z := (15 : Int32)) (by decide) ?_
      refine own_iand X771 hx hby at_148 (pc' := 149) rfl rfl ?_
      refine own_lloadN X771 hx hby at_149 (pc' := 150) rfl rfl ?_
      refine own_iconst X771 hx hby at_150 (pc' := 151) rfl (z := (1 : Int32)) (by decide) ?_
      refine own_callS X771 hx hZ (rm_by l Z a0 hw [] p4 (1 : Int32) h771 n0) hown (hw _ (List.mem_of_getElem? (i := 1) rfl)) (hw _ (List.mem_of_getElem? (i := 2) rfl)) (hw _ (List.mem_of_getElem? (i := 3) rfl)) (hw _ (List.mem_of_getElem? (i := 4) rfl)) (by decide) (W := 2) (by decide) (by decide) (by rw [hml]; rfl) (argsL := [(.long p4), (.int (1 : Int32))]) (rest := [(.int (p2 &&& (15 : Int32))), (.ref b723)]) rfl (lenOf own_pd6 rfl) rfl (Nat.le_of_eq rfl) (hb hby at_151) e771 (by decide) (by decide) ?_
      intro v774 T774 L774 X774 hQ774
      obtain ⟨z774, hv774, hz774, N774q, e774⟩ := hQ774
      subst hv774
      have N774 := Fr.app N771 N774q
      show own_Go p.tables e below (T774.setTop (mkF m 154 #[.val (.int p1), .val (.int p2), .val (.int p3), .val (.long p4), .second, .val (.long p5), .second, .val (.int (p1 &&& (3 : Int32))), .val (.ref b723), .val (.int (p3 &&& (15 : Int32))), .unset, .unset, .unset] [(.int z774), (.int (p2 &&& (15 : Int32))), (.ref b723)])) _
      refine own_castoreC X774 hx hby at_154 (pc' := 155) rfl hZ e774 (C771) (own_n15 p2).1 (own_i16 p2) ((own_narB hz774).symm ▸ hz774) ?_
      intro T775 h775 X775 e775 W775 C775
      have N775 := Fr.snoc X775 N774 l723
      have c776 := (c772.wr W775 (own_Ch.safe C771 (c772).1.alike))
      have c777 := (c773.wr W775 l723)
      refine own_iloadN X775 hx hby at_155 (pc' := 156) rfl rfl ?_
      refine own_bipush X775 hx hby at_156 (pc' := 158) rfl (z := (16 : Int32)) (by decide) ?_
      refine own_iand X775 hx hby at_158 (pc' := 159) rfl rfl ?_
      by_cases hc159 : (p3 &&& (16 : Int32)) = (0 : Int32)
      · skip
        refine own_ifYes X775 hx hby at_159 (pc' := 335) (by decide) (teq hc159).1 ?_
        have hQ : ∀ h L, Fr n0 L → Qrm0 Z p1 p2 p3 p4 p5 aV kV r0 f0 gS h0 n0 (some (.int 1)) h L := fun h L k => ⟨rfl, k⟩
        exact tl_j hx hw hEL hby hml hret hlk (c776) (own_more X775 (by decide) (by decide)) e775 N775 hQ p1 p2 p3 p4 p5 (p1 &&& (3 : Int32)) b723 (p3 &&& (15 : Int32)) aV kV r0 f0 gS (c777) S_V A_V E_V FC hs F_0 T_f S_C S_S hS (C775) (own_n15 p3).1 (own_n15 p3).2
      · skip
        refine own_ifNo X775 hx hby at_159 (pc' := 162) rfl (feq hc159).1 ?_
        refine own_bipush X775 hx hby at_162 (pc' := 164) rfl (z := (14 : Int32)) (by decide) ?_
        refine own_istore X775 hx hby at_164 (pc' := 166) rfl (Ls' := #[.val (.int p1), .val (.int p2), .val (.int p3), .val (.long p4), .second, .val (.long p5), .second, .val (.int (p1 &&& (3 : Int32))), .val (.ref b723), .val (.int (14 : Int32)), .unset, .unset, .unset]) rfl ?_
        refine own_goto X775 hx hby at_166 (pc' := 335) (by decide) ?_
        have hQ : ∀ h L, Fr n0 L → Qrm0 Z p1 p2 p3 p4 p5 aV kV r0 f0 gS h0 n0 (some (.int 1)) h L := fun h L k => ⟨rfl, k⟩
        exact tl_j hx hw hEL hby hml hret hlk (c776) (own_more X775 (by decide) (by decide)) e775 N775 hQ p1 p2 p3 p4 p5 (p1 &&& (3 : Int32)) b723 (14 : Int32) aV kV r0 f0 gS (c777) S_V A_V E_V FC hs F_0 T_f S_C S_S hS (C775) (by decide) (by decide)
  · skip
    refine own_icmpYes X723 hx hby at_20 (pc' := 169) (by decide) (feq hc20).2 ?_
    refine own_aload X723 hx hby at_169 (pc' := 171) rfl rfl rfl ?_
    refine own_iconst X723 hx hby at_171 (pc' := 172) rfl (z := (0 : Int32)) (by decide) ?_
    refine own_lloadN X723 hx hby at_172 (pc' := 173) rfl rfl ?_
    refine own_iconst X723 hx hby at_173 (pc' := 174) rfl (z := (0 : Int32)) (by decide) ?_
    refine own_callS X723 hx hZ (rm_by l Z a0 hw [] p4 (0 : Int32) h723 n0) hown (hw _ (List.mem_of_getElem? (i := 1) rfl)) (hw _ (List.mem_of_getElem? (i := 2) rfl)) (hw _ (List.mem_of_getElem? (i := 3) rfl)) (hw _ (List.mem_of_getElem? (i := 4) rfl)) (by decide) (W := 2) (by decide) (by decide) (by rw [hml]; rfl) (argsL := [(.long p4), (.int (0 : Int32))]) (rest := [(.int (0 : Int32)), (.ref b723)]) rfl (lenOf own_pd6 rfl) rfl (Nat.le_of_eq rfl) (hb hby at_174) e723 (by decide) (by decide) ?_
    intro v778 T778 L778 X778 hQ778
    obtain ⟨z778, hv778, hz778, N778q, e778⟩ := hQ778
    subst hv778
    have N778 := Fr.app N0 N778q
    show own_Go p.tables e below (T778.setTop (mkF m 177 #[.val (.int p1), .val (.int p2), .val (.int p3), .val (.long p4), .second, .val (.long p5), .second, .val (.int (p1 &&& (3 : Int32))), .val (.ref b723), .val (.int (p3 &&& (15 : Int32))), .unset, .unset, .unset] [(.int z778), (.int (0 : Int32)), (.ref b723)])) _
    refine own_castoreC X778 hx hby at_177 (pc' := 178) rfl hZ e778 (c723) (by decide) (by decide) ((own_narB hz778).symm ▸ hz778) ?_
    intro T779 h779 X779 e779 W779 C779
    have N779 := Fr.snoc X779 N778 l723
    have c780 := ((W0.ext E723).wr W779 (own_Ch.safe c723 ((W0.ext E723)).1.alike))
    have c781 := ((O_0.ext E723).wr W779 l723)
    refine own_aload X779 hx hby at_178 (pc' := 180) rfl rfl rfl ?_
    refine own_iconst X779 hx hby at_180 (pc' := 181) rfl (z := (1 : Int32)) (by decide) ?_
    refine own_lloadN X779 hx hby at_181 (pc' := 182) rfl rfl ?_
    refine own_iconst X779 hx hby at_182 (pc' := 183) rfl (z := (1 : Int32)) (by decide) ?_
    refine own_callS X779 hx hZ (rm_by l Z a0 hw [] p4 (1 : Int32) h779 n0) hown (hw _ (List.mem_of_getElem? (i := 1) rfl)) (hw _ (List.mem_of_getElem? (i := 2) rfl)) (hw _ (List.mem_of_getElem? (i := 3) rfl)) (hw _ (List.mem_of_getElem? (i := 4) rfl)) (by decide) (W := 2) (by decide) (by decide) (by rw [hml]; rfl) (argsL := [(.long p4), (.int (1 : Int32))]) (rest := [(.int (1 : Int32)), (.ref b723)]) rfl (lenOf own_pd6 rfl) rfl (Nat.le_of_eq rfl) (hb hby at_183) e779 (by decide) (by decide) ?_
    intro v782 T782 L782 X782 hQ782
    obtain ⟨z782, hv782, hz782, N782q, e782⟩ := hQ782
    subst hv782
    have N782 := Fr.app N779 N782q
    show own_Go p.tables e below (T782.setTop (mkF m 186 #[.val (.int p1), .val (.int p2), .val (.int p3), .val (.long p4), .second, .val (.long p5), .second, .val (.int (p1 &&& (3 : Int32))), .val (.ref b723), .val (.int (p3 &&& (15 : Int32))), .unset, .unset, .unset] [(.int z782), (.int (1 : Int32)), (.ref b723)])) _
    refine own_castoreC X782 hx hby at_186 (pc' := 187) rfl hZ e782 (C779) (by decide) (by decide) ((own_narB hz782).symm ▸ hz782) ?_
    intro T783 h783 X783 e783 W783 C783
    have N783 := Fr.snoc X783 N782 l723
    have c784 := (c780.wr W783 (own_Ch.safe C779 (c780).1.alike))
    have c785 := (c781.wr W783 l723)
    refine own_aload X783 hx hby at_187 (pc' := 189) rfl rfl rfl ?_
    refine own_iconst X783 hx hby at_189 (pc' := 190) rfl (z := (2 : Int32)) (by decide) ?_
    refine own_lloadN X783 hx hby at_190 (pc' := 191) rfl rfl ?_
    refine own_iconst X783 hx hby at_191 (pc' := 192) rfl (z := (2 : Int32)) (by decide) ?_
    refine own_callS X783 hx hZ (rm_by l Z a0 hw [] p4 (2 : Int32) h783 n0) hown (hw _ (List.mem_of_getElem? (i := 1) rfl)) (hw _ (List.mem_of_getElem? (i := 2) rfl)) (hw _ (List.mem_of_getElem? (i := 3) rfl)) (hw _ (List.mem_of_getElem? (i := 4) rfl)) (by decide) (W := 2) (by decide) (by decide) (by rw [hml]; rfl) (argsL := [(.long p4), (.int (2 : Int32))]) (rest := [(.int (2 : Int32)), (.ref b723)]) rfl (lenOf own_pd6 rfl) rfl (Nat.le_of_eq rfl) (hb hby at_192) e783 (by decide) (by decide) ?_
    intro v786 T786 L786 X786 hQ786
    obtain ⟨z786, hv786, hz786, N786q, e786⟩ := hQ786
    subst hv786
    have N786 := Fr.app N783 N786q
    show own_Go p.tables e below (T786.setTop (mkF m 195 #[.val (.int p1), .val (.int p2), .val (.int p3), .val (.long p4), .second, .val (.long p5), .second, .val (.int (p1 &&& (3 : Int32))), .val (.ref b723), .val (.int (p3 &&& (15 : Int32))), .unset, .unset, .unset] [(.int z786), (.int (2 : Int32)), (.ref b723)])) _
    refine own_castoreC X786 hx hby at_195 (pc' := 196) rfl hZ e786 (C783) (by decide) (by decide) ((own_narB hz786).symm ▸ hz786) ?_
    intro T787 h787 X787 e787 W787 C787
    have N787 := Fr.snoc X787 N786 l723
    have c788 := (c784.wr W787 (own_Ch.safe C783 (c784).1.alike))
    have c789 := (c785.wr W787 l723)
    refine own_aload X787 hx hby at_196 (pc' := 198) rfl rfl rfl ?_
    refine own_iconst X787 hx hby at_198 (pc' := 199) rfl (z := (3 : Int32)) (by decide) ?_
    refine own_lloadN X787 hx hby at_199 (pc' := 200) rfl rfl ?_
    refine own_iconst X787 hx hby at_200 (pc' := 201) rfl (z := (3 : Int32)) (by decide) ?_
    refine own_callS X787 hx hZ (rm_by l Z a0 hw [] p4 (3 : Int32) h787 n0) hown (hw _ (List.mem_of_getElem? (i := 1) rfl)) (hw _ (List.mem_of_getElem? (i := 2) rfl)) (hw _ (List.mem_of_getElem? (i := 3) rfl)) (hw _ (List.mem_of_getElem? (i := 4) rfl)) (by decide) (W := 2) (by decide) (by decide) (by rw [hml]; rfl) (argsL := [(.long p4), (.int (3 : Int32))]) (rest := [(.int (3 : Int32)), (.ref b723)]) rfl (lenOf own_pd6 rfl) rfl (Nat.le_of_eq rfl) (hb hby at_201) e787 (by decide) (by decide) ?_
    intro v790 T790 L790 X790 hQ790
    obtain ⟨z790, hv790, hz790, N790q, e790⟩ := hQ790
    subst hv790
    have N790 := Fr.app N787 N790q
    show own_Go p.tables e below (T790.setTop (mkF m 204 #[.val (.int p1), .val (.int p2), .val (.int p3), .val (.long p4), .second, .val (.long p5), .second, .val (.int (p1 &&& (3 : Int32))), .val (.ref b723), .val (.int (p3 &&& (15 : Int32))), .unset, .unset, .unset] [(.int z790), (.int (3 : Int32)), (.ref b723)])) _
    refine own_castoreC X790 hx hby at_204 (pc' := 205) rfl hZ e790 (C787) (by decide) (by decide) ((own_narB hz790).symm ▸ hz790) ?_
    intro T791 h791 X791 e791 W791 C791
    have N791 := Fr.snoc X791 N790 l723
    have c792 := (c788.wr W791 (own_Ch.safe C787 (c788).1.alike))
    have c793 := (c789.wr W791 l723)
    refine own_aload X791 hx hby at_205 (pc' := 207) rfl rfl rfl ?_
    refine own_iconst X791 hx hby at_207 (pc' := 208) rfl (z := (4 : Int32)) (by decide) ?_
    refine own_lloadN X791 hx hby at_208 (pc' := 209) rfl rfl ?_
    refine own_iconst X791 hx hby at_209 (pc' := 210) rfl (z := (4 : Int32)) (by decide) ?_
    refine own_callS X791 hx hZ (rm_by l Z a0 hw [] p4 (4 : Int32) h791 n0) hown (hw _ (List.mem_of_getElem? (i := 1) rfl)) (hw _ (List.mem_of_getElem? (i := 2) rfl)) (hw _ (List.mem_of_getElem? (i := 3) rfl)) (hw _ (List.mem_of_getElem? (i := 4) rfl)) (by decide) (W := 2) (by decide) (by decide) (by rw [hml]; rfl) (argsL := [(.long p4), (.int (4 : Int32))]) (rest := [(.int (4 : Int32)), (.ref b723)]) rfl (lenOf own_pd6 rfl) rfl (Nat.le_of_eq rfl) (hb hby at_210) e791 (by decide) (by decide) ?_
    intro v794 T794 L794 X794 hQ794
    obtain ⟨z794, hv794, hz794, N794q, e794⟩ := hQ794
    subst hv794
    have N794 := Fr.app N791 N794q
    show own_Go p.tables e below (T794.setTop (mkF m 213 #[.val (.int p1), .val (.int p2), .val (.int p3), .val (.long p4), .second, .val (.long p5), .second, .val (.int (p1 &&& (3 : Int32))), .val (.ref b723), .val (.int (p3 &&& (15 : Int32))), .unset, .unset, .unset] [(.int z794), (.int (4 : Int32)), (.ref b723)])) _
    refine own_castoreC X794 hx hby at_213 (pc' := 214) rfl hZ e794 (C791) (by decide) (by decide) ((own_narB hz794).symm ▸ hz794) ?_
    intro T795 h795 X795 e795 W795 C795
    have N795 := Fr.snoc X795 N794 l723
    have c796 := (c792.wr W795 (own_Ch.safe C791 (c792).1.alike))
    have c797 := (c793.wr W795 l723)
    refine own_aload X795 hx hby at_214 (pc' := 216) rfl rfl rfl ?_
    refine own_iconst X795 hx hby at_216 (pc' := 217) rfl (z := (5 : Int32)) (by decide) ?_
    refine own_lloadN X795 hx hby at_217 (pc' := 218) rfl rfl ?_
    refine own_iconst X795 hx hby at_218 (pc' := 219) rfl (z := (5 : Int32)) (by decide) ?_
    refine own_callS X795 hx hZ (rm_by l Z a0 hw [] p4 (5 : Int32) h795 n0) hown (hw _ (List.mem_of_getElem? (i := 1) rfl)) (hw _ (List.mem_of_getElem? (i := 2) rfl)) (hw _ (List.mem_of_getElem? (i := 3) rfl)) (hw _ (List.mem_of_getElem? (i := 4) rfl)) (by decide) (W := 2) (by decide) (by decide) (by rw [hml]; rfl) (argsL := [(.long p4), (.int (5 : Int32))]) (rest := [(.int (5 : Int32)), (.ref b723)]) rfl (lenOf own_pd6 rfl) rfl (Nat.le_of_eq rfl) (hb hby at_219) e795 (by decide) (by decide) ?_
    intro v798 T798 L798 X798 hQ798
    obtain ⟨z798, hv798, hz798, N798q, e798⟩ := hQ798
    subst hv798
    have N798 := Fr.app N795 N798q
    show own_Go p.tables e below (T798.setTop (mkF m 222 #[.val (.int p1), .val (.int p2), .val (.int p3), .val (.long p4), .second, .val (.long p5), .second, .val (.int (p1 &&& (3 : Int32))), .val (.ref b723), .val (.int (p3 &&& (15 : Int32))), .unset, .unset, .unset] [(.int z798), (.int (5 : Int32)), (.ref b723)])) _
    refine own_castoreC X798 hx hby at_222 (pc' := 223) rfl hZ e798 (C795) (by decide) (by decide) ((own_narB hz798).symm ▸ hz798) ?_
    intro T799 h799 X799 e799 W799 C799
    have N799 := Fr.snoc X799 N798 l723
    have c800 := (c796.wr W799 (own_Ch.safe C795 (c796).1.alike))
    have c801 := (c797.wr W799 l723)
    refine own_aload X799 hx hby at_223 (pc' := 225) rfl rfl rfl ?_
    refine own_bipush X799 hx hby at_225 (pc' := 227) rfl (z := (6 : Int32)) (by decide) ?_
    refine own_lloadN X799 hx hby at_227 (pc' := 228) rfl rfl ?_
    refine own_bipush X799 hx hby at_228 (pc' := 230) rfl (z := (6 : Int32)) (by decide) ?_
    refine own_callS X799 hx hZ (rm_by l Z a0 hw [] p4 (6 : Int32) h799 n0) hown (hw _ (List.mem_of_getElem? (i := 1) rfl)) (hw _ (List.mem_of_getElem? (i := 2) rfl)) (hw _ (List.mem_of_getElem? (i := 3) rfl)) (hw _ (List.mem_of_getElem? (i := 4) rfl)) (by decide) (W := 2) (by decide) (by decide) (by rw [hml]; rfl) (argsL := [(.long p4), (.int (6 : Int32))]) (rest := [(.int (6 : Int32)), (.ref b723)]) rfl (lenOf own_pd6 rfl) rfl (Nat.le_of_eq rfl) (hb hby at_230) e799 (by decide) (by decide) ?_
    intro v802 T802 L802 X802 hQ802
    obtain ⟨z802, hv802, hz802, N802q, e802⟩ := hQ802
    subst hv802
    have N802 := Fr.app N799 N802q
    show own_Go p.tables e below (T802.setTop (mkF m 233 #[.val (.int p1), .val (.int p2), .val (.int p3), .val (.long p4), .second, .val (.long p5), .second, .val (.int (p1 &&& (3 : Int32))), .val (.ref b723), .val (.int (p3 &&& (15 : Int32))), .unset, .unset, .unset] [(.int z802), (.int (6 : Int32)), (.ref b723)])) _
    refine own_castoreC X802 hx hby at_233 (pc' := 234) rfl hZ e802 (C799) (by decide) (by decide) ((own_narB hz802).symm ▸ hz802) ?_
    intro T803 h803 X803 e803 W803 C803
    have N803 := Fr.snoc X803 N802 l723
    have c804 := (c800.wr W803 (own_Ch.safe C799 (c800).1.alike))
    have c805 := (c801.wr W803 l723)
    refine own_aload X803 hx hby at_234 (pc' := 236) rfl rfl rfl ?_
    refine own_bipush X803 hx hby at_236 (pc' := 238) rfl (z := (7 : Int32)) (by decide) ?_
    refine own_lloadN X803 hx hby at_238 (pc' := 239) rfl rfl ?_
    refine own_bipush X803 hx hby at_239 (pc' := 241) rfl (z := (7 : Int32)) (by decide) ?_
    refine own_callS X803 hx hZ (rm_by l Z a0 hw [] p4 (7 : Int32) h803 n0) hown (hw _ (List.mem_of_getElem? (i := 1) rfl)) (hw _ (List.mem_of_getElem? (i := 2) rfl)) (hw _ (List.mem_of_getElem? (i := 3) rfl)) (hw _ (List.mem_of_getElem? (i := 4) rfl)) (by decide) (W := 2) (by decide) (by decide) (by rw [hml]; rfl) (argsL := [(.long p4), (.int (7 : Int32))]) (rest := [(.int (7 : Int32)), (.ref b723)]) rfl (lenOf own_pd6 rfl) rfl (Nat.le_of_eq rfl) (hb hby at_241) e803 (by decide) (by decide) ?_
    intro v806 T806 L806 X806 hQ806
    obtain ⟨z806, hv806, hz806, N806q, e806⟩ := hQ806
    subst hv806
    have N806 := Fr.app N803 N806q
    show own_Go p.tables e below (T806.setTop (mkF m 244 #[.val (.int p1), .val (.int p2), .val (.int p3), .val (.long p4), .second, .val (.long p5), .second, .val (.int (p1 &&& (3 : Int32))), .val (.ref b723), .val (.int (p3 &&& (15 : Int32))), .unset, .unset, .unset] [(.int z806), (.int (7 : Int32)), (.ref b723)])) _
    refine own_castoreC X806 hx hby at_244 (pc' := 245) rfl hZ e806 (C803) (by decide) (by decide) ((own_narB hz806).symm ▸ hz806) ?_
    intro T807 h807 X807 e807 W807 C807
    have N807 := Fr.snoc X807 N806 l723
    have c808 := (c804.wr W807 (own_Ch.safe C803 (c804).1.alike))
    have c809 := (c805.wr W807 l723)
    refine own_aload X807 hx hby at_245 (pc' := 247) rfl rfl rfl ?_
    refine own_bipush X807 hx hby at_247 (pc' := 249) rfl (z := (8 : Int32)) (by decide) ?_
    refine own_lload X807 hx hby at_249 (pc' := 251) rfl rfl ?_
    refine own_iconst X807 hx hby at_251 (pc' := 252) rfl (z := (0 : Int32)) (by decide) ?_
    refine own_callS X807 hx hZ (rm_by l Z a0 hw [] p5 (0 : Int32) h807 n0) hown (hw _ (List.mem_of_getElem? (i := 1) rfl)) (hw _ (List.mem_of_getElem? (i := 2) rfl)) (hw _ (List.mem_of_getElem? (i := 3) rfl)) (hw _ (List.mem_of_getElem? (i := 4) rfl)) (by decide) (W := 2) (by decide) (by decide) (by rw [hml]; rfl) (argsL := [(.long p5), (.int (0 : Int32))]) (rest := [(.int (8 : Int32)), (.ref b723)]) rfl (lenOf own_pd6 rfl) rfl (Nat.le_of_eq rfl) (hb hby at_252) e807 (by decide) (by decide) ?_
    intro v810 T810 L810 X810 hQ810
    obtain ⟨z810, hv810, hz810, N810q, e810⟩ := hQ810
    subst hv810
    have N810 := Fr.app N807 N810q
    show own_Go p.tables e below (T810.setTop (mkF m 255 #[.val (.int p1), .val (.int p2), .val (.int p3), .val (.long p4), .second, .val (.long p5), .second, .val (.int (p1 &&& (3 : Int32))), .val (.ref b723), .val (.int (p3 &&& (15 : Int32))), .unset, .unset, .unset] [(.int z810), (.int (8 : Int32)), (.ref b723)])) _
    refine own_castoreC X810 hx hby at_255 (pc' := 256) rfl hZ e810 (C807) (by decide) (by decide) ((own_narB hz810).symm ▸ hz810) ?_
    intro T811 h811 X811 e811 W811 C811
    have N811 := Fr.snoc X811 N810 l723
    have c812 := (c808.wr W811 (own_Ch.safe C807 (c808).1.alike))
    have c813 := (c809.wr W811 l723)
    refine own_aload X811 hx hby at_256 (pc' := 258) rfl rfl rfl ?_
    refine own_bipush X811 hx hby at_258 (pc' := 260) rfl (z := (9 : Int32)) (by decide) ?_
    refine own_lload X811 hx hby at_260 (pc' := 262) rfl rfl ?_
    refine own_iconst X811 hx hby at_262 (pc' := 263) rfl (z := (1 : Int32)) (by decide) ?_
    refine own_callS X811 hx hZ (rm_by l Z a0 hw [] p5 (1 : Int32) h811 n0) hown (hw _ (List.mem_of_getElem? (i := 1) rfl)) (hw _ (List.mem_of_getElem? (i := 2) rfl)) (hw _ (List.mem_of_getElem? (i := 3) rfl)) (hw _ (List.mem_of_getElem? (i := 4) rfl)) (by decide) (W := 2) (by decide) (by decide) (by rw [hml]; rfl) (argsL := [(.long p5), (.int (1 : Int32))]) (rest := [(.int (9 : Int32)), (.ref b723)]) rfl (lenOf own_pd6 rfl) rfl (Nat.le_of_eq rfl) (hb hby at_263) e811 (by decide) (by decide) ?_
    intro v814 T814 L814 X814 hQ814
    obtain ⟨z814, hv814, hz814, N814q, e814⟩ := hQ814
    subst hv814
    have N814 := Fr.app N811 N814q
    show own_Go p.tables e below (T814.setTop (mkF m 266 #[.val (.int p1), .val (.int p2), .val (.int p3), .val (.long p4), .second, .val (.long p5), .second, .val (.int (p1 &&& (3 : Int32))), .val (.ref b723), .val (.int (p3 &&& (15 : Int32))), .unset, .unset, .unset] [(.int z814), (.int (9 : Int32)), (.ref b723)])) _
    refine own_castoreC X814 hx hby at_266 (pc' := 267) rfl hZ e814 (C811) (by decide) (by decide) ((own_narB hz814).symm ▸ hz814) ?_
    intro T815 h815 X815 e815 W815 C815
    have N815 := Fr.snoc X815 N814 l723
    have c816 := (c812.wr W815 (own_Ch.safe C811 (c812).1.alike))
    have c817 := (c813.wr W815 l723)
    refine own_aload X815 hx hby at_267 (pc' := 269) rfl rfl rfl ?_
    refine own_bipush X815 hx hby at_269 (pc' := 271) rfl (z := (10 : Int32)) (by decide) ?_
    refine own_lload X815 hx hby at_271 (pc' := 273) rfl rfl ?_
    refine own_iconst X815 hx hby at_273 (pc' := 274) rfl (z := (2 : Int32)) (by decide) ?_
    refine own_callS X815 hx hZ (rm_by l Z a0 hw [] p5 (2 : Int32) h815 n0) hown (hw _ (List.mem_of_getElem? (i := 1) rfl)) (hw _ (List.mem_of_getElem? (i := 2) rfl)) (hw _ (List.mem_of_getElem? (i := 3) rfl)) (hw _ (List.mem_of_getElem? (i := 4) rfl)) (by decide) (W := 2) (by decide) (by decide) (by rw [hml]; rfl) (argsL := [(.long p5), (.int (2 : Int32))]) (rest := [(.int (10 : Int32)), (.ref b723)]) rfl (lenOf own_pd6 rfl) rfl (Nat.le_of_eq rfl) (hb hby at_274) e815 (by decide) (by decide) ?_
    intro v818 T818 L818 X818 hQ818
    obtain ⟨z818, hv818, hz818, N818q, e818⟩ := hQ818
    subst hv818
    have N818 := Fr.app N815 N818q
    show own_Go p.tables e below (T818.setTop (mkF m 277 #[.val (.int p1), .val (.int p2), .val (.int p3), .val (.long p4), .second, .val (.long p5), .second, .val (.int (p1 &&& (3 : Int32))), .val (.ref b723), .val (.int (p3 &&& (15 : Int32))), .unset, .unset, .unset] [(.int z818), (.int (10 : Int32)), (.ref b723)])) _
    refine own_castoreC X818 hx hby at_277 (pc' := 278) rfl hZ e818 (C815) (by decide) (by decide) ((own_narB hz818).symm ▸ hz818) ?_
    intro T819 h819 X819 e819 W819 C819
    have N819 := Fr.snoc X819 N818 l723
    have c820 := (c816.wr W819 (own_Ch.safe C815 (c816).1.alike))
    have c821 := (c817.wr W819 l723)
    refine own_aload X819 hx hby at_278 (pc' := 280) rfl rfl rfl ?_
    refine own_bipush X819 hx hby at_280 (pc' := 282) rfl (z := (11 : Int32)) (by decide) ?_
    refine own_lload X819 hx hby at_282 (pc' := 284) rfl rfl ?_
    refine own_iconst X819 hx hby at_284 (pc' := 285) rfl (z := (3 : Int32)) (by decide) ?_
    refine own_callS X819 hx hZ (rm_by l Z a0 hw [] p5 (3 : Int32) h819 n0) hown (hw _ (List.mem_of_getElem? (i := 1) rfl)) (hw _ (List.mem_of_getElem? (i := 2) rfl)) (hw _ (List.mem_of_getElem? (i := 3) rfl)) (hw _ (List.mem_of_getElem? (i := 4) rfl)) (by decide) (W := 2) (by decide) (by decide) (by rw [hml]; rfl) (argsL := [(.long p5), (.int (3 : Int32))]) (rest := [(.int (11 : Int32)), (.ref b723)]) rfl (lenOf own_pd6 rfl) rfl (Nat.le_of_eq rfl) (hb hby at_285) e819 (by decide) (by decide) ?_
    intro v822 T822 L822 X822 hQ822
    obtain ⟨z822, hv822, hz822, N822q, e822⟩ := hQ822
    subst hv822
    have N822 := Fr.app N819 N822q
    show own_Go p.tables e below (T822.setTop (mkF m 288 #[.val (.int p1), .val (.int p2), .val (.int p3), .val (.long p4), .second, .val (.long p5), .second, .val (.int (p1 &&& (3 : Int32))), .val (.ref b723), .val (.int (p3 &&& (15 : Int32))), .unset, .unset, .unset] [(.int z822), (.int (11 : Int32)), (.ref b723)])) _
    refine own_castoreC X822 hx hby at_288 (pc' := 289) rfl hZ e822 (C819) (by decide) (by decide) ((own_narB hz822).symm ▸ hz822) ?_
    intro T823 h823 X823 e823 W823 C823
    have N823 := Fr.snoc X823 N822 l723
    have c824 := (c820.wr W823 (own_Ch.safe C819 (c820).1.alike))
    have c825 := (c821.wr W823 l723)
    refine own_aload X823 hx hby at_289 (pc' := 291) rfl rfl rfl ?_
    refine own_bipush X823 hx hby at_291 (pc' := 293) rfl (z := (12 : Int32)) (by decide) ?_
    refine own_lload X823 hx hby at_293 (pc' := 295) rfl rfl ?_
    refine own_iconst X823 hx hby at_295 (pc' := 296) rfl (z := (4 : Int32)) (by decide) ?_
    refine own_callS X823 hx hZ (rm_by l Z a0 hw [] p5 (4 : Int32) h823 n0) hown (hw _ (List.mem_of_getElem? (i := 1) rfl)) (hw _ (List.mem_of_getElem? (i := 2) rfl)) (hw _ (List.mem_of_getElem? (i := 3) rfl)) (hw _ (List.mem_of_getElem? (i := 4) rfl)) (by decide) (W := 2) (by decide) (by decide) (by rw [hml]; rfl) (argsL := [(.long p5), (.int (4 : Int32))]) (rest := [(.int (12 : Int32)), (.ref b723)]) rfl (lenOf own_pd6 rfl) rfl (Nat.le_of_eq rfl) (hb hby at_296) e823 (by decide) (by decide) ?_
    intro v826 T826 L826 X826 hQ826
    obtain ⟨z826, hv826, hz826, N826q, e826⟩ := hQ826
    subst hv826
    have N826 := Fr.app N823 N826q
    show own_Go p.tables e below (T826.setTop (mkF m 299 #[.val (.int p1), .val (.int p2), .val (.int p3), .val (.long p4), .second, .val (.long p5), .second, .val (.int (p1 &&& (3 : Int32))), .val (.ref b723), .val (.int (p3 &&& (15 : Int32))), .unset, .unset, .unset] [(.int z826), (.int (12 : Int32)), (.ref b723)])) _
    refine own_castoreC X826 hx hby at_299 (pc' := 300) rfl hZ e826 (C823) (by decide) (by decide) ((own_narB hz826).symm ▸ hz826) ?_
    intro T827 h827 X827 e827 W827 C827
    have N827 := Fr.snoc X827 N826 l723
    have c828 := (c824.wr W827 (own_Ch.safe C823 (c824).1.alike))
    have c829 := (c825.wr W827 l723)
    refine own_aload X827 hx hby at_300 (pc' := 302) rfl rfl rfl ?_
    refine own_bipush X827 hx hby at_302 (pc' := 304) rfl (z := (13 : Int32)) (by decide) ?_
    refine own_lload X827 hx hby at_304 (pc' := 306) rfl rfl ?_
    refine own_iconst X827 hx hby at_306 (pc' := 307) rfl (z := (5 : Int32)) (by decide) ?_
    refine own_callS X827 hx hZ (rm_by l Z a0 hw [] p5 (5 : Int32) h827 n0) hown (hw _ (List.mem_of_getElem? (i := 1) rfl)) (hw _ (List.mem_of_getElem? (i := 2) rfl)) (hw _ (List.mem_of_getElem? (i := 3) rfl)) (hw _ (List.mem_of_getElem? (i := 4) rfl)) (by decide) (W := 2) (by decide) (by decide) (by rw [hml]; rfl) (argsL := [(.long p5), (.int (5 : Int32))]) (rest := [(.int (13 : Int32)), (.ref b723)]) rfl (lenOf own_pd6 rfl) rfl (Nat.le_of_eq rfl) (hb hby at_307) e827 (by decide) (by decide) ?_
    intro v830 T830 L830 X830 hQ830
    obtain ⟨z830, hv830, hz830, N830q, e830⟩ := hQ830
    subst hv830
    have N830 := Fr.app N827 N830q
    show own_Go p.tables e below (T830.setTop (mkF m 310 #[.val (.int p1), .val (.int p2), .val (.int p3), .val (.long p4), .second, .val (.long p5), .second, .val (.int (p1 &&& (3 : Int32))), .val (.ref b723), .val (.int (p3 &&& (15 : Int32))), .unset, .unset, .unset] [(.int z830), (.int (13 : Int32)), (.ref b723)])) _
    refine own_castoreC X830 hx hby at_310 (pc' := 311) rfl hZ e830 (C827) (by decide) (by decide) ((own_narB hz830).symm ▸ hz830) ?_
    intro T831 h831 X831 e831 W831 C831
    have N831 := Fr.snoc X831 N830 l723
    have c832 := (c828.wr W831 (own_Ch.safe C827 (c828).1.alike))
    have c833 := (c829.wr W831 l723)
    refine own_aload X831 hx hby at_311 (pc' := 313) rfl rfl rfl ?_
    refine own_bipush X831 hx hby at_313 (pc' := 315) rfl (z := (14 : Int32)) (by decide) ?_
    refine own_lload X831 hx hby at_315 (pc' := 317) rfl rfl ?_
    refine own_bipush X831 hx hby at_317 (pc' := 319) rfl (z := (6 : Int32)) (by decide) ?_
    refine own_callS X831 hx hZ (rm_by l Z a0 hw [] p5 (6 : Int32) h831 n0) hown (hw _ (List.mem_of_getElem? (i := 1) rfl)) (hw _ (List.mem_of_getElem? (i := 2) rfl)) (hw _ (List.mem_of_getElem? (i := 3) rfl)) (hw _ (List.mem_of_getElem? (i := 4) rfl)) (by decide) (W := 2) (by decide) (by decide) (by rw [hml]; rfl) (argsL := [(.long p5), (.int (6 : Int32))]) (rest := [(.int (14 : Int32)), (.ref b723)]) rfl (lenOf own_pd6 rfl) rfl (Nat.le_of_eq rfl) (hb hby at_319) e831 (by decide) (by decide) ?_
    intro v834 T834 L834 X834 hQ834
    obtain ⟨z834, hv834, hz834, N834q, e834⟩ := hQ834
    subst hv834
    have N834 := Fr.app N831 N834q
    show own_Go p.tables e below (T834.setTop (mkF m 322 #[.val (.int p1), .val (.int p2), .val (.int p3), .val (.long p4), .second, .val (.long p5), .second, .val (.int (p1 &&& (3 : Int32))), .val (.ref b723), .val (.int (p3 &&& (15 : Int32))), .unset, .unset, .unset] [(.int z834), (.int (14 : Int32)), (.ref b723)])) _
    refine own_castoreC X834 hx hby at_322 (pc' := 323) rfl hZ e834 (C831) (by decide) (by decide) ((own_narB hz834).symm ▸ hz834) ?_
    intro T835 h835 X835 e835 W835 C835
    have N835 := Fr.snoc X835 N834 l723
    have c836 := (c832.wr W835 (own_Ch.safe C831 (c832).1.alike))
    have c837 := (c833.wr W835 l723)
    refine own_aload X835 hx hby at_323 (pc' := 325) rfl rfl rfl ?_
    refine own_bipush X835 hx hby at_325 (pc' := 327) rfl (z := (15 : Int32)) (by decide) ?_
    refine own_lload X835 hx hby at_327 (pc' := 329) rfl rfl ?_
    refine own_bipush X835 hx hby at_329 (pc' := 331) rfl (z := (7 : Int32)) (by decide) ?_
    refine own_callS X835 hx hZ (rm_by l Z a0 hw [] p5 (7 : Int32) h835 n0) hown (hw _ (List.mem_of_getElem? (i := 1) rfl)) (hw _ (List.mem_of_getElem? (i := 2) rfl)) (hw _ (List.mem_of_getElem? (i := 3) rfl)) (hw _ (List.mem_of_getElem? (i := 4) rfl)) (by decide) (W := 2) (by decide) (by decide) (by rw [hml]; rfl) (argsL := [(.long p5), (.int (7 : Int32))]) (rest := [(.int (15 : Int32)), (.ref b723)]) rfl (lenOf own_pd6 rfl) rfl (Nat.le_of_eq rfl) (hb hby at_331) e835 (by decide) (by decide) ?_
    intro v838 T838 L838 X838 hQ838
    obtain ⟨z838, hv838, hz838, N838q, e838⟩ := hQ838
    subst hv838
    have N838 := Fr.app N835 N838q
    show own_Go p.tables e below (T838.setTop (mkF m 334 #[.val (.int p1), .val (.int p2), .val (.int p3), .val (.long p4), .second, .val (.long p5), .second, .val (.int (p1 &&& (3 : Int32))), .val (.ref b723), .val (.int (p3 &&& (15 : Int32))), .unset, .unset, .unset] [(.int z838), (.int (15 : Int32)), (.ref b723)])) _
    refine own_castoreC X838 hx hby at_334 (pc' := 335) rfl hZ e838 (C835) (by decide) (by decide) ((own_narB hz838).symm ▸ hz838) ?_
    intro T839 h839 X839 e839 W839 C839
    have N839 := Fr.snoc X839 N838 l723
    have c840 := (c836.wr W839 (own_Ch.safe C835 (c836).1.alike))
    have c841 := (c837.wr W839 l723)
    have hQ : ∀ h L, Fr n0 L → Qrm0 Z p1 p2 p3 p4 p5 aV kV r0 f0 gS h0 n0 (some (.int 1)) h L := fun h L k => ⟨rfl, k⟩
    exact tl_j hx hw hEL hby hml hret hlk (c840) (own_more X839 (by decide) (by decide)) e839 N839 hQ p1 p2 p3 p4 p5 (p1 &&& (3 : Int32)) b723 (p3 &&& (15 : Int32)) aV kV r0 f0 gS (c841) S_V A_V E_V FC hs F_0 T_f S_C S_S hS (C839) (own_n15 p3).1 (own_n15 p3).2
theorem own_neI {args : Array Value} {s first : State} {o : Option Outcome} {idx : List Nat} {a : Term} {x k : Int32} (ev : a.eval args first o idx s = some (.int x)) (q : (Jvm.Cond.not (.eq a (.int k))).value args first o s idx = some true) : ¬ x = k := by
  have h := not_v q
  simpa [Cond.value, Term.eval, ev] using h
theorem own_eqR {args : Array Value} {s first : State} {o : Option Outcome} {idx : List Nat} {a b : Term} {x : Addr} (q : (Jvm.Cond.eq a b).value args first o s idx = some true) (hb : b.eval args first o idx s = some (.ref x)) : a.eval args first o idx s = some (.ref x) := by
  simp only [Cond.value, hb] at q
  cases ht : a.eval args first o idx s with
  | none => simp [ht] at q
  | some y => cases y <;> simp [ht] at q ⊢ <;> exact q
theorem own_one {A : Array Value} {v : Value} (h1 : A.size < 2 ^ 31) (h2 : A.size.toInt32 = 1) (h0 : A[0]? = some v) : A.toList = [v] := by
  have k := len_toInt h1
  rw [h2] at k
  have : (1 : Int32).toInt = 1 := by decide
  have hs : A.size = 1 := by omega
  apply List.ext_getElem?
  intro i
  rw [Array.getElem?_toList]
  match i with
  | 0 => rw [h0]; rfl
  | i + 1 => rw [Array.getElem?_eq_none (by omega)]; rfl
set_option maxRecDepth 65536 in
set_option maxHeartbeats 40000000 in
theorem comes_1 {Post : Tables → Env → Array Value → State → Outcome → State → Prop} (hpost : ∀ tb e args s v u, (limb_1_1.after args s (.returned v) u = true ∧ limb_1_2.after args s (.returned v) u = true ∧ True) → ReturnedEndW s (.returned v) u (Jvm.fieldLocs frame_1_writes args s ++ Jvm.arrayLocs frame_1_arrays args s ++ Jvm.staticLocs frame_1_statics s) 24 2240 → Post tb e args s (.returned v) u) :
    ArmFor flags0 classFile x code maxLocals ret World_1 tables_1 room_1 Calls_1 rest_1 Pre_1 Post := by
  intro l hfl _ _ p e ha hc hk s m args below hf hA hF happ hP
  obtain ⟨hcalls, hrest, hpre⟩ := hP
  obtain ⟨-, -, -, hnamed, -, -, -, hat⟩ := (Spec.applies_iff hf).mp happ
  obtain ⟨hg, hn⟩ := and_e (Cond.before_iff.mp (show (Jvm.Cond.and given_1 narrow_1).before args s = true from hpre))
  obtain ⟨g842, g843⟩ := and_e hg
  obtain ⟨g844, g845⟩ := and_e g843
  obtain ⟨g846, g847⟩ := and_e g845
  obtain ⟨g848, g849⟩ := and_e g847
  obtain ⟨g850, g851⟩ := and_e g849
  obtain ⟨w0, w1, w2, w3, w4, rfl⟩ : ∃ w0 w1 w2 w3 w4 : Value, args = #[w0, w1, w2, w3, w4] := by
    have hs : args.size = 5 := by simpa [Cond.value, given_1] using g842
    obtain ⟨L⟩ := args
    match L, hs with
    | [w0, w1, w2, w3, w4], _ => exact ⟨w0, w1, w2, w3, w4, rfl⟩
  have hw := fun d (hd : d ∈ tables_1) => atoms_spec (ws := Jvm.Cond.code x code maxLocals ret :: tables_1) hat d (List.mem_cons_of_mem _ hd)
  have hfit : Fit s := fun {y c} hc i hi => by
    obtain ⟨ha, rfl⟩ := Array.getElem?_eq_some_iff.mp hc
    have q := List.all_eq_true.mp ((Array.all_eq_true_iff_forall_mem.mp hF) _ (Array.getElem_mem ha)) i (List.mem_range.mpr hi)
    simpa [Array.getElem?_eq_getElem hi] using q
  obtain ⟨hsets, hown0⟩ := atoms_of _ (rest_1_c_eq ▸ (show rest_1_c.before _ s = true from hrest))
  have hr0 := Cond.before_iff.mp hown0
  obtain ⟨i0, ei0⟩ := is_v g844
  obtain rfl : w0 = (.int i0) := Option.some.inj ei0
  obtain ⟨i1, ei1⟩ := is_v g846
  obtain rfl : w1 = (.int i1) := Option.some.inj ei1
  obtain ⟨i2, ei2⟩ := is_v g848
  obtain rfl : w2 = (.int i2) := Option.some.inj ei2
  obtain ⟨i3, ei3⟩ := isL_v g850
  obtain rfl : w3 = (.long i3) := Option.some.inj ei3
  obtain ⟨i4, ei4⟩ := isL_v g851
  obtain rfl : w4 = (.long i4) := Option.some.inj ei4
  obtain ⟨n852, n853⟩ := and_e hn
  obtain ⟨n854, n855⟩ := and_e n853
  obtain ⟨n856, n857⟩ := and_e n855
  obtain ⟨n858, n859⟩ := and_e n857
  obtain ⟨n860, n861⟩ := and_e n859
  obtain ⟨n862, n863⟩ := and_e n861
  obtain ⟨n864, n865⟩ := and_e n863
  obtain ⟨n866, n867⟩ := and_e n865
  obtain ⟨n868, n869⟩ := and_e n867
  obtain ⟨n870, n871⟩ := and_e n869
  obtain ⟨n872, n873⟩ := and_e n871
  obtain ⟨n874, n875⟩ := and_e n873
  obtain ⟨n876, n877⟩ := and_e n875
  obtain ⟨n878, n879⟩ := and_e n877
  obtain ⟨n880, n881⟩ := and_e n879
  obtain ⟨n882, n883⟩ := and_e n881
  obtain ⟨n884, n885⟩ := and_e n883
  obtain ⟨n886, n887⟩ := and_e n885
  obtain ⟨n888, n889⟩ := and_e n887
  obtain ⟨n890, n891⟩ := and_e n889
  obtain ⟨n892, n893⟩ := and_e n891
  obtain ⟨n894, n895⟩ := and_e n893
  obtain ⟨a__VALUES, ev__VALUES⟩ := exa_v n854
  have S__VALUES : Sta s s.heap "com/example/tranchebook/tranchebook/model/Fee" "$VALUES" "[Lcom/example/tranchebook/tranchebook/model/Fee;" (.ref a__VALUES) := Sta.start ev__VALUES (Or.inr ⟨(hw _ (List.mem_of_getElem? (i := 8) rfl)), (hw _ (List.mem_of_getElem? (i := 14) rfl))⟩)
  have E__VALUES : Exa s s.heap a__VALUES "[Lcom/example/tranchebook/tranchebook/model/Fee;" := Exa.start ev__VALUES n854
  obtain ⟨gS, ev_S⟩ := is_v (Cond.before_iff.mp (hsets _ (List.mem_of_getElem? (i := 1) rfl)))
  have S_S : Sta s s.heap "java/lang/String" "COMPACT_STRINGS" "Z" (.int gS) := Sta.start ev_S (Or.inl (hsets _ (List.mem_of_getElem? (i := 0) rfl)))
  have hS : ¬ gS = 0 := own_neI ev_S (Cond.before_iff.mp (hsets _ (List.mem_of_getElem? (i := 2) rfl)))
  obtain ⟨kV, A_V⟩ := Arr.start ev__VALUES n852
  obtain ⟨hz1, hz2⟩ := own_lenN ev__VALUES A_V (own_eqI n856)
  obtain ⟨r0, ev_r⟩ := exa_v n858
  have q_r := (elem_in ev_r ev__VALUES rfl A_V.1).2
  have hs := own_one hz1 hz2 q_r
  have ev_c := own_eqR n868 ev_r
  have S_C : Sta s s.heap "com/example/tranchebook/tranchebook/model/Fee" "COMMITMENT" "Lcom/example/tranchebook/tranchebook/model/Fee;" (.ref r0) := Sta.start ev_c (Or.inr ⟨(hw _ (List.mem_of_getElem? (i := 8) rfl)), (hw _ (List.mem_of_getElem? (i := 74) rfl))⟩)
  obtain ⟨f0, ev_f⟩ := exa_v n860
  have F_0 : Fld s s.heap r0 "com/example/tranchebook/tranchebook/model/Fee" "rateName" "Ljava/lang/String;" (.ref f0) := Fld.start ((fld_at ev_r).symm.trans ev_f)
  obtain ⟨b0, ev_b⟩ := arr_v n864
  obtain ⟨kb, A_b⟩ := Arr.start ev_b n864
  have u0 : kb.slots[0]? = some (.int 67) := (elem_in (own_eqI n870) ev_b rfl A_b.1).2
  have u1 : kb.slots[1]? = some (.int 79) := (elem_in (own_eqI n872) ev_b rfl A_b.1).2
  have u2 : kb.slots[2]? = some (.int 77) := (elem_in (own_eqI n874) ev_b rfl A_b.1).2
  have u3 : kb.slots[3]? = some (.int 77) := (elem_in (own_eqI n876) ev_b rfl A_b.1).2
  have u4 : kb.slots[4]? = some (.int 73) := (elem_in (own_eqI n878) ev_b rfl A_b.1).2
  have u5 : kb.slots[5]? = some (.int 84) := (elem_in (own_eqI n880) ev_b rfl A_b.1).2
  have u6 : kb.slots[6]? = some (.int 77) := (elem_in (own_eqI n882) ev_b rfl A_b.1).2
  have u7 : kb.slots[7]? = some (.int 69) := (elem_in (own_eqI n884) ev_b rfl A_b.1).2
  have u8 : kb.slots[8]? = some (.int 78) := (elem_in (own_eqI n886) ev_b rfl A_b.1).2
  have u9 : kb.slots[9]? = some (.int 84) := (elem_in (own_eqI n888) ev_b rfl A_b.1).2
  have u10 : kb.slots[10]? = some (.int 95) := (elem_in (own_eqI n890) ev_b rfl A_b.1).2
  have u11 : kb.slots[11]? = some (.int 70) := (elem_in (own_eqI n892) ev_b rfl A_b.1).2
  have u12 : kb.slots[12]? = some (.int 69) := (elem_in (own_eqI n894) ev_b rfl A_b.1).2
  have u13 : kb.slots[13]? = some (.int 69) := (elem_in (own_eqI n895) ev_b rfl A_b.1).2
  have T_f : own_Str s s.heap s.heap.size f0 own_CF := own_Str.start hfit (vs := [(.int 67), (.int 79), (.int 77), (.int 77), (.int 73), (.int 84), (.int 77), (.int 69), (.int 78), (.int 84), (.int 95), (.int 70), (.int 69), (.int 69)]) ev_f n860 (own_eqI n862) ev_b A_b (own_eqI n866) ⟨u0, u1, u2, u3, u4, u5, u6, u7, u8, u9, u10, u11, u12, u13, trivial⟩ own_CF (by decide) (by decide) (by decide) (by decide) (by decide) (by first | rfl | decide +kernel)
  have hEL : EW s _ own_EL := EW.cons (hw _ (List.mem_of_getElem? (i := 33) rfl)) (by decide) (EW.cons (hw _ (List.mem_of_getElem? (i := 75) rfl)) (by decide) EW.nil)
  have hCH : CHv s own_EL s.vm s.heap := CHv.start hEL (fun q hq => hcalls.1 q hq) (hsets _ (List.mem_of_getElem? (i := 2) rfl)) (hw _ (List.mem_of_getElem? (i := 35) rfl)) (hw _ (List.mem_of_getElem? (i := 34) rfl))
  obtain ⟨n, o, h1, h2, h3, _, L, rfl, ⟨rfl, N⟩, -, hq⟩ := rm0 l s _ hw tables_1 i0 i1 i2 i3 i4 a__VALUES kV r0 f0 gS s.heap s.heap.size hEL (Old.start s) S__VALUES A_V E__VALUES (FitC.start hfit A_V) hs F_0 T_f S_C S_S hS p e ha hc hk s m _ below hf ((Spec.applies_iff_loose hf).mp happ).1 ⟨rfl, State.Warmed39.refl s, rfl, hCH⟩ trivial
  refine ⟨n, _, h1, h2, h3, hpost _ _ _ _ _ _ ⟨Cond.after_iff.mpr rfl, Cond.after_iff.mpr (eq_i res_at (Term.int_eval (1)) rfl), trivial⟩ ⟨hq.1, hq.2.1, hq.2.2.1, (hq.2.2.2.sift fun y hy => Or.inr (N y hy)).mono (by decide) (by decide)⟩⟩
theorem main_1_1 : Claimed_1_1 := comes_1 fun _ _ _ _ _ _ h hF => ⟨h.1, hF⟩
theorem main_1_2 : Claimed_1_2 := comes_1 fun _ _ _ _ _ _ h hF => ⟨h.2.1, hF⟩
end Jvm.Pilot.@@N@@
namespace Jvm.Pilot.@@N@@
open Jvm Jvm.ClassFile Sem Op Lib Jvm.Free Jvm.Stand Jvm.Pilot.@@N@@.Jvm.D
/-! MADE BY PROGRAM (witnessworld.py) out of the Statement's table words and the real class files: 23 classes; the members and pool entries that the words name. The judged class is class 1, her method 3. -/
namespace start1
open Jvm.ClassFile
def u (s : String) : CpInfo := .utf8 (stringToUtf16 s)
/-- a pool by its gaps: so many unusable entries, then the entry; so many at the end -/
def gap : Nat → List CpInfo → List CpInfo
  | 0, r => r
  | n + 1, r => .unusable :: gap n r
def poolList (es : List (Nat × CpInfo)) (last : Nat) : List CpInfo := es.foldr (fun e r => gap e.1 (e.2 :: r)) (gap last [])
def pool (es : List (Nat × CpInfo)) (last : Nat) : Array CpInfo := ⟨poolList es last⟩
def fileOf (pool : Array CpInfo) (this : Nat) (attrs : Array Attribute := #[]) (ms : Array MethodInfo := #[]) (fl : Nat := 33) (sup : Nat := 0) (ifs : Array Nat := #[]) (fds : Array FieldInfo := #[]) : ClassFile where
  minorVersion := 0
  majorVersion := 65
  constantPool := pool
  accessFlags := fl
  thisClass := this
  superClass := sup
  interfaces := ifs
  fields := fds
  methods := ms
  attributes := attrs
def plain (name : String) (sup : Option ClassId) : Class where
  name := name
  kind := .ordinary
  loader := none
  accessFlags := 33
  super := sup
  interfaces := #[]
  cf := none
  fields := #[]
  methods := #[]
  instanceTypes := #[]
  staticTypes := #[]
  resolved := #[]
  callSites := []
  init := .initialized
  statics := none
  mirror := none

def pool0 : Array CpInfo := pool [(5, u "<init>"), (0, u "()V"), (1, .class_ 10), (1, u "java/lang/Object"), (85, u "clone"), (0, u "()Ljava/lang/Object;")] 26

def k0c0 : Code := { maxStack := 0, maxLocals := 1, code := object_method_1_code, exceptionTable := #[], attributes := #[] }
def k0m0 : Method := { name := "<init>", desc := "()V", sig := { parameters := [], returnType := none }, accessFlags := 1, code := some k0c0 }
def k0m1 : Method := { name := "clone", desc := "()Ljava/lang/Object;", sig := { parameters := [], returnType := some (.object "java/lang/Object") }, accessFlags := 260, code := none }
/-- java/lang/Object -/
def k0 : Class := { plain "java/lang/Object" none with
  accessFlags := 33
  interfaces := #[]
  cf := some (fileOf pool0 8 #[] #[{ accessFlags := 1, nameIndex := 5, descriptorIndex := 6, attributes := #[] }, { accessFlags := 260, nameIndex := 96, descriptorIndex := 97, attributes := #[] }] 33 0 #[] #[])
  fields := #[]
  methods := #[k0m0, k0m1]
  instanceTypes := #[]
  staticTypes := #[]
  resolved := Array.replicate 124 none
  statics := none }

def pool1 : Array CpInfo := pool [(2, .class_ 4), (1, u "java/lang/Object"), (0, u "<init>"), (0, u "()V"), (0, .long 255), (1, .class_ 10), (0, u "java/lang/String"), (0, .methodref 9 12), (0, .nameAndType 5 13), (0, u "([C)V"), (0, .methodref 15 16), (0, .class_ 17), (0, .nameAndType 18 19), (0, u "com/example/tranchebook/tranchebook/model/FeeByRateNamePinLaw"), (0, u "byteAt"), (0, u "(JI)C"), (0, .methodref 15 21), (0, .nameAndType 22 23), (0, u "prefix"), (0, u "([CI)Ljava/lang/String;"), (0, .methodref 25 26), (0, .class_ 27), (0, .nameAndType 28 29), (0, u "com/example/tranchebook/tranchebook/model/Fee"), (0, u "byRateName"), (0, u "(Ljava/lang/String;)Lcom/example/tranchebook/tranchebook/model/Fee;"), (0, .string 31), (0, u "COMMITMENT_FEE"), (0, .methodref 9 33), (0, .nameAndType 34 35), (0, u "equals"), (0, u "(Ljava/lang/Object;)Z"), (0, .fieldref 25 37), (0, .nameAndType 38 39), (0, u "COMMITMENT"), (0, u "Lcom/example/tranchebook/tranchebook/model/Fee;"), (5, u "law"), (0, u "(IIIJJ)Z")] 2

def k1m0 : Method := { name := "<init>", desc := "()V", sig := { parameters := [], returnType := none }, accessFlags := 1, code := none }
def k1c1 : Code := { maxStack := 4, maxLocals := 3, code := method_2_code, exceptionTable := #[], attributes := #[] }
def k1m1 : Method := { name := "byteAt", desc := "(JI)C", sig := { parameters := [.long, .int], returnType := some .char }, accessFlags := 10, code := some k1c1 }
def k1c2 : Code := { maxStack := 4, maxLocals := 3, code := method_3_code, exceptionTable := #[], attributes := #[] }
def k1m2 : Method := { name := "prefix", desc := "([CI)Ljava/lang/String;", sig := { parameters := [(.array .char), .int], returnType := some (.object "java/lang/String") }, accessFlags := 10, code := some k1c2 }
def k1c3 : Code := { maxStack := 5, maxLocals := 13, code := code, exceptionTable := #[], attributes := #[] }
def k1m3 : Method := { name := "law", desc := "(IIIJJ)Z", sig := { parameters := [.int, .int, .int, .long, .long], returnType := some .boolean }, accessFlags := 9, code := some k1c3 }
/-- com/example/tranchebook/tranchebook/model/FeeByRateNamePinLaw -/
def k1 : Class := { plain "com/example/tranchebook/tranchebook/model/FeeByRateNamePinLaw" (some 0) with
  accessFlags := 49
  interfaces := #[]
  cf := some (fileOf pool1 15 #[] #[{ accessFlags := 1, nameIndex := 5, descriptorIndex := 6, attributes := #[] }, { accessFlags := 10, nameIndex := 18, descriptorIndex := 19, attributes := #[] }, { accessFlags := 10, nameIndex := 22, descriptorIndex := 23, attributes := #[] }, { accessFlags := 9, nameIndex := 45, descriptorIndex := 46, attributes := #[] }] 49 2 #[] #[])
  fields := #[]
  methods := #[k1m0, k1m1, k1m2, k1m3]
  instanceTypes := #[]
  staticTypes := #[]
  resolved := Array.replicate 49 none
  statics := none }

def pool2 : Array CpInfo := pool [(1, .class_ 2), (0, u "java/lang/constant/Constable"), (0, .class_ 4), (0, u "java/lang/Object")] 6

/-- java/lang/constant/Constable -/
def k2 : Class := { plain "java/lang/constant/Constable" (some 0) with
  accessFlags := 1537
  interfaces := #[]
  cf := some (fileOf pool2 1 #[] #[] 1537 3 #[] #[])
  fields := #[]
  methods := #[]
  instanceTypes := #[]
  staticTypes := #[]
  resolved := Array.replicate 11 none
  statics := none }

def pool3 : Array CpInfo := pool [(1, .class_ 2), (0, u "java/lang/Comparable"), (0, .class_ 4), (0, u "java/lang/Object")] 7

/-- java/lang/Comparable -/
def k3 : Class := { plain "java/lang/Comparable" (some 0) with
  accessFlags := 1537
  interfaces := #[]
  cf := some (fileOf pool3 1 #[] #[] 1537 3 #[] #[])
  fields := #[]
  methods := #[]
  instanceTypes := #[]
  staticTypes := #[]
  resolved := Array.replicate 12 none
  statics := none }

def pool4 : Array CpInfo := pool [(1, .class_ 2), (0, u "java/io/Serializable"), (0, .class_ 4), (0, u "java/lang/Object")] 2

/-- java/io/Serializable -/
def k4 : Class := { plain "java/io/Serializable" (some 0) with
  accessFlags := 1537
  interfaces := #[]
  cf := some (fileOf pool4 1 #[] #[] 1537 3 #[] #[])
  fields := #[]
  methods := #[]
  instanceTypes := #[]
  staticTypes := #[]
  resolved := Array.replicate 7 none
  statics := none }

def pool5 : Array CpInfo := pool [(2, .class_ 4), (1, u "java/lang/Enum"), (0, u "name"), (0, u "Ljava/lang/String;"), (2, u "ordinal"), (0, u "I"), (1, .class_ 14), (1, u "java/lang/Object"), (4, u "hash"), (86, .class_ 108), (1, u "java/lang/Enum$EnumDesc"), (2, .class_ 112), (0, u "java/lang/constant/Constable"), (0, .class_ 114), (0, u "java/lang/Comparable"), (0, .class_ 116), (0, u "java/io/Serializable")] 87

/-- java/lang/Enum -/
def k5 : Class := { plain "java/lang/Enum" (some 0) with
  accessFlags := 1057
  interfaces := #[2, 3, 4]
  cf := some (fileOf pool5 2 #[.nestMembers #[106]] #[] 1057 12 #[111, 113, 115] #[{ accessFlags := 18, nameIndex := 5, descriptorIndex := 6, attributes := #[] }, { accessFlags := 18, nameIndex := 9, descriptorIndex := 10, attributes := #[] }, { accessFlags := 2, nameIndex := 19, descriptorIndex := 10, attributes := #[] }])
  fields := #[{ name := "name", type := (.object "java/lang/String"), accessFlags := 18, slot := 0, constantValue := 0 }, { name := "ordinal", type := .int, accessFlags := 18, slot := 1, constantValue := 0 }, { name := "hash", type := .int, accessFlags := 2, slot := 2, constantValue := 0 }]
  methods := #[]
  instanceTypes := #[(.object "java/lang/String"), .int, .int]
  staticTypes := #[]
  resolved := Array.replicate 204 none
  statics := none }

def pool6 : Array CpInfo := pool [(1, .class_ 2), (0, u "com/example/tranchebook/tranchebook/model/Fee"), (2, u "COMMITMENT"), (0, u "Lcom/example/tranchebook/tranchebook/model/Fee;"), (0, .fieldref 1 8), (0, .nameAndType 9 10), (0, u "$VALUES"), (0, u "[Lcom/example/tranchebook/tranchebook/model/Fee;"), (0, .methodref 12 13), (0, .class_ 10), (0, .nameAndType 14 15), (0, u "clone"), (0, u "()Ljava/lang/Object;"), (1, .class_ 19), (1, u "java/lang/Enum"), (8, u "field"), (0, u "Ljava/lang/String;"), (0, .fieldref 1 31), (0, .nameAndType 32 29), (0, u "rateName"), (2, u "label"), (2, u "item"), (0, u "Lcom/example/tranchebook/tranchebook/model/Due$Item;"), (2, u "notOnTermFacility"), (0, .methodref 1 44), (0, .nameAndType 45 46), (0, u "values"), (0, u "()[Lcom/example/tranchebook/tranchebook/model/Fee;"), (0, .methodref 48 49), (0, .class_ 50), (0, .nameAndType 51 52), (0, u "java/lang/String"), (0, u "equals"), (0, u "(Ljava/lang/Object;)Z"), (0, .class_ 54), (0, u "com/example/tranchebook/tranchebook/model/Fee$1"), (21, u "(Ljava/lang/String;)Lcom/example/tranchebook/tranchebook/model/Fee;"), (3, u "byRateName")] 16

def k6c0 : Code := { maxStack := 1, maxLocals := 0, code := prog_51_method_1_code, exceptionTable := #[], attributes := #[] }
def k6m0 : Method := { name := "values", desc := "()[Lcom/example/tranchebook/tranchebook/model/Fee;", sig := { parameters := [], returnType := some (.array (.object "com/example/tranchebook/tranchebook/model/Fee")) }, accessFlags := 9, code := some k6c0 }
def k6c1 : Code := { maxStack := 2, maxLocals := 6, code := prog_51_method_4_code, exceptionTable := #[], attributes := #[] }
def k6m1 : Method := { name := "byRateName", desc := "(Ljava/lang/String;)Lcom/example/tranchebook/tranchebook/model/Fee;", sig := { parameters := [(.object "java/lang/String")], returnType := some (.object "com/example/tranchebook/tranchebook/model/Fee") }, accessFlags := 9, code := some k6c1 }
/-- com/example/tranchebook/tranchebook/model/Fee -/
def k6 : Class := { plain "com/example/tranchebook/tranchebook/model/Fee" (some 5) with
  accessFlags := 17441
  interfaces := #[]
  cf := some (fileOf pool6 1 #[.nestMembers #[53]] #[{ accessFlags := 9, nameIndex := 45, descriptorIndex := 46, attributes := #[] }, { accessFlags := 9, nameIndex := 80, descriptorIndex := 76, attributes := #[] }] 17441 17 #[] #[{ accessFlags := 16409, nameIndex := 5, descriptorIndex := 6, attributes := #[] }, { accessFlags := 18, nameIndex := 28, descriptorIndex := 29, attributes := #[] }, { accessFlags := 18, nameIndex := 32, descriptorIndex := 29, attributes := #[] }, { accessFlags := 18, nameIndex := 35, descriptorIndex := 29, attributes := #[] }, { accessFlags := 18, nameIndex := 38, descriptorIndex := 39, attributes := #[] }, { accessFlags := 18, nameIndex := 42, descriptorIndex := 29, attributes := #[] }, { accessFlags := 4122, nameIndex := 9, descriptorIndex := 10, attributes := #[] }])
  fields := #[{ name := "COMMITMENT", type := (.object "com/example/tranchebook/tranchebook/model/Fee"), accessFlags := 16409, slot := 0, constantValue := 0 }, { name := "field", type := (.object "java/lang/String"), accessFlags := 18, slot := 3, constantValue := 0 }, { name := "rateName", type := (.object "java/lang/String"), accessFlags := 18, slot := 4, constantValue := 0 }, { name := "label", type := (.object "java/lang/String"), accessFlags := 18, slot := 5, constantValue := 0 }, { name := "item", type := (.object "com/example/tranchebook/tranchebook/model/Due$Item"), accessFlags := 18, slot := 6, constantValue := 0 }, { name := "notOnTermFacility", type := (.object "java/lang/String"), accessFlags := 18, slot := 7, constantValue := 0 }, { name := "$VALUES", type := (.array (.object "com/example/tranchebook/tranchebook/model/Fee")), accessFlags := 4122, slot := 1, constantValue := 0 }]
  methods := #[k6m0, k6m1]
  instanceTypes := #[(.object "java/lang/String"), .int, .int, (.object "java/lang/String"), (.object "java/lang/String"), (.object "java/lang/String"), (.object "com/example/tranchebook/tranchebook/model/Due$Item"), (.object "java/lang/String")]
  staticTypes := #[(.object "com/example/tranchebook/tranchebook/model/Fee"), (.array (.object "com/example/tranchebook/tranchebook/model/Fee"))]
  resolved := Array.replicate 97 none
  statics := some 0 }

def pool7 : Array CpInfo := pool [(1, .class_ 2), (0, u "java/lang/Cloneable"), (0, .class_ 4), (0, u "java/lang/Object")] 2

/-- java/lang/Cloneable -/
def k7 : Class := { plain "java/lang/Cloneable" (some 0) with
  accessFlags := 1537
  interfaces := #[]
  cf := some (fileOf pool7 1 #[] #[] 1537 3 #[] #[])
  fields := #[]
  methods := #[]
  instanceTypes := #[]
  staticTypes := #[]
  resolved := Array.replicate 7 none
  statics := none }

def pool8 : Array CpInfo := pool [(2, .class_ 4), (1, u "com/example/tranchebook/tranchebook/model/Fee"), (8, .class_ 14), (0, u "com/example/tranchebook/tranchebook/model/Fee$1")] 15

/-- com/example/tranchebook/tranchebook/model/Fee$1 -/
def k8 : Class := { plain "com/example/tranchebook/tranchebook/model/Fee$1" (some 6) with
  accessFlags := 16432
  interfaces := #[]
  cf := some (fileOf pool8 13 #[.nestHost 2] #[] 16432 2 #[] #[])
  fields := #[]
  methods := #[]
  instanceTypes := #[(.object "java/lang/String"), .int, .int, (.object "java/lang/String"), (.object "java/lang/String"), (.object "java/lang/String"), (.object "com/example/tranchebook/tranchebook/model/Due$Item"), (.object "java/lang/String")]
  staticTypes := #[]
  resolved := Array.replicate 30 none
  statics := none }

def pool9 : Array CpInfo := pool [(2, .class_ 4), (1, u "java/lang/CharSequence"), (42, .class_ 48), (0, u "java/lang/CharSequence$1CodePointIterator"), (10, .class_ 60), (0, u "java/lang/CharSequence$1CharIterator"), (5, .class_ 67), (0, u "java/lang/Object")] 63

/-- java/lang/CharSequence -/
def k9 : Class := { plain "java/lang/CharSequence" (some 0) with
  accessFlags := 1537
  interfaces := #[]
  cf := some (fileOf pool9 2 #[.nestMembers #[47, 59]] #[] 1537 66 #[] #[])
  fields := #[]
  methods := #[]
  instanceTypes := #[]
  staticTypes := #[]
  resolved := Array.replicate 131 none
  statics := none }

def pool10 : Array CpInfo := pool [(1, .class_ 2), (0, u "java/lang/constant/ConstantDesc"), (0, .class_ 4), (0, u "java/lang/Object")] 32

/-- java/lang/constant/ConstantDesc -/
def k10 : Class := { plain "java/lang/constant/ConstantDesc" (some 0) with
  accessFlags := 1537
  interfaces := #[]
  cf := some (fileOf pool10 1 #[] #[] 1537 3 #[] #[])
  fields := #[]
  methods := #[]
  instanceTypes := #[]
  staticTypes := #[]
  resolved := Array.replicate 37 none
  statics := none }

def pool11 : Array CpInfo := pool [(1, .methodref 2 3), (0, .class_ 4), (0, .nameAndType 5 6), (0, u "java/lang/Object"), (0, u "<init>"), (0, u "()V"), (0, .string 8), (0, u ""), (0, .fieldref 10 11), (0, .class_ 12), (0, .nameAndType 13 14), (0, u "java/lang/String"), (0, u "value"), (0, u "[B"), (0, .fieldref 10 16), (0, .nameAndType 17 18), (0, u "coder"), (0, u "B"), (2, u "hash"), (0, u "I"), (2, u "hashIsZero"), (0, u "Z"), (0, .methodref 10 28), (0, .nameAndType 5 29), (0, u "([CIILjava/lang/Void;)V"), (8, .fieldref 10 39), (0, .nameAndType 40 26), (0, u "COMPACT_STRINGS"), (1, .class_ 44), (1, u "java/lang/StringUTF16"), (0, u "compress"), (1, .methodref 42 48), (0, .nameAndType 49 50), (0, u "coderFromArrayLen"), (0, u "([BI)B"), (56, .class_ 109), (1, u "java/lang/StringLatin1"), (67, .methodref 42 178), (0, .nameAndType 45 179), (0, u "([CII)[B"), (361, .methodref 107 542), (0, .nameAndType 543 544), (0, u "equals"), (0, u "([B[B)Z"), (28, u "(Ljava/lang/Object;)Z"), (1, .class_ 576), (0, u "java/lang/CharSequence"), (22, u "CASE_INSENSITIVE_ORDER"), (0, u "Ljava/util/Comparator;"), (409, u "([C)V"), (90, u "serialPersistentFields"), (0, u "[Ljava/io/ObjectStreamField;"), (0, .class_ 1104), (0, u "java/lang/String$CaseInsensitiveComparator"), (1, .class_ 1107), (0, u "java/io/Serializable"), (0, .class_ 1109), (0, u "java/lang/Comparable"), (0, .class_ 1111), (0, u "java/lang/constant/Constable"), (0, .class_ 1113), (0, u "java/lang/constant/ConstantDesc"), (2, u "serialVersionUID"), (0, u "J"), (3, u "REPL"), (0, u "C"), (2, u "LATIN1"), (1, u "UTF16")] 323

def k11m0 : Method := { name := "<init>", desc := "()V", sig := { parameters := [], returnType := none }, accessFlags := 1, code := none }
def k11c1 : Code := { maxStack := 5, maxLocals := 2, code := jdk_42_method_3_code, exceptionTable := #[], attributes := #[] }
def k11m1 : Method := { name := "<init>", desc := "([C)V", sig := { parameters := [(.array .char)], returnType := none }, accessFlags := 1, code := some k11c1 }
def k11c2 : Code := { maxStack := 2, maxLocals := 3, code := jdk_42_method_66_code, exceptionTable := #[], attributes := #[] }
def k11m2 : Method := { name := "equals", desc := "(Ljava/lang/Object;)Z", sig := { parameters := [(.object "java/lang/Object")], returnType := some .boolean }, accessFlags := 1, code := some k11c2 }
def k11c3 : Code := { maxStack := 4, maxLocals := 6, code := jdk_42_method_149_code, exceptionTable := #[], attributes := #[] }
def k11m3 : Method := { name := "<init>", desc := "([CIILjava/lang/Void;)V", sig := { parameters := [(.array .char), .int, .int, (.object "java/lang/Void")], returnType := none }, accessFlags := 2, code := some k11c3 }
/-- java/lang/String -/
def k11 : Class := { plain "java/lang/String" (some 0) with
  accessFlags := 49
  interfaces := #[4, 3, 9, 2, 10]
  cf := some (fileOf pool11 10 #[.nestMembers #[1103]] #[{ accessFlags := 1, nameIndex := 5, descriptorIndex := 6, attributes := #[] }, { accessFlags := 1, nameIndex := 5, descriptorIndex := 1010, attributes := #[] }, { accessFlags := 1, nameIndex := 543, descriptorIndex := 573, attributes := #[] }, { accessFlags := 2, nameIndex := 5, descriptorIndex := 29, attributes := #[] }] 49 2 #[1106, 1108, 575, 1110, 1112] #[{ accessFlags := 18, nameIndex := 13, descriptorIndex := 14, attributes := #[] }, { accessFlags := 18, nameIndex := 17, descriptorIndex := 18, attributes := #[] }, { accessFlags := 2, nameIndex := 21, descriptorIndex := 22, attributes := #[] }, { accessFlags := 2, nameIndex := 25, descriptorIndex := 26, attributes := #[] }, { accessFlags := 26, nameIndex := 1116, descriptorIndex := 1117, attributes := #[] }, { accessFlags := 24, nameIndex := 40, descriptorIndex := 26, attributes := #[] }, { accessFlags := 26, nameIndex := 1101, descriptorIndex := 1102, attributes := #[] }, { accessFlags := 26, nameIndex := 1121, descriptorIndex := 1122, attributes := #[] }, { accessFlags := 25, nameIndex := 599, descriptorIndex := 600, attributes := #[] }, { accessFlags := 24, nameIndex := 1125, descriptorIndex := 18, attributes := #[] }, { accessFlags := 24, nameIndex := 1127, descriptorIndex := 18, attributes := #[] }])
  fields := #[{ name := "value", type := (.array .byte), accessFlags := 18, slot := 0, constantValue := 0 }, { name := "coder", type := .byte, accessFlags := 18, slot := 1, constantValue := 0 }, { name := "hash", type := .int, accessFlags := 2, slot := 2, constantValue := 0 }, { name := "hashIsZero", type := .boolean, accessFlags := 2, slot := 3, constantValue := 0 }, { name := "serialVersionUID", type := .long, accessFlags := 26, slot := 0, constantValue := 0 }, { name := "COMPACT_STRINGS", type := .boolean, accessFlags := 24, slot := 1, constantValue := 0 }, { name := "serialPersistentFields", type := (.array (.object "java/io/ObjectStreamField")), accessFlags := 26, slot := 2, constantValue := 0 }, { name := "REPL", type := .char, accessFlags := 26, slot := 3, constantValue := 0 }, { name := "CASE_INSENSITIVE_ORDER", type := (.object "java/util/Comparator"), accessFlags := 25, slot := 4, constantValue := 0 }, { name := "LATIN1", type := .byte, accessFlags := 24, slot := 5, constantValue := 0 }, { name := "UTF16", type := .byte, accessFlags := 24, slot := 6, constantValue := 0 }]
  methods := #[k11m0, k11m1, k11m2, k11m3]
  instanceTypes := #[(.array .byte), .byte, .int, .boolean]
  staticTypes := #[.long, .boolean, (.array (.object "java/io/ObjectStreamField")), .char, (.object "java/util/Comparator"), .byte, .byte]
  resolved := Array.replicate 1451 none
  statics := some 1 }

def pool12 : Array CpInfo := pool [(6, .class_ 8), (1, u "java/lang/Object"), (0, u "<init>"), (0, u "()V"), (1, .class_ 14), (1, u "java/lang/StringUTF16"), (31, u "$assertionsDisabled"), (0, u "Z"), (13, u "HI_BYTE_SHIFT"), (0, u "I"), (2, u "LO_BYTE_SHIFT"), (49, .methodref 12 116), (0, .nameAndType 117 118), (0, u "compress"), (0, u "([CI[BII)I"), (3, u "([CII)[B"), (138, u "coderFromArrayLen"), (0, u "([BI)B"), (106, .class_ 371), (1, u "java/lang/StringUTF16$LinesSpliterator"), (58, u "MAX_LENGTH"), (196, .class_ 628), (0, u "java/lang/StringUTF16$CodePointsSpliterator"), (0, .class_ 630), (0, u "java/lang/StringUTF16$CharsSpliterator")] 4

def k12m0 : Method := { name := "<init>", desc := "()V", sig := { parameters := [], returnType := none }, accessFlags := 0, code := none }
def k12c1 : Code := { maxStack := 2, maxLocals := 2, code := jdk_52_method_15_code, exceptionTable := #[], attributes := #[] }
def k12m1 : Method := { name := "coderFromArrayLen", desc := "([BI)B", sig := { parameters := [(.array .byte), .int], returnType := some .byte }, accessFlags := 8, code := some k12c1 }
def k12c2 : Code := { maxStack := 5, maxLocals := 6, code := jdk_52_method_16_code, exceptionTable := #[], attributes := #[] }
def k12m2 : Method := { name := "compress", desc := "([CII)[B", sig := { parameters := [(.array .char), .int, .int], returnType := some (.array .byte) }, accessFlags := 9, code := some k12c2 }
def k12c3 : Code := { maxStack := 3, maxLocals := 7, code := jdk_52_method_21_code, exceptionTable := #[], attributes := #[] }
def k12m3 : Method := { name := "compress", desc := "([CI[BII)I", sig := { parameters := [(.array .char), .int, (.array .byte), .int, .int], returnType := some .int }, accessFlags := 9, code := some k12c3 }
/-- java/lang/StringUTF16 -/
def k12 : Class := { plain "java/lang/StringUTF16" (some 0) with
  accessFlags := 48
  interfaces := #[]
  cf := some (fileOf pool12 12 #[.nestMembers #[627, 629, 369]] #[{ accessFlags := 0, nameIndex := 9, descriptorIndex := 10, attributes := #[] }, { accessFlags := 8, nameIndex := 261, descriptorIndex := 262, attributes := #[] }, { accessFlags := 9, nameIndex := 117, descriptorIndex := 122, attributes := #[] }, { accessFlags := 9, nameIndex := 117, descriptorIndex := 118, attributes := #[] }] 48 6 #[] #[{ accessFlags := 26, nameIndex := 61, descriptorIndex := 62, attributes := #[] }, { accessFlags := 26, nameIndex := 65, descriptorIndex := 62, attributes := #[] }, { accessFlags := 24, nameIndex := 430, descriptorIndex := 62, attributes := #[] }, { accessFlags := 4120, nameIndex := 46, descriptorIndex := 47, attributes := #[] }])
  fields := #[{ name := "HI_BYTE_SHIFT", type := .int, accessFlags := 26, slot := 0, constantValue := 0 }, { name := "LO_BYTE_SHIFT", type := .int, accessFlags := 26, slot := 1, constantValue := 0 }, { name := "MAX_LENGTH", type := .int, accessFlags := 24, slot := 2, constantValue := 0 }, { name := "$assertionsDisabled", type := .boolean, accessFlags := 4120, slot := 3, constantValue := 0 }]
  methods := #[k12m0, k12m1, k12m2, k12m3]
  instanceTypes := #[]
  staticTypes := #[.int, .int, .int, .boolean]
  resolved := Array.replicate 635 none
  statics := none }

def pool13 : Array CpInfo := pool [(4, .class_ 6), (1, u "java/lang/Object"), (0, u "<init>"), (0, u "()V"), (5, .class_ 16), (1, u "java/lang/StringLatin1"), (104, u "$assertionsDisabled"), (0, u "Z"), (98, .class_ 223), (1, u "java/lang/StringLatin1$LinesSpliterator"), (57, u "equals"), (0, u "([B[B)Z"), (107, .class_ 391), (0, u "java/lang/StringLatin1$CharsSpliterator")] 3

def k13m0 : Method := { name := "<init>", desc := "()V", sig := { parameters := [], returnType := none }, accessFlags := 0, code := none }
def k13c1 : Code := { maxStack := 3, maxLocals := 3, code := jdk_43_method_13_code, exceptionTable := #[], attributes := #[] }
def k13m1 : Method := { name := "equals", desc := "([B[B)Z", sig := { parameters := [(.array .byte), (.array .byte)], returnType := some .boolean }, accessFlags := 9, code := some k13c1 }
/-- java/lang/StringLatin1 -/
def k13 : Class := { plain "java/lang/StringLatin1" (some 0) with
  accessFlags := 48
  interfaces := #[]
  cf := some (fileOf pool13 14 #[.nestMembers #[390, 221]] #[{ accessFlags := 0, nameIndex := 7, descriptorIndex := 8, attributes := #[] }, { accessFlags := 9, nameIndex := 281, descriptorIndex := 282, attributes := #[] }] 48 4 #[] #[{ accessFlags := 4120, nameIndex := 121, descriptorIndex := 122, attributes := #[] }])
  fields := #[{ name := "$assertionsDisabled", type := .boolean, accessFlags := 4120, slot := 0, constantValue := 0 }]
  methods := #[k13m0, k13m1]
  instanceTypes := #[]
  staticTypes := #[.boolean]
  resolved := Array.replicate 395 none
  statics := none }

def pool14 : Array CpInfo := pool [(2, .class_ 4), (1, u "java/lang/Object"), (0, u "<init>"), (0, u "()V"), (17, .class_ 26), (1, u "jdk/internal/util/Preconditions"), (28, .class_ 56), (0, u "jdk/internal/util/Preconditions$4"), (57, .class_ 115), (0, u "jdk/internal/util/Preconditions$1"), (7, u "SIOOBE_FORMATTER"), (0, u "Ljava/util/function/BiFunction;"), (0, .class_ 126), (0, u "jdk/internal/util/Preconditions$2"), (3, u "AIOOBE_FORMATTER"), (0, .class_ 132), (0, u "jdk/internal/util/Preconditions$3"), (3, u "IOOBE_FORMATTER")] 57

def k14m0 : Method := { name := "<init>", desc := "()V", sig := { parameters := [], returnType := none }, accessFlags := 1, code := none }
/-- jdk/internal/util/Preconditions -/
def k14 : Class := { plain "jdk/internal/util/Preconditions" (some 0) with
  accessFlags := 33
  interfaces := #[]
  cf := some (fileOf pool14 24 #[.nestMembers #[55, 131, 125, 114]] #[{ accessFlags := 1, nameIndex := 5, descriptorIndex := 6, attributes := #[] }] 33 2 #[] #[{ accessFlags := 25, nameIndex := 123, descriptorIndex := 124, attributes := #[] }, { accessFlags := 25, nameIndex := 130, descriptorIndex := 124, attributes := #[] }, { accessFlags := 25, nameIndex := 136, descriptorIndex := 124, attributes := #[] }])
  fields := #[{ name := "SIOOBE_FORMATTER", type := (.object "java/util/function/BiFunction"), accessFlags := 25, slot := 0, constantValue := 0 }, { name := "AIOOBE_FORMATTER", type := (.object "java/util/function/BiFunction"), accessFlags := 25, slot := 1, constantValue := 0 }, { name := "IOOBE_FORMATTER", type := (.object "java/util/function/BiFunction"), accessFlags := 25, slot := 2, constantValue := 0 }]
  methods := #[k14m0]
  instanceTypes := #[]
  staticTypes := #[(.object "java/util/function/BiFunction"), (.object "java/util/function/BiFunction"), (.object "java/util/function/BiFunction")]
  resolved := Array.replicate 194 none
  statics := some 2 }

def pool15 : Array CpInfo := pool [(9, u "<init>"), (6, .class_ 18), (1, u "java/lang/Object"), (0, u "()V"), (1, .class_ 23), (1, u "jdk/internal/util/ArraysSupport"), (0, u "LOG2_ARRAY_LONG_INDEX_SCALE"), (0, u "I"), (2, u "U"), (0, u "Ljdk/internal/misc/Unsafe;"), (8, u "BIG_ENDIAN"), (0, u "Z"), (8, u "LOG2_BYTE_BIT_SIZE"), (4, u "LOG2_ARRAY_INT_INDEX_SCALE"), (54, u "JLA"), (0, u "Ljdk/internal/access/JavaLangAccess;"), (11, u "LOG2_ARRAY_BOOLEAN_INDEX_SCALE"), (9, u "LOG2_ARRAY_BYTE_INDEX_SCALE"), (5, u "LOG2_ARRAY_CHAR_INDEX_SCALE"), (5, u "LOG2_ARRAY_SHORT_INDEX_SCALE"), (18, u "LOG2_ARRAY_FLOAT_INDEX_SCALE"), (24, u "LOG2_ARRAY_DOUBLE_INDEX_SCALE"), (89, u "T_BOOLEAN"), (2, u "T_CHAR"), (1, u "T_FLOAT"), (1, u "T_DOUBLE"), (1, u "T_BYTE"), (1, u "T_SHORT"), (1, u "T_INT"), (1, u "T_LONG"), (1, u "SOFT_MAX_ARRAY_LENGTH")] 83

def k15m0 : Method := { name := "<init>", desc := "()V", sig := { parameters := [], returnType := none }, accessFlags := 2, code := none }
/-- jdk/internal/util/ArraysSupport -/
def k15 : Class := { plain "jdk/internal/util/ArraysSupport" (some 0) with
  accessFlags := 33
  interfaces := #[]
  cf := some (fileOf pool15 21 #[] #[{ accessFlags := 2, nameIndex := 9, descriptorIndex := 19, attributes := #[] }] 33 16 #[] #[{ accessFlags := 24, nameIndex := 28, descriptorIndex := 29, attributes := #[] }, { accessFlags := 26, nameIndex := 38, descriptorIndex := 39, attributes := #[] }, { accessFlags := 25, nameIndex := 121, descriptorIndex := 25, attributes := #[] }, { accessFlags := 25, nameIndex := 131, descriptorIndex := 25, attributes := #[] }, { accessFlags := 25, nameIndex := 137, descriptorIndex := 25, attributes := #[] }, { accessFlags := 25, nameIndex := 143, descriptorIndex := 25, attributes := #[] }, { accessFlags := 25, nameIndex := 53, descriptorIndex := 25, attributes := #[] }, { accessFlags := 25, nameIndex := 24, descriptorIndex := 25, attributes := #[] }, { accessFlags := 25, nameIndex := 162, descriptorIndex := 25, attributes := #[] }, { accessFlags := 25, nameIndex := 187, descriptorIndex := 25, attributes := #[] }, { accessFlags := 26, nameIndex := 48, descriptorIndex := 25, attributes := #[] }, { accessFlags := 25, nameIndex := 277, descriptorIndex := 25, attributes := #[] }, { accessFlags := 25, nameIndex := 280, descriptorIndex := 25, attributes := #[] }, { accessFlags := 25, nameIndex := 282, descriptorIndex := 25, attributes := #[] }, { accessFlags := 25, nameIndex := 284, descriptorIndex := 25, attributes := #[] }, { accessFlags := 25, nameIndex := 286, descriptorIndex := 25, attributes := #[] }, { accessFlags := 25, nameIndex := 288, descriptorIndex := 25, attributes := #[] }, { accessFlags := 25, nameIndex := 290, descriptorIndex := 25, attributes := #[] }, { accessFlags := 25, nameIndex := 292, descriptorIndex := 25, attributes := #[] }, { accessFlags := 26, nameIndex := 108, descriptorIndex := 109, attributes := #[] }, { accessFlags := 25, nameIndex := 294, descriptorIndex := 25, attributes := #[] }])
  fields := #[{ name := "U", type := (.object "jdk/internal/misc/Unsafe"), accessFlags := 24, slot := 0, constantValue := 0 }, { name := "BIG_ENDIAN", type := .boolean, accessFlags := 26, slot := 1, constantValue := 0 }, { name := "LOG2_ARRAY_BOOLEAN_INDEX_SCALE", type := .int, accessFlags := 25, slot := 2, constantValue := 0 }, { name := "LOG2_ARRAY_BYTE_INDEX_SCALE", type := .int, accessFlags := 25, slot := 3, constantValue := 0 }, { name := "LOG2_ARRAY_CHAR_INDEX_SCALE", type := .int, accessFlags := 25, slot := 4, constantValue := 0 }, { name := "LOG2_ARRAY_SHORT_INDEX_SCALE", type := .int, accessFlags := 25, slot := 5, constantValue := 0 }, { name := "LOG2_ARRAY_INT_INDEX_SCALE", type := .int, accessFlags := 25, slot := 6, constantValue := 0 }, { name := "LOG2_ARRAY_LONG_INDEX_SCALE", type := .int, accessFlags := 25, slot := 7, constantValue := 0 }, { name := "LOG2_ARRAY_FLOAT_INDEX_SCALE", type := .int, accessFlags := 25, slot := 8, constantValue := 0 }, { name := "LOG2_ARRAY_DOUBLE_INDEX_SCALE", type := .int, accessFlags := 25, slot := 9, constantValue := 0 }, { name := "LOG2_BYTE_BIT_SIZE", type := .int, accessFlags := 26, slot := 10, constantValue := 0 }, { name := "T_BOOLEAN", type := .int, accessFlags := 25, slot := 11, constantValue := 0 }, { name := "T_CHAR", type := .int, accessFlags := 25, slot := 12, constantValue := 0 }, { name := "T_FLOAT", type := .int, accessFlags := 25, slot := 13, constantValue := 0 }, { name := "T_DOUBLE", type := .int, accessFlags := 25, slot := 14, constantValue := 0 }, { name := "T_BYTE", type := .int, accessFlags := 25, slot := 15, constantValue := 0 }, { name := "T_SHORT", type := .int, accessFlags := 25, slot := 16, constantValue := 0 }, { name := "T_INT", type := .int, accessFlags := 25, slot := 17, constantValue := 0 }, { name := "T_LONG", type := .int, accessFlags := 25, slot := 18, constantValue := 0 }, { name := "JLA", type := (.object "jdk/internal/access/JavaLangAccess"), accessFlags := 26, slot := 19, constantValue := 0 }, { name := "SOFT_MAX_ARRAY_LENGTH", type := .int, accessFlags := 25, slot := 20, constantValue := 0 }]
  methods := #[k15m0]
  instanceTypes := #[]
  staticTypes := #[(.object "jdk/internal/misc/Unsafe"), .boolean, .int, .int, .int, .int, .int, .int, .int, .int, .int, .int, .int, .int, .int, .int, .int, .int, .int, (.object "jdk/internal/access/JavaLangAccess"), .int]
  resolved := Array.replicate 378 none
  statics := none }

/-- the primitive byte -/
def k16 : Class := { plain "byte" none with kind := .primitive 'B', accessFlags := 0x411 }
/-- [B -/
def k17 : Class := { plain "[B" (some 0) with kind := .array 16 .byte, interfaces := #[7, 4], accessFlags := 1041 }

/-- the primitive char -/
def k18 : Class := { plain "char" none with kind := .primitive 'C', accessFlags := 0x411 }
/-- [C -/
def k19 : Class := { plain "[C" (some 0) with kind := .array 18 .char, interfaces := #[7, 4], accessFlags := 1041 }

/-- the primitive int -/
def k20 : Class := { plain "int" none with kind := .primitive 'I', accessFlags := 0x411 }
/-- [I -/
def k21 : Class := { plain "[I" (some 0) with kind := .array 20 .int, interfaces := #[7, 4], accessFlags := 1041 }

/-- [Lcom/example/tranchebook/tranchebook/model/Fee; -/
def k22 : Class := { plain "[Lcom/example/tranchebook/tranchebook/model/Fee;" (some 0) with kind := .array 6 (.object "com/example/tranchebook/tranchebook/model/Fee"), interfaces := #[7, 4], accessFlags := 1041 }

def heap : Heap := #[{ cls := 6, slots := #[.ref 4, .ref 3], vm := .statics 6 },
  { cls := 11, slots := #[.long 0, .int 1, .null, .int 0, .null, .int 0, .int 0], vm := .statics 11 },
  { cls := 14, slots := #[.null, .null, .null], vm := .statics 14 },
  { cls := 22, slots := #[.ref 4], vm := .none },
  { cls := 8, slots := #[.null, .int 0, .int 0, .null, .ref 5, .null, .null, .null], vm := .none },
  { cls := 11, slots := #[.ref 6, .int 0, .int 0, .int 0], vm := .none },
  { cls := 17, slots := #[.int 67, .int 79, .int 77, .int 77, .int 73, .int 84, .int 77, .int 69, .int 78, .int 84, .int 95, .int 70, .int 69, .int 69], vm := .none }]
def classes : Array Class := #[k0, k1, k2, k3, k4, k5, k6, k7, k8, k9, k10, k11, k12, k13, k14, k15, k16, k17, k18, k19, k20, k21, k22]
def interned : List (Array UInt16 × Addr) := []
def slotsUsed : Nat := 39
def theMethod : MethodId := ⟨1, 3⟩
def args0 : Array Value := #[.int 3, .int 1, .int 2, .long 0, .long 1]
def aboutOver (below : List Frame) : State where
  vm := { classes := classes, interned := interned.toArray }
  heap := heap
  slotsUsed := slotsUsed
  threads := #[{ frames := .invoking theMethod args0 :: below }]
def below0 : List Frame := [.native { method := ⟨0, 0⟩, args := #[] }]
def about1 : State := aboutOver below0
def p0 : Program := .bare "" "" ""
def e0 : Env := launch0.env 0 0 0
theorem w_frames : about1.frames = Frame.invoking theMethod args0 :: below0 := rfl
set_option maxRecDepth 65536 in
theorem w_args : argsFit about1.vm theMethod args0 = true := by decide +kernel
set_option maxRecDepth 65536 in
theorem w_heap : heapFits about1 = true := by decide +kernel
set_option maxRecDepth 65536 in
theorem w_runnable : about1.curStatus? = some .runnable := by decide +kernel
set_option maxRecDepth 65536 in
theorem w_alone : about1.alone = true := by decide +kernel
set_option maxRecDepth 65536 in
theorem w_named : about1.methodNamed? x = some theMethod := by decide +kernel
set_option maxRecDepth 65536 in
theorem w_hears : about1.hears theMethod below0 = true := by decide +kernel
set_option maxRecDepth 65536 in
theorem w_ripe : about1.ripe theMethod args0 below0 = true := by decide +kernel
theorem w_running : about1.status = .running := rfl
set_option maxRecDepth 65536 in
theorem w_room : about1.hasRoom e0.platform room_1 = true :=
  launch0.hasRoom_least _ room_1 (by decide +kernel) (by decide +kernel) (by decide +kernel) (by decide +kernel) (by decide +kernel) (by decide +kernel)
theorem allAtoms_all (ts : List Jvm.Cond) (a : Array Jvm.Value) (st : Jvm.State) : (allAtoms ts).before a st = ts.all (fun c => c.before a st) := by
  induction ts with
  | nil => rfl
  | cons c t ih =>
    show (Jvm.Cond.and c (allAtoms t)).before a st = _
    rw [Jvm.Cond.before_and, ih, List.all_cons]
def words1 : List Jvm.Cond := Jvm.Cond.code x code maxLocals ret :: tables_1
/-- a 'code' word, met by the world's own term for the bytes: nothing is compared byte by byte -/
theorem code_word {y : MethodName} {bytes : ByteArray} {mx : Nat} {rt : Option FieldType} {a : Array Value} {s : State} {m : MethodId} {meth : Method} {c : Code} (h1 : s.methodNamed? y = some m) (h2 : s.vm.method? m = some meth) (h3 : meth.code = some c) (h4 : c.code = bytes)
    (h5 : (c.maxLocals == mx && c.exceptionTable.isEmpty && decide (c.maxStack ≤ mostOperands) && decide (meth.sig.returnType = rt) && !meth.locks && decide (parseMethodDescriptor y.desc = some meth.sig)) = true) : (Jvm.Cond.code y bytes mx rt).before a s = true := by
  simp only [Bool.and_eq_true, beq_iff_eq, Bool.not_eq_true', decide_eq_true_eq] at h5
  obtain ⟨⟨⟨⟨⟨g1, g2⟩, g3⟩, g4⟩, g5⟩, g6⟩ := h5
  simp [Cond.before, Cond.holds, Cond.value, h1, h2, h3, h4, g1, g2, g3, g4, g5, g6]
def isCode : Jvm.Cond → Bool
  | .code _ _ _ _ => true
  | _ => false
theorem all_split {L : List Jvm.Cond} {P : Jvm.Cond → Bool} (h1 : L.all (fun c => isCode c || P c) = true) (h2 : ∀ c ∈ L.filter isCode, P c = true) : L.all P = true := by
  refine List.all_eq_true.mpr fun c hc => ?_
  have h := List.all_eq_true.mp h1 c hc
  rcases Bool.eq_false_or_eq_true (isCode c) with hi | hi
  · exact h2 c (List.mem_filter.mpr ⟨hc, hi⟩)
  · simpa [hi] using h
set_option maxRecDepth 65536 in
theorem w_c0 : (Jvm.Cond.code x code maxLocals ret).before args0 about1 = true := code_word (m := ⟨1, 3⟩) (meth := k1m3) (c := k1c3) (by decide +kernel) rfl rfl rfl (by decide +kernel)
set_option maxRecDepth 65536 in
theorem w_c1 : (Jvm.Cond.code ({ cls := "com/example/tranchebook/tranchebook/model/FeeByRateNamePinLaw", name := "byteAt", desc := "(JI)C" } : Jvm.MethodName) method_2_code (3 : Nat) (Option.some Jvm.ClassFile.FieldType.char)).before args0 about1 = true := code_word (m := ⟨1, 1⟩) (meth := k1m1) (c := k1c1) (by decide +kernel) rfl rfl rfl (by decide +kernel)
set_option maxRecDepth 65536 in
theorem w_c2 : (Jvm.Cond.code ({ cls := "com/example/tranchebook/tranchebook/model/Fee", name := "byRateName", desc := "(Ljava/lang/String;)Lcom/example/tranchebook/tranchebook/model/Fee;" } : Jvm.MethodName) prog_51_method_4_code (6 : Nat) (Option.some (Jvm.ClassFile.FieldType.object "com/example/tranchebook/tranchebook/model/Fee"))).before args0 about1 = true := code_word (m := ⟨6, 1⟩) (meth := k6m1) (c := k6c1) (by decide +kernel) rfl rfl rfl (by decide +kernel)
set_option maxRecDepth 65536 in
theorem w_c3 : (Jvm.Cond.code ({ cls := "com/example/tranchebook/tranchebook/model/Fee", name := "values", desc := "()[Lcom/example/tranchebook/tranchebook/model/Fee;" } : Jvm.MethodName) prog_51_method_1_code (0 : Nat) (Option.some (Jvm.ClassFile.FieldType.array (Jvm.ClassFile.FieldType.object "com/example/tranchebook/tranchebook/model/Fee")))).before args0 about1 = true := code_word (m := ⟨6, 0⟩) (meth := k6m0) (c := k6c0) (by decide +kernel) rfl rfl rfl (by decide +kernel)
set_option maxRecDepth 65536 in
theorem w_c4 : (Jvm.Cond.code ({ cls := "java/lang/String", name := "equals", desc := "(Ljava/lang/Object;)Z" } : Jvm.MethodName) jdk_42_method_66_code (3 : Nat) (Option.some Jvm.ClassFile.FieldType.boolean)).before args0 about1 = true := code_word (m := ⟨11, 2⟩) (meth := k11m2) (c := k11c2) (by decide +kernel) rfl rfl rfl (by decide +kernel)
set_option maxRecDepth 65536 in
theorem w_c5 : (Jvm.Cond.code ({ cls := "com/example/tranchebook/tranchebook/model/FeeByRateNamePinLaw", name := "prefix", desc := "([CI)Ljava/lang/String;" } : Jvm.MethodName) method_3_code (3 : Nat) (Option.some (Jvm.ClassFile.FieldType.object "java/lang/String"))).before args0 about1 = true := code_word (m := ⟨1, 2⟩) (meth := k1m2) (c := k1c2) (by decide +kernel) rfl rfl rfl (by decide +kernel)
set_option maxRecDepth 65536 in
theorem w_c6 : (Jvm.Cond.code ({ cls := "java/lang/String", name := "<init>", desc := "([C)V" } : Jvm.MethodName) jdk_42_method_3_code (2 : Nat) (Option.none : Option Jvm.ClassFile.FieldType)).before args0 about1 = true := code_word (m := ⟨11, 1⟩) (meth := k11m1) (c := k11c1) (by decide +kernel) rfl rfl rfl (by decide +kernel)
set_option maxRecDepth 65536 in
theorem w_c7 : (Jvm.Cond.code ({ cls := "java/lang/String", name := "<init>", desc := "([CIILjava/lang/Void;)V" } : Jvm.MethodName) jdk_42_method_149_code (6 : Nat) (Option.none : Option Jvm.ClassFile.FieldType)).before args0 about1 = true := code_word (m := ⟨11, 3⟩) (meth := k11m3) (c := k11c3) (by decide +kernel) rfl rfl rfl (by decide +kernel)
set_option maxRecDepth 65536 in
theorem w_c8 : (Jvm.Cond.code ({ cls := "java/lang/Object", name := "<init>", desc := "()V" } : Jvm.MethodName) object_method_1_code (1 : Nat) (Option.none : Option Jvm.ClassFile.FieldType)).before args0 about1 = true := code_word (m := ⟨0, 0⟩) (meth := k0m0) (c := k0c0) (by decide +kernel) rfl rfl rfl (by decide +kernel)
set_option maxRecDepth 65536 in
theorem w_c9 : (Jvm.Cond.code ({ cls := "java/lang/StringUTF16", name := "compress", desc := "([CII)[B" } : Jvm.MethodName) jdk_52_method_16_code (6 : Nat) (Option.some (Jvm.ClassFile.FieldType.array Jvm.ClassFile.FieldType.byte))).before args0 about1 = true := code_word (m := ⟨12, 2⟩) (meth := k12m2) (c := k12c2) (by decide +kernel) rfl rfl rfl (by decide +kernel)
set_option maxRecDepth 65536 in
theorem w_c10 : (Jvm.Cond.code ({ cls := "java/lang/StringUTF16", name := "compress", desc := "([CI[BII)I" } : Jvm.MethodName) jdk_52_method_21_code (7 : Nat) (Option.some Jvm.ClassFile.FieldType.int)).before args0 about1 = true := code_word (m := ⟨12, 3⟩) (meth := k12m3) (c := k12c3) (by decide +kernel) rfl rfl rfl (by decide +kernel)
set_option maxRecDepth 65536 in
theorem w_c11 : (Jvm.Cond.code ({ cls := "java/lang/StringUTF16", name := "coderFromArrayLen", desc := "([BI)B" } : Jvm.MethodName) jdk_52_method_15_code (2 : Nat) (Option.some Jvm.ClassFile.FieldType.byte)).before args0 about1 = true := code_word (m := ⟨12, 1⟩) (meth := k12m1) (c := k12c1) (by decide +kernel) rfl rfl rfl (by decide +kernel)
set_option maxRecDepth 65536 in
theorem w_c12 : (Jvm.Cond.code ({ cls := "java/lang/StringLatin1", name := "equals", desc := "([B[B)Z" } : Jvm.MethodName) jdk_43_method_13_code (3 : Nat) (Option.some Jvm.ClassFile.FieldType.boolean)).before args0 about1 = true := code_word (m := ⟨13, 1⟩) (meth := k13m1) (c := k13c1) (by decide +kernel) rfl rfl rfl (by decide +kernel)
def codes1 : List Jvm.Cond := [Jvm.Cond.code x code maxLocals ret, Jvm.Cond.code ({ cls := "com/example/tranchebook/tranchebook/model/FeeByRateNamePinLaw", name := "byteAt", desc := "(JI)C" } : Jvm.MethodName) method_2_code (3 : Nat) (Option.some Jvm.ClassFile.FieldType.char), Jvm.Cond.code ({ cls := "com/example/tranchebook/tranchebook/model/Fee", name := "byRateName", desc := "(Ljava/lang/String;)Lcom/example/tranchebook/tranchebook/model/Fee;" } : Jvm.MethodName) prog_51_method_4_code (6 : Nat) (Option.some (Jvm.ClassFile.FieldType.object "com/example/tranchebook/tranchebook/model/Fee")), Jvm.Cond.code ({ cls := "com/example/tranchebook/tranchebook/model/Fee", name := "values", desc := "()[Lcom/example/tranchebook/tranchebook/model/Fee;" } : Jvm.MethodName) prog_51_method_1_code (0 : Nat) (Option.some (Jvm.ClassFile.FieldType.array (Jvm.ClassFile.FieldType.object "com/example/tranchebook/tranchebook/model/Fee"))), Jvm.Cond.code ({ cls := "java/lang/String", name := "equals", desc := "(Ljava/lang/Object;)Z" } : Jvm.MethodName) jdk_42_method_66_code (3 : Nat) (Option.some Jvm.ClassFile.FieldType.boolean), Jvm.Cond.code ({ cls := "com/example/tranchebook/tranchebook/model/FeeByRateNamePinLaw", name := "prefix", desc := "([CI)Ljava/lang/String;" } : Jvm.MethodName) method_3_code (3 : Nat) (Option.some (Jvm.ClassFile.FieldType.object "java/lang/String")), Jvm.Cond.code ({ cls := "java/lang/String", name := "<init>", desc := "([C)V" } : Jvm.MethodName) jdk_42_method_3_code (2 : Nat) (Option.none : Option Jvm.ClassFile.FieldType), Jvm.Cond.code ({ cls := "java/lang/String", name := "<init>", desc := "([CIILjava/lang/Void;)V" } : Jvm.MethodName) jdk_42_method_149_code (6 : Nat) (Option.none : Option Jvm.ClassFile.FieldType), Jvm.Cond.code ({ cls := "java/lang/Object", name := "<init>", desc := "()V" } : Jvm.MethodName) object_method_1_code (1 : Nat) (Option.none : Option Jvm.ClassFile.FieldType), Jvm.Cond.code ({ cls := "java/lang/StringUTF16", name := "compress", desc := "([CII)[B" } : Jvm.MethodName) jdk_52_method_16_code (6 : Nat) (Option.some (Jvm.ClassFile.FieldType.array Jvm.ClassFile.FieldType.byte)), Jvm.Cond.code ({ cls := "java/lang/StringUTF16", name := "compress", desc := "([CI[BII)I" } : Jvm.MethodName) jdk_52_method_21_code (7 : Nat) (Option.some Jvm.ClassFile.FieldType.int), Jvm.Cond.code ({ cls := "java/lang/StringUTF16", name := "coderFromArrayLen", desc := "([BI)B" } : Jvm.MethodName) jdk_52_method_15_code (2 : Nat) (Option.some Jvm.ClassFile.FieldType.byte), Jvm.Cond.code ({ cls := "java/lang/StringLatin1", name := "equals", desc := "([B[B)Z" } : Jvm.MethodName) jdk_43_method_13_code (3 : Nat) (Option.some Jvm.ClassFile.FieldType.boolean)]
set_option maxRecDepth 65536 in
theorem codes_eq : words1.filter isCode = codes1 := rfl
theorem w_codes : ∀ c ∈ words1.filter isCode, c.before args0 about1 = true := by
  rw [codes_eq]
  intro c hc
  simp only [codes1, List.mem_cons, List.not_mem_nil, or_false] at hc
  rcases hc with rfl | rfl | rfl | rfl | rfl | rfl | rfl | rfl | rfl | rfl | rfl | rfl | rfl
  · exact w_c0
  · exact w_c1
  · exact w_c2
  · exact w_c3
  · exact w_c4
  · exact w_c5
  · exact w_c6
  · exact w_c7
  · exact w_c8
  · exact w_c9
  · exact w_c10
  · exact w_c11
  · exact w_c12
set_option maxRecDepth 65536 in
theorem w_t1 : (words1.take 24).all (fun c => isCode c || c.before args0 about1) = true := by decide +kernel
set_option maxRecDepth 65536 in
theorem w_t2 : ((words1.drop 24).take 24).all (fun c => isCode c || c.before args0 about1) = true := by decide +kernel
set_option maxRecDepth 65536 in
theorem w_t3 : (((words1.drop 24).drop 24).take 24).all (fun c => isCode c || c.before args0 about1) = true := by decide +kernel
set_option maxRecDepth 65536 in
theorem w_t4 : (((words1.drop 24).drop 24).drop 24).all (fun c => isCode c || c.before args0 about1) = true := by decide +kernel
theorem w_tables : (allAtoms (Jvm.Cond.code x code maxLocals ret :: tables_1)).before args0 about1 = true := by
  rw [allAtoms_all]
  show words1.all (fun c => c.before args0 about1) = true
  refine all_split ?_ w_codes
  rw [← List.take_append_drop 24 words1, List.all_append, w_t1, ← List.take_append_drop 24 (words1.drop 24), List.all_append, w_t2, ← List.take_append_drop 24 ((words1.drop 24).drop 24), List.all_append, w_t3, w_t4]
  rfl
set_option maxRecDepth 65536 in
theorem w_rest : rest_1_c.before args0 about1 = true := by decide +kernel
set_option maxRecDepth 65536 in
theorem w_case : (Jvm.Cond.and given_1 narrow_1).before args0 about1 = true := by decide +kernel
set_option maxRecDepth 65536 in
theorem w_consts : constsHeld consts_1 about1 := Jvm.Lit.constsHeldB_iff.mp (by decide +kernel)
theorem w_applies : (headSpec (Jvm.Cond.code x code maxLocals ret :: tables_1) room_1).applies x e0.platform about1 = true :=
  (Spec.applies_iff w_frames).mpr ⟨w_running, w_runnable, w_alone, w_named, w_hears, w_ripe, w_room, w_tables⟩
theorem atStart : AtStart classFile x code maxLocals ret World_1 tables_1 room_1 Calls_1 rest_1 Pre_1 launch0 p0 e0 about1 theMethod args0 below0 :=
  ⟨lists_1, trivial, launch0.admits_env _ _ _, launch0.least_env, fairChoices_fair.cas, fairChoices_fair.clock, w_frames, w_args, w_heap, w_applies, ⟨w_consts, trivial⟩, w_rest, w_case⟩
end start1
theorem witness_1 : WitnessClaimed_1 := ⟨start1.p0, start1.e0, start1.about1, start1.theMethod, start1.args0, start1.below0, start1.atStart⟩
end Jvm.Pilot.@@N@@
