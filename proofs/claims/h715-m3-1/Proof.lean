import JvmDerived
import JvmDerived.Pilot.@@N@@Statement
import JvmDerived.Pilot.@@N@@Code
set_option linter.unusedVariables false
set_option linter.unusedSimpArgs false
/- laws to paste: pair_says, chr8_lo8, shr0 (cut by pick.py; bodies as the Statement names them) -/
namespace Jvm.Pilot.@@N@@
namespace StrChars
open Jvm Sem ClassFile Op Lib Jvm.Stand Jvm.Free.XT Jvm.Free.ALB Jvm.Free.JM Jvm.Free
open Jvm.Lib.Cold (StaticIs)
/-- the byte that i2b leaves of a char -/
def lo8 (x : Int32) : Int32 := x.toInt8.toInt32
/-- the byte, read back as charAt reads it, is the char -/
theorem lo8_mask {x : Int32} (h0 : ¬ x < 0) (h1 : ¬ 255 < x) : lo8 x &&& 255 = x := by
  have t : ∀ k : Fin 256, lo8 (Int32.ofNat k.val) &&& 255 = Int32.ofNat k.val := by decide +kernel
  rw [Int32.lt_iff_toInt_lt] at h0 h1
  have e0 : (0 : Int32).toInt = 0 := rfl
  have e1 : (255 : Int32).toInt = 255 := rfl
  obtain ⟨k, hk⟩ : ∃ k : Nat, x.toInt = k := ⟨x.toInt.toNat, by omega⟩
  have hx : x = Int32.ofNat k := Int32.toInt_inj.mp (by rw [hk, Int32.toInt_ofNat_small (by omega)])
  rw [hx]
  exact t ⟨k, by omega⟩
end StrChars
namespace StrChars
open Jvm Sem ClassFile Op Lib Jvm.Stand Jvm.Free.XT Jvm.Free.ALB Jvm.Free.JM Jvm.Free
open Jvm.Lib.Cold (StaticIs)
def hi8 (x : Int32) : Int32 := lo8 (x >>> ((8 : Int32) &&& 31))
/-- what StringUTF16.getChar makes of two bytes -/
def pairCh (u v : Int32) : Int32 := (((u &&& 255) <<< ((0 : Int32) &&& 31)) ||| ((v &&& 255) <<< ((8 : Int32) &&& 31))).toUInt32.toUInt16.toUInt32.toInt32
theorem shr0 (c : Int32) : c >>> ((0 : Int32) &&& 31) = c := by
  have e : ((0 : Int32) &&& 31) = 0 := by decide
  rw [e]
  apply Int32.toBitVec_inj.mp
  rw [Int32.toBitVec_shiftRight]
  have e1 : ((0 : Int32).toBitVec.smod 32) = 0#32 := by decide
  rw [e1, BitVec.sshiftRight_eq']
  exact BitVec.sshiftRight_zero
theorem lo8_and (x : Int32) : (lo8 x &&& 255).toBitVec.toNat = x.toBitVec.toNat % 256 := by
  have h : (lo8 x).toBitVec = (x.toBitVec.signExtend 8).signExtend 32 := by rw [lo8, Int8.toBitVec_toInt32, Int32.toBitVec_toInt8]
  rw [Int32.toBitVec_and, BitVec.toNat_and, h]
  have e : ((x.toBitVec.signExtend 8).signExtend 32).toNat % 256 = x.toBitVec.toNat % 256 := by
    rw [BitVec.toNat_signExtend]
    have hlt := x.toBitVec.isLt
    simp only [BitVec.toNat_setWidth, BitVec.toNat_signExtend]
    split <;> split <;> omega
  rw [← e]
  exact Nat.and_two_pow_sub_one_eq_mod _ 8
theorem pair_says {c : Int32} (h0 : ¬ c < 0) (h1 : ¬ 65535 < c) : pairCh (lo8 c) (hi8 c) = c := by
  rw [Int32.lt_iff_toInt_lt] at h0 h1
  have e0 : (0 : Int32).toInt = 0 := rfl
  have e1 : (65535 : Int32).toInt = 65535 := rfl
  have hc : c.toInt = c.toBitVec.toNat := by
    have := c.toBitVec.isLt
    have e : c.toInt = c.toBitVec.toInt := rfl
    rw [e] at h0 h1
    rw [e]
    rw [BitVec.toInt_eq_toNat_cond] at h0 h1 ⊢
    split at h0 <;> split <;> omega
  have hn : c.toBitVec.toNat < 65536 := by omega
  have a1 := lo8_and c
  have a2 : (hi8 c &&& 255).toBitVec.toNat = c.toBitVec.toNat / 256 := by
    rw [hi8, lo8_and]
    have e : ((8 : Int32) &&& 31) = 8 := by decide
    rw [e, Int32.toBitVec_shiftRight]
    have e2 : ((8 : Int32).toBitVec.smod 32) = 8#32 := by decide
    rw [e2, BitVec.sshiftRight_eq', BitVec.toNat_sshiftRight_of_msb_false (by rw [BitVec.msb_eq_false_iff_two_mul_lt]; omega)]
    show c.toBitVec.toNat >>> 8 % 256 = _
    rw [Nat.shiftRight_eq_div_pow]
    omega
  unfold pairCh
  apply Int32.toBitVec_inj.mp
  apply BitVec.eq_of_toNat_eq
  have f0 : ((0 : Int32) &&& 31) = 0 := by decide
  have f8 : ((8 : Int32) &&& 31) = 8 := by decide
  rw [f0, f8]
  have g : (((lo8 c &&& 255) <<< (0 : Int32)) ||| ((hi8 c &&& 255) <<< (8 : Int32))).toBitVec.toNat = c.toBitVec.toNat := by
    rw [Int32.toBitVec_or, Int32.toBitVec_shiftLeft, Int32.toBitVec_shiftLeft]
    have s0 : ((0 : Int32).toBitVec.smod 32) = 0#32 := by decide
    have s8 : ((8 : Int32).toBitVec.smod 32) = 8#32 := by decide
    rw [s0, s8, BitVec.toNat_or]
    simp only [BitVec.shiftLeft_eq', BitVec.toNat_shiftLeft, a1, a2]
    show (c.toBitVec.toNat % 256) <<< 0 % 2 ^ 32 ||| (c.toBitVec.toNat / 256) <<< 8 % 2 ^ 32 = _
    rw [Nat.shiftLeft_zero, Nat.mod_eq_of_lt (show c.toBitVec.toNat % 256 < 2 ^ 32 by omega), Nat.mod_eq_of_lt (show (c.toBitVec.toNat / 256) <<< 8 < 2 ^ 32 by rw [Nat.shiftLeft_eq]; omega), Nat.or_comm, ← Nat.shiftLeft_add_eq_or_of_lt (by omega), Nat.shiftLeft_eq]
    omega
  show BitVec.toNat (((((lo8 c &&& 255) <<< (0 : Int32)) ||| ((hi8 c &&& 255) <<< (8 : Int32))).toBitVec.setWidth 16).setWidth 32) = _
  rw [BitVec.toNat_setWidth, BitVec.toNat_setWidth, g]
  omega
end StrChars
namespace StrChars
open Jvm Sem ClassFile Op Lib Jvm.Stand Jvm.Free.XT Jvm.Free.ALB Jvm.Free.JM Jvm.Free
open Jvm.Lib.Cold (StaticIs)
/-- charAt's cast of a byte read back -/
def chr8 (u : Int32) : Int32 := (u &&& 255).toUInt32.toUInt16.toUInt32.toInt32
theorem chr8_lo8 {c : Int32} (h0 : ¬ c < 0) (h1 : ¬ 255 < c) : chr8 (lo8 c) = c := by
  have t : ∀ k : Fin 256, (Int32.ofNat k.val).toUInt32.toUInt16.toUInt32.toInt32 = Int32.ofNat k.val := by decide +kernel
  unfold chr8
  rw [lo8_mask h0 h1]
  rw [Int32.lt_iff_toInt_lt] at h0 h1
  have e0 : (0 : Int32).toInt = 0 := rfl
  have e1 : (255 : Int32).toInt = 255 := rfl
  obtain ⟨k, hk⟩ : ∃ k : Nat, c.toInt = k := ⟨c.toInt.toNat, by omega⟩
  have hx : c = Int32.ofNat k := Int32.toInt_inj.mp (by rw [hk, Int32.toInt_ofNat_small (by omega)])
  rw [hx]
  exact t ⟨k, by omega⟩
end StrChars
end Jvm.Pilot.@@N@@

namespace Jvm.Pilot.@@N@@
open Jvm Jvm.ClassFile Sem Op Lib Jvm.Free Jvm.Stand Jvm.LawKit Jvm.RoadKit Bundle Jvm.Pilot.@@N@@.Jvm.D
theorem own_t {a0 : Array Value} {Z : State} (hw : ∀ d ∈ tables_1, d.before a0 Z = true) (i : Nat) {d : Jvm.Cond} (h : tables_1[i]? = some d) : d.before a0 Z = true := hw d (List.mem_of_getElem? h)
/-! own_Go: from the state S the run comes to an end of which R holds; a step is taken ahead of it (own_st), so that a walk can fork wherever it likes. -/
def own_Go (tb : Tables) (e : Env) (below : List Frame) (S : State) (R : Outcome → State → Prop) : Prop := ∃ t o, Steps tb e below S t ∧ t.status = .running ∧ Ended t below o ∧ R o t
theorem own_st {tb : Tables} {e : Env} {below : List Frame} {S S' : State} {R : Outcome → State → Prop} (h : ∀ t, Steps tb e below S' t → Steps tb e below S t) (k : own_Go tb e below S' R) : own_Go tb e below S R := by
  obtain ⟨t, o, h1, h2⟩ := k
  exact ⟨t, o, h t h1, h2⟩
abbrev own_R (s : State) (Q : Option Value → Heap → List Loc → Prop) (k n : Nat) (o : Outcome) (t : State) : Prop := ∃ v L, o = .returned v ∧ Q v t.heap L ∧ FrameEnd s o t L k n
abbrev own_Met (l : Launch) (y : MethodName) (bytes : ByteArray) (maxL : Nat) (rt : Option FieldType) (ws : List Jvm.Cond) (rm : Room) (as' : Array Value) (Z : State) (h0 : Heap) (Q : Option Value → Heap → List Loc → Prop) : Prop :=
  MetFree l y (head1 (Jvm.Cond.code y bytes maxL rt :: ws) rm) (fun a U => a = as' ∧ Z.Warmed39 U.vm ∧ U.heap = h0) (fun _ _ _ _ _ => True) (fun _ U o U' => ∃ v L, o = .returned v ∧ Q v U'.heap L ∧ FrameEnd U o U' L rm.cells rm.slots)
theorem own_body {l : Launch} {y : MethodName} {bytes : ByteArray} {maxL : Nat} {rt : Option FieldType} {ws : List Jvm.Cond} {rm : Room} {as' : Array Value} {Z : State} {h0 : Heap} {Q : Option Value → Heap → List Loc → Prop} (hp : plainFor y = true)
    (hb : ∀ (p : Program) (e : Env) (s : State) (m : MethodId) (below : List Frame) (meth : Method) (c : Code) (T : State), Stand p l e rm s m as' below meth c T [] 0 0 → p.tables.exec = Jvm.exec → c.code = bytes → c.maxLocals = maxL → s.vm.findClass y.cls = some m.cls → meth.name = y.name → meth.sig.returnType = rt → meth.locks = false → Z.Warmed39 s.vm → T.heap = h0 →
      own_Go p.tables e below (T.setTop (entryFrame m as' maxL)) (own_R s Q rm.cells rm.slots)) : own_Met l y bytes maxL rt ws rm as' Z h0 Q := by
  refine MetFree.of_bodySF hp hisR ?_
  intro p e s m args below meth c s₁ Bd hml0 hP hK
  obtain ⟨rfl, hZ, hh⟩ := hP
  exact hb p e s m below meth c s₁ (Stand.of_body Bd) Bd.exec Bd.bytes hml0 (findClass_of_methodNamed Bd.named) (name_of_methodNamed Bd.named Bd.method).1 Bd.returns Bd.notSynchronized hZ (by rw [← hh, Bd.state]; rfl)
section Own
variable {p : Program} {l : Launch} {e : Env} {R : Room} {s : State} {m : MethodId} {args : Array Value} {below : List Frame} {meth : Method} {c : Code} {T : State} {locs : List Loc} {cells slots : Nat} {Z : State} {a0 : Array Value} {h : Heap} {Q : Option Value → Heap → List Loc → Prop} {RR : Outcome → State → Prop}
theorem own_cat {v : Value} (q : v.isRef = true) : v.category = 1 := by cases v <;> simp [Value.isRef, Value.category] at q ⊢
theorem own_eqI {first : State} {o : Option Outcome} {idx : List Nat} {a : Term} {k : Int32} (q : (Jvm.Cond.eq a (.int k)).value args first o s idx = some true) : a.eval args first o idx s = some (.int k) := by
  simp only [Cond.value, Term.eval] at q
  cases ht : a.eval args first o idx s with
  | none => simp [ht] at q
  | some x => cases x <;> simp [ht] at q ⊢ <;> exact q
theorem own_Z0 {n0 : Nat} (O : Old Z n0 h) : n0 ≤ h.size := O.1 ▸ O.2.1
theorem own_leave (X : Stand p l e R s m args below meth c T locs cells slots) (hlk : meth.locks = false) {v : Option Value} (hv : meth.sig.returnType = none → v = none) {S : State} {k n : Nat} (hk : cells ≤ k) (hn : slots ≤ n) (hq : Q v T.heap locs)
    (st : ∀ fs : List Frame, (∀ (f : JFrame) (acts : List Action), f.method = m → f.locked = none → f.entered = [] → (doReturn e (T.setTop f) acts v).1 = T.setFrames fs) → Steps p.tables e below S (T.setFrames fs)) : own_Go p.tables e below S (own_R s Q k n) := by
  obtain ⟨fs, hr, hrun, hended, hW, hsame⟩ := X.leave (v := v) hv hlk
  exact ⟨_, _, st fs hr, hrun, hended, v, locs, rfl, hq, ⟨_, rfl⟩, hW, hsame.mono hk hn⟩
theorem own_retI (X : Stand p l e R s m args below meth c T locs cells slots) (hx : p.tables.exec = Jvm.exec) {pc : Nat} {Ls : Array Slot} {z : Int32} {rest : List Value} (hret : meth.sig.returnType = some .int) (hd : decode c.code pc = .ok (.ireturn, 1)) (hlk : meth.locks = false) {k n : Nat} (hk : cells ≤ k) (hn : slots ≤ n) (hq : Q (some (.int z)) T.heap locs) :
    own_Go p.tables e below (T.setTop (mkF m pc Ls (.int z :: rest))) (own_R s Q k n) := by
  refine own_leave X hlk (fun q => by rw [hret] at q; cases q) hk hn hq fun fs hl => ?_
  have hm' : T.vm.method? m = some meth := X.method'
  have hn : narrow .int (.int z) = .int z := rfl
  show Steps p.tables e below (T.setTop { method := m, pc := pc, locals := Ls, stack := _ :: rest, locked := none }) _
  jvm_step X.here [X.here.top, hx, hd, hm', hret, hn]
  first | (intro acts; rw [hl _ acts rfl rfl rfl]) | rw [hl _ _ rfl rfl rfl]
  exact Steps.refl _
theorem own_retZ (X : Stand p l e R s m args below meth c T locs cells slots) (hx : p.tables.exec = Jvm.exec) {pc : Nat} {Ls : Array Slot} {z : Int32} {t : FieldType} {rest : List Value} (hret : meth.sig.returnType = some t) (ht : t = .boolean ∨ t = .byte ∨ t = .char ∨ t = .short) (hd : decode c.code pc = .ok (.ireturn, 1)) (hlk : meth.locks = false) {k n : Nat} (hk : cells ≤ k) (hn : slots ≤ n) (hq : Q (some (.int (nar t z))) T.heap locs) :
    own_Go p.tables e below (T.setTop (mkF m pc Ls (.int z :: rest))) (own_R s Q k n) :=
  own_leave X hlk (fun q => by rw [hret] at q; cases q) hk hn hq fun fs hl => retN X hx hret ht hd hl
theorem own_retA (X : Stand p l e R s m args below meth c T locs cells slots) (hx : p.tables.exec = Jvm.exec) {pc : Nat} {Ls : Array Slot} {z : Value} {t : FieldType} {rest : List Value} (hret : meth.sig.returnType = some t) (ht : t.isReference = true) (hz : z.isRef = true) (hd : decode c.code pc = .ok (.areturn, 1)) (hlk : meth.locks = false) {k n : Nat} (hk : cells ≤ k) (hn : slots ≤ n) (hq : Q (some z) T.heap locs) :
    own_Go p.tables e below (T.setTop (mkF m pc Ls (z :: rest))) (own_R s Q k n) := by
  refine own_leave X hlk (fun q => by rw [hret] at q; cases q) hk hn hq fun fs hl => ?_
  have hm' : T.vm.method? m = some meth := X.method'
  show Steps p.tables e below (T.setTop { method := m, pc := pc, locals := Ls, stack := _ :: rest, locked := none }) _
  jvm_step X.here [X.here.top, hx, hd, hm', hret, ht, hz]
  first | (intro acts; rw [hl _ acts rfl rfl rfl]) | rw [hl _ _ rfl rfl rfl]
  exact Steps.refl _
theorem own_retJ (X : Stand p l e R s m args below meth c T locs cells slots) (hx : p.tables.exec = Jvm.exec) {pc : Nat} {Ls : Array Slot} {z : Int64} {rest : List Value} (hret : meth.sig.returnType = some .long) (hd : decode c.code pc = .ok (.lreturn, 1)) (hlk : meth.locks = false) {k n : Nat} (hk : cells ≤ k) (hn : slots ≤ n) (hq : Q (some (.long z)) T.heap locs) :
    own_Go p.tables e below (T.setTop (mkF m pc Ls (.long z :: rest))) (own_R s Q k n) := by
  refine own_leave X hlk (fun q => by rw [hret] at q; cases q) hk hn hq fun fs hl => ?_
  have hm' : T.vm.method? m = some meth := X.method'
  show Steps p.tables e below (T.setTop { method := m, pc := pc, locals := Ls, stack := _ :: rest, locked := none }) _
  jvm_step X.here [X.here.top, hx, hd, hm', hret, narrow]
  first | (intro acts; rw [hl _ acts rfl rfl rfl]) | rw [hl _ _ rfl rfl rfl]
  exact Steps.refl _
theorem own_retV (X : Stand p l e R s m args below meth c T locs cells slots) (hx : p.tables.exec = Jvm.exec) {pc : Nat} {Ls : Array Slot} (hret : meth.sig.returnType = none) (hd : decode c.code pc = .ok (.return_, 1)) (hlk : meth.locks = false) {k n : Nat} (hk : cells ≤ k) (hn : slots ≤ n) (hq : Q none T.heap locs) :
    own_Go p.tables e below (T.setTop (mkF m pc Ls [])) (own_R s Q k n) :=
  own_leave X hlk (fun _ => rfl) hk hn hq fun fs hl => X.returnOut hx hret hd hl
theorem own_callS (X : Stand p l e R s m args below meth c T locs cells slots) (hx : p.tables.exec = Jvm.exec) (hZ : Z.Warmed39 s.vm) {y : MethodName} {bytes : ByteArray} {maxL : Nat} {rt : Option FieldType} {rm : Room} {as' : Array Value}
    (hM : own_Met l y bytes maxL rt [] rm as' Z h Q) {own : String} {index : Nat} (hown : s.vm.findClass own = some m.cls) (w1 : (Cond.methodLink own index y).before a0 Z = true) (w2 : (Cond.static y).before a0 Z = true) (w3 : (Cond.initialized y.cls).before a0 Z = true) (w4 : (Cond.code y bytes maxL rt).before a0 Z = true)
    (hy : y.cls ≠ "java/lang/invoke/MethodHandle" ∧ y.cls ≠ "java/lang/invoke/VarHandle") {W : Nat} (hf : rm.frames + 1 ≤ R.frames) (hl : W + (maxL + 11) + rm.locals ≤ R.locals) {pc : Nat} {Ls : Array Slot} (hsz : Ls.size = c.maxLocals) {argsL rest st : List Value} (ha : argsL.toArray = as')
    (hlen : ∀ sig, parseMethodDescriptor y.desc = some sig → argsL.length = sig.parameters.length) (hst : st = argsL.reverse ++ rest) (hW : (rest.map fun v => v.category).sum ≤ W) (hd : decode c.code pc = .ok (.invokestatic index, 3)) (eT : T.heap = h) (hc : cells + rm.cells ≤ R.cells) (hs : slots + rm.slots ≤ R.slots)
    (k : ∀ (v : Option Value) (T' : State) (L : List Loc), Stand p l e R s m args below meth c T' (locs ++ L) (cells + rm.cells) (slots + rm.slots) → Q v T'.heap L → own_Go p.tables e below (T'.setTop (mkF m (pc + 3) Ls (v.toList ++ rest))) RR) :
    own_Go p.tables e below (T.setTop (mkF m pc Ls st)) RR := by
  subst ha
  obtain ⟨v, _, ⟨T', L', k', n'⟩, -, X', ⟨Lc, hQ, l', y', z'⟩, stp⟩ := Jvm.LawKit.callS X hx (y := y) hown (mvT hZ w1) (mvT hZ w2) (mvT hZ w3) (mvT hZ w4) hy (backOf (W := W) hM hZ w4 w3 hf hl) (g := mkF m pc Ls st) rfl hsz (argsL := argsL) (rest := rest) hlen hst (by show 2 * 0 + _ ≤ _; omega) hd (fun _ _ => ⟨rfl, eT, hc, hs⟩)
  dsimp only [Pt.U, Pt.locs, Pt.cells, Pt.slots] at X' l' y' z' stp hQ
  subst l' y' z'
  exact own_st stp (k v T' Lc X' hQ)
theorem own_callV (X : Stand p l e R s m args below meth c T locs cells slots) (hx : p.tables.exec = Jvm.exec) (hZ : Z.Warmed39 s.vm) {y : MethodName} {bytes : ByteArray} {maxL : Nat} {rt : Option FieldType} {rm : Room} {as' : Array Value}
    (hM : own_Met l y bytes maxL rt [] rm as' Z h Q) {own C : String} {index : Nat} (hown : s.vm.findClass own = some m.cls) (w1 : (Cond.methodLink own index y).before a0 Z = true) (w2 : (Cond.declares y).before a0 Z = true) (w3 : (Cond.selects C y y).before a0 Z = true) (w4 : (Cond.instanceMethod y).before a0 Z = true) (w5 : (Cond.code y bytes maxL rt).before a0 Z = true) (w6 : (Cond.initialized y.cls).before a0 Z = true)
    (hy : y.cls ≠ "java/lang/invoke/MethodHandle" ∧ y.cls ≠ "java/lang/invoke/VarHandle") {a : Addr} (E : Exa Z h a C) {W : Nat} (hf : rm.frames + 1 ≤ R.frames) (hl : W + (maxL + 11) + rm.locals ≤ R.locals) {pc : Nat} {Ls : Array Slot} (hsz : Ls.size = c.maxLocals) {argsL rest st : List Value} (ha : (Value.ref a :: argsL).toArray = as')
    (hlen : ∀ sig, parseMethodDescriptor y.desc = some sig → argsL.length = sig.parameters.length) (hst : st = argsL.reverse ++ .ref a :: rest) (hW : (rest.map fun v => v.category).sum ≤ W) (hd : decode c.code pc = .ok (.invokevirtual index, 3)) (eT : T.heap = h) (hc : cells + rm.cells ≤ R.cells) (hs : slots + rm.slots ≤ R.slots)
    (k : ∀ (v : Option Value) (T' : State) (L : List Loc), Stand p l e R s m args below meth c T' (locs ++ L) (cells + rm.cells) (slots + rm.slots) → Q v T'.heap L → own_Go p.tables e below (T'.setTop (mkF m (pc + 3) Ls (v.toList ++ rest))) RR) :
    own_Go p.tables e below (T.setTop (mkF m pc Ls st)) RR := by
  subst ha
  obtain ⟨cB, kB, qa, qb, qc⟩ := isOf hZ eT E
  obtain ⟨v, _, ⟨T', L', k', n'⟩, -, X', ⟨Lc, hQ, l', y', z'⟩, stp⟩ := X.virtualBack hx (y := y) (z := y) hown (mvT hZ w1) (mvT hZ w2) (notFace_of_selects (args := #[]) (mvT hZ w3)) (mvT hZ w3) (mvT hZ w4) hy (backOf (W := W) hM hZ w5 w6 hf hl) qa qc (g := mkF m pc Ls st) rfl hsz (Steps.refl _) (argsL := argsL) (rest := rest) hlen hst (by show 2 * 0 + _ ≤ _; omega) hd (fun _ _ => ⟨rfl, eT, hc, hs⟩)
  dsimp only [Pt.U, Pt.locs, Pt.cells, Pt.slots] at X' l' y' z' stp hQ
  subst l' y' z'
  exact own_st (fun t k => stp.trans k) (k v T' Lc X' hQ)
theorem own_iload (X : Stand p l e R s m args below meth c T locs cells slots) (hx : p.tables.exec = Jvm.exec) {B : ByteArray} (hby : c.code = B) {pc pc' : Nat} {Ls : Array Slot} {S : List Value} {k : Nat} {v : Int32} (hd : decode B pc = .ok (.iload k, 2)) (hp : pc + 2 = pc') (hl : Ls[k]? = some (.val (.int v))) (g : own_Go p.tables e below (T.setTop (mkF m pc' Ls (.int v :: S))) RR) : own_Go p.tables e below (T.setTop (mkF m pc Ls S)) RR := by
  subst hp
  exact own_st (fun t k => XS.iload X.here hx rfl (hb hby hd) hl k) g
theorem own_iloadN (X : Stand p l e R s m args below meth c T locs cells slots) (hx : p.tables.exec = Jvm.exec) {B : ByteArray} (hby : c.code = B) {pc pc' : Nat} {Ls : Array Slot} {S : List Value} {k : Fin 4} {v : Int32} (hd : decode B pc = .ok (.iload_n k, 1)) (hp : pc + 1 = pc') (hl : Ls[k.val]? = some (.val (.int v))) (g : own_Go p.tables e below (T.setTop (mkF m pc' Ls (.int v :: S))) RR) : own_Go p.tables e below (T.setTop (mkF m pc Ls S)) RR := by
  subst hp
  exact own_st (fun t k => XS.iloadN X.here hx rfl (hb hby hd) hl k) g
theorem own_lload (X : Stand p l e R s m args below meth c T locs cells slots) (hx : p.tables.exec = Jvm.exec) {B : ByteArray} (hby : c.code = B) {pc pc' : Nat} {Ls : Array Slot} {S : List Value} {k : Nat} {v : Int64} (hd : decode B pc = .ok (.lload k, 2)) (hp : pc + 2 = pc') (hl : Ls[k]? = some (.val (.long v))) (g : own_Go p.tables e below (T.setTop (mkF m pc' Ls (.long v :: S))) RR) : own_Go p.tables e below (T.setTop (mkF m pc Ls S)) RR := by
  subst hp
  exact own_st (fun t k => XS.lload X.here hx rfl (hb hby hd) hl k) g
theorem own_lloadN (X : Stand p l e R s m args below meth c T locs cells slots) (hx : p.tables.exec = Jvm.exec) {B : ByteArray} (hby : c.code = B) {pc pc' : Nat} {Ls : Array Slot} {S : List Value} {k : Fin 4} {v : Int64} (hd : decode B pc = .ok (.lload_n k, 1)) (hp : pc + 1 = pc') (hl : Ls[k.val]? = some (.val (.long v))) (g : own_Go p.tables e below (T.setTop (mkF m pc' Ls (.long v :: S))) RR) : own_Go p.tables e below (T.setTop (mkF m pc Ls S)) RR := by
  subst hp
  exact own_st (fun t k => XS.lloadN X.here hx rfl (hb hby hd) hl k) g
theorem own_aload (X : Stand p l e R s m args below meth c T locs cells slots) (hx : p.tables.exec = Jvm.exec) {B : ByteArray} (hby : c.code = B) {pc pc' : Nat} {Ls : Array Slot} {S : List Value} {k : Nat} {v : Value} (hd : decode B pc = .ok (.aload k, 2)) (hp : pc + 2 = pc') (hl : Ls[k]? = some (.val v)) (hv : v.isRef = true) (g : own_Go p.tables e below (T.setTop (mkF m pc' Ls (v :: S))) RR) : own_Go p.tables e below (T.setTop (mkF m pc Ls S)) RR := by
  subst hp
  exact own_st (fun t k => XS.aload X.here hx rfl (hb hby hd) hl hv k) g
theorem own_aloadN (X : Stand p l e R s m args below meth c T locs cells slots) (hx : p.tables.exec = Jvm.exec) {B : ByteArray} (hby : c.code = B) {pc pc' : Nat} {Ls : Array Slot} {S : List Value} {k : Fin 4} {v : Value} (hd : decode B pc = .ok (.aload_n k, 1)) (hp : pc + 1 = pc') (hl : Ls[k.val]? = some (.val v)) (hv : v.isRef = true) (g : own_Go p.tables e below (T.setTop (mkF m pc' Ls (v :: S))) RR) : own_Go p.tables e below (T.setTop (mkF m pc Ls S)) RR := by
  subst hp
  exact own_st (fun t k => XS.aloadN X.here hx rfl (hb hby hd) hl hv k) g
theorem own_istore (X : Stand p l e R s m args below meth c T locs cells slots) (hx : p.tables.exec = Jvm.exec) {B : ByteArray} (hby : c.code = B) {pc pc' : Nat} {Ls : Array Slot} {S : List Value} {k : Nat} {v : Int32} {Ls' : Array Slot} (hd : decode B pc = .ok (.istore k, 2)) (hp : pc + 2 = pc') (hl : storeLocals Ls k (.int v) = some Ls') (g : own_Go p.tables e below (T.setTop (mkF m pc' Ls' S)) RR) : own_Go p.tables e below (T.setTop (mkF m pc Ls (.int v :: S))) RR := by
  subst hp
  exact own_st (fun t k => XS.istore X.here hx rfl (hb hby hd) rfl hl k) g
theorem own_istoreN (X : Stand p l e R s m args below meth c T locs cells slots) (hx : p.tables.exec = Jvm.exec) {B : ByteArray} (hby : c.code = B) {pc pc' : Nat} {Ls : Array Slot} {S : List Value} {k : Fin 4} {v : Int32} {Ls' : Array Slot} (hd : decode B pc = .ok (.istore_n k, 1)) (hp : pc + 1 = pc') (hl : storeLocals Ls k.val (.int v) = some Ls') (g : own_Go p.tables e below (T.setTop (mkF m pc' Ls' S)) RR) : own_Go p.tables e below (T.setTop (mkF m pc Ls (.int v :: S))) RR := by
  subst hp
  exact own_st (fun t k => XS.istoreN X.here hx rfl (hb hby hd) rfl hl k) g
theorem own_lstore (X : Stand p l e R s m args below meth c T locs cells slots) (hx : p.tables.exec = Jvm.exec) {B : ByteArray} (hby : c.code = B) {pc pc' : Nat} {Ls : Array Slot} {S : List Value} {k : Nat} {v : Int64} {Ls' : Array Slot} (hd : decode B pc = .ok (.lstore k, 2)) (hp : pc + 2 = pc') (hl : storeLocals Ls k (.long v) = some Ls') (g : own_Go p.tables e below (T.setTop (mkF m pc' Ls' S)) RR) : own_Go p.tables e below (T.setTop (mkF m pc Ls (.long v :: S))) RR := by
  subst hp
  exact own_st (fun t k => XS.lstore X.here hx rfl (hb hby hd) rfl hl k) g
theorem own_lstoreN (X : Stand p l e R s m args below meth c T locs cells slots) (hx : p.tables.exec = Jvm.exec) {B : ByteArray} (hby : c.code = B) {pc pc' : Nat} {Ls : Array Slot} {S : List Value} {k : Fin 4} {v : Int64} {Ls' : Array Slot} (hd : decode B pc = .ok (.lstore_n k, 1)) (hp : pc + 1 = pc') (hl : storeLocals Ls k.val (.long v) = some Ls') (g : own_Go p.tables e below (T.setTop (mkF m pc' Ls' S)) RR) : own_Go p.tables e below (T.setTop (mkF m pc Ls (.long v :: S))) RR := by
  subst hp
  exact own_st (fun t k => XS.lstoreN X.here hx rfl (hb hby hd) rfl hl k) g
theorem own_astore (X : Stand p l e R s m args below meth c T locs cells slots) (hx : p.tables.exec = Jvm.exec) {B : ByteArray} (hby : c.code = B) {pc pc' : Nat} {Ls : Array Slot} {S : List Value} {k : Nat} {v : Value} {Ls' : Array Slot} (hd : decode B pc = .ok (.astore k, 2)) (hp : pc + 2 = pc') (hv : v.isRef = true) (hl : storeLocals Ls k v = some Ls') (g : own_Go p.tables e below (T.setTop (mkF m pc' Ls' S)) RR) : own_Go p.tables e below (T.setTop (mkF m pc Ls (v :: S))) RR := by
  subst hp
  exact own_st (fun t k => XS.astore X.here hx rfl (hb hby hd) rfl hv hl k) g
theorem own_astoreN (X : Stand p l e R s m args below meth c T locs cells slots) (hx : p.tables.exec = Jvm.exec) {B : ByteArray} (hby : c.code = B) {pc pc' : Nat} {Ls : Array Slot} {S : List Value} {k : Fin 4} {v : Value} {Ls' : Array Slot} (hd : decode B pc = .ok (.astore_n k, 1)) (hp : pc + 1 = pc') (hv : v.isRef = true) (hl : storeLocals Ls k.val v = some Ls') (g : own_Go p.tables e below (T.setTop (mkF m pc' Ls' S)) RR) : own_Go p.tables e below (T.setTop (mkF m pc Ls (v :: S))) RR := by
  subst hp
  exact own_st (fun t k => XS.astoreN X.here hx rfl (hb hby hd) rfl hv hl k) g
theorem own_iconst (X : Stand p l e R s m args below meth c T locs cells slots) (hx : p.tables.exec = Jvm.exec) {B : ByteArray} (hby : c.code = B) {pc pc' : Nat} {Ls : Array Slot} {S : List Value} {i : Int} {z : Int32} (hd : decode B pc = .ok (.iconst i, 1)) (hp : pc + 1 = pc') (hz : Int32.ofInt i = z) (g : own_Go p.tables e below (T.setTop (mkF m pc' Ls (.int z :: S))) RR) : own_Go p.tables e below (T.setTop (mkF m pc Ls S)) RR := by
  subst hp
  subst hz
  exact own_st (fun t k => XS.iconst X.here hx rfl (hb hby hd) k) g
theorem own_bipush (X : Stand p l e R s m args below meth c T locs cells slots) (hx : p.tables.exec = Jvm.exec) {B : ByteArray} (hby : c.code = B) {pc pc' : Nat} {Ls : Array Slot} {S : List Value} {i : Int} {z : Int32} (hd : decode B pc = .ok (.bipush i, 2)) (hp : pc + 2 = pc') (hz : (Int8.ofInt i).toInt32 = z) (g : own_Go p.tables e below (T.setTop (mkF m pc' Ls (.int z :: S))) RR) : own_Go p.tables e below (T.setTop (mkF m pc Ls S)) RR := by
  subst hp
  subst hz
  exact own_st (fun t k => XS.bipush X.here hx rfl (hb hby hd) k) g
theorem own_sipush (X : Stand p l e R s m args below meth c T locs cells slots) (hx : p.tables.exec = Jvm.exec) {B : ByteArray} (hby : c.code = B) {pc pc' : Nat} {Ls : Array Slot} {S : List Value} {i : Int} {z : Int32} (hd : decode B pc = .ok (.sipush i, 3)) (hp : pc + 3 = pc') (hz : (Int16.ofInt i).toInt32 = z) (g : own_Go p.tables e below (T.setTop (mkF m pc' Ls (.int z :: S))) RR) : own_Go p.tables e below (T.setTop (mkF m pc Ls S)) RR := by
  subst hp
  subst hz
  exact own_st (fun t k => XS.sipush X.here hx rfl (hb hby hd) k) g
theorem own_lconst (X : Stand p l e R s m args below meth c T locs cells slots) (hx : p.tables.exec = Jvm.exec) {B : ByteArray} (hby : c.code = B) {pc pc' : Nat} {Ls : Array Slot} {S : List Value} {k : Fin 2} {z : Int64} (hd : decode B pc = .ok (.lconst k, 1)) (hp : pc + 1 = pc') (hz : Int64.ofNat k = z) (g : own_Go p.tables e below (T.setTop (mkF m pc' Ls (.long z :: S))) RR) : own_Go p.tables e below (T.setTop (mkF m pc Ls S)) RR := by
  subst hp
  subst hz
  exact own_st (fun t k => XS.lconst X.here hx rfl (hb hby hd) k) g
theorem own_aconst_null (X : Stand p l e R s m args below meth c T locs cells slots) (hx : p.tables.exec = Jvm.exec) {B : ByteArray} (hby : c.code = B) {pc pc' : Nat} {Ls : Array Slot} {S : List Value}  (hd : decode B pc = .ok (.aconst_null, 1)) (hp : pc + 1 = pc')  (g : own_Go p.tables e below (T.setTop (mkF m pc' Ls (.null :: S))) RR) : own_Go p.tables e below (T.setTop (mkF m pc Ls S)) RR := by
  subst hp
  exact own_st (fun t k => XS.aconstNull X.here hx rfl (hb hby hd) k) g
theorem own_ladd (X : Stand p l e R s m args below meth c T locs cells slots) (hx : p.tables.exec = Jvm.exec) {B : ByteArray} (hby : c.code = B) {pc pc' : Nat} {Ls : Array Slot} {S : List Value} {x y z : Int64} (hd : decode B pc = .ok (.ladd, 1)) (hp : pc + 1 = pc') (hz : x + y = z) (g : own_Go p.tables e below (T.setTop (mkF m pc' Ls (.long z :: S))) RR) : own_Go p.tables e below (T.setTop (mkF m pc Ls (.long y :: .long x :: S))) RR := by
  subst hp
  subst hz
  exact own_st (fun t k => XS.ladd X.here hx rfl (hb hby hd) rfl k) g
theorem own_isub (X : Stand p l e R s m args below meth c T locs cells slots) (hx : p.tables.exec = Jvm.exec) {B : ByteArray} (hby : c.code = B) {pc pc' : Nat} {Ls : Array Slot} {S : List Value} {x y z : Int32} (hd : decode B pc = .ok (.isub, 1)) (hp : pc + 1 = pc') (hz : x - y = z) (g : own_Go p.tables e below (T.setTop (mkF m pc' Ls (.int z :: S))) RR) : own_Go p.tables e below (T.setTop (mkF m pc Ls (.int y :: .int x :: S))) RR := by
  subst hp
  subst hz
  exact own_st (fun t k => XS.isub X.here hx rfl (hb hby hd) rfl k) g
theorem own_lmul (X : Stand p l e R s m args below meth c T locs cells slots) (hx : p.tables.exec = Jvm.exec) {B : ByteArray} (hby : c.code = B) {pc pc' : Nat} {Ls : Array Slot} {S : List Value} {x y z : Int64} (hd : decode B pc = .ok (.lmul, 1)) (hp : pc + 1 = pc') (hz : x * y = z) (g : own_Go p.tables e below (T.setTop (mkF m pc' Ls (.long z :: S))) RR) : own_Go p.tables e below (T.setTop (mkF m pc Ls (.long y :: .long x :: S))) RR := by
  subst hp
  subst hz
  exact own_st (fun t k => XS.lmul X.here hx rfl (hb hby hd) rfl k) g
theorem own_iand (X : Stand p l e R s m args below meth c T locs cells slots) (hx : p.tables.exec = Jvm.exec) {B : ByteArray} (hby : c.code = B) {pc pc' : Nat} {Ls : Array Slot} {S : List Value} {x y z : Int32} (hd : decode B pc = .ok (.iand, 1)) (hp : pc + 1 = pc') (hz : x &&& y = z) (g : own_Go p.tables e below (T.setTop (mkF m pc' Ls (.int z :: S))) RR) : own_Go p.tables e below (T.setTop (mkF m pc Ls (.int y :: .int x :: S))) RR := by
  subst hp
  subst hz
  exact own_st (fun t k => XS.iand X.here hx rfl (hb hby hd) rfl k) g
theorem own_ior (X : Stand p l e R s m args below meth c T locs cells slots) (hx : p.tables.exec = Jvm.exec) {B : ByteArray} (hby : c.code = B) {pc pc' : Nat} {Ls : Array Slot} {S : List Value} {x y z : Int32} (hd : decode B pc = .ok (.ior, 1)) (hp : pc + 1 = pc') (hz : x ||| y = z) (g : own_Go p.tables e below (T.setTop (mkF m pc' Ls (.int z :: S))) RR) : own_Go p.tables e below (T.setTop (mkF m pc Ls (.int y :: .int x :: S))) RR := by
  subst hp
  subst hz
  exact own_st (fun t k => XS.ior X.here hx rfl (hb hby hd) rfl k) g
theorem own_lxor (X : Stand p l e R s m args below meth c T locs cells slots) (hx : p.tables.exec = Jvm.exec) {B : ByteArray} (hby : c.code = B) {pc pc' : Nat} {Ls : Array Slot} {S : List Value} {x y z : Int64} (hd : decode B pc = .ok (.lxor, 1)) (hp : pc + 1 = pc') (hz : x ^^^ y = z) (g : own_Go p.tables e below (T.setTop (mkF m pc' Ls (.long z :: S))) RR) : own_Go p.tables e below (T.setTop (mkF m pc Ls (.long y :: .long x :: S))) RR := by
  subst hp
  subst hz
  exact own_st (fun t k => XS.lxor X.here hx rfl (hb hby hd) rfl k) g
theorem own_ishl (X : Stand p l e R s m args below meth c T locs cells slots) (hx : p.tables.exec = Jvm.exec) {B : ByteArray} (hby : c.code = B) {pc pc' : Nat} {Ls : Array Slot} {S : List Value} {x y z : Int32} (hd : decode B pc = .ok (.ishl, 1)) (hp : pc + 1 = pc') (hz : x <<< (y &&& 31) = z) (g : own_Go p.tables e below (T.setTop (mkF m pc' Ls (.int z :: S))) RR) : own_Go p.tables e below (T.setTop (mkF m pc Ls (.int y :: .int x :: S))) RR := by
  subst hp
  subst hz
  exact own_st (fun t k => XS.ishl X.here hx rfl (hb hby hd) rfl k) g
theorem own_ishr (X : Stand p l e R s m args below meth c T locs cells slots) (hx : p.tables.exec = Jvm.exec) {B : ByteArray} (hby : c.code = B) {pc pc' : Nat} {Ls : Array Slot} {S : List Value} {x y z : Int32} (hd : decode B pc = .ok (.ishr, 1)) (hp : pc + 1 = pc') (hz : x >>> (y &&& 31) = z) (g : own_Go p.tables e below (T.setTop (mkF m pc' Ls (.int z :: S))) RR) : own_Go p.tables e below (T.setTop (mkF m pc Ls (.int y :: .int x :: S))) RR := by
  subst hp
  subst hz
  exact own_st (fun t k => XS.ishr X.here hx rfl (hb hby hd) rfl k) g
theorem own_iushr (X : Stand p l e R s m args below meth c T locs cells slots) (hx : p.tables.exec = Jvm.exec) {B : ByteArray} (hby : c.code = B) {pc pc' : Nat} {Ls : Array Slot} {S : List Value} {x y z : Int32} (hd : decode B pc = .ok (.iushr, 1)) (hp : pc + 1 = pc') (hz : (x.toUInt32 >>> (y &&& 31).toUInt32).toInt32 = z) (g : own_Go p.tables e below (T.setTop (mkF m pc' Ls (.int z :: S))) RR) : own_Go p.tables e below (T.setTop (mkF m pc Ls (.int y :: .int x :: S))) RR := by
  subst hp
  subst hz
  exact own_st (fun t k => XS.iushr X.here hx rfl (hb hby hd) rfl k) g
theorem own_lushr (X : Stand p l e R s m args below meth c T locs cells slots) (hx : p.tables.exec = Jvm.exec) {B : ByteArray} (hby : c.code = B) {pc pc' : Nat} {Ls : Array Slot} {S : List Value} {x z : Int64} {y : Int32} (hd : decode B pc = .ok (.lushr, 1)) (hp : pc + 1 = pc') (hz : (x.toUInt64 >>> (y &&& 0x3f).toInt64.toUInt64).toInt64 = z) (g : own_Go p.tables e below (T.setTop (mkF m pc' Ls (.long z :: S))) RR) : own_Go p.tables e below (T.setTop (mkF m pc Ls (.int y :: .long x :: S))) RR := by
  subst hp
  subst hz
  exact own_st (fun t k => XS.lushr X.here hx rfl (hb hby hd) rfl k) g
theorem own_i2l (X : Stand p l e R s m args below meth c T locs cells slots) (hx : p.tables.exec = Jvm.exec) {B : ByteArray} (hby : c.code = B) {pc pc' : Nat} {Ls : Array Slot} {S : List Value} {x : Int32} {z : Int64} (hd : decode B pc = .ok (.i2l, 1)) (hp : pc + 1 = pc') (hz : x.toInt64 = z) (g : own_Go p.tables e below (T.setTop (mkF m pc' Ls (.long z :: S))) RR) : own_Go p.tables e below (T.setTop (mkF m pc Ls (.int x :: S))) RR := by
  subst hp
  subst hz
  exact own_st (fun t k => XS.i2l X.here hx rfl (hb hby hd) rfl k) g
theorem own_i2b (X : Stand p l e R s m args below meth c T locs cells slots) (hx : p.tables.exec = Jvm.exec) {B : ByteArray} (hby : c.code = B) {pc pc' : Nat} {Ls : Array Slot} {S : List Value} {x : Int32} {z : Int32} (hd : decode B pc = .ok (.i2b, 1)) (hp : pc + 1 = pc') (hz : x.toInt8.toInt32 = z) (g : own_Go p.tables e below (T.setTop (mkF m pc' Ls (.int z :: S))) RR) : own_Go p.tables e below (T.setTop (mkF m pc Ls (.int x :: S))) RR := by
  subst hp
  subst hz
  exact own_st (fun t k => XS.i2b X.here hx rfl (hb hby hd) rfl k) g
theorem own_i2c (X : Stand p l e R s m args below meth c T locs cells slots) (hx : p.tables.exec = Jvm.exec) {B : ByteArray} (hby : c.code = B) {pc pc' : Nat} {Ls : Array Slot} {S : List Value} {x : Int32} {z : Int32} (hd : decode B pc = .ok (.i2c, 1)) (hp : pc + 1 = pc') (hz : x.toUInt32.toUInt16.toUInt32.toInt32 = z) (g : own_Go p.tables e below (T.setTop (mkF m pc' Ls (.int z :: S))) RR) : own_Go p.tables e below (T.setTop (mkF m pc Ls (.int x :: S))) RR := by
  subst hp
  subst hz
  exact own_st (fun t k => XS.i2c X.here hx rfl (hb hby hd) rfl k) g
theorem own_lcmp (X : Stand p l e R s m args below meth c T locs cells slots) (hx : p.tables.exec = Jvm.exec) {B : ByteArray} (hby : c.code = B) {pc pc' : Nat} {Ls : Array Slot} {S : List Value} {x y : Int64} (hd : decode B pc = .ok (.lcmp, 1)) (hp : pc + 1 = pc')  (g : own_Go p.tables e below (T.setTop (mkF m pc' Ls (.int (lcmpW x y) :: S))) RR) : own_Go p.tables e below (T.setTop (mkF m pc Ls (.long y :: .long x :: S))) RR := by
  subst hp
  exact own_st (fun t k => XS.lcmp X.here hx rfl (hb hby hd) rfl k) g
theorem own_iinc (X : Stand p l e R s m args below meth c T locs cells slots) (hx : p.tables.exec = Jvm.exec) {B : ByteArray} (hby : c.code = B) {pc pc' : Nat} {Ls : Array Slot} {S : List Value} {k : Nat} {cst : Int} {x z : Int32} {Ls' : Array Slot} (hd : decode B pc = .ok (.iinc k cst, 3)) (hp : pc + 3 = pc') (hl : Ls[k]? = some (.val (.int x))) (hz : x + Int32.ofInt cst = z) (hl' : storeLocals Ls k (.int z) = some Ls') (g : own_Go p.tables e below (T.setTop (mkF m pc' Ls' S)) RR) : own_Go p.tables e below (T.setTop (mkF m pc Ls S)) RR := by
  subst hp
  subst hz
  exact own_st (fun t k => XS.iinc X.here hx rfl (hb hby hd) hl hl' k) g
theorem own_dup (X : Stand p l e R s m args below meth c T locs cells slots) (hx : p.tables.exec = Jvm.exec) {B : ByteArray} (hby : c.code = B) {pc pc' : Nat} {Ls : Array Slot} {S : List Value} {x : Value} (hd : decode B pc = .ok (.dup, 1)) (hp : pc + 1 = pc') (hc : x.category = 1) (g : own_Go p.tables e below (T.setTop (mkF m pc' Ls (x :: x :: S))) RR) : own_Go p.tables e below (T.setTop (mkF m pc Ls (x :: S))) RR := by
  subst hp
  exact own_st (fun t k => XS.dup X.here hx rfl (hb hby hd) rfl hc k) g
theorem own_pop (X : Stand p l e R s m args below meth c T locs cells slots) (hx : p.tables.exec = Jvm.exec) {B : ByteArray} (hby : c.code = B) {pc pc' : Nat} {Ls : Array Slot} {S : List Value} {x : Value} (hd : decode B pc = .ok (.pop, 1)) (hp : pc + 1 = pc') (hc : x.category = 1) (g : own_Go p.tables e below (T.setTop (mkF m pc' Ls S)) RR) : own_Go p.tables e below (T.setTop (mkF m pc Ls (x :: S))) RR := by
  subst hp
  exact own_st (fun t k => XS.pop X.here hx rfl (hb hby hd) rfl hc k) g
theorem own_goto (X : Stand p l e R s m args below meth c T locs cells slots) (hx : p.tables.exec = Jvm.exec) {B : ByteArray} (hby : c.code = B) {pc pc' : Nat} {Ls : Array Slot} {S : List Value}  {o : Int} (hd : decode B pc = .ok (.goto o, 3)) (hp : 0 ≤ (pc : Int) + o ∧ ((pc : Int) + o).toNat = pc')  (g : own_Go p.tables e below (T.setTop (mkF m pc' Ls S)) RR) : own_Go p.tables e below (T.setTop (mkF m pc Ls S)) RR :=
  own_st (fun t k => XS.goto X.here hx rfl rfl (hb hby hd) hp.1 hp.2 k) g
theorem own_ifYes (X : Stand p l e R s m args below meth c T locs cells slots) (hx : p.tables.exec = Jvm.exec) {B : ByteArray} (hby : c.code = B) {pc pc' : Nat} {Ls : Array Slot} {S : List Value} {cd : ClassFile.Cond} {x : Int32} {o : Int} (hd : decode B pc = .ok (.ifCond cd o, 3)) (hp : 0 ≤ (pc : Int) + o ∧ ((pc : Int) + o).toNat = pc') (hc : if_icmp.holds cd x 0 = true) (g : own_Go p.tables e below (T.setTop (mkF m pc' Ls S)) RR) : own_Go p.tables e below (T.setTop (mkF m pc Ls (.int x :: S))) RR :=
  own_st (fun t k => XS.ifYes X.here hx rfl rfl (hb hby hd) rfl ((if0 _ _).trans hc) hp.1 hp.2 k) g
theorem own_icmpYes (X : Stand p l e R s m args below meth c T locs cells slots) (hx : p.tables.exec = Jvm.exec) {B : ByteArray} (hby : c.code = B) {pc pc' : Nat} {Ls : Array Slot} {S : List Value} {cd : ClassFile.Cond} {x y : Int32} {o : Int} (hd : decode B pc = .ok (.if_icmp cd o, 3)) (hp : 0 ≤ (pc : Int) + o ∧ ((pc : Int) + o).toNat = pc') (hc : if_icmp.holds cd x y = true) (g : own_Go p.tables e below (T.setTop (mkF m pc' Ls S)) RR) : own_Go p.tables e below (T.setTop (mkF m pc Ls (.int y :: .int x :: S))) RR :=
  own_st (fun t k => XS.icmpYes X.here hx rfl rfl (hb hby hd) rfl hc hp.1 hp.2 k) g
theorem own_ifNo (X : Stand p l e R s m args below meth c T locs cells slots) (hx : p.tables.exec = Jvm.exec) {B : ByteArray} (hby : c.code = B) {pc pc' : Nat} {Ls : Array Slot} {S : List Value} {cd : ClassFile.Cond} {o : Int} {x : Int32} (hd : decode B pc = .ok (.ifCond cd o, 3)) (hp : pc + 3 = pc') (hc : if_icmp.holds cd x 0 = false) (g : own_Go p.tables e below (T.setTop (mkF m pc' Ls S)) RR) : own_Go p.tables e below (T.setTop (mkF m pc Ls (.int x :: S))) RR := by
  subst hp
  exact own_st (fun t k => XS.ifNo X.here hx rfl (hb hby hd) rfl ((if0 _ _).trans hc) k) g
theorem own_icmpNo (X : Stand p l e R s m args below meth c T locs cells slots) (hx : p.tables.exec = Jvm.exec) {B : ByteArray} (hby : c.code = B) {pc pc' : Nat} {Ls : Array Slot} {S : List Value} {cd : ClassFile.Cond} {o : Int} {x y : Int32} (hd : decode B pc = .ok (.if_icmp cd o, 3)) (hp : pc + 3 = pc') (hc : if_icmp.holds cd x y = false) (g : own_Go p.tables e below (T.setTop (mkF m pc' Ls S)) RR) : own_Go p.tables e below (T.setTop (mkF m pc Ls (.int y :: .int x :: S))) RR := by
  subst hp
  exact own_st (fun t k => XS.icmpNo X.here hx rfl (hb hby hd) rfl hc k) g
theorem own_ldc (X : Stand p l e R s m args below meth c T locs cells slots) (hx : p.tables.exec = Jvm.exec) {B : ByteArray} (hby : c.code = B) {pc pc' : Nat} {Ls : Array Slot} {S : List Value} {own : String} {index : Nat} {v : Int32} (hd : decode B pc = .ok (.ldc index, 2)) (hp : pc + 2 = pc') (hZ : Z.Warmed39 s.vm) (hown : s.vm.findClass own = some m.cls) (w : (Cond.constant own index v).before a0 Z = true) (g : own_Go p.tables e below (T.setTop (mkF m pc' Ls (.int v :: S))) RR) : own_Go p.tables e below (T.setTop (mkF m pc Ls S)) RR := by
  subst hp
  exact own_st (X.ldcInt hx hown (mvT hZ w) (g := mkF m pc Ls S) rfl (hb hby hd)) g
theorem own_ldc2 (X : Stand p l e R s m args below meth c T locs cells slots) (hx : p.tables.exec = Jvm.exec) {B : ByteArray} (hby : c.code = B) {pc pc' : Nat} {Ls : Array Slot} {S : List Value} {own : String} {index : Nat} {v : Int64} (hd : decode B pc = .ok (.ldc2_w index, 3)) (hp : pc + 3 = pc') (hZ : Z.Warmed39 s.vm) (hown : s.vm.findClass own = some m.cls) (w : (Cond.constantLong own index v).before a0 Z = true) (g : own_Go p.tables e below (T.setTop (mkF m pc' Ls (.long v :: S))) RR) : own_Go p.tables e below (T.setTop (mkF m pc Ls S)) RR := by
  subst hp
  exact own_st (X.ldc2Long hx hown (mvT hZ w) (g := mkF m pc Ls S) rfl (hb hby hd)) g
theorem own_getS (X : Stand p l e R s m args below meth c T locs cells slots) (hx : p.tables.exec = Jvm.exec) {B : ByteArray} (hby : c.code = B) {pc pc' : Nat} {Ls : Array Slot} {S : List Value} {own R0 O n d host : String} {index : Nat} {v : Value} (hd : decode B pc = .ok (.getstatic index, 3)) (hp : pc + 3 = pc') (hZ : Z.Warmed39 s.vm) (hown : s.vm.findClass own = some m.cls) (w : (Cond.fieldLink own index R0 n d).before a0 Z = true ∨ (Cond.fieldLinkNest own index R0 n d host).before a0 Z = true) (via : Via Z R0 O n d) (eT : T.heap = h) (F : Sta Z h O n d v) (g : ∀ T' : State, Stand p l e R s m args below meth c T' locs cells slots → T'.heap = h → own_Go p.tables e below (T'.setTop (mkF m pc' Ls (v :: S))) RR) : own_Go p.tables e below (T.setTop (mkF m pc Ls S)) RR := by
  subst hp
  obtain ⟨T', X', e', st⟩ := getS2 X hx hZ hown w via eT F (g := mkF m pc Ls S) rfl (hb hby hd)
  exact own_st st (g T' X' e')
theorem own_getF (X : Stand p l e R s m args below meth c T locs cells slots) (hx : p.tables.exec = Jvm.exec) {B : ByteArray} (hby : c.code = B) {pc pc' : Nat} {Ls : Array Slot} {S : List Value} {own R0 O n d host : String} {index : Nat} {v : Value} {a : Addr} (hd : decode B pc = .ok (.getfield index, 3)) (hp : pc + 3 = pc') (hZ : Z.Warmed39 s.vm) (hown : s.vm.findClass own = some m.cls) (w : (Cond.fieldLink own index R0 n d).before a0 Z = true ∨ (Cond.fieldLinkNest own index R0 n d host).before a0 Z = true) (via : Via Z R0 O n d) (eT : T.heap = h) (F : Fld Z h a O n d v) (g : ∀ T' : State, Stand p l e R s m args below meth c T' locs cells slots → T'.heap = h → own_Go p.tables e below (T'.setTop (mkF m pc' Ls (v :: S))) RR) : own_Go p.tables e below (T.setTop (mkF m pc Ls (.ref a :: S))) RR := by
  subst hp
  obtain ⟨T', X', e', st⟩ := getF X hx hZ hown w via eT F (g := mkF m pc Ls (.ref a :: S)) rfl rfl (hb hby hd)
  exact own_st st (g T' X' e')
theorem own_new (X : Stand p l e R s m args below meth c T locs cells slots) (hx : p.tables.exec = Jvm.exec) {B : ByteArray} (hby : c.code = B) {pc pc' : Nat} {Ls : Array Slot} {S : List Value} {own C : String} {index n : Nat} (hd : decode B pc = .ok (.new index, 3)) (hp : pc + 3 = pc') (hZ : Z.Warmed39 s.vm) (hown : s.vm.findClass own = some m.cls) (w : (Cond.classLink own index C).before a0 Z = true) (wi : (Cond.instantiable C n).before a0 Z = true) (wz : (Cond.initialized C).before a0 Z = true) (eT : T.heap = h) (hc : cells + 1 ≤ R.cells) (hl : slots + n ≤ R.slots) (g : ∀ (T' : State) (h' : Heap) (a : Addr), Stand p l e R s m args below meth c T' locs (cells + 1) (slots + n) → T'.heap = h' → a = h.size → Ext h h' → Exa Z h' a C → (∀ {O nm d : String} {ty : FieldType}, Laid Z a0 C O nm d → parseFieldDescriptor d = some ty → Fld Z h' a O nm d (defaultValue ty)) → own_Go p.tables e below (T'.setTop (mkF m pc' Ls (.ref a :: S))) RR) : own_Go p.tables e below (T.setTop (mkF m pc Ls S)) RR := by
  subst hp
  obtain ⟨T', h', X', e', E', A', D', -, st⟩ := newO X hx hZ hown w wi wz eT (g := mkF m pc Ls S) rfl (hb hby hd) hc hl
  exact own_st st (g T' h' _ X' e' rfl E' A' D')
theorem own_put (X : Stand p l e R s m args below meth c T locs cells slots) (hx : p.tables.exec = Jvm.exec) {B : ByteArray} (hby : c.code = B) {pc pc' : Nat} {Ls : Array Slot} {S : List Value} {own R0 O n d host C : String} {index kk : Nat} {ty : FieldType} {a : Addr} {v old : Value} (hd : decode B pc = .ok (.putfield index, 3)) (hp : pc + 3 = pc') (hZ : Z.Warmed39 s.vm) (hown : s.vm.findClass own = some m.cls) (w : (Cond.fieldLink own index R0 n d).before a0 Z = true ∨ (Cond.fieldLinkNest own index R0 n d host).before a0 Z = true) (via : Via Z R0 O n d) (eT : T.heap = h) (F : Fld Z h a O n d old) (E : Exa Z h a C) (L : (Cond.lays C O n d).before a0 Z = true ∨ ((Cond.laysFinal C O n d).before a0 Z = true ∧ own = O ∧ meth.name = "<init>")) (wi : (Cond.instantiable C kk).before a0 Z = true) (hty : parseFieldDescriptor d = some ty) (hn : narrow ty v = v) (hf : fits ty v = true) (g : ∀ (T' : State) (h' : Heap), Stand p l e R s m args below meth c T' (locs ++ [⟨a, Jvm.RoadKit.slotOf Z O n d⟩]) cells slots → T'.heap = h' → Wr h h' a (Jvm.RoadKit.slotOf Z O n d) v → own_Go p.tables e below (T'.setTop (mkF m pc' Ls S)) RR) : own_Go p.tables e below (T.setTop (mkF m pc Ls (v :: .ref a :: S))) RR := by
  subst hp
  obtain ⟨T', h', X', e', W', st⟩ := putF X hx hZ hown w via eT F E L wi hty hn hf (g := mkF m pc Ls (v :: .ref a :: S)) rfl rfl (hb hby hd)
  exact own_st st (g T' h' X' e' W')
theorem own_putN (X : Stand p l e R s m args below meth c T locs cells slots) (hx : p.tables.exec = Jvm.exec) {B : ByteArray} (hby : c.code = B) {pc pc' : Nat} {Ls : Array Slot} {S : List Value} {own R0 O n d C : String} {index kk : Nat} {ty : FieldType} {a : Addr} {v v' old : Value} (hd : decode B pc = .ok (.putfield index, 3)) (hp : pc + 3 = pc') (hZ : Z.Warmed39 s.vm) (hown : s.vm.findClass own = some m.cls) (w : (Cond.fieldLink own index R0 n d).before a0 Z = true) (via : Via Z R0 O n d) (eT : T.heap = h) (F : Fld Z h a O n d old) (E : Exa Z h a C) (L : (Cond.lays C O n d).before a0 Z = true ∨ ((Cond.laysFinal C O n d).before a0 Z = true ∧ own = O ∧ meth.name = "<init>")) (wi : (Cond.instantiable C kk).before a0 Z = true) (hty : parseFieldDescriptor d = some ty) (hn : narrow ty v = v') (hf : fits ty v' = true) (g : ∀ (T' : State) (h' : Heap), Stand p l e R s m args below meth c T' (locs ++ [⟨a, Jvm.RoadKit.slotOf Z O n d⟩]) cells slots → T'.heap = h' → Wr h h' a (Jvm.RoadKit.slotOf Z O n d) v' → own_Go p.tables e below (T'.setTop (mkF m pc' Ls S)) RR) : own_Go p.tables e below (T.setTop (mkF m pc Ls (v :: .ref a :: S))) RR := by
  subst hp
  obtain ⟨T', h', X', e', W', st⟩ := putFN X hx hZ hown w via eT F E L wi hty hn hf (g := mkF m pc Ls (v :: .ref a :: S)) rfl rfl (hb hby hd)
  exact own_st st (g T' h' X' e' W')
theorem own_initO (X : Stand p l e R s m args below meth c T locs cells slots) (hx : p.tables.exec = Jvm.exec) {B : ByteArray} (hby : c.code = B) {pc pc' : Nat} {Ls : Array Slot} {S : List Value} {own : String} {index : Nat} {a : Addr} (hd : decode B pc = .ok (.invokespecial index, 3)) (hp : pc + 3 = pc') (hZ : Z.Warmed39 s.vm) (hown : s.vm.findClass own = some m.cls) (w1 : (Cond.methodLink own index Lib.objectInit).before a0 Z = true) (w2 : (Cond.instanceMethod Lib.objectInit).before a0 Z = true) (w3 : (Cond.code Lib.objectInit ⟨#[0xb1]⟩ 1 none).before a0 Z = true) (eT : T.heap = h) (hsz : Ls.size = c.maxLocals) (hf : 1 ≤ R.frames) {W : Nat} (hW : (S.map fun v => v.category).sum ≤ W) (hl : W + 12 ≤ R.locals) (g : ∀ (T' : State), Stand p l e R s m args below meth c T' locs cells slots → T'.heap = h → own_Go p.tables e below (T'.setTop (mkF m pc' Ls S)) RR) : own_Go p.tables e below (T.setTop (mkF m pc Ls (.ref a :: S))) RR := by
  subst hp
  obtain ⟨T', X', e', st⟩ := initO X hx hZ hown w1 w2 w3 eT (g := mkF m pc Ls (.ref a :: S)) rfl hsz rfl (hb hby hd) hf (W := W) (by show 2 * 0 + _ ≤ _; omega) hl
  exact own_st st (g T' X' e')
theorem own_callSp (X : Stand p l e R s m args below meth c T locs cells slots) (hx : p.tables.exec = Jvm.exec) (hZ : Z.Warmed39 s.vm) {y : MethodName} {bytes : ByteArray} {maxL : Nat} {rm : Room} {as' : Array Value}
    (hM : own_Met l y bytes maxL none [] rm as' Z h Q) (hin : y.name = "<init>") {own : String} {index : Nat} (hown : s.vm.findClass own = some m.cls) (w1 : (Cond.methodLink own index y).before a0 Z = true) (w4 : (Cond.instanceMethod y).before a0 Z = true) (w5 : (Cond.code y bytes maxL none).before a0 Z = true) (w6 : (Cond.initialized y.cls).before a0 Z = true)
    (hy : y.cls ≠ "java/lang/invoke/MethodHandle" ∧ y.cls ≠ "java/lang/invoke/VarHandle") {a : Addr} {W : Nat} (hf : rm.frames + 1 ≤ R.frames) (hl : W + (maxL + 11) + rm.locals ≤ R.locals) {pc : Nat} {Ls : Array Slot} (hsz : Ls.size = c.maxLocals) {argsL rest st : List Value} (ha : (Value.ref a :: argsL).toArray = as')
    (hlen : ∀ sig, parseMethodDescriptor y.desc = some sig → argsL.length = sig.parameters.length) (hst : st = argsL.reverse ++ .ref a :: rest) (hW : (rest.map fun v => v.category).sum ≤ W) (hd : decode c.code pc = .ok (.invokespecial index, 3)) (eT : T.heap = h) (hc : cells + rm.cells ≤ R.cells) (hs : slots + rm.slots ≤ R.slots)
    (k : ∀ (v : Option Value) (T' : State) (L : List Loc), Stand p l e R s m args below meth c T' (locs ++ L) (cells + rm.cells) (slots + rm.slots) → Q v T'.heap L → own_Go p.tables e below (T'.setTop (mkF m (pc + 3) Ls (v.toList ++ rest))) RR) :
    own_Go p.tables e below (T.setTop (mkF m pc Ls st)) RR := by
  subst ha
  obtain ⟨v, _, ⟨T', L', k', n'⟩, -, X', ⟨Lc, hQ, l', y', z'⟩, stp⟩ := X.specialBack hx (y := y) hin hown (mvT hZ w1) (mvT hZ w4) (mvT hZ w5) hy (backOf (W := W) hM hZ w5 w6 hf hl) (g := mkF m pc Ls st) rfl hsz (Steps.refl _) (a := a) (argsL := argsL) (rest := rest) hlen hst (by show 2 * 0 + _ ≤ _; omega) hd (fun _ _ => ⟨rfl, eT, hc, hs⟩)
  dsimp only [Pt.U, Pt.locs, Pt.cells, Pt.slots] at X' l' y' z' stp hQ
  subst l' y' z'
  exact own_st (fun t k => stp.trans k) (k v T' Lc X' hQ)
/-! arrays: own_Ar says all that an array holds, by a list -/
def own_Ar (Z : State) (h : Heap) (a : Addr) (ty : FieldType) (vs : List Value) : Prop := ∃ c : Cell, Arr Z h a c ty ∧ c.slots.toList = vs
theorem own_Ar.lt {a : Addr} {ty : FieldType} {vs : List Value} (F : own_Ar Z h a ty vs) : a < h.size := by obtain ⟨c, A, -⟩ := F; exact A.lt
theorem own_Ar.ext {h' : Heap} {a : Addr} {ty : FieldType} {vs : List Value} (F : own_Ar Z h a ty vs) (E : Ext h h') : own_Ar Z h' a ty vs := by obtain ⟨c, A, q⟩ := F; exact ⟨c, A.ext E, q⟩
theorem own_Ar.other {h' : Heap} {a b : Addr} {sl : Nat} {v : Value} {ty : FieldType} {vs : List Value} (F : own_Ar Z h b ty vs) (W : Wr h h' a sl v) (q : b ≠ a) : own_Ar Z h' b ty vs := by obtain ⟨c, A, r⟩ := F; exact ⟨c, A.other W q, r⟩
theorem own_Ar.keep {h' : Heap} {a : Addr} {ws : List Addr} {ty : FieldType} {vs : List Value} (F : own_Ar Z h a ty vs) (K : Keep h h' ws) (q : a ∉ ws) : own_Ar Z h' a ty vs := by obtain ⟨c, A, r⟩ := F; exact ⟨c, ⟨K.2.1 a c A.1 q, A.2⟩, r⟩
theorem own_Ar.same {h' : Heap} {a : Addr} {sl : Nat} {v : Value} {ty : FieldType} {vs : List Value} (F : own_Ar Z h a ty vs) (W : Wr h h' a sl v) : own_Ar Z h' a ty (vs.set sl v) := by
  obtain ⟨c, A, r⟩ := F
  refine ⟨_, A.same W, ?_⟩
  rw [← r]
  show (c.slots.setIfInBounds sl v).toList = _
  exact Array.toList_setIfInBounds
theorem own_Ar.at {a : Addr} {ty : FieldType} {vs : List Value} (F : own_Ar Z h a ty vs) {j : Int32} (hj : ¬ j < 0) {v : Value} (hv : vs[j.toNatClampNeg]? = some v) : ∃ c : Cell, Arr Z h a c ty ∧ c.slots.toList = vs ∧ ¬ (j < 0 ∨ c.slots.size ≤ j.toNatClampNeg) ∧ c.slots[j.toNatClampNeg]? = some v := by
  obtain ⟨c, A, r⟩ := F
  subst r
  have q : c.slots[j.toNatClampNeg]? = some v := by rw [← Array.getElem?_toList]; exact hv
  refine ⟨c, A, rfl, ?_, q⟩
  rintro (u | u)
  · exact hj u
  · rw [Array.getElem?_eq_none u] at q; cases q
theorem own_newA (X : Stand p l e R s m args below meth c T locs cells slots) (hx : p.tables.exec = Jvm.exec) {B : ByteArray} (hby : c.code = B) {pc pc' : Nat} {Ls : Array Slot} {S : List Value} {aty : ArrayType} {n : Int32} {vs : List Value} (hd : decode B pc = .ok (.newarray aty, 2)) (hp : pc + 2 = pc') (hZ : Z.Warmed39 s.vm) (w : (Cond.arrayClass (newarray.typeOf aty)).before a0 Z = true) (eT : T.heap = h) (hn : ¬ n < 0) {cap : Nat} (hcap : n.toNatClampNeg ≤ cap) (hbig : cap * 8 ≤ 536870912) (hc : cells + 1 ≤ R.cells) (hl : slots + cap ≤ R.slots) (hvs : List.replicate n.toNatClampNeg (defaultValue (newarray.typeOf aty)) = vs) (g : ∀ (T' : State) (h' : Heap) (a : Addr), Stand p l e R s m args below meth c T' locs (cells + 1) (slots + cap) → T'.heap = h' → a = h.size → Ext h h' → own_Ar Z h' a (newarray.typeOf aty) vs → own_Go p.tables e below (T'.setTop (mkF m pc' Ls (.ref a :: S))) RR) : own_Go p.tables e below (T.setTop (mkF m pc Ls (.int n :: S))) RR := by
  subst hp
  obtain ⟨T', h', cA, X', e', E', A', st⟩ := newP X hx hZ w eT (g := mkF m pc Ls (.int n :: S)) rfl (hb hby hd) rfl hn hcap hbig hc hl
  exact own_st st (g T' h' _ X' e' rfl E' ⟨_, A', by rw [← hvs]; exact Array.toList_replicate⟩)
theorem own_caload (X : Stand p l e R s m args below meth c T locs cells slots) (hx : p.tables.exec = Jvm.exec) {B : ByteArray} (hby : c.code = B) {pc pc' : Nat} {Ls : Array Slot} {S : List Value} {a : Addr} {j : Int32} {v : Value} {vs : List Value} (hd : decode B pc = .ok (.caload, 1)) (hp : pc + 1 = pc') (hZ : Z.Warmed39 s.vm) (eT : T.heap = h) (A : own_Ar Z h a .char vs) (hj : ¬ j < 0) (hv : vs[j.toNatClampNeg]? = some v) (g : own_Go p.tables e below (T.setTop (mkF m pc' Ls (v :: S))) RR) : own_Go p.tables e below (T.setTop (mkF m pc Ls (.int j :: .ref a :: S))) RR := by
  subst hp
  obtain ⟨cl, Ar, -, hin, hat⟩ := A.at hj hv
  exact own_st (fun t k => X.caload hx (j := j) (v := v) (by rw [eT]; exact Ar.1) (State.isArrayOf_alike hZ.alike Ar.2.1) Ar.2.2 hin hat (g := mkF m pc Ls (.int j :: .ref a :: S)) rfl rfl (hb hby hd) t k) g
theorem own_baload (X : Stand p l e R s m args below meth c T locs cells slots) (hx : p.tables.exec = Jvm.exec) {B : ByteArray} (hby : c.code = B) {pc pc' : Nat} {Ls : Array Slot} {S : List Value} {a : Addr} {j : Int32} {v : Value} {vs : List Value} (hd : decode B pc = .ok (.baload, 1)) (hp : pc + 1 = pc') (hZ : Z.Warmed39 s.vm) (eT : T.heap = h) (A : own_Ar Z h a .byte vs) (hj : ¬ j < 0) (hv : vs[j.toNatClampNeg]? = some v) (g : own_Go p.tables e below (T.setTop (mkF m pc' Ls (v :: S))) RR) : own_Go p.tables e below (T.setTop (mkF m pc Ls (.int j :: .ref a :: S))) RR := by
  subst hp
  obtain ⟨cl, Ar, -, hin, hat⟩ := A.at hj hv
  exact own_st (fun t k => X.baloadBytes hx (j := j) (v := v) (by rw [eT]; exact Ar.1) (State.isArrayOf_alike hZ.alike Ar.2.1) Ar.2.2 hin hat (g := mkF m pc Ls (.int j :: .ref a :: S)) rfl rfl (hb hby hd) t k) g
theorem own_castore (X : Stand p l e R s m args below meth c T locs cells slots) (hx : p.tables.exec = Jvm.exec) {B : ByteArray} (hby : c.code = B) {pc pc' : Nat} {Ls : Array Slot} {S : List Value} {a : Addr} {j : Int32} {x : Int32} {v : Value} {vs : List Value} (hd : decode B pc = .ok (.castore, 1)) (hp : pc + 1 = pc') (hZ : Z.Warmed39 s.vm) (eT : T.heap = h) (A : own_Ar Z h a .char vs) (hj : ¬ j < 0) (hv : vs[j.toNatClampNeg]? = some v) (g : ∀ (T' : State) (h' : Heap), Stand p l e R s m args below meth c T' (locs ++ [⟨a, j.toNatClampNeg⟩]) cells slots → T'.heap = h' → Wr h h' a j.toNatClampNeg (.int (nar .char x)) → own_Ar Z h' a .char (vs.set j.toNatClampNeg (.int (nar .char x))) → own_Go p.tables e below (T'.setTop (mkF m pc' Ls S)) RR) : own_Go p.tables e below (T.setTop (mkF m pc Ls ((.int x) :: .int j :: .ref a :: S))) RR := by
  subst hp
  obtain ⟨cl, Ar, r, hin, hat⟩ := A.at hj hv
  obtain ⟨T', h', X', e', W', st⟩ := stC X hx hZ eT Ar (j := j) (x := x) hin (g := mkF m pc Ls ((.int x) :: .int j :: .ref a :: S)) rfl rfl (hb hby hd)
  exact own_st st (g T' h' X' e' W' (A.same W'))
theorem own_bastore (X : Stand p l e R s m args below meth c T locs cells slots) (hx : p.tables.exec = Jvm.exec) {B : ByteArray} (hby : c.code = B) {pc pc' : Nat} {Ls : Array Slot} {S : List Value} {a : Addr} {j : Int32} {x : Int32} {v : Value} {vs : List Value} (hd : decode B pc = .ok (.bastore, 1)) (hp : pc + 1 = pc') (hZ : Z.Warmed39 s.vm) (eT : T.heap = h) (A : own_Ar Z h a .byte vs) (hj : ¬ j < 0) (hv : vs[j.toNatClampNeg]? = some v) (g : ∀ (T' : State) (h' : Heap), Stand p l e R s m args below meth c T' (locs ++ [⟨a, j.toNatClampNeg⟩]) cells slots → T'.heap = h' → Wr h h' a j.toNatClampNeg (.int x.toInt8.toInt32) → own_Ar Z h' a .byte (vs.set j.toNatClampNeg (.int x.toInt8.toInt32)) → own_Go p.tables e below (T'.setTop (mkF m pc' Ls S)) RR) : own_Go p.tables e below (T.setTop (mkF m pc Ls ((.int x) :: .int j :: .ref a :: S))) RR := by
  subst hp
  obtain ⟨cl, Ar, r, hin, hat⟩ := A.at hj hv
  obtain ⟨T', h', X', e', W', st⟩ := stB X hx hZ eT Ar (j := j) (x := x) hin (g := mkF m pc Ls ((.int x) :: .int j :: .ref a :: S)) rfl rfl (hb hby hd)
  exact own_st st (g T' h' X' e' W' (A.same W'))
theorem own_len (X : Stand p l e R s m args below meth c T locs cells slots) (hx : p.tables.exec = Jvm.exec) {B : ByteArray} (hby : c.code = B) {pc pc' : Nat} {Ls : Array Slot} {S : List Value} {a : Addr} {ty : FieldType} {n : Int32} {vs : List Value} (hd : decode B pc = .ok (.arraylength, 1)) (hp : pc + 1 = pc') (hZ : Z.Warmed39 s.vm) (eT : T.heap = h) (A : own_Ar Z h a ty vs) (hn : vs.length.toInt32 = n) (g : own_Go p.tables e below (T.setTop (mkF m pc' Ls (.int n :: S))) RR) : own_Go p.tables e below (T.setTop (mkF m pc Ls (.ref a :: S))) RR := by
  subst hp hn
  obtain ⟨cl, Ar, r⟩ := A
  subst r
  exact own_st (fun t k => X.arraylength hx (by rw [eT]; exact Ar.1) (State.isArrayOf_alike hZ.alike Ar.2.1) (g := mkF m pc Ls (.ref a :: S)) rfl rfl (hb hby hd) t (by rw [← Array.length_toList]; exact k)) g
theorem own_Ar.of_arv {a : Addr} {k : ClassId} {z : Int32} {ty : FieldType} {vs : List Value} {dv : Value} (F : Arv Z h a k ty z vs dv) (hl : vs.length = z.toNatClampNeg) : own_Ar Z h a ty vs := by
  obtain ⟨c, A, -, S, -, H, -⟩ := F
  refine ⟨c, A, ?_⟩
  apply List.ext_getElem?
  intro i
  rw [Array.getElem?_toList]
  by_cases q : i < c.slots.size
  · rw [H i q, List.getD_eq_getElem?_getD, List.getElem?_eq_getElem (by omega)]; rfl
  · rw [Array.getElem?_eq_none (by omega), List.getElem?_eq_none (by omega)]
end Own
/-! the wide walks: a String constant may have been loaded: the Stand is over (s.setVm vm0); own_Wd: what such a walk bears besides -/
section OwnWide
variable {p : Program} {l : Launch} {e : Env} {R : Room} {s : State} {m : MethodId} {args : Array Value} {below : List Frame} {meth : Method} {c : Code} {T : State} {locs : List Loc} {cells slots : Nat} {Z : State} {a0 : Array Value} {h h' : Heap} {Q : Option Value → Heap → List Loc → Prop} {RR : Outcome → State → Prop} {vm0 : Vm} {EL : List (String × Nat)} {own : String}
abbrev own_RH (Z : State) (EL : List (String × Nat)) (s : State) (Q : Option Value → Heap → List Loc → Prop) (k n : Nat) (o : Outcome) (t : State) : Prop := ∃ v L, o = .returned v ∧ Q v t.heap L ∧ CHr Z EL s.vm s.heap t.vm t.heap ∧ ReturnedEndW s o t L k n
abbrev own_MetW (l : Launch) (y : MethodName) (bytes : ByteArray) (maxL : Nat) (rt : Option FieldType) (ws : List Jvm.Cond) (rm : Room) (as' : Array Value) (Z : State) (EL : List (String × Nat)) (h0 : Heap) (Q : Option Value → Heap → List Loc → Prop) : Prop :=
  MetFree l y (head1 (Jvm.Cond.code y bytes maxL rt :: ws) rm) (fun a U => a = as' ∧ Z.Warmed39 U.vm ∧ U.heap = h0 ∧ CHv Z EL U.vm h0) (fun _ _ _ _ _ => True) (fun _ U o U' => ∃ v L, o = .returned v ∧ Q v U'.heap L ∧ CHr Z EL U.vm U.heap U'.vm U'.heap ∧ ReturnedEndW U o U' L rm.cells rm.slots)
def own_Wd (Z : State) (EL : List (String × Nat)) (s : State) (vm : Vm) (m : MethodId) (own : String) (h : Heap) : Prop := Z.Warmed39 vm ∧ vm.findClass own = some m.cls ∧ (∃ k, s.Since vm k ∧ k ≤ h.size) ∧ CHr Z EL s.vm s.heap vm h
theorem own_Wd.ch (D : own_Wd Z EL s vm0 m own h) : CHv Z EL vm0 h := D.2.2.2.1
theorem own_Wd.ext (D : own_Wd Z EL s vm0 m own h) (E : Ext h h') : own_Wd Z EL s vm0 m own h' := by
  obtain ⟨h1, h2, ⟨k, h3, h4⟩, h5⟩ := D
  exact ⟨h1, h2, ⟨k, h3, Nat.le_trans h4 E.1⟩, h5.trans (CHr.ext E h5.1)⟩
theorem own_Wd.wr {a : Addr} {sl : Nat} {v : Value} (D : own_Wd Z EL s vm0 m own h) (W : Wr h h' a sl v) (S : Safe Z EL vm0 h a) : own_Wd Z EL s vm0 m own h' := by
  obtain ⟨h1, h2, ⟨k, h3, h4⟩, h5⟩ := D
  exact ⟨h1, h2, ⟨k, h3, by rw [W.size]; exact h4⟩, h5.trans (CHr.wr W S h5.1)⟩
theorem own_Wd.keep {ws : List Addr} (D : own_Wd Z EL s vm0 m own h) (K : Keep h h' ws) (S : ∀ x ∈ ws, Safe Z EL vm0 h x) : own_Wd Z EL s vm0 m own h' := by
  obtain ⟨h1, h2, ⟨k, h3, h4⟩, h5⟩ := D
  exact ⟨h1, h2, ⟨k, h3, Nat.le_trans h4 K.1⟩, h5.trans (CHr.keep K S h5.1)⟩
theorem own_Ar.safe {a : Addr} {ty : FieldType} {vs : List Value} (A : own_Ar Z h a ty vs) (hal : Z.vm.Alike vm0) (ht : ty ≠ .byte) : Safe Z EL vm0 h a := by
  obtain ⟨cl, Ar, -⟩ := A
  exact Safe.arr hal Ar ht
theorem own_safeN {x : Addr} (hal : Z.vm.Alike vm0) (E : Exa Z h x "java/lang/String") (V : Fld Z h x "java/lang/String" "value" "[B" .null) : Safe Z EL vm0 h x := fun B => by
  obtain ⟨p, -, u, a, -, q, -, F, rfl | rfl⟩ := B
  · obtain ⟨cell, cf, k, i, f, h1, h2, -, -, -, -, h7⟩ := V
    cases (show h[q.sa]? = some q.sC from F.ha).symm.trans h1
    obtain ⟨cS, ⟨⟨-, -, -, ⟨c1, k1, i1, f1, -⟩, -, -, -, v1, -⟩, -⟩, -⟩ := F
    obtain ⟨k3, e3, -⟩ := State.fieldFound?_setVm (s := Z) hal h2
    have e4 := (show (Wst Z vm0 h).fieldFound? _ _ _ = _ from e3).symm.trans f1
    simp only [Option.some.injEq, Prod.mk.injEq] at e4
    rw [← e4.2.2.2, h7] at v1
    cases v1
  · obtain ⟨cell, k, e1, e2, -⟩ := E
    cases (show h[q.sd]? = some q.SA from F.hd).symm.trans e1
    obtain ⟨cS, -, -, f, -⟩ := F
    have f' : vm0.findClass "[B" = some q.SA.cls := f
    rw [hal.findClass] at f'
    obtain ⟨k1, q1, q2⟩ := Vm.findClass_spec f'
    obtain ⟨k2, q3, q4⟩ := Vm.findClass_spec e2
    cases q1.symm.trans q3
    exact absurd (q2.symm.trans q4) (by decide)
theorem own_bodyW {y : MethodName} {bytes : ByteArray} {maxL : Nat} {rt : Option FieldType} {ws : List Jvm.Cond} {rm : Room} {as' : Array Value} {h0 : Heap} (hp : plainFor y = true)
    (hb : ∀ (p : Program) (e : Env) (s : State) (m : MethodId) (below : List Frame) (meth : Method) (c : Code) (T : State), Stand p l e rm (s.setVm s.vm) m as' below meth c T [] 0 0 → p.tables.exec = Jvm.exec → c.code = bytes → c.maxLocals = maxL → meth.name = y.name → meth.sig.returnType = rt → meth.locks = false → own_Wd Z EL s s.vm m y.cls h0 → T.heap = h0 →
      own_Go p.tables e below (T.setTop (entryFrame m as' maxL)) (own_RH Z EL s Q rm.cells rm.slots)) : own_MetW l y bytes maxL rt ws rm as' Z EL h0 Q := by
  refine MetFree.of_bodySF hp hisR ?_
  intro p e s m args below meth c s₁ Bd hml0 hP hK
  obtain ⟨rfl, hZ, hh, hC⟩ := hP
  have e0 : s₁.heap = h0 := by rw [← hh, Bd.state]; rfl
  refine hb p e s m below meth c s₁ (Stand.of_body Bd) Bd.exec Bd.bytes hml0 (name_of_methodNamed Bd.named Bd.method).1 Bd.returns Bd.notSynchronized ⟨hZ, findClass_of_methodNamed Bd.named, ⟨0, (State.WarmedH.refl s).since 0, Nat.zero_le _⟩, ?_⟩ e0
  rw [hh]
  exact CHr.refl hC
theorem own_leaveW (X : Stand p l e R (s.setVm vm0) m args below meth c T locs cells slots) (hlk : meth.locks = false) (hEL : EW Z a0 EL) (D : own_Wd Z EL s vm0 m own h) (eT : T.heap = h) {v : Option Value} (hv : meth.sig.returnType = none → v = none) {S : State} {k n : Nat} (hk : cells ≤ k) (hn : slots ≤ n) (hq : Q v T.heap locs)
    (st : ∀ fs : List Frame, (∀ (f : JFrame) (acts : List Action), f.method = m → f.locked = none → f.entered = [] → (doReturn e (T.setTop f) acts v).1 = T.setFrames fs) → Steps p.tables e below S (T.setFrames fs)) : own_Go p.tables e below S (own_RH Z EL s Q k n) := by
  subst eT
  obtain ⟨h1, h2, ⟨k0, h3, h4⟩, h5⟩ := D
  obtain ⟨fs, hr, hrun, hended, q1, q2, q3, q4⟩ := X.leaveW h3 h4 (v := v) hv hlk
  exact ⟨_, _, st fs hr, hrun, hended, v, locs, rfl, hq, (show CHr Z EL _ _ T.vm T.heap from h5.trans (CHv.at X h1 hEL h5.1)), q1, q2, q3, q4.mono hk hn⟩
theorem own_retZW (X : Stand p l e R (s.setVm vm0) m args below meth c T locs cells slots) (hx : p.tables.exec = Jvm.exec) (hEL : EW Z a0 EL) (D : own_Wd Z EL s vm0 m own h) (eT : T.heap = h) {pc : Nat} {Ls : Array Slot} {z : Int32} {t : FieldType} {rest : List Value} (hret : meth.sig.returnType = some t) (ht : t = .boolean ∨ t = .byte ∨ t = .char ∨ t = .short) (hd : decode c.code pc = .ok (.ireturn, 1)) (hlk : meth.locks = false) {k n : Nat} (hk : cells ≤ k) (hn : slots ≤ n) (hq : Q (some (.int (nar t z))) T.heap locs) :
    own_Go p.tables e below (T.setTop (mkF m pc Ls (.int z :: rest))) (own_RH Z EL s Q k n) :=
  own_leaveW X hlk hEL D eT (fun q => by rw [hret] at q; cases q) hk hn hq fun fs hl => retN X hx hret ht hd hl
theorem own_retVW (X : Stand p l e R (s.setVm vm0) m args below meth c T locs cells slots) (hx : p.tables.exec = Jvm.exec) (hEL : EW Z a0 EL) (D : own_Wd Z EL s vm0 m own h) (eT : T.heap = h) {pc : Nat} {Ls : Array Slot} (hret : meth.sig.returnType = none) (hd : decode c.code pc = .ok (.return_, 1)) (hlk : meth.locks = false) {k n : Nat} (hk : cells ≤ k) (hn : slots ≤ n) (hq : Q none T.heap locs) :
    own_Go p.tables e below (T.setTop (mkF m pc Ls [])) (own_RH Z EL s Q k n) :=
  own_leaveW X hlk hEL D eT (fun _ => rfl) hk hn hq fun fs hl => X.returnOut hx hret hd hl
theorem own_ldcS (X : Stand p l e R (s.setVm vm0) m args below meth c T locs cells slots) (hx : p.tables.exec = Jvm.exec) {B : ByteArray} (hby : c.code = B) {pc pc' : Nat} {Ls : Array Slot} {S : List Value} {text : String} {index : Nat} (hd : decode B pc = .ok (.ldc index, 2)) (hp : pc + 2 = pc') (w : (Cond.stringLink own index text).before a0 Z = true) (wS : ∀ a ∈ Bundle.stringAtoms, a.before a0 Z = true) (eT : T.heap = h) (hEL : EW Z a0 EL) (hmem : (own, index) ∈ EL) (D : own_Wd Z EL s vm0 m own h)
    {vs : List Value} {z : Int32} (ht : (∀ c ∈ text.toList, c.toNat < 256) ∧ text.toList.map (fun c => Value.int (Jvm.Lit.byteI c.toNat.toUInt16)) = vs) (hz : ¬ z < 0) (hl : z.toNatClampNeg = vs.length) {n : Nat} (hn : 4 * text.toList.length ≤ n) (hbig : n ≤ 536870912) (hc : cells + 2 ≤ R.cells) (hl' : slots + (n + 4) ≤ R.slots)
    (g : ∀ (T' : State) (h' : Heap) (a b : Addr) (k : ClassId) (vm1 : Vm), Stand p l e R (s.setVm vm1) m args below meth c T' locs (cells + 2) (slots + (n + 4)) → T'.heap = h' → Ext h h' → own_Wd Z EL s vm1 m own h' → CHr Z EL vm0 h vm1 h' → Exa Z h' a "java/lang/String" → Fld Z h' a "java/lang/String" "coder" "B" (.int 0) → Fld Z h' a "java/lang/String" "value" "[B" (.ref b) → Arv Z h' b k .byte z vs (.int 0) → (∀ x, Safe Z EL vm1 h' x → x ≠ a ∧ x ≠ b) → own_Go p.tables e below (T'.setTop (mkF m pc' Ls (.ref a :: S))) RR) :
    own_Go p.tables e below (T.setTop (mkF m pc Ls S)) RR := by
  subst hp
  obtain ⟨h1, h2, ⟨k0, h3, h4⟩, h5⟩ := D
  obtain ⟨a, T', h', k1, b, k, X', e', E', hS', hk', hZ', hown', q1, q2, q3, q4, -, -, q7, -, q9, st⟩ := ldcCH X hx h1 h2 w wS eT h3 h4 hEL hmem h5.1 ht hz hl (g := mkF m pc Ls S) rfl (hb hby hd) hn hbig hc hl'
  exact own_st st (g T' h' a b k T'.vm X' e' E' ⟨hZ', hown', ⟨k1, hS', hk'⟩, h5.trans q7⟩ q7 q1 q2 q3 q4 q9)
theorem own_callSpW (X : Stand p l e R (s.setVm vm0) m args below meth c T locs cells slots) (hx : p.tables.exec = Jvm.exec) (hEL : EW Z a0 EL) (D : own_Wd Z EL s vm0 m own h) {y : MethodName} {bytes : ByteArray} {maxL : Nat} {rm : Room} {as' : Array Value}
    (hM : own_MetW l y bytes maxL none [] rm as' Z EL h Q) (hin : y.name = "<init>") {index : Nat} (w1 : (Cond.methodLink own index y).before a0 Z = true) (w4 : (Cond.instanceMethod y).before a0 Z = true) (w5 : (Cond.code y bytes maxL none).before a0 Z = true) (w6 : (Cond.initialized y.cls).before a0 Z = true)
    (hy : y.cls ≠ "java/lang/invoke/MethodHandle" ∧ y.cls ≠ "java/lang/invoke/VarHandle") {a : Addr} {W : Nat} (hf : rm.frames + 1 ≤ R.frames) (hl : W + (maxL + 11) + rm.locals ≤ R.locals) {pc : Nat} {Ls : Array Slot} (hsz : Ls.size = c.maxLocals) {argsL rest st : List Value} (ha : (Value.ref a :: argsL).toArray = as')
    (hlen : ∀ sig, parseMethodDescriptor y.desc = some sig → argsL.length = sig.parameters.length) (hst : st = argsL.reverse ++ .ref a :: rest) (hW : (rest.map fun v => v.category).sum ≤ W) (hd : decode c.code pc = .ok (.invokespecial index, 3)) (eT : T.heap = h) (hc : cells + rm.cells ≤ R.cells) (hs : slots + rm.slots ≤ R.slots)
    (k : ∀ (v : Option Value) (T' : State) (L : List Loc) (vm1 : Vm), Stand p l e R (s.setVm vm1) m args below meth c T' (locs ++ L) (cells + rm.cells) (slots + rm.slots) → Q v T'.heap L → own_Wd Z EL s vm1 m own T'.heap → CHr Z EL vm0 h vm1 T'.heap → own_Go p.tables e below (T'.setTop (mkF m (pc + 3) Ls (v.toList ++ rest))) RR) :
    own_Go p.tables e below (T.setTop (mkF m pc Ls st)) RR := by
  subst ha
  obtain ⟨h1, h2, ⟨k0, h3, h4⟩, h5⟩ := D
  have hZ : Z.Warmed39 (s.setVm vm0).vm := h1
  obtain ⟨v, _, ⟨T', L', k', n'⟩, -, X', hS', hgrow, ⟨Lc, hQ, l', y', z', hC⟩, stp⟩ := X.specialBackS hx (y := y) hin h2 (mvT hZ w1) (mvT hZ w4) (mvT hZ w5) hy (backOfSH (W := W) hM h1 w5 w6 hf hl hEL h5.1) (g := mkF m pc Ls st) rfl hsz (Steps.refl _) (a := a) (argsL := argsL) (rest := rest) hlen hst (by show 2 * 0 + _ ≤ _; omega) hd (fun _ _ => ⟨rfl, eT, hc, hs⟩)
  dsimp only [Pt.U, Pt.locs, Pt.cells, Pt.slots] at X' l' y' z' stp hQ hS' hgrow hC
  subst l' y' z'
  rw [eT] at hgrow
  obtain ⟨r1, r2, r3, r4⟩ := rebS h3 h4 X' hS' hgrow hZ h2
  exact own_st (fun t k => stp.trans k) (k v T' Lc T'.vm r1 hQ ⟨r3, r4, ⟨_, r2, Nat.le_refl _⟩, h5.trans hC⟩ hC)
end OwnWide
theorem own_nar0 : nar .boolean (0 : Int32) = 0 := by decide
theorem own_nar1 : nar .boolean (1 : Int32) = 1 := by decide
def own_EL : List (String × Nat) := [("java/lang/String", 7)]
open StrChars (lo8 hi8 pairCh chr8)
abbrev own_W (c : Int32) : Prop := ¬ c < 0 ∧ ¬ (65535 : Int32) < c
theorem own_u16 {y c : Int32} (h : y.toUInt32.toUInt16.toUInt32.toInt32 = c) : own_W c := by
  subst h
  have q := c_i2c y
  have e2 : (65535 : Int32).toInt = 65535 := by decide
  have e0 : (0 : Int32).toInt = 0 := by decide
  refine ⟨?_, ?_⟩ <;> rw [Int32.lt_iff_toInt_lt] <;> omega
theorem own_narW {c : Int32} (h : own_W c) : nar .char c = c := by
  obtain ⟨h1, h2⟩ := h
  have e2 : (65535 : Int32).toInt = 65535 := by decide
  have e0 : (0 : Int32).toInt = 0 := by decide
  rw [Int32.lt_iff_toInt_lt] at h1 h2
  show c.toUInt32.toUInt16.toUInt32.toInt32 = c
  have q := c_i2c c
  apply Int32.toInt_inj.mp
  omega
theorem own_lolo (c : Int32) : lo8 (lo8 c) = lo8 c := by simp [lo8]
theorem own_pair {c : Int32} (h : own_W c) : nar .char (pairCh (lo8 c) (hi8 c)) = c := by
  rw [StrChars.pair_says h.1 h.2]
  exact own_narW h
theorem own_one8 {c : Int32} (h : own_W c) (k : ¬ (255 : Int32) < c) : nar .char (chr8 (lo8 c)) = c := by
  rw [StrChars.chr8_lo8 h.1 k]
  exact own_narW h
theorem own_nb0 : nar .byte (0 : Int32) = 0 := by decide
theorem own_nb1 : nar .byte (1 : Int32) = 1 := by decide
def own_m1 (z : Int64) : Int64 := (z ^^^ ((z.toUInt64 >>> ((30 : Int32) &&& 0x3f).toInt64.toUInt64).toInt64)) * (-4658895280553007687 : Int64)
def own_m2 (z : Int64) : Int64 := (z ^^^ ((z.toUInt64 >>> ((27 : Int32) &&& 0x3f).toInt64.toUInt64).toInt64)) * (-7723592293110705685 : Int64)
def own_m3 (z : Int64) : Int64 := z ^^^ ((z.toUInt64 >>> ((31 : Int32) &&& 0x3f).toInt64.toUInt64).toInt64)
def own_mx (z : Int64) : Int64 := own_m3 (own_m2 (own_m1 z))
theorem own_nm1 (a : Int64) : ((0 : Int64) + a) = a := Int64.zero_add a
theorem own_nm2 (a b : Int64) : ((((0 : Int64) + a) * (31 : Int64)) + b) = (((31 : Int64) * a) + b) := by rw [Int64.zero_add, Int64.mul_comm]
theorem own_nm3 (a b c : Int64) : ((((((0 : Int64) + a) * (31 : Int64)) + b) * (31 : Int64)) + c) = ((((961 : Int64) * a) + ((31 : Int64) * b)) + c) := by
  rw [Int64.zero_add, Int64.add_mul, Int64.mul_assoc, show (31 : Int64) * 31 = 961 from by decide, Int64.mul_comm a, Int64.mul_comm b]
theorem own_pn0 : plainFor x = true := plainFor_of_name (by first | (simp [x, plainName, overriddenIn]; done) | decide +kernel)
theorem own_pn1 : plainFor (⟨"java/lang/String", "<init>", "([C)V"⟩ : MethodName) = true := plainFor_of_name (by first | (simp [plainName, overriddenIn]; done) | decide +kernel)
theorem own_pn2 : plainFor (⟨"java/lang/String", "<init>", "([CIILjava/lang/Void;)V"⟩ : MethodName) = true := plainFor_of_name (by first | (simp [plainName, overriddenIn]; done) | decide +kernel)
theorem own_pn4 : plainFor (⟨"com/example/orbitwatch/orbitwatch/game/SeededRandomOfPinLaw", "fin", "(J)J"⟩ : MethodName) = true := plainFor_of_name (by first | (simp [plainName, overriddenIn]; done) | decide +kernel)
theorem own_pn5 : plainFor (⟨"com/example/orbitwatch/orbitwatch/game/SeededRandom", "of", "(JLjava/lang/String;)Lcom/example/orbitwatch/orbitwatch/game/SeededRandom;"⟩ : MethodName) = true := plainFor_of_name (by first | (simp [plainName, overriddenIn]; done) | decide +kernel)
theorem own_pn6 : plainFor (⟨"java/lang/String", "length", "()I"⟩ : MethodName) = true := plainFor_of_name (by first | (simp [plainName, overriddenIn]; done) | decide +kernel)
theorem own_pn7 : plainFor (⟨"java/lang/String", "coder", "()B"⟩ : MethodName) = true := plainFor_of_name (by first | (simp [plainName, overriddenIn]; done) | decide +kernel)
theorem own_pn8 : plainFor (⟨"com/example/orbitwatch/orbitwatch/game/SeededRandom", "mix", "(J)J"⟩ : MethodName) = true := plainFor_of_name (by first | (simp [plainName, overriddenIn]; done) | decide +kernel)
theorem own_pn9 : plainFor (⟨"com/example/orbitwatch/orbitwatch/game/SeededRandom", "<init>", "(J)V"⟩ : MethodName) = true := plainFor_of_name (by first | (simp [plainName, overriddenIn]; done) | decide +kernel)
theorem own_pn10 : plainFor (⟨"com/example/orbitwatch/orbitwatch/game/SeededRandom", "nextLong", "()J"⟩ : MethodName) = true := plainFor_of_name (by first | (simp [plainName, overriddenIn]; done) | decide +kernel)
theorem own_pn11 : plainFor (⟨"java/lang/StringUTF16", "compress", "([CII)[B"⟩ : MethodName) = true := plainFor_of_name (by first | (simp [plainName, overriddenIn]; done) | decide +kernel)
theorem own_pn12 : plainFor (⟨"java/lang/StringUTF16", "compress", "([CI[BII)I"⟩ : MethodName) = true := plainFor_of_name (by first | (simp [plainName, overriddenIn]; done) | decide +kernel)
theorem own_pn13 : plainFor (⟨"java/lang/StringUTF16", "toBytes", "([CII)[B"⟩ : MethodName) = true := plainFor_of_name (by first | (simp [plainName, overriddenIn]; done) | decide +kernel)
theorem own_pn14 : plainFor (⟨"java/lang/StringUTF16", "newBytesFor", "(I)[B"⟩ : MethodName) = true := plainFor_of_name (by first | (simp [plainName, overriddenIn]; done) | decide +kernel)
theorem own_pn15 : plainFor (⟨"java/lang/StringUTF16", "newBytesLength", "(I)I"⟩ : MethodName) = true := plainFor_of_name (by first | (simp [plainName, overriddenIn]; done) | decide +kernel)
theorem own_pn16 : plainFor (⟨"java/lang/StringUTF16", "putChar", "([BII)V"⟩ : MethodName) = true := plainFor_of_name (by first | (simp [plainName, overriddenIn]; done) | decide +kernel)
theorem own_pn17 : plainFor (⟨"java/lang/StringUTF16", "getChar", "([BI)C"⟩ : MethodName) = true := plainFor_of_name (by first | (simp [plainName, overriddenIn]; done) | decide +kernel)
theorem own_pn18 : plainFor (⟨"java/lang/StringUTF16", "coderFromArrayLen", "([BI)B"⟩ : MethodName) = true := plainFor_of_name (by first | (simp [plainName, overriddenIn]; done) | decide +kernel)
theorem own_pn19 : plainFor (⟨"java/lang/String", "charAt", "(I)C"⟩ : MethodName) = true := plainFor_of_name (by first | (simp [plainName, overriddenIn]; done) | decide +kernel)
theorem own_pn20 : plainFor (⟨"java/lang/String", "isLatin1", "()Z"⟩ : MethodName) = true := plainFor_of_name (by first | (simp [plainName, overriddenIn]; done) | decide +kernel)
theorem own_pn21 : plainFor (⟨"java/lang/StringUTF16", "charAt", "([BI)C"⟩ : MethodName) = true := plainFor_of_name (by first | (simp [plainName, overriddenIn]; done) | decide +kernel)
theorem own_pn22 : plainFor (⟨"java/lang/StringUTF16", "checkIndex", "(I[B)V"⟩ : MethodName) = true := plainFor_of_name (by first | (simp [plainName, overriddenIn]; done) | decide +kernel)
theorem own_pn23 : plainFor (⟨"java/lang/StringUTF16", "length", "([B)I"⟩ : MethodName) = true := plainFor_of_name (by first | (simp [plainName, overriddenIn]; done) | decide +kernel)
theorem own_pn24 : plainFor (⟨"java/lang/String", "checkIndex", "(II)V"⟩ : MethodName) = true := plainFor_of_name (by first | (simp [plainName, overriddenIn]; done) | decide +kernel)
theorem own_pn25 : plainFor (⟨"jdk/internal/util/Preconditions", "checkIndex", "(IILjava/util/function/BiFunction;)I"⟩ : MethodName) = true := plainFor_of_name (by first | (simp [plainName, overriddenIn]; done) | decide +kernel)
theorem own_pn26 : plainFor (⟨"java/lang/StringLatin1", "charAt", "([BI)C"⟩ : MethodName) = true := plainFor_of_name (by first | (simp [plainName, overriddenIn]; done) | decide +kernel)
theorem own_d4_0 : decode method_2_code 0 = .ok (.lload_n 0, 1) := by decide +kernel
theorem own_d4_1 : decode method_2_code 1 = .ok (.lload_n 0, 1) := by decide +kernel
theorem own_d4_2 : decode method_2_code 2 = .ok (.bipush 30, 2) := by decide +kernel
theorem own_d4_4 : decode method_2_code 4 = .ok (.lushr, 1) := by decide +kernel
theorem own_d4_5 : decode method_2_code 5 = .ok (.lxor, 1) := by decide +kernel
theorem own_d4_6 : decode method_2_code 6 = .ok (.ldc2_w 7, 3) := by decide +kernel
theorem own_d4_9 : decode method_2_code 9 = .ok (.lmul, 1) := by decide +kernel
theorem own_d4_10 : decode method_2_code 10 = .ok (.lstore_n 2, 1) := by decide +kernel
theorem own_d4_11 : decode method_2_code 11 = .ok (.lload_n 2, 1) := by decide +kernel
theorem own_d4_12 : decode method_2_code 12 = .ok (.lload_n 2, 1) := by decide +kernel
theorem own_d4_13 : decode method_2_code 13 = .ok (.bipush 27, 2) := by decide +kernel
theorem own_d4_15 : decode method_2_code 15 = .ok (.lushr, 1) := by decide +kernel
theorem own_d4_16 : decode method_2_code 16 = .ok (.lxor, 1) := by decide +kernel
theorem own_d4_17 : decode method_2_code 17 = .ok (.ldc2_w 9, 3) := by decide +kernel
theorem own_d4_20 : decode method_2_code 20 = .ok (.lmul, 1) := by decide +kernel
theorem own_d4_21 : decode method_2_code 21 = .ok (.lstore 4, 2) := by decide +kernel
theorem own_d4_23 : decode method_2_code 23 = .ok (.lload 4, 2) := by decide +kernel
theorem own_d4_25 : decode method_2_code 25 = .ok (.lload 4, 2) := by decide +kernel
theorem own_d4_27 : decode method_2_code 27 = .ok (.bipush 31, 2) := by decide +kernel
theorem own_d4_29 : decode method_2_code 29 = .ok (.lushr, 1) := by decide +kernel
theorem own_d4_30 : decode method_2_code 30 = .ok (.lxor, 1) := by decide +kernel
theorem own_d4_31 : decode method_2_code 31 = .ok (.lreturn, 1) := by decide +kernel
theorem own_ef_rm_fin (m : MethodId) (p1 : Int64) : entryFrame m #[(.long p1)] 6 = mkF m 0 #[.val (.long p1), .second, .unset, .unset, .unset, .unset] [] := by first | (simp [entryFrame, mkF, argsToLocals, Value.category]; done) | rfl
def Qrm_fin (Z : State) (p1 : Int64) (h0 : Heap) (n0 : Nat) (v : Option Value) (h : Heap) (L : List Loc) : Prop := v = some (.long (own_mx p1)) ∧ Fr n0 L ∧ h = h0
set_option maxRecDepth 65536 in
set_option maxHeartbeats 40000000 in
theorem rm_fin (l : Launch) (Z : State) (a0 : Array Value) (hw : ∀ d ∈ tables_1, d.before a0 Z = true) (ws : List Jvm.Cond) (p1 : Int64) (h0 : Heap) (n0 : Nat) :
    own_Met l (⟨"com/example/orbitwatch/orbitwatch/game/SeededRandomOfPinLaw", "fin", "(J)J"⟩ : MethodName) method_2_code 6 (some .long) ws ({ frames := 0, cells := 0, slots := 0, locals := 0 } : Room) #[(.long p1)] Z h0 (Qrm_fin Z p1 h0 n0) := by
  refine own_body own_pn4 ?_
  intro p e s m below meth c T0 X0 hx hby hml hown hnm hret hlk hZ e0
  have N0 := Fr.nil n0
  refine own_st (fun t k => castTop (own_ef_rm_fin m p1) k) ?_
  show own_Go p.tables e below (T0.setTop (mkF m 0 #[.val (.long p1), .second, .unset, .unset, .unset, .unset] [])) _
  refine own_lloadN X0 hx hby own_d4_0 (pc' := 1) rfl rfl ?_
  refine own_lloadN X0 hx hby own_d4_1 (pc' := 2) rfl rfl ?_
  refine own_bipush X0 hx hby own_d4_2 (pc' := 4) rfl (z := (30 : Int32)) (by decide) ?_
  refine own_lushr X0 hx hby own_d4_4 (pc' := 5) rfl rfl ?_
  refine own_lxor X0 hx hby own_d4_5 (pc' := 6) rfl rfl ?_
  refine own_ldc2 X0 hx hby own_d4_6 (pc' := 9) rfl hZ hown (own_t hw 27 rfl) ?_
  refine own_lmul X0 hx hby own_d4_9 (pc' := 10) rfl rfl ?_
  refine own_lstoreN X0 hx hby own_d4_10 (pc' := 11) rfl (Ls' := #[.val (.long p1), .second, .val (.long ((p1 ^^^ ((p1.toUInt64 >>> ((30 : Int32) &&& 0x3f).toInt64.toUInt64).toInt64)) * (-4658895280553007687 : Int64))), .second, .unset, .unset]) rfl ?_
  refine own_lloadN X0 hx hby own_d4_11 (pc' := 12) rfl rfl ?_
  refine own_lloadN X0 hx hby own_d4_12 (pc' := 13) rfl rfl ?_
  refine own_bipush X0 hx hby own_d4_13 (pc' := 15) rfl (z := (27 : Int32)) (by decide) ?_
  refine own_lushr X0 hx hby own_d4_15 (pc' := 16) rfl rfl ?_
  refine own_lxor X0 hx hby own_d4_16 (pc' := 17) rfl rfl ?_
  refine own_ldc2 X0 hx hby own_d4_17 (pc' := 20) rfl hZ hown (own_t hw 28 rfl) ?_
  refine own_lmul X0 hx hby own_d4_20 (pc' := 21) rfl rfl ?_
  refine own_lstore X0 hx hby own_d4_21 (pc' := 23) rfl (Ls' := #[.val (.long p1), .second, .val (.long ((p1 ^^^ ((p1.toUInt64 >>> ((30 : Int32) &&& 0x3f).toInt64.toUInt64).toInt64)) * (-4658895280553007687 : Int64))), .second, .val (.long ((((p1 ^^^ ((p1.toUInt64 >>> ((30 : Int32) &&& 0x3f).toInt64.toUInt64).toInt64)) * (-4658895280553007687 : Int64)) ^^^ ((((p1 ^^^ ((p1.toUInt64 >>> ((30 : Int32) &&& 0x3f).toInt64.toUInt64).toInt64)) * (-4658895280553007687 : Int64)).toUInt64 >>> ((27 : Int32) &&& 0x3f).toInt64.toUInt64).toInt64)) * (-7723592293110705685 : Int64))), .second]) rfl ?_
  refine own_lload X0 hx hby own_d4_23 (pc' := 25) rfl rfl ?_
  refine own_lload X0 hx hby own_d4_25 (pc' := 27) rfl rfl ?_
  refine own_bipush X0 hx hby own_d4_27 (pc' := 29) rfl (z := (31 : Int32)) (by decide) ?_
  refine own_lushr X0 hx hby own_d4_29 (pc' := 30) rfl rfl ?_
  refine own_lxor X0 hx hby own_d4_30 (pc' := 31) rfl rfl ?_
  exact own_retJ X0 hx hret (hb hby own_d4_31) hlk (by decide) (by decide) ⟨rfl, N0, e0⟩
theorem own_d8_0 : decode prog_45_method_5_code 0 = .ok (.lload_n 0, 1) := by decide +kernel
theorem own_d8_1 : decode prog_45_method_5_code 1 = .ok (.lload_n 0, 1) := by decide +kernel
theorem own_d8_2 : decode prog_45_method_5_code 2 = .ok (.bipush 30, 2) := by decide +kernel
theorem own_d8_4 : decode prog_45_method_5_code 4 = .ok (.lushr, 1) := by decide +kernel
theorem own_d8_5 : decode prog_45_method_5_code 5 = .ok (.lxor, 1) := by decide +kernel
theorem own_d8_6 : decode prog_45_method_5_code 6 = .ok (.ldc2_w 51, 3) := by decide +kernel
theorem own_d8_9 : decode prog_45_method_5_code 9 = .ok (.lmul, 1) := by decide +kernel
theorem own_d8_10 : decode prog_45_method_5_code 10 = .ok (.lstore_n 0, 1) := by decide +kernel
theorem own_d8_11 : decode prog_45_method_5_code 11 = .ok (.lload_n 0, 1) := by decide +kernel
theorem own_d8_12 : decode prog_45_method_5_code 12 = .ok (.lload_n 0, 1) := by decide +kernel
theorem own_d8_13 : decode prog_45_method_5_code 13 = .ok (.bipush 27, 2) := by decide +kernel
theorem own_d8_15 : decode prog_45_method_5_code 15 = .ok (.lushr, 1) := by decide +kernel
theorem own_d8_16 : decode prog_45_method_5_code 16 = .ok (.lxor, 1) := by decide +kernel
theorem own_d8_17 : decode prog_45_method_5_code 17 = .ok (.ldc2_w 53, 3) := by decide +kernel
theorem own_d8_20 : decode prog_45_method_5_code 20 = .ok (.lmul, 1) := by decide +kernel
theorem own_d8_21 : decode prog_45_method_5_code 21 = .ok (.lstore_n 0, 1) := by decide +kernel
theorem own_d8_22 : decode prog_45_method_5_code 22 = .ok (.lload_n 0, 1) := by decide +kernel
theorem own_d8_23 : decode prog_45_method_5_code 23 = .ok (.lload_n 0, 1) := by decide +kernel
theorem own_d8_24 : decode prog_45_method_5_code 24 = .ok (.bipush 31, 2) := by decide +kernel
theorem own_d8_26 : decode prog_45_method_5_code 26 = .ok (.lushr, 1) := by decide +kernel
theorem own_d8_27 : decode prog_45_method_5_code 27 = .ok (.lxor, 1) := by decide +kernel
theorem own_d8_28 : decode prog_45_method_5_code 28 = .ok (.lreturn, 1) := by decide +kernel
theorem own_ef_rm_mix (m : MethodId) (p1 : Int64) : entryFrame m #[(.long p1)] 2 = mkF m 0 #[.val (.long p1), .second] [] := by first | (simp [entryFrame, mkF, argsToLocals, Value.category]; done) | rfl
def Qrm_mix (Z : State) (p1 : Int64) (h0 : Heap) (n0 : Nat) (v : Option Value) (h : Heap) (L : List Loc) : Prop := v = some (.long (own_mx p1)) ∧ Fr n0 L ∧ h = h0
set_option maxRecDepth 65536 in
set_option maxHeartbeats 40000000 in
theorem rm_mix (l : Launch) (Z : State) (a0 : Array Value) (hw : ∀ d ∈ tables_1, d.before a0 Z = true) (ws : List Jvm.Cond) (p1 : Int64) (h0 : Heap) (n0 : Nat) :
    own_Met l (⟨"com/example/orbitwatch/orbitwatch/game/SeededRandom", "mix", "(J)J"⟩ : MethodName) prog_45_method_5_code 2 (some .long) ws ({ frames := 0, cells := 0, slots := 0, locals := 0 } : Room) #[(.long p1)] Z h0 (Qrm_mix Z p1 h0 n0) := by
  refine own_body own_pn8 ?_
  intro p e s m below meth c T0 X0 hx hby hml hown hnm hret hlk hZ e0
  have N0 := Fr.nil n0
  refine own_st (fun t k => castTop (own_ef_rm_mix m p1) k) ?_
  show own_Go p.tables e below (T0.setTop (mkF m 0 #[.val (.long p1), .second] [])) _
  refine own_lloadN X0 hx hby own_d8_0 (pc' := 1) rfl rfl ?_
  refine own_lloadN X0 hx hby own_d8_1 (pc' := 2) rfl rfl ?_
  refine own_bipush X0 hx hby own_d8_2 (pc' := 4) rfl (z := (30 : Int32)) (by decide) ?_
  refine own_lushr X0 hx hby own_d8_4 (pc' := 5) rfl rfl ?_
  refine own_lxor X0 hx hby own_d8_5 (pc' := 6) rfl rfl ?_
  refine own_ldc2 X0 hx hby own_d8_6 (pc' := 9) rfl hZ hown (own_t hw 50 rfl) ?_
  refine own_lmul X0 hx hby own_d8_9 (pc' := 10) rfl rfl ?_
  refine own_lstoreN X0 hx hby own_d8_10 (pc' := 11) rfl (Ls' := #[.val (.long ((p1 ^^^ ((p1.toUInt64 >>> ((30 : Int32) &&& 0x3f).toInt64.toUInt64).toInt64)) * (-4658895280553007687 : Int64))), .second]) rfl ?_
  refine own_lloadN X0 hx hby own_d8_11 (pc' := 12) rfl rfl ?_
  refine own_lloadN X0 hx hby own_d8_12 (pc' := 13) rfl rfl ?_
  refine own_bipush X0 hx hby own_d8_13 (pc' := 15) rfl (z := (27 : Int32)) (by decide) ?_
  refine own_lushr X0 hx hby own_d8_15 (pc' := 16) rfl rfl ?_
  refine own_lxor X0 hx hby own_d8_16 (pc' := 17) rfl rfl ?_
  refine own_ldc2 X0 hx hby own_d8_17 (pc' := 20) rfl hZ hown (own_t hw 51 rfl) ?_
  refine own_lmul X0 hx hby own_d8_20 (pc' := 21) rfl rfl ?_
  refine own_lstoreN X0 hx hby own_d8_21 (pc' := 22) rfl (Ls' := #[.val (.long ((((p1 ^^^ ((p1.toUInt64 >>> ((30 : Int32) &&& 0x3f).toInt64.toUInt64).toInt64)) * (-4658895280553007687 : Int64)) ^^^ ((((p1 ^^^ ((p1.toUInt64 >>> ((30 : Int32) &&& 0x3f).toInt64.toUInt64).toInt64)) * (-4658895280553007687 : Int64)).toUInt64 >>> ((27 : Int32) &&& 0x3f).toInt64.toUInt64).toInt64)) * (-7723592293110705685 : Int64))), .second]) rfl ?_
  refine own_lloadN X0 hx hby own_d8_22 (pc' := 23) rfl rfl ?_
  refine own_lloadN X0 hx hby own_d8_23 (pc' := 24) rfl rfl ?_
  refine own_bipush X0 hx hby own_d8_24 (pc' := 26) rfl (z := (31 : Int32)) (by decide) ?_
  refine own_lushr X0 hx hby own_d8_26 (pc' := 27) rfl rfl ?_
  refine own_lxor X0 hx hby own_d8_27 (pc' := 28) rfl rfl ?_
  exact own_retJ X0 hx hret (hb hby own_d8_28) hlk (by decide) (by decide) ⟨rfl, N0, e0⟩
theorem own_d12_0 : decode jdk_52_method_21_code 0 = .ok (.iconst 0, 1) := by decide +kernel
theorem own_d12_1 : decode jdk_52_method_21_code 1 = .ok (.istore 5, 2) := by decide +kernel
theorem own_d12_3 : decode jdk_52_method_21_code 3 = .ok (.iload 5, 2) := by decide +kernel
theorem own_d12_5 : decode jdk_52_method_21_code 5 = .ok (.iload 4, 2) := by decide +kernel
theorem own_d12_7 : decode jdk_52_method_21_code 7 = .ok (.if_icmp .ge 37, 3) := by decide +kernel
theorem own_d12_10 : decode jdk_52_method_21_code 10 = .ok (.aload_n 0, 1) := by decide +kernel
theorem own_d12_11 : decode jdk_52_method_21_code 11 = .ok (.iload_n 1, 1) := by decide +kernel
theorem own_d12_12 : decode jdk_52_method_21_code 12 = .ok (.caload, 1) := by decide +kernel
theorem own_d12_13 : decode jdk_52_method_21_code 13 = .ok (.istore 6, 2) := by decide +kernel
theorem own_d12_15 : decode jdk_52_method_21_code 15 = .ok (.iload 6, 2) := by decide +kernel
theorem own_d12_17 : decode jdk_52_method_21_code 17 = .ok (.sipush 255, 3) := by decide +kernel
theorem own_d12_20 : decode jdk_52_method_21_code 20 = .ok (.if_icmp .le 6, 3) := by decide +kernel
theorem own_d12_23 : decode jdk_52_method_21_code 23 = .ok (.iload 5, 2) := by decide +kernel
theorem own_d12_25 : decode jdk_52_method_21_code 25 = .ok (.ireturn, 1) := by decide +kernel
theorem own_ef_rm_c5_1_0 (m : MethodId) (a1 : Addr) (a2 : Addr) : entryFrame m #[(.ref a1), (.int (0 : Int32)), (.ref a2), (.int (0 : Int32)), (.int (1 : Int32))] 7 = mkF m 0 #[.val (.ref a1), .val (.int (0 : Int32)), .val (.ref a2), .val (.int (0 : Int32)), .val (.int (1 : Int32)), .unset, .unset] [] := by first | (simp [entryFrame, mkF, argsToLocals, Value.category]; done) | rfl
def Qrm_c5_1_0 (Z : State) (a1 : Addr) (a2 : Addr) (c0 : Int32) (h0 : Heap) (n0 : Nat) (v : Option Value) (h : Heap) (L : List Loc) : Prop := v = some (.int (0 : Int32)) ∧ Fr n0 L ∧ Keep h0 h [a2] ∧ own_Ar Z h a2 .byte [(.int (0 : Int32))]
set_option maxRecDepth 65536 in
set_option maxHeartbeats 40000000 in
theorem rm_c5_1_0 (l : Launch) (Z : State) (a0 : Array Value) (hw : ∀ d ∈ tables_1, d.before a0 Z = true) (ws : List Jvm.Cond) (a1 : Addr) (a2 : Addr) (c0 : Int32) (h0 : Heap) (n0 : Nat) (O_0 : Old Z n0 h0) (A_1 : own_Ar Z h0 a1 .char [(.int c0)]) (A_2 : own_Ar Z h0 a2 .byte [(.int (0 : Int32))]) (G_2 : n0 ≤ a2) (hne0 : a1 ≠ a2) (hk0 : (255 : Int32) < c0) :
    own_Met l (⟨"java/lang/StringUTF16", "compress", "([CI[BII)I"⟩ : MethodName) jdk_52_method_21_code 7 (some .int) ws ({ frames := 0, cells := 0, slots := 0, locals := 0 } : Room) #[(.ref a1), (.int (0 : Int32)), (.ref a2), (.int (0 : Int32)), (.int (1 : Int32))] Z h0 (Qrm_c5_1_0 Z a1 a2 c0 h0 n0) := by
  refine own_body own_pn12 ?_
  intro p e s m below meth c T0 X0 hx hby hml hown hnm hret hlk hZ e0
  have N0 := Fr.nil n0
  refine own_st (fun t k => castTop (own_ef_rm_c5_1_0 m a1 a2) k) ?_
  show own_Go p.tables e below (T0.setTop (mkF m 0 #[.val (.ref a1), .val (.int (0 : Int32)), .val (.ref a2), .val (.int (0 : Int32)), .val (.int (1 : Int32)), .unset, .unset] [])) _
  have Z0 := own_Z0 O_0
  have hne : a1 ≠ a2 := hne0
  refine own_iconst X0 hx hby own_d12_0 (pc' := 1) rfl (z := (0 : Int32)) (by decide) ?_
  refine own_istore X0 hx hby own_d12_1 (pc' := 3) rfl (Ls' := #[.val (.ref a1), .val (.int (0 : Int32)), .val (.ref a2), .val (.int (0 : Int32)), .val (.int (1 : Int32)), .val (.int (0 : Int32)), .unset]) rfl ?_
  refine own_iload X0 hx hby own_d12_3 (pc' := 5) rfl rfl ?_
  refine own_iload X0 hx hby own_d12_5 (pc' := 7) rfl rfl ?_
  refine own_icmpNo X0 hx hby own_d12_7 (pc' := 10) rfl (by decide) ?_
  refine own_aloadN X0 hx hby own_d12_10 (pc' := 11) rfl rfl rfl ?_
  refine own_iloadN X0 hx hby own_d12_11 (pc' := 12) rfl rfl ?_
  refine own_caload X0 hx hby own_d12_12 (pc' := 13) rfl hZ e0 (A_1) (by decide) (v := (.int c0)) rfl ?_
  refine own_istore X0 hx hby own_d12_13 (pc' := 15) rfl (Ls' := #[.val (.ref a1), .val (.int (0 : Int32)), .val (.ref a2), .val (.int (0 : Int32)), .val (.int (1 : Int32)), .val (.int (0 : Int32)), .val (.int c0)]) rfl ?_
  refine own_iload X0 hx hby own_d12_15 (pc' := 17) rfl rfl ?_
  refine own_sipush X0 hx hby own_d12_17 (pc' := 20) rfl (z := (255 : Int32)) (by decide) ?_
  refine own_icmpNo X0 hx hby own_d12_20 (pc' := 23) rfl (tlt hk0).2.2.2 ?_
  refine own_iload X0 hx hby own_d12_23 (pc' := 25) rfl rfl ?_
  exact own_retI X0 hx hret (hb hby own_d12_25) hlk (by decide) (by decide) ⟨rfl, N0, by rw [e0]; exact ⟨(Keep.refl h0 [a2]), A_2⟩⟩
theorem own_d12_26 : decode jdk_52_method_21_code 26 = .ok (.aload_n 2, 1) := by decide +kernel
theorem own_d12_27 : decode jdk_52_method_21_code 27 = .ok (.iload_n 3, 1) := by decide +kernel
theorem own_d12_28 : decode jdk_52_method_21_code 28 = .ok (.iload 6, 2) := by decide +kernel
theorem own_d12_30 : decode jdk_52_method_21_code 30 = .ok (.i2b, 1) := by decide +kernel
theorem own_d12_31 : decode jdk_52_method_21_code 31 = .ok (.bastore, 1) := by decide +kernel
theorem own_d12_32 : decode jdk_52_method_21_code 32 = .ok (.iinc 1 1, 3) := by decide +kernel
theorem own_d12_35 : decode jdk_52_method_21_code 35 = .ok (.iinc 3 1, 3) := by decide +kernel
theorem own_d12_38 : decode jdk_52_method_21_code 38 = .ok (.iinc 5 1, 3) := by decide +kernel
theorem own_d12_41 : decode jdk_52_method_21_code 41 = .ok (.goto (-38), 3) := by decide +kernel
theorem own_d12_44 : decode jdk_52_method_21_code 44 = .ok (.iload 4, 2) := by decide +kernel
theorem own_d12_46 : decode jdk_52_method_21_code 46 = .ok (.ireturn, 1) := by decide +kernel
theorem own_ef_rm_c5_1_1 (m : MethodId) (a1 : Addr) (a2 : Addr) : entryFrame m #[(.ref a1), (.int (0 : Int32)), (.ref a2), (.int (0 : Int32)), (.int (1 : Int32))] 7 = mkF m 0 #[.val (.ref a1), .val (.int (0 : Int32)), .val (.ref a2), .val (.int (0 : Int32)), .val (.int (1 : Int32)), .unset, .unset] [] := by first | (simp [entryFrame, mkF, argsToLocals, Value.category]; done) | rfl
def Qrm_c5_1_1 (Z : State) (a1 : Addr) (a2 : Addr) (c0 : Int32) (h0 : Heap) (n0 : Nat) (v : Option Value) (h : Heap) (L : List Loc) : Prop := v = some (.int (1 : Int32)) ∧ Fr n0 L ∧ Keep h0 h [a2] ∧ own_Ar Z h a2 .byte [(.int (lo8 c0))]
set_option maxRecDepth 65536 in
set_option maxHeartbeats 40000000 in
theorem rm_c5_1_1 (l : Launch) (Z : State) (a0 : Array Value) (hw : ∀ d ∈ tables_1, d.before a0 Z = true) (ws : List Jvm.Cond) (a1 : Addr) (a2 : Addr) (c0 : Int32) (h0 : Heap) (n0 : Nat) (O_0 : Old Z n0 h0) (A_1 : own_Ar Z h0 a1 .char [(.int c0)]) (A_2 : own_Ar Z h0 a2 .byte [(.int (0 : Int32))]) (G_2 : n0 ≤ a2) (hne0 : a1 ≠ a2) (hk0 : ¬ (255 : Int32) < c0) :
    own_Met l (⟨"java/lang/StringUTF16", "compress", "([CI[BII)I"⟩ : MethodName) jdk_52_method_21_code 7 (some .int) ws ({ frames := 0, cells := 0, slots := 0, locals := 0 } : Room) #[(.ref a1), (.int (0 : Int32)), (.ref a2), (.int (0 : Int32)), (.int (1 : Int32))] Z h0 (Qrm_c5_1_1 Z a1 a2 c0 h0 n0) := by
  refine own_body own_pn12 ?_
  intro p e s m below meth c T0 X0 hx hby hml hown hnm hret hlk hZ e0
  have N0 := Fr.nil n0
  refine own_st (fun t k => castTop (own_ef_rm_c5_1_1 m a1 a2) k) ?_
  show own_Go p.tables e below (T0.setTop (mkF m 0 #[.val (.ref a1), .val (.int (0 : Int32)), .val (.ref a2), .val (.int (0 : Int32)), .val (.int (1 : Int32)), .unset, .unset] [])) _
  have Z0 := own_Z0 O_0
  have hne : a1 ≠ a2 := hne0
  refine own_iconst X0 hx hby own_d12_0 (pc' := 1) rfl (z := (0 : Int32)) (by decide) ?_
  refine own_istore X0 hx hby own_d12_1 (pc' := 3) rfl (Ls' := #[.val (.ref a1), .val (.int (0 : Int32)), .val (.ref a2), .val (.int (0 : Int32)), .val (.int (1 : Int32)), .val (.int (0 : Int32)), .unset]) rfl ?_
  refine own_iload X0 hx hby own_d12_3 (pc' := 5) rfl rfl ?_
  refine own_iload X0 hx hby own_d12_5 (pc' := 7) rfl rfl ?_
  refine own_icmpNo X0 hx hby own_d12_7 (pc' := 10) rfl (by decide) ?_
  refine own_aloadN X0 hx hby own_d12_10 (pc' := 11) rfl rfl rfl ?_
  refine own_iloadN X0 hx hby own_d12_11 (pc' := 12) rfl rfl ?_
  refine own_caload X0 hx hby own_d12_12 (pc' := 13) rfl hZ e0 (A_1) (by decide) (v := (.int c0)) rfl ?_
  refine own_istore X0 hx hby own_d12_13 (pc' := 15) rfl (Ls' := #[.val (.ref a1), .val (.int (0 : Int32)), .val (.ref a2), .val (.int (0 : Int32)), .val (.int (1 : Int32)), .val (.int (0 : Int32)), .val (.int c0)]) rfl ?_
  refine own_iload X0 hx hby own_d12_15 (pc' := 17) rfl rfl ?_
  refine own_sipush X0 hx hby own_d12_17 (pc' := 20) rfl (z := (255 : Int32)) (by decide) ?_
  refine own_icmpYes X0 hx hby own_d12_20 (pc' := 26) (by decide) (flt hk0).2.2.2 ?_
  refine own_aloadN X0 hx hby own_d12_26 (pc' := 27) rfl rfl rfl ?_
  refine own_iloadN X0 hx hby own_d12_27 (pc' := 28) rfl rfl ?_
  refine own_iload X0 hx hby own_d12_28 (pc' := 30) rfl rfl ?_
  refine own_i2b X0 hx hby own_d12_30 (pc' := 31) rfl rfl ?_
  refine own_bastore X0 hx hby own_d12_31 (pc' := 32) rfl hZ e0 (A_2) (by decide) (v := (.int (0 : Int32))) rfl ?_
  intro T1 h1 X1 e1 W1 A1
  have B1 : own_Ar Z h1 a2 .byte [(.int (lo8 c0))] := by
    have q : own_Ar Z h1 a2 .byte [(.int (lo8 (lo8 c0)))] := A1
    rw [own_lolo] at q
    exact q
  have N1 := Fr.snoc X1 N0 G_2
  refine own_iinc X1 hx hby own_d12_32 (pc' := 35) rfl rfl (z := (1 : Int32)) (by decide) (Ls' := #[.val (.ref a1), .val (.int (1 : Int32)), .val (.ref a2), .val (.int (0 : Int32)), .val (.int (1 : Int32)), .val (.int (0 : Int32)), .val (.int c0)]) rfl ?_
  refine own_iinc X1 hx hby own_d12_35 (pc' := 38) rfl rfl (z := (1 : Int32)) (by decide) (Ls' := #[.val (.ref a1), .val (.int (1 : Int32)), .val (.ref a2), .val (.int (1 : Int32)), .val (.int (1 : Int32)), .val (.int (0 : Int32)), .val (.int c0)]) rfl ?_
  refine own_iinc X1 hx hby own_d12_38 (pc' := 41) rfl rfl (z := (1 : Int32)) (by decide) (Ls' := #[.val (.ref a1), .val (.int (1 : Int32)), .val (.ref a2), .val (.int (1 : Int32)), .val (.int (1 : Int32)), .val (.int (1 : Int32)), .val (.int c0)]) rfl ?_
  refine own_goto X1 hx hby own_d12_41 (pc' := 3) (by decide) ?_
  refine own_iload X1 hx hby own_d12_3 (pc' := 5) rfl rfl ?_
  refine own_iload X1 hx hby own_d12_5 (pc' := 7) rfl rfl ?_
  refine own_icmpYes X1 hx hby own_d12_7 (pc' := 44) (by decide) (by decide) ?_
  refine own_iload X1 hx hby own_d12_44 (pc' := 46) rfl rfl ?_
  exact own_retI X1 hx hret (hb hby own_d12_46) hlk (by decide) (by decide) ⟨rfl, N1, by rw [e1]; exact ⟨((Keep.refl h0 [a2]).wr W1 (Or.inl (List.mem_of_getElem? (i := 0) rfl))), B1⟩⟩
theorem own_ef_rm_c5_2_0 (m : MethodId) (a1 : Addr) (a2 : Addr) : entryFrame m #[(.ref a1), (.int (0 : Int32)), (.ref a2), (.int (0 : Int32)), (.int (2 : Int32))] 7 = mkF m 0 #[.val (.ref a1), .val (.int (0 : Int32)), .val (.ref a2), .val (.int (0 : Int32)), .val (.int (2 : Int32)), .unset, .unset] [] := by first | (simp [entryFrame, mkF, argsToLocals, Value.category]; done) | rfl
def Qrm_c5_2_0 (Z : State) (a1 : Addr) (a2 : Addr) (c0 : Int32) (c1 : Int32) (h0 : Heap) (n0 : Nat) (v : Option Value) (h : Heap) (L : List Loc) : Prop := v = some (.int (0 : Int32)) ∧ Fr n0 L ∧ Keep h0 h [a2] ∧ own_Ar Z h a2 .byte [(.int (0 : Int32)), (.int (0 : Int32))]
set_option maxRecDepth 65536 in
set_option maxHeartbeats 40000000 in
theorem rm_c5_2_0 (l : Launch) (Z : State) (a0 : Array Value) (hw : ∀ d ∈ tables_1, d.before a0 Z = true) (ws : List Jvm.Cond) (a1 : Addr) (a2 : Addr) (c0 : Int32) (c1 : Int32) (h0 : Heap) (n0 : Nat) (O_0 : Old Z n0 h0) (A_1 : own_Ar Z h0 a1 .char [(.int c0), (.int c1)]) (A_2 : own_Ar Z h0 a2 .byte [(.int (0 : Int32)), (.int (0 : Int32))]) (G_2 : n0 ≤ a2) (hne0 : a1 ≠ a2) (hk0 : (255 : Int32) < c0) :
    own_Met l (⟨"java/lang/StringUTF16", "compress", "([CI[BII)I"⟩ : MethodName) jdk_52_method_21_code 7 (some .int) ws ({ frames := 0, cells := 0, slots := 0, locals := 0 } : Room) #[(.ref a1), (.int (0 : Int32)), (.ref a2), (.int (0 : Int32)), (.int (2 : Int32))] Z h0 (Qrm_c5_2_0 Z a1 a2 c0 c1 h0 n0) := by
  refine own_body own_pn12 ?_
  intro p e s m below meth c T0 X0 hx hby hml hown hnm hret hlk hZ e0
  have N0 := Fr.nil n0
  refine own_st (fun t k => castTop (own_ef_rm_c5_2_0 m a1 a2) k) ?_
  show own_Go p.tables e below (T0.setTop (mkF m 0 #[.val (.ref a1), .val (.int (0 : Int32)), .val (.ref a2), .val (.int (0 : Int32)), .val (.int (2 : Int32)), .unset, .unset] [])) _
  have Z0 := own_Z0 O_0
  have hne : a1 ≠ a2 := hne0
  refine own_iconst X0 hx hby own_d12_0 (pc' := 1) rfl (z := (0 : Int32)) (by decide) ?_
  refine own_istore X0 hx hby own_d12_1 (pc' := 3) rfl (Ls' := #[.val (.ref a1), .val (.int (0 : Int32)), .val (.ref a2), .val (.int (0 : Int32)), .val (.int (2 : Int32)), .val (.int (0 : Int32)), .unset]) rfl ?_
  refine own_iload X0 hx hby own_d12_3 (pc' := 5) rfl rfl ?_
  refine own_iload X0 hx hby own_d12_5 (pc' := 7) rfl rfl ?_
  refine own_icmpNo X0 hx hby own_d12_7 (pc' := 10) rfl (by decide) ?_
  refine own_aloadN X0 hx hby own_d12_10 (pc' := 11) rfl rfl rfl ?_
  refine own_iloadN X0 hx hby own_d12_11 (pc' := 12) rfl rfl ?_
  refine own_caload X0 hx hby own_d12_12 (pc' := 13) rfl hZ e0 (A_1) (by decide) (v := (.int c0)) rfl ?_
  refine own_istore X0 hx hby own_d12_13 (pc' := 15) rfl (Ls' := #[.val (.ref a1), .val (.int (0 : Int32)), .val (.ref a2), .val (.int (0 : Int32)), .val (.int (2 : Int32)), .val (.int (0 : Int32)), .val (.int c0)]) rfl ?_
  refine own_iload X0 hx hby own_d12_15 (pc' := 17) rfl rfl ?_
  refine own_sipush X0 hx hby own_d12_17 (pc' := 20) rfl (z := (255 : Int32)) (by decide) ?_
  refine own_icmpNo X0 hx hby own_d12_20 (pc' := 23) rfl (tlt hk0).2.2.2 ?_
  refine own_iload X0 hx hby own_d12_23 (pc' := 25) rfl rfl ?_
  exact own_retI X0 hx hret (hb hby own_d12_25) hlk (by decide) (by decide) ⟨rfl, N0, by rw [e0]; exact ⟨(Keep.refl h0 [a2]), A_2⟩⟩
theorem own_ef_rm_c5_2_1 (m : MethodId) (a1 : Addr) (a2 : Addr) : entryFrame m #[(.ref a1), (.int (0 : Int32)), (.ref a2), (.int (0 : Int32)), (.int (2 : Int32))] 7 = mkF m 0 #[.val (.ref a1), .val (.int (0 : Int32)), .val (.ref a2), .val (.int (0 : Int32)), .val (.int (2 : Int32)), .unset, .unset] [] := by first | (simp [entryFrame, mkF, argsToLocals, Value.category]; done) | rfl
def Qrm_c5_2_1 (Z : State) (a1 : Addr) (a2 : Addr) (c0 : Int32) (c1 : Int32) (h0 : Heap) (n0 : Nat) (v : Option Value) (h : Heap) (L : List Loc) : Prop := v = some (.int (1 : Int32)) ∧ Fr n0 L ∧ Keep h0 h [a2] ∧ own_Ar Z h a2 .byte [(.int (lo8 c0)), (.int (0 : Int32))]
set_option maxRecDepth 65536 in
set_option maxHeartbeats 40000000 in
theorem rm_c5_2_1 (l : Launch) (Z : State) (a0 : Array Value) (hw : ∀ d ∈ tables_1, d.before a0 Z = true) (ws : List Jvm.Cond) (a1 : Addr) (a2 : Addr) (c0 : Int32) (c1 : Int32) (h0 : Heap) (n0 : Nat) (O_0 : Old Z n0 h0) (A_1 : own_Ar Z h0 a1 .char [(.int c0), (.int c1)]) (A_2 : own_Ar Z h0 a2 .byte [(.int (0 : Int32)), (.int (0 : Int32))]) (G_2 : n0 ≤ a2) (hne0 : a1 ≠ a2) (hk0 : ¬ (255 : Int32) < c0) (hk1 : (255 : Int32) < c1) :
    own_Met l (⟨"java/lang/StringUTF16", "compress", "([CI[BII)I"⟩ : MethodName) jdk_52_method_21_code 7 (some .int) ws ({ frames := 0, cells := 0, slots := 0, locals := 0 } : Room) #[(.ref a1), (.int (0 : Int32)), (.ref a2), (.int (0 : Int32)), (.int (2 : Int32))] Z h0 (Qrm_c5_2_1 Z a1 a2 c0 c1 h0 n0) := by
  refine own_body own_pn12 ?_
  intro p e s m below meth c T0 X0 hx hby hml hown hnm hret hlk hZ e0
  have N0 := Fr.nil n0
  refine own_st (fun t k => castTop (own_ef_rm_c5_2_1 m a1 a2) k) ?_
  show own_Go p.tables e below (T0.setTop (mkF m 0 #[.val (.ref a1), .val (.int (0 : Int32)), .val (.ref a2), .val (.int (0 : Int32)), .val (.int (2 : Int32)), .unset, .unset] [])) _
  have Z0 := own_Z0 O_0
  have hne : a1 ≠ a2 := hne0
  refine own_iconst X0 hx hby own_d12_0 (pc' := 1) rfl (z := (0 : Int32)) (by decide) ?_
  refine own_istore X0 hx hby own_d12_1 (pc' := 3) rfl (Ls' := #[.val (.ref a1), .val (.int (0 : Int32)), .val (.ref a2), .val (.int (0 : Int32)), .val (.int (2 : Int32)), .val (.int (0 : Int32)), .unset]) rfl ?_
  refine own_iload X0 hx hby own_d12_3 (pc' := 5) rfl rfl ?_
  refine own_iload X0 hx hby own_d12_5 (pc' := 7) rfl rfl ?_
  refine own_icmpNo X0 hx hby own_d12_7 (pc' := 10) rfl (by decide) ?_
  refine own_aloadN X0 hx hby own_d12_10 (pc' := 11) rfl rfl rfl ?_
  refine own_iloadN X0 hx hby own_d12_11 (pc' := 12) rfl rfl ?_
  refine own_caload X0 hx hby own_d12_12 (pc' := 13) rfl hZ e0 (A_1) (by decide) (v := (.int c0)) rfl ?_
  refine own_istore X0 hx hby own_d12_13 (pc' := 15) rfl (Ls' := #[.val (.ref a1), .val (.int (0 : Int32)), .val (.ref a2), .val (.int (0 : Int32)), .val (.int (2 : Int32)), .val (.int (0 : Int32)), .val (.int c0)]) rfl ?_
  refine own_iload X0 hx hby own_d12_15 (pc' := 17) rfl rfl ?_
  refine own_sipush X0 hx hby own_d12_17 (pc' := 20) rfl (z := (255 : Int32)) (by decide) ?_
  refine own_icmpYes X0 hx hby own_d12_20 (pc' := 26) (by decide) (flt hk0).2.2.2 ?_
  refine own_aloadN X0 hx hby own_d12_26 (pc' := 27) rfl rfl rfl ?_
  refine own_iloadN X0 hx hby own_d12_27 (pc' := 28) rfl rfl ?_
  refine own_iload X0 hx hby own_d12_28 (pc' := 30) rfl rfl ?_
  refine own_i2b X0 hx hby own_d12_30 (pc' := 31) rfl rfl ?_
  refine own_bastore X0 hx hby own_d12_31 (pc' := 32) rfl hZ e0 (A_2) (by decide) (v := (.int (0 : Int32))) rfl ?_
  intro T2 h2 X2 e2 W2 A2
  have B2 : own_Ar Z h2 a2 .byte [(.int (lo8 c0)), (.int (0 : Int32))] := by
    have q : own_Ar Z h2 a2 .byte [(.int (lo8 (lo8 c0))), (.int (0 : Int32))] := A2
    rw [own_lolo] at q
    exact q
  have N2 := Fr.snoc X2 N0 G_2
  refine own_iinc X2 hx hby own_d12_32 (pc' := 35) rfl rfl (z := (1 : Int32)) (by decide) (Ls' := #[.val (.ref a1), .val (.int (1 : Int32)), .val (.ref a2), .val (.int (0 : Int32)), .val (.int (2 : Int32)), .val (.int (0 : Int32)), .val (.int c0)]) rfl ?_
  refine own_iinc X2 hx hby own_d12_35 (pc' := 38) rfl rfl (z := (1 : Int32)) (by decide) (Ls' := #[.val (.ref a1), .val (.int (1 : Int32)), .val (.ref a2), .val (.int (1 : Int32)), .val (.int (2 : Int32)), .val (.int (0 : Int32)), .val (.int c0)]) rfl ?_
  refine own_iinc X2 hx hby own_d12_38 (pc' := 41) rfl rfl (z := (1 : Int32)) (by decide) (Ls' := #[.val (.ref a1), .val (.int (1 : Int32)), .val (.ref a2), .val (.int (1 : Int32)), .val (.int (2 : Int32)), .val (.int (1 : Int32)), .val (.int c0)]) rfl ?_
  refine own_goto X2 hx hby own_d12_41 (pc' := 3) (by decide) ?_
  refine own_iload X2 hx hby own_d12_3 (pc' := 5) rfl rfl ?_
  refine own_iload X2 hx hby own_d12_5 (pc' := 7) rfl rfl ?_
  refine own_icmpNo X2 hx hby own_d12_7 (pc' := 10) rfl (by decide) ?_
  refine own_aloadN X2 hx hby own_d12_10 (pc' := 11) rfl rfl rfl ?_
  refine own_iloadN X2 hx hby own_d12_11 (pc' := 12) rfl rfl ?_
  refine own_caload X2 hx hby own_d12_12 (pc' := 13) rfl hZ e2 ((A_1.other W2 hne0)) (by decide) (v := (.int c1)) rfl ?_
  refine own_istore X2 hx hby own_d12_13 (pc' := 15) rfl (Ls' := #[.val (.ref a1), .val (.int (1 : Int32)), .val (.ref a2), .val (.int (1 : Int32)), .val (.int (2 : Int32)), .val (.int (1 : Int32)), .val (.int c1)]) rfl ?_
  refine own_iload X2 hx hby own_d12_15 (pc' := 17) rfl rfl ?_
  refine own_sipush X2 hx hby own_d12_17 (pc' := 20) rfl (z := (255 : Int32)) (by decide) ?_
  refine own_icmpNo X2 hx hby own_d12_20 (pc' := 23) rfl (tlt hk1).2.2.2 ?_
  refine own_iload X2 hx hby own_d12_23 (pc' := 25) rfl rfl ?_
  exact own_retI X2 hx hret (hb hby own_d12_25) hlk (by decide) (by decide) ⟨rfl, N2, by rw [e2]; exact ⟨((Keep.refl h0 [a2]).wr W2 (Or.inl (List.mem_of_getElem? (i := 0) rfl))), B2⟩⟩
theorem own_ef_rm_c5_2_2 (m : MethodId) (a1 : Addr) (a2 : Addr) : entryFrame m #[(.ref a1), (.int (0 : Int32)), (.ref a2), (.int (0 : Int32)), (.int (2 : Int32))] 7 = mkF m 0 #[.val (.ref a1), .val (.int (0 : Int32)), .val (.ref a2), .val (.int (0 : Int32)), .val (.int (2 : Int32)), .unset, .unset] [] := by first | (simp [entryFrame, mkF, argsToLocals, Value.category]; done) | rfl
def Qrm_c5_2_2 (Z : State) (a1 : Addr) (a2 : Addr) (c0 : Int32) (c1 : Int32) (h0 : Heap) (n0 : Nat) (v : Option Value) (h : Heap) (L : List Loc) : Prop := v = some (.int (2 : Int32)) ∧ Fr n0 L ∧ Keep h0 h [a2] ∧ own_Ar Z h a2 .byte [(.int (lo8 c0)), (.int (lo8 c1))]
set_option maxRecDepth 65536 in
set_option maxHeartbeats 40000000 in
theorem rm_c5_2_2 (l : Launch) (Z : State) (a0 : Array Value) (hw : ∀ d ∈ tables_1, d.before a0 Z = true) (ws : List Jvm.Cond) (a1 : Addr) (a2 : Addr) (c0 : Int32) (c1 : Int32) (h0 : Heap) (n0 : Nat) (O_0 : Old Z n0 h0) (A_1 : own_Ar Z h0 a1 .char [(.int c0), (.int c1)]) (A_2 : own_Ar Z h0 a2 .byte [(.int (0 : Int32)), (.int (0 : Int32))]) (G_2 : n0 ≤ a2) (hne0 : a1 ≠ a2) (hk0 : ¬ (255 : Int32) < c0) (hk1 : ¬ (255 : Int32) < c1) :
    own_Met l (⟨"java/lang/StringUTF16", "compress", "([CI[BII)I"⟩ : MethodName) jdk_52_method_21_code 7 (some .int) ws ({ frames := 0, cells := 0, slots := 0, locals := 0 } : Room) #[(.ref a1), (.int (0 : Int32)), (.ref a2), (.int (0 : Int32)), (.int (2 : Int32))] Z h0 (Qrm_c5_2_2 Z a1 a2 c0 c1 h0 n0) := by
  refine own_body own_pn12 ?_
  intro p e s m below meth c T0 X0 hx hby hml hown hnm hret hlk hZ e0
  have N0 := Fr.nil n0
  refine own_st (fun t k => castTop (own_ef_rm_c5_2_2 m a1 a2) k) ?_
  show own_Go p.tables e below (T0.setTop (mkF m 0 #[.val (.ref a1), .val (.int (0 : Int32)), .val (.ref a2), .val (.int (0 : Int32)), .val (.int (2 : Int32)), .unset, .unset] [])) _
  have Z0 := own_Z0 O_0
  have hne : a1 ≠ a2 := hne0
  refine own_iconst X0 hx hby own_d12_0 (pc' := 1) rfl (z := (0 : Int32)) (by decide) ?_
  refine own_istore X0 hx hby own_d12_1 (pc' := 3) rfl (Ls' := #[.val (.ref a1), .val (.int (0 : Int32)), .val (.ref a2), .val (.int (0 : Int32)), .val (.int (2 : Int32)), .val (.int (0 : Int32)), .unset]) rfl ?_
  refine own_iload X0 hx hby own_d12_3 (pc' := 5) rfl rfl ?_
  refine own_iload X0 hx hby own_d12_5 (pc' := 7) rfl rfl ?_
  refine own_icmpNo X0 hx hby own_d12_7 (pc' := 10) rfl (by decide) ?_
  refine own_aloadN X0 hx hby own_d12_10 (pc' := 11) rfl rfl rfl ?_
  refine own_iloadN X0 hx hby own_d12_11 (pc' := 12) rfl rfl ?_
  refine own_caload X0 hx hby own_d12_12 (pc' := 13) rfl hZ e0 (A_1) (by decide) (v := (.int c0)) rfl ?_
  refine own_istore X0 hx hby own_d12_13 (pc' := 15) rfl (Ls' := #[.val (.ref a1), .val (.int (0 : Int32)), .val (.ref a2), .val (.int (0 : Int32)), .val (.int (2 : Int32)), .val (.int (0 : Int32)), .val (.int c0)]) rfl ?_
  refine own_iload X0 hx hby own_d12_15 (pc' := 17) rfl rfl ?_
  refine own_sipush X0 hx hby own_d12_17 (pc' := 20) rfl (z := (255 : Int32)) (by decide) ?_
  refine own_icmpYes X0 hx hby own_d12_20 (pc' := 26) (by decide) (flt hk0).2.2.2 ?_
  refine own_aloadN X0 hx hby own_d12_26 (pc' := 27) rfl rfl rfl ?_
  refine own_iloadN X0 hx hby own_d12_27 (pc' := 28) rfl rfl ?_
  refine own_iload X0 hx hby own_d12_28 (pc' := 30) rfl rfl ?_
  refine own_i2b X0 hx hby own_d12_30 (pc' := 31) rfl rfl ?_
  refine own_bastore X0 hx hby own_d12_31 (pc' := 32) rfl hZ e0 (A_2) (by decide) (v := (.int (0 : Int32))) rfl ?_
  intro T3 h3 X3 e3 W3 A3
  have B3 : own_Ar Z h3 a2 .byte [(.int (lo8 c0)), (.int (0 : Int32))] := by
    have q : own_Ar Z h3 a2 .byte [(.int (lo8 (lo8 c0))), (.int (0 : Int32))] := A3
    rw [own_lolo] at q
    exact q
  have N3 := Fr.snoc X3 N0 G_2
  refine own_iinc X3 hx hby own_d12_32 (pc' := 35) rfl rfl (z := (1 : Int32)) (by decide) (Ls' := #[.val (.ref a1), .val (.int (1 : Int32)), .val (.ref a2), .val (.int (0 : Int32)), .val (.int (2 : Int32)), .val (.int (0 : Int32)), .val (.int c0)]) rfl ?_
  refine own_iinc X3 hx hby own_d12_35 (pc' := 38) rfl rfl (z := (1 : Int32)) (by decide) (Ls' := #[.val (.ref a1), .val (.int (1 : Int32)), .val (.ref a2), .val (.int (1 : Int32)), .val (.int (2 : Int32)), .val (.int (0 : Int32)), .val (.int c0)]) rfl ?_
  refine own_iinc X3 hx hby own_d12_38 (pc' := 41) rfl rfl (z := (1 : Int32)) (by decide) (Ls' := #[.val (.ref a1), .val (.int (1 : Int32)), .val (.ref a2), .val (.int (1 : Int32)), .val (.int (2 : Int32)), .val (.int (1 : Int32)), .val (.int c0)]) rfl ?_
  refine own_goto X3 hx hby own_d12_41 (pc' := 3) (by decide) ?_
  refine own_iload X3 hx hby own_d12_3 (pc' := 5) rfl rfl ?_
  refine own_iload X3 hx hby own_d12_5 (pc' := 7) rfl rfl ?_
  refine own_icmpNo X3 hx hby own_d12_7 (pc' := 10) rfl (by decide) ?_
  refine own_aloadN X3 hx hby own_d12_10 (pc' := 11) rfl rfl rfl ?_
  refine own_iloadN X3 hx hby own_d12_11 (pc' := 12) rfl rfl ?_
  refine own_caload X3 hx hby own_d12_12 (pc' := 13) rfl hZ e3 ((A_1.other W3 hne0)) (by decide) (v := (.int c1)) rfl ?_
  refine own_istore X3 hx hby own_d12_13 (pc' := 15) rfl (Ls' := #[.val (.ref a1), .val (.int (1 : Int32)), .val (.ref a2), .val (.int (1 : Int32)), .val (.int (2 : Int32)), .val (.int (1 : Int32)), .val (.int c1)]) rfl ?_
  refine own_iload X3 hx hby own_d12_15 (pc' := 17) rfl rfl ?_
  refine own_sipush X3 hx hby own_d12_17 (pc' := 20) rfl (z := (255 : Int32)) (by decide) ?_
  refine own_icmpYes X3 hx hby own_d12_20 (pc' := 26) (by decide) (flt hk1).2.2.2 ?_
  refine own_aloadN X3 hx hby own_d12_26 (pc' := 27) rfl rfl rfl ?_
  refine own_iloadN X3 hx hby own_d12_27 (pc' := 28) rfl rfl ?_
  refine own_iload X3 hx hby own_d12_28 (pc' := 30) rfl rfl ?_
  refine own_i2b X3 hx hby own_d12_30 (pc' := 31) rfl rfl ?_
  refine own_bastore X3 hx hby own_d12_31 (pc' := 32) rfl hZ e3 (B3) (by decide) (v := (.int (0 : Int32))) rfl ?_
  intro T4 h4 X4 e4 W4 A4
  have B4 : own_Ar Z h4 a2 .byte [(.int (lo8 c0)), (.int (lo8 c1))] := by
    have q : own_Ar Z h4 a2 .byte [(.int (lo8 c0)), (.int (lo8 (lo8 c1)))] := A4
    rw [own_lolo] at q
    exact q
  have N4 := Fr.snoc X4 N3 G_2
  refine own_iinc X4 hx hby own_d12_32 (pc' := 35) rfl rfl (z := (2 : Int32)) (by decide) (Ls' := #[.val (.ref a1), .val (.int (2 : Int32)), .val (.ref a2), .val (.int (1 : Int32)), .val (.int (2 : Int32)), .val (.int (1 : Int32)), .val (.int c1)]) rfl ?_
  refine own_iinc X4 hx hby own_d12_35 (pc' := 38) rfl rfl (z := (2 : Int32)) (by decide) (Ls' := #[.val (.ref a1), .val (.int (2 : Int32)), .val (.ref a2), .val (.int (2 : Int32)), .val (.int (2 : Int32)), .val (.int (1 : Int32)), .val (.int c1)]) rfl ?_
  refine own_iinc X4 hx hby own_d12_38 (pc' := 41) rfl rfl (z := (2 : Int32)) (by decide) (Ls' := #[.val (.ref a1), .val (.int (2 : Int32)), .val (.ref a2), .val (.int (2 : Int32)), .val (.int (2 : Int32)), .val (.int (2 : Int32)), .val (.int c1)]) rfl ?_
  refine own_goto X4 hx hby own_d12_41 (pc' := 3) (by decide) ?_
  refine own_iload X4 hx hby own_d12_3 (pc' := 5) rfl rfl ?_
  refine own_iload X4 hx hby own_d12_5 (pc' := 7) rfl rfl ?_
  refine own_icmpYes X4 hx hby own_d12_7 (pc' := 44) (by decide) (by decide) ?_
  refine own_iload X4 hx hby own_d12_44 (pc' := 46) rfl rfl ?_
  exact own_retI X4 hx hret (hb hby own_d12_46) hlk (by decide) (by decide) ⟨rfl, N4, by rw [e4]; exact ⟨(((Keep.refl h0 [a2]).wr W3 (Or.inl (List.mem_of_getElem? (i := 0) rfl))).wr W4 (Or.inl (List.mem_of_getElem? (i := 0) rfl))), B4⟩⟩
theorem own_ef_rm_c5_3_0 (m : MethodId) (a1 : Addr) (a2 : Addr) : entryFrame m #[(.ref a1), (.int (0 : Int32)), (.ref a2), (.int (0 : Int32)), (.int (3 : Int32))] 7 = mkF m 0 #[.val (.ref a1), .val (.int (0 : Int32)), .val (.ref a2), .val (.int (0 : Int32)), .val (.int (3 : Int32)), .unset, .unset] [] := by first | (simp [entryFrame, mkF, argsToLocals, Value.category]; done) | rfl
def Qrm_c5_3_0 (Z : State) (a1 : Addr) (a2 : Addr) (c0 : Int32) (c1 : Int32) (c2 : Int32) (h0 : Heap) (n0 : Nat) (v : Option Value) (h : Heap) (L : List Loc) : Prop := v = some (.int (0 : Int32)) ∧ Fr n0 L ∧ Keep h0 h [a2] ∧ own_Ar Z h a2 .byte [(.int (0 : Int32)), (.int (0 : Int32)), (.int (0 : Int32))]
set_option maxRecDepth 65536 in
set_option maxHeartbeats 40000000 in
theorem rm_c5_3_0 (l : Launch) (Z : State) (a0 : Array Value) (hw : ∀ d ∈ tables_1, d.before a0 Z = true) (ws : List Jvm.Cond) (a1 : Addr) (a2 : Addr) (c0 : Int32) (c1 : Int32) (c2 : Int32) (h0 : Heap) (n0 : Nat) (O_0 : Old Z n0 h0) (A_1 : own_Ar Z h0 a1 .char [(.int c0), (.int c1), (.int c2)]) (A_2 : own_Ar Z h0 a2 .byte [(.int (0 : Int32)), (.int (0 : Int32)), (.int (0 : Int32))]) (G_2 : n0 ≤ a2) (hne0 : a1 ≠ a2) (hk0 : (255 : Int32) < c0) :
    own_Met l (⟨"java/lang/StringUTF16", "compress", "([CI[BII)I"⟩ : MethodName) jdk_52_method_21_code 7 (some .int) ws ({ frames := 0, cells := 0, slots := 0, locals := 0 } : Room) #[(.ref a1), (.int (0 : Int32)), (.ref a2), (.int (0 : Int32)), (.int (3 : Int32))] Z h0 (Qrm_c5_3_0 Z a1 a2 c0 c1 c2 h0 n0) := by
  refine own_body own_pn12 ?_
  intro p e s m below meth c T0 X0 hx hby hml hown hnm hret hlk hZ e0
  have N0 := Fr.nil n0
  refine own_st (fun t k => castTop (own_ef_rm_c5_3_0 m a1 a2) k) ?_
  show own_Go p.tables e below (T0.setTop (mkF m 0 #[.val (.ref a1), .val (.int (0 : Int32)), .val (.ref a2), .val (.int (0 : Int32)), .val (.int (3 : Int32)), .unset, .unset] [])) _
  have Z0 := own_Z0 O_0
  have hne : a1 ≠ a2 := hne0
  refine own_iconst X0 hx hby own_d12_0 (pc' := 1) rfl (z := (0 : Int32)) (by decide) ?_
  refine own_istore X0 hx hby own_d12_1 (pc' := 3) rfl (Ls' := #[.val (.ref a1), .val (.int (0 : Int32)), .val (.ref a2), .val (.int (0 : Int32)), .val (.int (3 : Int32)), .val (.int (0 : Int32)), .unset]) rfl ?_
  refine own_iload X0 hx hby own_d12_3 (pc' := 5) rfl rfl ?_
  refine own_iload X0 hx hby own_d12_5 (pc' := 7) rfl rfl ?_
  refine own_icmpNo X0 hx hby own_d12_7 (pc' := 10) rfl (by decide) ?_
  refine own_aloadN X0 hx hby own_d12_10 (pc' := 11) rfl rfl rfl ?_
  refine own_iloadN X0 hx hby own_d12_11 (pc' := 12) rfl rfl ?_
  refine own_caload X0 hx hby own_d12_12 (pc' := 13) rfl hZ e0 (A_1) (by decide) (v := (.int c0)) rfl ?_
  refine own_istore X0 hx hby own_d12_13 (pc' := 15) rfl (Ls' := #[.val (.ref a1), .val (.int (0 : Int32)), .val (.ref a2), .val (.int (0 : Int32)), .val (.int (3 : Int32)), .val (.int (0 : Int32)), .val (.int c0)]) rfl ?_
  refine own_iload X0 hx hby own_d12_15 (pc' := 17) rfl rfl ?_
  refine own_sipush X0 hx hby own_d12_17 (pc' := 20) rfl (z := (255 : Int32)) (by decide) ?_
  refine own_icmpNo X0 hx hby own_d12_20 (pc' := 23) rfl (tlt hk0).2.2.2 ?_
  refine own_iload X0 hx hby own_d12_23 (pc' := 25) rfl rfl ?_
  exact own_retI X0 hx hret (hb hby own_d12_25) hlk (by decide) (by decide) ⟨rfl, N0, by rw [e0]; exact ⟨(Keep.refl h0 [a2]), A_2⟩⟩
theorem own_ef_rm_c5_3_1 (m : MethodId) (a1 : Addr) (a2 : Addr) : entryFrame m #[(.ref a1), (.int (0 : Int32)), (.ref a2), (.int (0 : Int32)), (.int (3 : Int32))] 7 = mkF m 0 #[.val (.ref a1), .val (.int (0 : Int32)), .val (.ref a2), .val (.int (0 : Int32)), .val (.int (3 : Int32)), .unset, .unset] [] := by first | (simp [entryFrame, mkF, argsToLocals, Value.category]; done) | rfl
def Qrm_c5_3_1 (Z : State) (a1 : Addr) (a2 : Addr) (c0 : Int32) (c1 : Int32) (c2 : Int32) (h0 : Heap) (n0 : Nat) (v : Option Value) (h : Heap) (L : List Loc) : Prop := v = some (.int (1 : Int32)) ∧ Fr n0 L ∧ Keep h0 h [a2] ∧ own_Ar Z h a2 .byte [(.int (lo8 c0)), (.int (0 : Int32)), (.int (0 : Int32))]
set_option maxRecDepth 65536 in
set_option maxHeartbeats 40000000 in
theorem rm_c5_3_1 (l : Launch) (Z : State) (a0 : Array Value) (hw : ∀ d ∈ tables_1, d.before a0 Z = true) (ws : List Jvm.Cond) (a1 : Addr) (a2 : Addr) (c0 : Int32) (c1 : Int32) (c2 : Int32) (h0 : Heap) (n0 : Nat) (O_0 : Old Z n0 h0) (A_1 : own_Ar Z h0 a1 .char [(.int c0), (.int c1), (.int c2)]) (A_2 : own_Ar Z h0 a2 .byte [(.int (0 : Int32)), (.int (0 : Int32)), (.int (0 : Int32))]) (G_2 : n0 ≤ a2) (hne0 : a1 ≠ a2) (hk0 : ¬ (255 : Int32) < c0) (hk1 : (255 : Int32) < c1) :
    own_Met l (⟨"java/lang/StringUTF16", "compress", "([CI[BII)I"⟩ : MethodName) jdk_52_method_21_code 7 (some .int) ws ({ frames := 0, cells := 0, slots := 0, locals := 0 } : Room) #[(.ref a1), (.int (0 : Int32)), (.ref a2), (.int (0 : Int32)), (.int (3 : Int32))] Z h0 (Qrm_c5_3_1 Z a1 a2 c0 c1 c2 h0 n0) := by
  refine own_body own_pn12 ?_
  intro p e s m below meth c T0 X0 hx hby hml hown hnm hret hlk hZ e0
  have N0 := Fr.nil n0
  refine own_st (fun t k => castTop (own_ef_rm_c5_3_1 m a1 a2) k) ?_
  show own_Go p.tables e below (T0.setTop (mkF m 0 #[.val (.ref a1), .val (.int (0 : Int32)), .val (.ref a2), .val (.int (0 : Int32)), .val (.int (3 : Int32)), .unset, .unset] [])) _
  have Z0 := own_Z0 O_0
  have hne : a1 ≠ a2 := hne0
  refine own_iconst X0 hx hby own_d12_0 (pc' := 1) rfl (z := (0 : Int32)) (by decide) ?_
  refine own_istore X0 hx hby own_d12_1 (pc' := 3) rfl (Ls' := #[.val (.ref a1), .val (.int (0 : Int32)), .val (.ref a2), .val (.int (0 : Int32)), .val (.int (3 : Int32)), .val (.int (0 : Int32)), .unset]) rfl ?_
  refine own_iload X0 hx hby own_d12_3 (pc' := 5) rfl rfl ?_
  refine own_iload X0 hx hby own_d12_5 (pc' := 7) rfl rfl ?_
  refine own_icmpNo X0 hx hby own_d12_7 (pc' := 10) rfl (by decide) ?_
  refine own_aloadN X0 hx hby own_d12_10 (pc' := 11) rfl rfl rfl ?_
  refine own_iloadN X0 hx hby own_d12_11 (pc' := 12) rfl rfl ?_
  refine own_caload X0 hx hby own_d12_12 (pc' := 13) rfl hZ e0 (A_1) (by decide) (v := (.int c0)) rfl ?_
  refine own_istore X0 hx hby own_d12_13 (pc' := 15) rfl (Ls' := #[.val (.ref a1), .val (.int (0 : Int32)), .val (.ref a2), .val (.int (0 : Int32)), .val (.int (3 : Int32)), .val (.int (0 : Int32)), .val (.int c0)]) rfl ?_
  refine own_iload X0 hx hby own_d12_15 (pc' := 17) rfl rfl ?_
  refine own_sipush X0 hx hby own_d12_17 (pc' := 20) rfl (z := (255 : Int32)) (by decide) ?_
  refine own_icmpYes X0 hx hby own_d12_20 (pc' := 26) (by decide) (flt hk0).2.2.2 ?_
  refine own_aloadN X0 hx hby own_d12_26 (pc' := 27) rfl rfl rfl ?_
  refine own_iloadN X0 hx hby own_d12_27 (pc' := 28) rfl rfl ?_
  refine own_iload X0 hx hby own_d12_28 (pc' := 30) rfl rfl ?_
  refine own_i2b X0 hx hby own_d12_30 (pc' := 31) rfl rfl ?_
  refine own_bastore X0 hx hby own_d12_31 (pc' := 32) rfl hZ e0 (A_2) (by decide) (v := (.int (0 : Int32))) rfl ?_
  intro T5 h5 X5 e5 W5 A5
  have B5 : own_Ar Z h5 a2 .byte [(.int (lo8 c0)), (.int (0 : Int32)), (.int (0 : Int32))] := by
    have q : own_Ar Z h5 a2 .byte [(.int (lo8 (lo8 c0))), (.int (0 : Int32)), (.int (0 : Int32))] := A5
    rw [own_lolo] at q
    exact q
  have N5 := Fr.snoc X5 N0 G_2
  refine own_iinc X5 hx hby own_d12_32 (pc' := 35) rfl rfl (z := (1 : Int32)) (by decide) (Ls' := #[.val (.ref a1), .val (.int (1 : Int32)), .val (.ref a2), .val (.int (0 : Int32)), .val (.int (3 : Int32)), .val (.int (0 : Int32)), .val (.int c0)]) rfl ?_
  refine own_iinc X5 hx hby own_d12_35 (pc' := 38) rfl rfl (z := (1 : Int32)) (by decide) (Ls' := #[.val (.ref a1), .val (.int (1 : Int32)), .val (.ref a2), .val (.int (1 : Int32)), .val (.int (3 : Int32)), .val (.int (0 : Int32)), .val (.int c0)]) rfl ?_
  refine own_iinc X5 hx hby own_d12_38 (pc' := 41) rfl rfl (z := (1 : Int32)) (by decide) (Ls' := #[.val (.ref a1), .val (.int (1 : Int32)), .val (.ref a2), .val (.int (1 : Int32)), .val (.int (3 : Int32)), .val (.int (1 : Int32)), .val (.int c0)]) rfl ?_
  refine own_goto X5 hx hby own_d12_41 (pc' := 3) (by decide) ?_
  refine own_iload X5 hx hby own_d12_3 (pc' := 5) rfl rfl ?_
  refine own_iload X5 hx hby own_d12_5 (pc' := 7) rfl rfl ?_
  refine own_icmpNo X5 hx hby own_d12_7 (pc' := 10) rfl (by decide) ?_
  refine own_aloadN X5 hx hby own_d12_10 (pc' := 11) rfl rfl rfl ?_
  refine own_iloadN X5 hx hby own_d12_11 (pc' := 12) rfl rfl ?_
  refine own_caload X5 hx hby own_d12_12 (pc' := 13) rfl hZ e5 ((A_1.other W5 hne0)) (by decide) (v := (.int c1)) rfl ?_
  refine own_istore X5 hx hby own_d12_13 (pc' := 15) rfl (Ls' := #[.val (.ref a1), .val (.int (1 : Int32)), .val (.ref a2), .val (.int (1 : Int32)), .val (.int (3 : Int32)), .val (.int (1 : Int32)), .val (.int c1)]) rfl ?_
  refine own_iload X5 hx hby own_d12_15 (pc' := 17) rfl rfl ?_
  refine own_sipush X5 hx hby own_d12_17 (pc' := 20) rfl (z := (255 : Int32)) (by decide) ?_
  refine own_icmpNo X5 hx hby own_d12_20 (pc' := 23) rfl (tlt hk1).2.2.2 ?_
  refine own_iload X5 hx hby own_d12_23 (pc' := 25) rfl rfl ?_
  exact own_retI X5 hx hret (hb hby own_d12_25) hlk (by decide) (by decide) ⟨rfl, N5, by rw [e5]; exact ⟨((Keep.refl h0 [a2]).wr W5 (Or.inl (List.mem_of_getElem? (i := 0) rfl))), B5⟩⟩
theorem own_ef_rm_c5_3_2 (m : MethodId) (a1 : Addr) (a2 : Addr) : entryFrame m #[(.ref a1), (.int (0 : Int32)), (.ref a2), (.int (0 : Int32)), (.int (3 : Int32))] 7 = mkF m 0 #[.val (.ref a1), .val (.int (0 : Int32)), .val (.ref a2), .val (.int (0 : Int32)), .val (.int (3 : Int32)), .unset, .unset] [] := by first | (simp [entryFrame, mkF, argsToLocals, Value.category]; done) | rfl
def Qrm_c5_3_2 (Z : State) (a1 : Addr) (a2 : Addr) (c0 : Int32) (c1 : Int32) (c2 : Int32) (h0 : Heap) (n0 : Nat) (v : Option Value) (h : Heap) (L : List Loc) : Prop := v = some (.int (2 : Int32)) ∧ Fr n0 L ∧ Keep h0 h [a2] ∧ own_Ar Z h a2 .byte [(.int (lo8 c0)), (.int (lo8 c1)), (.int (0 : Int32))]
set_option maxRecDepth 65536 in
set_option maxHeartbeats 40000000 in
theorem rm_c5_3_2 (l : Launch) (Z : State) (a0 : Array Value) (hw : ∀ d ∈ tables_1, d.before a0 Z = true) (ws : List Jvm.Cond) (a1 : Addr) (a2 : Addr) (c0 : Int32) (c1 : Int32) (c2 : Int32) (h0 : Heap) (n0 : Nat) (O_0 : Old Z n0 h0) (A_1 : own_Ar Z h0 a1 .char [(.int c0), (.int c1), (.int c2)]) (A_2 : own_Ar Z h0 a2 .byte [(.int (0 : Int32)), (.int (0 : Int32)), (.int (0 : Int32))]) (G_2 : n0 ≤ a2) (hne0 : a1 ≠ a2) (hk0 : ¬ (255 : Int32) < c0) (hk1 : ¬ (255 : Int32) < c1) (hk2 : (255 : Int32) < c2) :
    own_Met l (⟨"java/lang/StringUTF16", "compress", "([CI[BII)I"⟩ : MethodName) jdk_52_method_21_code 7 (some .int) ws ({ frames := 0, cells := 0, slots := 0, locals := 0 } : Room) #[(.ref a1), (.int (0 : Int32)), (.ref a2), (.int (0 : Int32)), (.int (3 : Int32))] Z h0 (Qrm_c5_3_2 Z a1 a2 c0 c1 c2 h0 n0) := by
  refine own_body own_pn12 ?_
  intro p e s m below meth c T0 X0 hx hby hml hown hnm hret hlk hZ e0
  have N0 := Fr.nil n0
  refine own_st (fun t k => castTop (own_ef_rm_c5_3_2 m a1 a2) k) ?_
  show own_Go p.tables e below (T0.setTop (mkF m 0 #[.val (.ref a1), .val (.int (0 : Int32)), .val (.ref a2), .val (.int (0 : Int32)), .val (.int (3 : Int32)), .unset, .unset] [])) _
  have Z0 := own_Z0 O_0
  have hne : a1 ≠ a2 := hne0
  refine own_iconst X0 hx hby own_d12_0 (pc' := 1) rfl (z := (0 : Int32)) (by decide) ?_
  refine own_istore X0 hx hby own_d12_1 (pc' := 3) rfl (Ls' := #[.val (.ref a1), .val (.int (0 : Int32)), .val (.ref a2), .val (.int (0 : Int32)), .val (.int (3 : Int32)), .val (.int (0 : Int32)), .unset]) rfl ?_
  refine own_iload X0 hx hby own_d12_3 (pc' := 5) rfl rfl ?_
  refine own_iload X0 hx hby own_d12_5 (pc' := 7) rfl rfl ?_
  refine own_icmpNo X0 hx hby own_d12_7 (pc' := 10) rfl (by decide) ?_
  refine own_aloadN X0 hx hby own_d12_10 (pc' := 11) rfl rfl rfl ?_
  refine own_iloadN X0 hx hby own_d12_11 (pc' := 12) rfl rfl ?_
  refine own_caload X0 hx hby own_d12_12 (pc' := 13) rfl hZ e0 (A_1) (by decide) (v := (.int c0)) rfl ?_
  refine own_istore X0 hx hby own_d12_13 (pc' := 15) rfl (Ls' := #[.val (.ref a1), .val (.int (0 : Int32)), .val (.ref a2), .val (.int (0 : Int32)), .val (.int (3 : Int32)), .val (.int (0 : Int32)), .val (.int c0)]) rfl ?_
  refine own_iload X0 hx hby own_d12_15 (pc' := 17) rfl rfl ?_
  refine own_sipush X0 hx hby own_d12_17 (pc' := 20) rfl (z := (255 : Int32)) (by decide) ?_
  refine own_icmpYes X0 hx hby own_d12_20 (pc' := 26) (by decide) (flt hk0).2.2.2 ?_
  refine own_aloadN X0 hx hby own_d12_26 (pc' := 27) rfl rfl rfl ?_
  refine own_iloadN X0 hx hby own_d12_27 (pc' := 28) rfl rfl ?_
  refine own_iload X0 hx hby own_d12_28 (pc' := 30) rfl rfl ?_
  refine own_i2b X0 hx hby own_d12_30 (pc' := 31) rfl rfl ?_
  refine own_bastore X0 hx hby own_d12_31 (pc' := 32) rfl hZ e0 (A_2) (by decide) (v := (.int (0 : Int32))) rfl ?_
  intro T6 h6 X6 e6 W6 A6
  have B6 : own_Ar Z h6 a2 .byte [(.int (lo8 c0)), (.int (0 : Int32)), (.int (0 : Int32))] := by
    have q : own_Ar Z h6 a2 .byte [(.int (lo8 (lo8 c0))), (.int (0 : Int32)), (.int (0 : Int32))] := A6
    rw [own_lolo] at q
    exact q
  have N6 := Fr.snoc X6 N0 G_2
  refine own_iinc X6 hx hby own_d12_32 (pc' := 35) rfl rfl (z := (1 : Int32)) (by decide) (Ls' := #[.val (.ref a1), .val (.int (1 : Int32)), .val (.ref a2), .val (.int (0 : Int32)), .val (.int (3 : Int32)), .val (.int (0 : Int32)), .val (.int c0)]) rfl ?_
  refine own_iinc X6 hx hby own_d12_35 (pc' := 38) rfl rfl (z := (1 : Int32)) (by decide) (Ls' := #[.val (.ref a1), .val (.int (1 : Int32)), .val (.ref a2), .val (.int (1 : Int32)), .val (.int (3 : Int32)), .val (.int (0 : Int32)), .val (.int c0)]) rfl ?_
  refine own_iinc X6 hx hby own_d12_38 (pc' := 41) rfl rfl (z := (1 : Int32)) (by decide) (Ls' := #[.val (.ref a1), .val (.int (1 : Int32)), .val (.ref a2), .val (.int (1 : Int32)), .val (.int (3 : Int32)), .val (.int (1 : Int32)), .val (.int c0)]) rfl ?_
  refine own_goto X6 hx hby own_d12_41 (pc' := 3) (by decide) ?_
  refine own_iload X6 hx hby own_d12_3 (pc' := 5) rfl rfl ?_
  refine own_iload X6 hx hby own_d12_5 (pc' := 7) rfl rfl ?_
  refine own_icmpNo X6 hx hby own_d12_7 (pc' := 10) rfl (by decide) ?_
  refine own_aloadN X6 hx hby own_d12_10 (pc' := 11) rfl rfl rfl ?_
  refine own_iloadN X6 hx hby own_d12_11 (pc' := 12) rfl rfl ?_
  refine own_caload X6 hx hby own_d12_12 (pc' := 13) rfl hZ e6 ((A_1.other W6 hne0)) (by decide) (v := (.int c1)) rfl ?_
  refine own_istore X6 hx hby own_d12_13 (pc' := 15) rfl (Ls' := #[.val (.ref a1), .val (.int (1 : Int32)), .val (.ref a2), .val (.int (1 : Int32)), .val (.int (3 : Int32)), .val (.int (1 : Int32)), .val (.int c1)]) rfl ?_
  refine own_iload X6 hx hby own_d12_15 (pc' := 17) rfl rfl ?_
  refine own_sipush X6 hx hby own_d12_17 (pc' := 20) rfl (z := (255 : Int32)) (by decide) ?_
  refine own_icmpYes X6 hx hby own_d12_20 (pc' := 26) (by decide) (flt hk1).2.2.2 ?_
  refine own_aloadN X6 hx hby own_d12_26 (pc' := 27) rfl rfl rfl ?_
  refine own_iloadN X6 hx hby own_d12_27 (pc' := 28) rfl rfl ?_
  refine own_iload X6 hx hby own_d12_28 (pc' := 30) rfl rfl ?_
  refine own_i2b X6 hx hby own_d12_30 (pc' := 31) rfl rfl ?_
  refine own_bastore X6 hx hby own_d12_31 (pc' := 32) rfl hZ e6 (B6) (by decide) (v := (.int (0 : Int32))) rfl ?_
  intro T7 h7 X7 e7 W7 A7
  have B7 : own_Ar Z h7 a2 .byte [(.int (lo8 c0)), (.int (lo8 c1)), (.int (0 : Int32))] := by
    have q : own_Ar Z h7 a2 .byte [(.int (lo8 c0)), (.int (lo8 (lo8 c1))), (.int (0 : Int32))] := A7
    rw [own_lolo] at q
    exact q
  have N7 := Fr.snoc X7 N6 G_2
  refine own_iinc X7 hx hby own_d12_32 (pc' := 35) rfl rfl (z := (2 : Int32)) (by decide) (Ls' := #[.val (.ref a1), .val (.int (2 : Int32)), .val (.ref a2), .val (.int (1 : Int32)), .val (.int (3 : Int32)), .val (.int (1 : Int32)), .val (.int c1)]) rfl ?_
  refine own_iinc X7 hx hby own_d12_35 (pc' := 38) rfl rfl (z := (2 : Int32)) (by decide) (Ls' := #[.val (.ref a1), .val (.int (2 : Int32)), .val (.ref a2), .val (.int (2 : Int32)), .val (.int (3 : Int32)), .val (.int (1 : Int32)), .val (.int c1)]) rfl ?_
  refine own_iinc X7 hx hby own_d12_38 (pc' := 41) rfl rfl (z := (2 : Int32)) (by decide) (Ls' := #[.val (.ref a1), .val (.int (2 : Int32)), .val (.ref a2), .val (.int (2 : Int32)), .val (.int (3 : Int32)), .val (.int (2 : Int32)), .val (.int c1)]) rfl ?_
  refine own_goto X7 hx hby own_d12_41 (pc' := 3) (by decide) ?_
  refine own_iload X7 hx hby own_d12_3 (pc' := 5) rfl rfl ?_
  refine own_iload X7 hx hby own_d12_5 (pc' := 7) rfl rfl ?_
  refine own_icmpNo X7 hx hby own_d12_7 (pc' := 10) rfl (by decide) ?_
  refine own_aloadN X7 hx hby own_d12_10 (pc' := 11) rfl rfl rfl ?_
  refine own_iloadN X7 hx hby own_d12_11 (pc' := 12) rfl rfl ?_
  refine own_caload X7 hx hby own_d12_12 (pc' := 13) rfl hZ e7 (((A_1.other W6 hne0).other W7 hne0)) (by decide) (v := (.int c2)) rfl ?_
  refine own_istore X7 hx hby own_d12_13 (pc' := 15) rfl (Ls' := #[.val (.ref a1), .val (.int (2 : Int32)), .val (.ref a2), .val (.int (2 : Int32)), .val (.int (3 : Int32)), .val (.int (2 : Int32)), .val (.int c2)]) rfl ?_
  refine own_iload X7 hx hby own_d12_15 (pc' := 17) rfl rfl ?_
  refine own_sipush X7 hx hby own_d12_17 (pc' := 20) rfl (z := (255 : Int32)) (by decide) ?_
  refine own_icmpNo X7 hx hby own_d12_20 (pc' := 23) rfl (tlt hk2).2.2.2 ?_
  refine own_iload X7 hx hby own_d12_23 (pc' := 25) rfl rfl ?_
  exact own_retI X7 hx hret (hb hby own_d12_25) hlk (by decide) (by decide) ⟨rfl, N7, by rw [e7]; exact ⟨(((Keep.refl h0 [a2]).wr W6 (Or.inl (List.mem_of_getElem? (i := 0) rfl))).wr W7 (Or.inl (List.mem_of_getElem? (i := 0) rfl))), B7⟩⟩
theorem own_ef_rm_c5_3_3 (m : MethodId) (a1 : Addr) (a2 : Addr) : entryFrame m #[(.ref a1), (.int (0 : Int32)), (.ref a2), (.int (0 : Int32)), (.int (3 : Int32))] 7 = mkF m 0 #[.val (.ref a1), .val (.int (0 : Int32)), .val (.ref a2), .val (.int (0 : Int32)), .val (.int (3 : Int32)), .unset, .unset] [] := by first | (simp [entryFrame, mkF, argsToLocals, Value.category]; done) | rfl
def Qrm_c5_3_3 (Z : State) (a1 : Addr) (a2 : Addr) (c0 : Int32) (c1 : Int32) (c2 : Int32) (h0 : Heap) (n0 : Nat) (v : Option Value) (h : Heap) (L : List Loc) : Prop := v = some (.int (3 : Int32)) ∧ Fr n0 L ∧ Keep h0 h [a2] ∧ own_Ar Z h a2 .byte [(.int (lo8 c0)), (.int (lo8 c1)), (.int (lo8 c2))]
set_option maxRecDepth 65536 in
set_option maxHeartbeats 40000000 in
theorem rm_c5_3_3 (l : Launch) (Z : State) (a0 : Array Value) (hw : ∀ d ∈ tables_1, d.before a0 Z = true) (ws : List Jvm.Cond) (a1 : Addr) (a2 : Addr) (c0 : Int32) (c1 : Int32) (c2 : Int32) (h0 : Heap) (n0 : Nat) (O_0 : Old Z n0 h0) (A_1 : own_Ar Z h0 a1 .char [(.int c0), (.int c1), (.int c2)]) (A_2 : own_Ar Z h0 a2 .byte [(.int (0 : Int32)), (.int (0 : Int32)), (.int (0 : Int32))]) (G_2 : n0 ≤ a2) (hne0 : a1 ≠ a2) (hk0 : ¬ (255 : Int32) < c0) (hk1 : ¬ (255 : Int32) < c1) (hk2 : ¬ (255 : Int32) < c2) :
    own_Met l (⟨"java/lang/StringUTF16", "compress", "([CI[BII)I"⟩ : MethodName) jdk_52_method_21_code 7 (some .int) ws ({ frames := 0, cells := 0, slots := 0, locals := 0 } : Room) #[(.ref a1), (.int (0 : Int32)), (.ref a2), (.int (0 : Int32)), (.int (3 : Int32))] Z h0 (Qrm_c5_3_3 Z a1 a2 c0 c1 c2 h0 n0) := by
  refine own_body own_pn12 ?_
  intro p e s m below meth c T0 X0 hx hby hml hown hnm hret hlk hZ e0
  have N0 := Fr.nil n0
  refine own_st (fun t k => castTop (own_ef_rm_c5_3_3 m a1 a2) k) ?_
  show own_Go p.tables e below (T0.setTop (mkF m 0 #[.val (.ref a1), .val (.int (0 : Int32)), .val (.ref a2), .val (.int (0 : Int32)), .val (.int (3 : Int32)), .unset, .unset] [])) _
  have Z0 := own_Z0 O_0
  have hne : a1 ≠ a2 := hne0
  refine own_iconst X0 hx hby own_d12_0 (pc' := 1) rfl (z := (0 : Int32)) (by decide) ?_
  refine own_istore X0 hx hby own_d12_1 (pc' := 3) rfl (Ls' := #[.val (.ref a1), .val (.int (0 : Int32)), .val (.ref a2), .val (.int (0 : Int32)), .val (.int (3 : Int32)), .val (.int (0 : Int32)), .unset]) rfl ?_
  refine own_iload X0 hx hby own_d12_3 (pc' := 5) rfl rfl ?_
  refine own_iload X0 hx hby own_d12_5 (pc' := 7) rfl rfl ?_
  refine own_icmpNo X0 hx hby own_d12_7 (pc' := 10) rfl (by decide) ?_
  refine own_aloadN X0 hx hby own_d12_10 (pc' := 11) rfl rfl rfl ?_
  refine own_iloadN X0 hx hby own_d12_11 (pc' := 12) rfl rfl ?_
  refine own_caload X0 hx hby own_d12_12 (pc' := 13) rfl hZ e0 (A_1) (by decide) (v := (.int c0)) rfl ?_
  refine own_istore X0 hx hby own_d12_13 (pc' := 15) rfl (Ls' := #[.val (.ref a1), .val (.int (0 : Int32)), .val (.ref a2), .val (.int (0 : Int32)), .val (.int (3 : Int32)), .val (.int (0 : Int32)), .val (.int c0)]) rfl ?_
  refine own_iload X0 hx hby own_d12_15 (pc' := 17) rfl rfl ?_
  refine own_sipush X0 hx hby own_d12_17 (pc' := 20) rfl (z := (255 : Int32)) (by decide) ?_
  refine own_icmpYes X0 hx hby own_d12_20 (pc' := 26) (by decide) (flt hk0).2.2.2 ?_
  refine own_aloadN X0 hx hby own_d12_26 (pc' := 27) rfl rfl rfl ?_
  refine own_iloadN X0 hx hby own_d12_27 (pc' := 28) rfl rfl ?_
  refine own_iload X0 hx hby own_d12_28 (pc' := 30) rfl rfl ?_
  refine own_i2b X0 hx hby own_d12_30 (pc' := 31) rfl rfl ?_
  refine own_bastore X0 hx hby own_d12_31 (pc' := 32) rfl hZ e0 (A_2) (by decide) (v := (.int (0 : Int32))) rfl ?_
  intro T8 h8 X8 e8 W8 A8
  have B8 : own_Ar Z h8 a2 .byte [(.int (lo8 c0)), (.int (0 : Int32)), (.int (0 : Int32))] := by
    have q : own_Ar Z h8 a2 .byte [(.int (lo8 (lo8 c0))), (.int (0 : Int32)), (.int (0 : Int32))] := A8
    rw [own_lolo] at q
    exact q
  have N8 := Fr.snoc X8 N0 G_2
  refine own_iinc X8 hx hby own_d12_32 (pc' := 35) rfl rfl (z := (1 : Int32)) (by decide) (Ls' := #[.val (.ref a1), .val (.int (1 : Int32)), .val (.ref a2), .val (.int (0 : Int32)), .val (.int (3 : Int32)), .val (.int (0 : Int32)), .val (.int c0)]) rfl ?_
  refine own_iinc X8 hx hby own_d12_35 (pc' := 38) rfl rfl (z := (1 : Int32)) (by decide) (Ls' := #[.val (.ref a1), .val (.int (1 : Int32)), .val (.ref a2), .val (.int (1 : Int32)), .val (.int (3 : Int32)), .val (.int (0 : Int32)), .val (.int c0)]) rfl ?_
  refine own_iinc X8 hx hby own_d12_38 (pc' := 41) rfl rfl (z := (1 : Int32)) (by decide) (Ls' := #[.val (.ref a1), .val (.int (1 : Int32)), .val (.ref a2), .val (.int (1 : Int32)), .val (.int (3 : Int32)), .val (.int (1 : Int32)), .val (.int c0)]) rfl ?_
  refine own_goto X8 hx hby own_d12_41 (pc' := 3) (by decide) ?_
  refine own_iload X8 hx hby own_d12_3 (pc' := 5) rfl rfl ?_
  refine own_iload X8 hx hby own_d12_5 (pc' := 7) rfl rfl ?_
  refine own_icmpNo X8 hx hby own_d12_7 (pc' := 10) rfl (by decide) ?_
  refine own_aloadN X8 hx hby own_d12_10 (pc' := 11) rfl rfl rfl ?_
  refine own_iloadN X8 hx hby own_d12_11 (pc' := 12) rfl rfl ?_
  refine own_caload X8 hx hby own_d12_12 (pc' := 13) rfl hZ e8 ((A_1.other W8 hne0)) (by decide) (v := (.int c1)) rfl ?_
  refine own_istore X8 hx hby own_d12_13 (pc' := 15) rfl (Ls' := #[.val (.ref a1), .val (.int (1 : Int32)), .val (.ref a2), .val (.int (1 : Int32)), .val (.int (3 : Int32)), .val (.int (1 : Int32)), .val (.int c1)]) rfl ?_
  refine own_iload X8 hx hby own_d12_15 (pc' := 17) rfl rfl ?_
  refine own_sipush X8 hx hby own_d12_17 (pc' := 20) rfl (z := (255 : Int32)) (by decide) ?_
  refine own_icmpYes X8 hx hby own_d12_20 (pc' := 26) (by decide) (flt hk1).2.2.2 ?_
  refine own_aloadN X8 hx hby own_d12_26 (pc' := 27) rfl rfl rfl ?_
  refine own_iloadN X8 hx hby own_d12_27 (pc' := 28) rfl rfl ?_
  refine own_iload X8 hx hby own_d12_28 (pc' := 30) rfl rfl ?_
  refine own_i2b X8 hx hby own_d12_30 (pc' := 31) rfl rfl ?_
  refine own_bastore X8 hx hby own_d12_31 (pc' := 32) rfl hZ e8 (B8) (by decide) (v := (.int (0 : Int32))) rfl ?_
  intro T9 h9 X9 e9 W9 A9
  have B9 : own_Ar Z h9 a2 .byte [(.int (lo8 c0)), (.int (lo8 c1)), (.int (0 : Int32))] := by
    have q : own_Ar Z h9 a2 .byte [(.int (lo8 c0)), (.int (lo8 (lo8 c1))), (.int (0 : Int32))] := A9
    rw [own_lolo] at q
    exact q
  have N9 := Fr.snoc X9 N8 G_2
  refine own_iinc X9 hx hby own_d12_32 (pc' := 35) rfl rfl (z := (2 : Int32)) (by decide) (Ls' := #[.val (.ref a1), .val (.int (2 : Int32)), .val (.ref a2), .val (.int (1 : Int32)), .val (.int (3 : Int32)), .val (.int (1 : Int32)), .val (.int c1)]) rfl ?_
  refine own_iinc X9 hx hby own_d12_35 (pc' := 38) rfl rfl (z := (2 : Int32)) (by decide) (Ls' := #[.val (.ref a1), .val (.int (2 : Int32)), .val (.ref a2), .val (.int (2 : Int32)), .val (.int (3 : Int32)), .val (.int (1 : Int32)), .val (.int c1)]) rfl ?_
  refine own_iinc X9 hx hby own_d12_38 (pc' := 41) rfl rfl (z := (2 : Int32)) (by decide) (Ls' := #[.val (.ref a1), .val (.int (2 : Int32)), .val (.ref a2), .val (.int (2 : Int32)), .val (.int (3 : Int32)), .val (.int (2 : Int32)), .val (.int c1)]) rfl ?_
  refine own_goto X9 hx hby own_d12_41 (pc' := 3) (by decide) ?_
  refine own_iload X9 hx hby own_d12_3 (pc' := 5) rfl rfl ?_
  refine own_iload X9 hx hby own_d12_5 (pc' := 7) rfl rfl ?_
  refine own_icmpNo X9 hx hby own_d12_7 (pc' := 10) rfl (by decide) ?_
  refine own_aloadN X9 hx hby own_d12_10 (pc' := 11) rfl rfl rfl ?_
  refine own_iloadN X9 hx hby own_d12_11 (pc' := 12) rfl rfl ?_
  refine own_caload X9 hx hby own_d12_12 (pc' := 13) rfl hZ e9 (((A_1.other W8 hne0).other W9 hne0)) (by decide) (v := (.int c2)) rfl ?_
  refine own_istore X9 hx hby own_d12_13 (pc' := 15) rfl (Ls' := #[.val (.ref a1), .val (.int (2 : Int32)), .val (.ref a2), .val (.int (2 : Int32)), .val (.int (3 : Int32)), .val (.int (2 : Int32)), .val (.int c2)]) rfl ?_
  refine own_iload X9 hx hby own_d12_15 (pc' := 17) rfl rfl ?_
  refine own_sipush X9 hx hby own_d12_17 (pc' := 20) rfl (z := (255 : Int32)) (by decide) ?_
  refine own_icmpYes X9 hx hby own_d12_20 (pc' := 26) (by decide) (flt hk2).2.2.2 ?_
  refine own_aloadN X9 hx hby own_d12_26 (pc' := 27) rfl rfl rfl ?_
  refine own_iloadN X9 hx hby own_d12_27 (pc' := 28) rfl rfl ?_
  refine own_iload X9 hx hby own_d12_28 (pc' := 30) rfl rfl ?_
  refine own_i2b X9 hx hby own_d12_30 (pc' := 31) rfl rfl ?_
  refine own_bastore X9 hx hby own_d12_31 (pc' := 32) rfl hZ e9 (B9) (by decide) (v := (.int (0 : Int32))) rfl ?_
  intro T10 h10 X10 e10 W10 A10
  have B10 : own_Ar Z h10 a2 .byte [(.int (lo8 c0)), (.int (lo8 c1)), (.int (lo8 c2))] := by
    have q : own_Ar Z h10 a2 .byte [(.int (lo8 c0)), (.int (lo8 c1)), (.int (lo8 (lo8 c2)))] := A10
    rw [own_lolo] at q
    exact q
  have N10 := Fr.snoc X10 N9 G_2
  refine own_iinc X10 hx hby own_d12_32 (pc' := 35) rfl rfl (z := (3 : Int32)) (by decide) (Ls' := #[.val (.ref a1), .val (.int (3 : Int32)), .val (.ref a2), .val (.int (2 : Int32)), .val (.int (3 : Int32)), .val (.int (2 : Int32)), .val (.int c2)]) rfl ?_
  refine own_iinc X10 hx hby own_d12_35 (pc' := 38) rfl rfl (z := (3 : Int32)) (by decide) (Ls' := #[.val (.ref a1), .val (.int (3 : Int32)), .val (.ref a2), .val (.int (3 : Int32)), .val (.int (3 : Int32)), .val (.int (2 : Int32)), .val (.int c2)]) rfl ?_
  refine own_iinc X10 hx hby own_d12_38 (pc' := 41) rfl rfl (z := (3 : Int32)) (by decide) (Ls' := #[.val (.ref a1), .val (.int (3 : Int32)), .val (.ref a2), .val (.int (3 : Int32)), .val (.int (3 : Int32)), .val (.int (3 : Int32)), .val (.int c2)]) rfl ?_
  refine own_goto X10 hx hby own_d12_41 (pc' := 3) (by decide) ?_
  refine own_iload X10 hx hby own_d12_3 (pc' := 5) rfl rfl ?_
  refine own_iload X10 hx hby own_d12_5 (pc' := 7) rfl rfl ?_
  refine own_icmpYes X10 hx hby own_d12_7 (pc' := 44) (by decide) (by decide) ?_
  refine own_iload X10 hx hby own_d12_44 (pc' := 46) rfl rfl ?_
  exact own_retI X10 hx hret (hb hby own_d12_46) hlk (by decide) (by decide) ⟨rfl, N10, by rw [e10]; exact ⟨((((Keep.refl h0 [a2]).wr W8 (Or.inl (List.mem_of_getElem? (i := 0) rfl))).wr W9 (Or.inl (List.mem_of_getElem? (i := 0) rfl))).wr W10 (Or.inl (List.mem_of_getElem? (i := 0) rfl))), B10⟩⟩
theorem own_d15_0 : decode jdk_52_method_3_code 0 = .ok (.iload_n 0, 1) := by decide +kernel
theorem own_d15_1 : decode jdk_52_method_3_code 1 = .ok (.ifCond .ge 11, 3) := by decide +kernel
theorem own_d15_12 : decode jdk_52_method_3_code 12 = .ok (.iload_n 0, 1) := by decide +kernel
theorem own_d15_13 : decode jdk_52_method_3_code 13 = .ok (.ldc 20, 2) := by decide +kernel
theorem own_d15_15 : decode jdk_52_method_3_code 15 = .ok (.if_icmp .lt 40, 3) := by decide +kernel
theorem own_d15_55 : decode jdk_52_method_3_code 55 = .ok (.iload_n 0, 1) := by decide +kernel
theorem own_d15_56 : decode jdk_52_method_3_code 56 = .ok (.iconst 1, 1) := by decide +kernel
theorem own_d15_57 : decode jdk_52_method_3_code 57 = .ok (.ishl, 1) := by decide +kernel
theorem own_d15_58 : decode jdk_52_method_3_code 58 = .ok (.ireturn, 1) := by decide +kernel
theorem own_ef_rm_nl1 (m : MethodId)  : entryFrame m #[(.int (1 : Int32))] 1 = mkF m 0 #[.val (.int (1 : Int32))] [] := by first | (simp [entryFrame, mkF, argsToLocals, Value.category]; done) | rfl
def Qrm_nl1 (Z : State)  (h0 : Heap) (n0 : Nat) (v : Option Value) (h : Heap) (L : List Loc) : Prop := v = some (.int (2 : Int32)) ∧ Fr n0 L ∧ h = h0
set_option maxRecDepth 65536 in
set_option maxHeartbeats 40000000 in
theorem rm_nl1 (l : Launch) (Z : State) (a0 : Array Value) (hw : ∀ d ∈ tables_1, d.before a0 Z = true) (ws : List Jvm.Cond)  (h0 : Heap) (n0 : Nat) (O_0 : Old Z n0 h0) :
    own_Met l (⟨"java/lang/StringUTF16", "newBytesLength", "(I)I"⟩ : MethodName) jdk_52_method_3_code 1 (some .int) ws ({ frames := 0, cells := 0, slots := 0, locals := 0 } : Room) #[(.int (1 : Int32))] Z h0 (Qrm_nl1 Z  h0 n0) := by
  refine own_body own_pn15 ?_
  intro p e s m below meth c T0 X0 hx hby hml hown hnm hret hlk hZ e0
  have N0 := Fr.nil n0
  refine own_st (fun t k => castTop (own_ef_rm_nl1 m ) k) ?_
  show own_Go p.tables e below (T0.setTop (mkF m 0 #[.val (.int (1 : Int32))] [])) _
  have Z0 := own_Z0 O_0
  refine own_iloadN X0 hx hby own_d15_0 (pc' := 1) rfl rfl ?_
  refine own_ifYes X0 hx hby own_d15_1 (pc' := 12) (by decide) (by decide) ?_
  refine own_iloadN X0 hx hby own_d15_12 (pc' := 13) rfl rfl ?_
  refine own_ldc X0 hx hby own_d15_13 (pc' := 15) rfl hZ hown (own_t hw 81 rfl) ?_
  refine own_icmpYes X0 hx hby own_d15_15 (pc' := 55) (by decide) (by decide) ?_
  refine own_iloadN X0 hx hby own_d15_55 (pc' := 56) rfl rfl ?_
  refine own_iconst X0 hx hby own_d15_56 (pc' := 57) rfl (z := (1 : Int32)) (by decide) ?_
  refine own_ishl X0 hx hby own_d15_57 (pc' := 58) rfl (z := (2 : Int32)) (by decide) ?_
  exact own_retI X0 hx hret (hb hby own_d15_58) hlk (by decide) (by decide) ⟨rfl, N0, e0⟩
theorem own_pd0 : parseMethodDescriptor "(I)I" = some ⟨[.int], some .int⟩ := by decide +kernel
theorem own_d14_0 : decode jdk_52_method_2_code 0 = .ok (.iload_n 0, 1) := by decide +kernel
theorem own_d14_1 : decode jdk_52_method_2_code 1 = .ok (.invokestatic 11, 3) := by decide +kernel
theorem own_d14_4 : decode jdk_52_method_2_code 4 = .ok (.newarray .byte, 2) := by decide +kernel
theorem own_d14_6 : decode jdk_52_method_2_code 6 = .ok (.areturn, 1) := by decide +kernel
theorem own_ef_rm_nf1 (m : MethodId)  : entryFrame m #[(.int (1 : Int32))] 1 = mkF m 0 #[.val (.int (1 : Int32))] [] := by first | (simp [entryFrame, mkF, argsToLocals, Value.category]; done) | rfl
def Qrm_nf1 (Z : State)  (h0 : Heap) (n0 : Nat) (v : Option Value) (h : Heap) (L : List Loc) : Prop := ∃ b, v = some (.ref b) ∧ Fr n0 L ∧ Keep h0 h [] ∧ h0.size ≤ b ∧ own_Ar Z h b .byte [(.int (0 : Int32)), (.int (0 : Int32))]
set_option maxRecDepth 65536 in
set_option maxHeartbeats 40000000 in
theorem rm_nf1 (l : Launch) (Z : State) (a0 : Array Value) (hw : ∀ d ∈ tables_1, d.before a0 Z = true) (ws : List Jvm.Cond)  (h0 : Heap) (n0 : Nat) (O_0 : Old Z n0 h0) :
    own_Met l (⟨"java/lang/StringUTF16", "newBytesFor", "(I)[B"⟩ : MethodName) jdk_52_method_2_code 1 (some (.array .byte)) ws ({ frames := 1, cells := 1, slots := 2, locals := 12 } : Room) #[(.int (1 : Int32))] Z h0 (Qrm_nf1 Z  h0 n0) := by
  refine own_body own_pn14 ?_
  intro p e s m below meth c T0 X0 hx hby hml hown hnm hret hlk hZ e0
  have N0 := Fr.nil n0
  refine own_st (fun t k => castTop (own_ef_rm_nf1 m ) k) ?_
  show own_Go p.tables e below (T0.setTop (mkF m 0 #[.val (.int (1 : Int32))] [])) _
  have Z0 := own_Z0 O_0
  refine own_iloadN X0 hx hby own_d14_0 (pc' := 1) rfl rfl ?_
  refine own_callS X0 hx hZ (rm_nl1 l Z a0 hw [] h0 n0 (O_0)) hown (own_t hw 78 rfl) (own_t hw 79 rfl) (own_t hw 67 rfl) (own_t hw 80 rfl) (by decide) (W := 0) (by decide) (by decide) (by rw [hml]; rfl) (argsL := [(.int (1 : Int32))]) (rest := []) rfl (lenOf own_pd0 rfl) rfl (Nat.le_of_eq rfl) (hb hby own_d14_1) e0 (by decide) (by decide) ?_
  intro v11 T11 L11 X11 hQ11
  obtain ⟨hv11, N11q, e11⟩ := hQ11
  subst hv11
  have N11 := Fr.app N0 N11q
  show own_Go p.tables e below (T11.setTop (mkF m 4 #[.val (.int (1 : Int32))] [(.int (2 : Int32))])) _
  refine own_newA X11 hx hby own_d14_4 (pc' := 6) rfl hZ (own_t hw 16 rfl) e11 (by decide) (cap := 2) (by decide) (by decide) (by decide) (by decide) (vs := [(.int (0 : Int32)), (.int (0 : Int32))]) (by rfl) ?_
  intro T12 h12 b12 X12 e12 g12 E12 A12
  have l12 : n0 ≤ b12 := (Nat.le_trans Z0 (Nat.le_trans (Nat.le_refl _) (Nat.le_of_eq g12.symm)))
  exact own_retA X12 hx hret rfl rfl (hb hby own_d14_6) hlk (by decide) (by decide) ⟨b12, rfl, N11, by rw [show T12.heap = _ from e12]; exact ⟨((Keep.refl h0 []).ext E12), (Nat.le_of_eq g12.symm), A12⟩⟩
theorem own_d16_0 : decode jdk_52_method_4_code 0 = .ok (.getstatic 44, 3) := by decide +kernel
theorem own_d16_3 : decode jdk_52_method_4_code 3 = .ok (.ifCond .ne 25, 3) := by decide +kernel
theorem own_d16_28 : decode jdk_52_method_4_code 28 = .ok (.iload_n 1, 1) := by decide +kernel
theorem own_d16_29 : decode jdk_52_method_4_code 29 = .ok (.iconst 1, 1) := by decide +kernel
theorem own_d16_30 : decode jdk_52_method_4_code 30 = .ok (.ishl, 1) := by decide +kernel
theorem own_d16_31 : decode jdk_52_method_4_code 31 = .ok (.istore_n 1, 1) := by decide +kernel
theorem own_d16_32 : decode jdk_52_method_4_code 32 = .ok (.aload_n 0, 1) := by decide +kernel
theorem own_d16_33 : decode jdk_52_method_4_code 33 = .ok (.iload_n 1, 1) := by decide +kernel
theorem own_d16_34 : decode jdk_52_method_4_code 34 = .ok (.iinc 1 1, 3) := by decide +kernel
theorem own_d16_37 : decode jdk_52_method_4_code 37 = .ok (.iload_n 2, 1) := by decide +kernel
theorem own_d16_38 : decode jdk_52_method_4_code 38 = .ok (.getstatic 59, 3) := by decide +kernel
theorem own_d16_41 : decode jdk_52_method_4_code 41 = .ok (.ishr, 1) := by decide +kernel
theorem own_d16_42 : decode jdk_52_method_4_code 42 = .ok (.i2b, 1) := by decide +kernel
theorem own_d16_43 : decode jdk_52_method_4_code 43 = .ok (.bastore, 1) := by decide +kernel
theorem own_d16_44 : decode jdk_52_method_4_code 44 = .ok (.aload_n 0, 1) := by decide +kernel
theorem own_d16_45 : decode jdk_52_method_4_code 45 = .ok (.iload_n 1, 1) := by decide +kernel
theorem own_d16_46 : decode jdk_52_method_4_code 46 = .ok (.iload_n 2, 1) := by decide +kernel
theorem own_d16_47 : decode jdk_52_method_4_code 47 = .ok (.getstatic 63, 3) := by decide +kernel
theorem own_d16_50 : decode jdk_52_method_4_code 50 = .ok (.ishr, 1) := by decide +kernel
theorem own_d16_51 : decode jdk_52_method_4_code 51 = .ok (.i2b, 1) := by decide +kernel
theorem own_d16_52 : decode jdk_52_method_4_code 52 = .ok (.bastore, 1) := by decide +kernel
theorem own_d16_53 : decode jdk_52_method_4_code 53 = .ok (.return_, 1) := by decide +kernel
theorem own_ef_rm_pc1_0 (m : MethodId) (a1 : Addr) (c0 : Int32) : entryFrame m #[(.ref a1), (.int (0 : Int32)), (.int c0)] 3 = mkF m 0 #[.val (.ref a1), .val (.int (0 : Int32)), .val (.int c0)] [] := by first | (simp [entryFrame, mkF, argsToLocals, Value.category]; done) | rfl
def Qrm_pc1_0 (Z : State) (a1 : Addr) (c0 : Int32) (h0 : Heap) (n0 : Nat) (v : Option Value) (h : Heap) (L : List Loc) : Prop := v = none ∧ Fr n0 L ∧ Keep h0 h [a1] ∧ own_Ar Z h a1 .byte [(.int (lo8 c0)), (.int (hi8 c0))]
set_option maxRecDepth 65536 in
set_option maxHeartbeats 40000000 in
theorem rm_pc1_0 (l : Launch) (Z : State) (a0 : Array Value) (hw : ∀ d ∈ tables_1, d.before a0 Z = true) (ws : List Jvm.Cond) (a1 : Addr) (c0 : Int32) (h0 : Heap) (n0 : Nat) (O_0 : Old Z n0 h0) (S_A : Sta Z Z.heap "java/lang/StringUTF16" "$assertionsDisabled" "Z" (.int (1 : Int32))) (S_H : Sta Z Z.heap "java/lang/StringUTF16" "HI_BYTE_SHIFT" "I" (.int (0 : Int32))) (S_L : Sta Z Z.heap "java/lang/StringUTF16" "LO_BYTE_SHIFT" "I" (.int (8 : Int32))) (A_1 : own_Ar Z h0 a1 .byte [(.int (0 : Int32)), (.int (0 : Int32))]) (G_1 : n0 ≤ a1) :
    own_Met l (⟨"java/lang/StringUTF16", "putChar", "([BII)V"⟩ : MethodName) jdk_52_method_4_code 3 none ws ({ frames := 0, cells := 0, slots := 0, locals := 0 } : Room) #[(.ref a1), (.int (0 : Int32)), (.int c0)] Z h0 (Qrm_pc1_0 Z a1 c0 h0 n0) := by
  refine own_body own_pn16 ?_
  intro p e s m below meth c T0 X0 hx hby hml hown hnm hret hlk hZ e0
  have N0 := Fr.nil n0
  refine own_st (fun t k => castTop (own_ef_rm_pc1_0 m a1 c0) k) ?_
  show own_Go p.tables e below (T0.setTop (mkF m 0 #[.val (.ref a1), .val (.int (0 : Int32)), .val (.int c0)] [])) _
  have Z0 := own_Z0 O_0
  refine own_getS X0 hx hby own_d16_0 (pc' := 3) rfl hZ hown (host := "") (Or.inl (own_t hw 85 rfl)) Via.refl e0 (S_A.ext (O_0).2) ?_
  intro T13 X13 e13
  refine own_ifYes X13 hx hby own_d16_3 (pc' := 28) (by decide) (by decide) ?_
  refine own_iloadN X13 hx hby own_d16_28 (pc' := 29) rfl rfl ?_
  refine own_iconst X13 hx hby own_d16_29 (pc' := 30) rfl (z := (1 : Int32)) (by decide) ?_
  refine own_ishl X13 hx hby own_d16_30 (pc' := 31) rfl (z := (0 : Int32)) (by decide) ?_
  refine own_istoreN X13 hx hby own_d16_31 (pc' := 32) rfl (Ls' := #[.val (.ref a1), .val (.int (0 : Int32)), .val (.int c0)]) rfl ?_
  refine own_aloadN X13 hx hby own_d16_32 (pc' := 33) rfl rfl rfl ?_
  refine own_iloadN X13 hx hby own_d16_33 (pc' := 34) rfl rfl ?_
  refine own_iinc X13 hx hby own_d16_34 (pc' := 37) rfl rfl (z := (1 : Int32)) (by decide) (Ls' := #[.val (.ref a1), .val (.int (1 : Int32)), .val (.int c0)]) rfl ?_
  refine own_iloadN X13 hx hby own_d16_37 (pc' := 38) rfl rfl ?_
  refine own_getS X13 hx hby own_d16_38 (pc' := 41) rfl hZ hown (host := "") (Or.inl (own_t hw 86 rfl)) Via.refl e13 (S_H.ext (O_0).2) ?_
  intro T14 X14 e14
  refine own_ishr X14 hx hby own_d16_41 (pc' := 42) rfl rfl ?_
  refine own_i2b X14 hx hby own_d16_42 (pc' := 43) rfl rfl ?_
  refine own_bastore X14 hx hby own_d16_43 (pc' := 44) rfl hZ e14 (A_1) (by decide) (v := (.int (0 : Int32))) rfl ?_
  intro T15 h15 X15 e15 W15 A15
  have B15 : own_Ar Z h15 a1 .byte [(.int (lo8 c0)), (.int (0 : Int32))] := by
    have q : own_Ar Z h15 a1 .byte [(.int (lo8 (lo8 (c0 >>> ((0 : Int32) &&& 31))))), (.int (0 : Int32))] := A15
    rw [own_lolo, StrChars.shr0] at q
    exact q
  have N15 := Fr.snoc X15 N0 G_1
  refine own_aloadN X15 hx hby own_d16_44 (pc' := 45) rfl rfl rfl ?_
  refine own_iloadN X15 hx hby own_d16_45 (pc' := 46) rfl rfl ?_
  refine own_iloadN X15 hx hby own_d16_46 (pc' := 47) rfl rfl ?_
  refine own_getS X15 hx hby own_d16_47 (pc' := 50) rfl hZ hown (host := "") (Or.inl (own_t hw 87 rfl)) Via.refl e15 (S_L.ext ((O_0.wr W15 G_1)).2) ?_
  intro T16 X16 e16
  refine own_ishr X16 hx hby own_d16_50 (pc' := 51) rfl rfl ?_
  refine own_i2b X16 hx hby own_d16_51 (pc' := 52) rfl rfl ?_
  refine own_bastore X16 hx hby own_d16_52 (pc' := 53) rfl hZ e16 (B15) (by decide) (v := (.int (0 : Int32))) rfl ?_
  intro T17 h17 X17 e17 W17 A17
  have B17 : own_Ar Z h17 a1 .byte [(.int (lo8 c0)), (.int (hi8 c0))] := by
    have q : own_Ar Z h17 a1 .byte [(.int (lo8 c0)), (.int (lo8 (lo8 (c0 >>> ((8 : Int32) &&& 31)))))] := A17
    rw [own_lolo] at q
    exact q
  have N17 := Fr.snoc X17 N15 G_1
  exact own_retV X17 hx hret (hb hby own_d16_53) hlk (by decide) (by decide) ⟨rfl, N17, by rw [e17]; exact ⟨(((Keep.refl h0 [a1]).wr W15 (Or.inl (List.mem_of_getElem? (i := 0) rfl))).wr W17 (Or.inl (List.mem_of_getElem? (i := 0) rfl))), B17⟩⟩
theorem own_pd1 : parseMethodDescriptor "(I)[B" = some ⟨[.int], some (.array .byte)⟩ := by decide +kernel
theorem own_pd2 : parseMethodDescriptor "([BII)V" = some ⟨[(.array .byte), .int, .int], none⟩ := by decide +kernel
theorem own_d13_0 : decode jdk_52_method_14_code 0 = .ok (.iload_n 2, 1) := by decide +kernel
theorem own_d13_1 : decode jdk_52_method_14_code 1 = .ok (.invokestatic 107, 3) := by decide +kernel
theorem own_d13_4 : decode jdk_52_method_14_code 4 = .ok (.astore_n 3, 1) := by decide +kernel
theorem own_d13_5 : decode jdk_52_method_14_code 5 = .ok (.iconst 0, 1) := by decide +kernel
theorem own_d13_6 : decode jdk_52_method_14_code 6 = .ok (.istore 4, 2) := by decide +kernel
theorem own_d13_8 : decode jdk_52_method_14_code 8 = .ok (.iload 4, 2) := by decide +kernel
theorem own_d13_10 : decode jdk_52_method_14_code 10 = .ok (.iload_n 2, 1) := by decide +kernel
theorem own_d13_11 : decode jdk_52_method_14_code 11 = .ok (.if_icmp .ge 21, 3) := by decide +kernel
theorem own_d13_14 : decode jdk_52_method_14_code 14 = .ok (.aload_n 3, 1) := by decide +kernel
theorem own_d13_15 : decode jdk_52_method_14_code 15 = .ok (.iload 4, 2) := by decide +kernel
theorem own_d13_17 : decode jdk_52_method_14_code 17 = .ok (.aload_n 0, 1) := by decide +kernel
theorem own_d13_18 : decode jdk_52_method_14_code 18 = .ok (.iload_n 1, 1) := by decide +kernel
theorem own_d13_19 : decode jdk_52_method_14_code 19 = .ok (.caload, 1) := by decide +kernel
theorem own_d13_20 : decode jdk_52_method_14_code 20 = .ok (.invokestatic 111, 3) := by decide +kernel
theorem own_d13_23 : decode jdk_52_method_14_code 23 = .ok (.iinc 1 1, 3) := by decide +kernel
theorem own_d13_26 : decode jdk_52_method_14_code 26 = .ok (.iinc 4 1, 3) := by decide +kernel
theorem own_d13_29 : decode jdk_52_method_14_code 29 = .ok (.goto (-21), 3) := by decide +kernel
theorem own_d13_32 : decode jdk_52_method_14_code 32 = .ok (.aload_n 3, 1) := by decide +kernel
theorem own_d13_33 : decode jdk_52_method_14_code 33 = .ok (.areturn, 1) := by decide +kernel
theorem own_ef_rm_tb1 (m : MethodId) (a1 : Addr) : entryFrame m #[(.ref a1), (.int (0 : Int32)), (.int (1 : Int32))] 5 = mkF m 0 #[.val (.ref a1), .val (.int (0 : Int32)), .val (.int (1 : Int32)), .unset, .unset] [] := by first | (simp [entryFrame, mkF, argsToLocals, Value.category]; done) | rfl
def Qrm_tb1 (Z : State) (a1 : Addr) (c0 : Int32) (h0 : Heap) (n0 : Nat) (v : Option Value) (h : Heap) (L : List Loc) : Prop := ∃ b, v = some (.ref b) ∧ Fr n0 L ∧ Keep h0 h [] ∧ h0.size ≤ b ∧ own_Ar Z h b .byte [(.int (lo8 c0)), (.int (hi8 c0))]
set_option maxRecDepth 65536 in
set_option maxHeartbeats 40000000 in
theorem rm_tb1 (l : Launch) (Z : State) (a0 : Array Value) (hw : ∀ d ∈ tables_1, d.before a0 Z = true) (ws : List Jvm.Cond) (a1 : Addr) (c0 : Int32) (h0 : Heap) (n0 : Nat) (O_0 : Old Z n0 h0) (S_A : Sta Z Z.heap "java/lang/StringUTF16" "$assertionsDisabled" "Z" (.int (1 : Int32))) (S_H : Sta Z Z.heap "java/lang/StringUTF16" "HI_BYTE_SHIFT" "I" (.int (0 : Int32))) (S_L : Sta Z Z.heap "java/lang/StringUTF16" "LO_BYTE_SHIFT" "I" (.int (8 : Int32))) (A_1 : own_Ar Z h0 a1 .char [(.int c0)]) :
    own_Met l (⟨"java/lang/StringUTF16", "toBytes", "([CII)[B"⟩ : MethodName) jdk_52_method_14_code 5 (some (.array .byte)) ws ({ frames := 2, cells := 1, slots := 2, locals := 24 } : Room) #[(.ref a1), (.int (0 : Int32)), (.int (1 : Int32))] Z h0 (Qrm_tb1 Z a1 c0 h0 n0) := by
  refine own_body own_pn13 ?_
  intro p e s m below meth c T0 X0 hx hby hml hown hnm hret hlk hZ e0
  have N0 := Fr.nil n0
  refine own_st (fun t k => castTop (own_ef_rm_tb1 m a1) k) ?_
  show own_Go p.tables e below (T0.setTop (mkF m 0 #[.val (.ref a1), .val (.int (0 : Int32)), .val (.int (1 : Int32)), .unset, .unset] [])) _
  have Z0 := own_Z0 O_0
  refine own_iloadN X0 hx hby own_d13_0 (pc' := 1) rfl rfl ?_
  refine own_callS X0 hx hZ (rm_nf1 l Z a0 hw [] h0 n0 (O_0)) hown (own_t hw 75 rfl) (own_t hw 76 rfl) (own_t hw 67 rfl) (own_t hw 77 rfl) (by decide) (W := 0) (by decide) (by decide) (by rw [hml]; rfl) (argsL := [(.int (1 : Int32))]) (rest := []) rfl (lenOf own_pd1 rfl) rfl (Nat.le_of_eq rfl) (hb hby own_d13_1) e0 (by decide) (by decide) ?_
  intro v18 T18 L18 X18 hQ18
  obtain ⟨b18, hv18, N18q, K18, g18, A18⟩ := hQ18
  subst hv18
  have N18 := Fr.app N0 N18q
  have l18 : n0 ≤ b18 := (Nat.le_trans Z0 (Nat.le_trans (Nat.le_refl _) g18))
  show own_Go p.tables e below (T18.setTop (mkF m 4 #[.val (.ref a1), .val (.int (0 : Int32)), .val (.int (1 : Int32)), .unset, .unset] [(.ref b18)])) _
  refine own_astoreN X18 hx hby own_d13_4 (pc' := 5) rfl rfl (Ls' := #[.val (.ref a1), .val (.int (0 : Int32)), .val (.int (1 : Int32)), .val (.ref b18), .unset]) rfl ?_
  refine own_iconst X18 hx hby own_d13_5 (pc' := 6) rfl (z := (0 : Int32)) (by decide) ?_
  refine own_istore X18 hx hby own_d13_6 (pc' := 8) rfl (Ls' := #[.val (.ref a1), .val (.int (0 : Int32)), .val (.int (1 : Int32)), .val (.ref b18), .val (.int (0 : Int32))]) rfl ?_
  refine own_iload X18 hx hby own_d13_8 (pc' := 10) rfl rfl ?_
  refine own_iloadN X18 hx hby own_d13_10 (pc' := 11) rfl rfl ?_
  refine own_icmpNo X18 hx hby own_d13_11 (pc' := 14) rfl (by decide) ?_
  refine own_aloadN X18 hx hby own_d13_14 (pc' := 15) rfl rfl rfl ?_
  refine own_iload X18 hx hby own_d13_15 (pc' := 17) rfl rfl ?_
  refine own_aloadN X18 hx hby own_d13_17 (pc' := 18) rfl rfl rfl ?_
  refine own_iloadN X18 hx hby own_d13_18 (pc' := 19) rfl rfl ?_
  refine own_caload X18 hx hby own_d13_19 (pc' := 20) rfl hZ rfl ((A_1.keep K18 nin0)) (by decide) (v := (.int c0)) rfl ?_
  refine own_callS X18 hx hZ (rm_pc1_0 l Z a0 hw [] b18 c0 T18.heap n0 ((O_0.keep K18 all0)) S_A S_H S_L (A18) l18) hown (own_t hw 82 rfl) (own_t hw 83 rfl) (own_t hw 67 rfl) (own_t hw 84 rfl) (by decide) (W := 0) (by decide) (by decide) (by rw [hml]; rfl) (argsL := [(.ref b18), (.int (0 : Int32)), (.int c0)]) (rest := []) rfl (lenOf own_pd2 rfl) rfl (Nat.le_of_eq rfl) (hb hby own_d13_20) rfl (by decide) (by decide) ?_
  intro v19 T19 L19 X19 hQ19
  obtain ⟨hv19, N19q, K19, A19⟩ := hQ19
  subst hv19
  have N19 := Fr.app N18 N19q
  show own_Go p.tables e below (T19.setTop (mkF m 23 #[.val (.ref a1), .val (.int (0 : Int32)), .val (.int (1 : Int32)), .val (.ref b18), .val (.int (0 : Int32))] [])) _
  refine own_iinc X19 hx hby own_d13_23 (pc' := 26) rfl rfl (z := (1 : Int32)) (by decide) (Ls' := #[.val (.ref a1), .val (.int (1 : Int32)), .val (.int (1 : Int32)), .val (.ref b18), .val (.int (0 : Int32))]) rfl ?_
  refine own_iinc X19 hx hby own_d13_26 (pc' := 29) rfl rfl (z := (1 : Int32)) (by decide) (Ls' := #[.val (.ref a1), .val (.int (1 : Int32)), .val (.int (1 : Int32)), .val (.ref b18), .val (.int (1 : Int32))]) rfl ?_
  refine own_goto X19 hx hby own_d13_29 (pc' := 8) (by decide) ?_
  refine own_iload X19 hx hby own_d13_8 (pc' := 10) rfl rfl ?_
  refine own_iloadN X19 hx hby own_d13_10 (pc' := 11) rfl rfl ?_
  refine own_icmpYes X19 hx hby own_d13_11 (pc' := 32) (by decide) (by decide) ?_
  refine own_aloadN X19 hx hby own_d13_32 (pc' := 33) rfl rfl rfl ?_
  exact own_retA X19 hx hret rfl rfl (hb hby own_d13_33) hlk (by decide) (by decide) ⟨b18, rfl, N19, by rw [show T19.heap = _ from rfl]; exact ⟨(((Keep.refl h0 []).trans K18 all0).trans K19 (allS (Or.inr (Nat.le_trans (Nat.le_refl _) g18)) all0)), (Nat.le_trans (Nat.le_refl _) g18), A19⟩⟩
theorem own_d17_0 : decode jdk_52_method_5_code 0 = .ok (.getstatic 44, 3) := by decide +kernel
theorem own_d17_3 : decode jdk_52_method_5_code 3 = .ok (.ifCond .ne 25, 3) := by decide +kernel
theorem own_d17_28 : decode jdk_52_method_5_code 28 = .ok (.iload_n 1, 1) := by decide +kernel
theorem own_d17_29 : decode jdk_52_method_5_code 29 = .ok (.iconst 1, 1) := by decide +kernel
theorem own_d17_30 : decode jdk_52_method_5_code 30 = .ok (.ishl, 1) := by decide +kernel
theorem own_d17_31 : decode jdk_52_method_5_code 31 = .ok (.istore_n 1, 1) := by decide +kernel
theorem own_d17_32 : decode jdk_52_method_5_code 32 = .ok (.aload_n 0, 1) := by decide +kernel
theorem own_d17_33 : decode jdk_52_method_5_code 33 = .ok (.iload_n 1, 1) := by decide +kernel
theorem own_d17_34 : decode jdk_52_method_5_code 34 = .ok (.iinc 1 1, 3) := by decide +kernel
theorem own_d17_37 : decode jdk_52_method_5_code 37 = .ok (.baload, 1) := by decide +kernel
theorem own_d17_38 : decode jdk_52_method_5_code 38 = .ok (.sipush 255, 3) := by decide +kernel
theorem own_d17_41 : decode jdk_52_method_5_code 41 = .ok (.iand, 1) := by decide +kernel
theorem own_d17_42 : decode jdk_52_method_5_code 42 = .ok (.getstatic 59, 3) := by decide +kernel
theorem own_d17_45 : decode jdk_52_method_5_code 45 = .ok (.ishl, 1) := by decide +kernel
theorem own_d17_46 : decode jdk_52_method_5_code 46 = .ok (.aload_n 0, 1) := by decide +kernel
theorem own_d17_47 : decode jdk_52_method_5_code 47 = .ok (.iload_n 1, 1) := by decide +kernel
theorem own_d17_48 : decode jdk_52_method_5_code 48 = .ok (.baload, 1) := by decide +kernel
theorem own_d17_49 : decode jdk_52_method_5_code 49 = .ok (.sipush 255, 3) := by decide +kernel
theorem own_d17_52 : decode jdk_52_method_5_code 52 = .ok (.iand, 1) := by decide +kernel
theorem own_d17_53 : decode jdk_52_method_5_code 53 = .ok (.getstatic 63, 3) := by decide +kernel
theorem own_d17_56 : decode jdk_52_method_5_code 56 = .ok (.ishl, 1) := by decide +kernel
theorem own_d17_57 : decode jdk_52_method_5_code 57 = .ok (.ior, 1) := by decide +kernel
theorem own_d17_58 : decode jdk_52_method_5_code 58 = .ok (.i2c, 1) := by decide +kernel
theorem own_d17_59 : decode jdk_52_method_5_code 59 = .ok (.ireturn, 1) := by decide +kernel
theorem own_ef_rm_gc1_0 (m : MethodId) (a1 : Addr) : entryFrame m #[(.ref a1), (.int (0 : Int32))] 2 = mkF m 0 #[.val (.ref a1), .val (.int (0 : Int32))] [] := by first | (simp [entryFrame, mkF, argsToLocals, Value.category]; done) | rfl
def Qrm_gc1_0 (Z : State) (a1 : Addr) (c0 : Int32) (h0 : Heap) (n0 : Nat) (v : Option Value) (h : Heap) (L : List Loc) : Prop := v = some (.int c0) ∧ Fr n0 L ∧ h = h0
set_option maxRecDepth 65536 in
set_option maxHeartbeats 40000000 in
theorem rm_gc1_0 (l : Launch) (Z : State) (a0 : Array Value) (hw : ∀ d ∈ tables_1, d.before a0 Z = true) (ws : List Jvm.Cond) (a1 : Addr) (c0 : Int32) (h0 : Heap) (n0 : Nat) (O_0 : Old Z n0 h0) (S_A : Sta Z Z.heap "java/lang/StringUTF16" "$assertionsDisabled" "Z" (.int (1 : Int32))) (S_H : Sta Z Z.heap "java/lang/StringUTF16" "HI_BYTE_SHIFT" "I" (.int (0 : Int32))) (S_L : Sta Z Z.heap "java/lang/StringUTF16" "LO_BYTE_SHIFT" "I" (.int (8 : Int32))) (A_1 : own_Ar Z h0 a1 .byte [(.int (lo8 c0)), (.int (hi8 c0))]) (hb0 : own_W c0) :
    own_Met l (⟨"java/lang/StringUTF16", "getChar", "([BI)C"⟩ : MethodName) jdk_52_method_5_code 2 (some .char) ws ({ frames := 0, cells := 0, slots := 0, locals := 0 } : Room) #[(.ref a1), (.int (0 : Int32))] Z h0 (Qrm_gc1_0 Z a1 c0 h0 n0) := by
  refine own_body own_pn17 ?_
  intro p e s m below meth c T0 X0 hx hby hml hown hnm hret hlk hZ e0
  have N0 := Fr.nil n0
  refine own_st (fun t k => castTop (own_ef_rm_gc1_0 m a1) k) ?_
  show own_Go p.tables e below (T0.setTop (mkF m 0 #[.val (.ref a1), .val (.int (0 : Int32))] [])) _
  have Z0 := own_Z0 O_0
  refine own_getS X0 hx hby own_d17_0 (pc' := 3) rfl hZ hown (host := "") (Or.inl (own_t hw 85 rfl)) Via.refl e0 (S_A.ext (O_0).2) ?_
  intro T20 X20 e20
  refine own_ifYes X20 hx hby own_d17_3 (pc' := 28) (by decide) (by decide) ?_
  refine own_iloadN X20 hx hby own_d17_28 (pc' := 29) rfl rfl ?_
  refine own_iconst X20 hx hby own_d17_29 (pc' := 30) rfl (z := (1 : Int32)) (by decide) ?_
  refine own_ishl X20 hx hby own_d17_30 (pc' := 31) rfl (z := (0 : Int32)) (by decide) ?_
  refine own_istoreN X20 hx hby own_d17_31 (pc' := 32) rfl (Ls' := #[.val (.ref a1), .val (.int (0 : Int32))]) rfl ?_
  refine own_aloadN X20 hx hby own_d17_32 (pc' := 33) rfl rfl rfl ?_
  refine own_iloadN X20 hx hby own_d17_33 (pc' := 34) rfl rfl ?_
  refine own_iinc X20 hx hby own_d17_34 (pc' := 37) rfl rfl (z := (1 : Int32)) (by decide) (Ls' := #[.val (.ref a1), .val (.int (1 : Int32))]) rfl ?_
  refine own_baload X20 hx hby own_d17_37 (pc' := 38) rfl hZ e20 (A_1) (by decide) (v := (.int (lo8 c0))) rfl ?_
  refine own_sipush X20 hx hby own_d17_38 (pc' := 41) rfl (z := (255 : Int32)) (by decide) ?_
  refine own_iand X20 hx hby own_d17_41 (pc' := 42) rfl rfl ?_
  refine own_getS X20 hx hby own_d17_42 (pc' := 45) rfl hZ hown (host := "") (Or.inl (own_t hw 86 rfl)) Via.refl e20 (S_H.ext (O_0).2) ?_
  intro T21 X21 e21
  refine own_ishl X21 hx hby own_d17_45 (pc' := 46) rfl rfl ?_
  refine own_aloadN X21 hx hby own_d17_46 (pc' := 47) rfl rfl rfl ?_
  refine own_iloadN X21 hx hby own_d17_47 (pc' := 48) rfl rfl ?_
  refine own_baload X21 hx hby own_d17_48 (pc' := 49) rfl hZ e21 (A_1) (by decide) (v := (.int (hi8 c0))) rfl ?_
  refine own_sipush X21 hx hby own_d17_49 (pc' := 52) rfl (z := (255 : Int32)) (by decide) ?_
  refine own_iand X21 hx hby own_d17_52 (pc' := 53) rfl rfl ?_
  refine own_getS X21 hx hby own_d17_53 (pc' := 56) rfl hZ hown (host := "") (Or.inl (own_t hw 87 rfl)) Via.refl e21 (S_L.ext (O_0).2) ?_
  intro T22 X22 e22
  refine own_ishl X22 hx hby own_d17_56 (pc' := 57) rfl rfl ?_
  refine own_ior X22 hx hby own_d17_57 (pc' := 58) rfl rfl ?_
  refine own_i2c X22 hx hby own_d17_58 (pc' := 59) rfl rfl ?_
  exact own_retZ (t := .char) X22 hx hret (by simp) (hb hby own_d17_59) hlk (by decide) (by decide) ⟨congrArg (fun z => some (Value.int z)) (own_pair hb0), N0, e22⟩
theorem own_ef_rm_nl2 (m : MethodId)  : entryFrame m #[(.int (2 : Int32))] 1 = mkF m 0 #[.val (.int (2 : Int32))] [] := by first | (simp [entryFrame, mkF, argsToLocals, Value.category]; done) | rfl
def Qrm_nl2 (Z : State)  (h0 : Heap) (n0 : Nat) (v : Option Value) (h : Heap) (L : List Loc) : Prop := v = some (.int (4 : Int32)) ∧ Fr n0 L ∧ h = h0
set_option maxRecDepth 65536 in
set_option maxHeartbeats 40000000 in
theorem rm_nl2 (l : Launch) (Z : State) (a0 : Array Value) (hw : ∀ d ∈ tables_1, d.before a0 Z = true) (ws : List Jvm.Cond)  (h0 : Heap) (n0 : Nat) (O_0 : Old Z n0 h0) :
    own_Met l (⟨"java/lang/StringUTF16", "newBytesLength", "(I)I"⟩ : MethodName) jdk_52_method_3_code 1 (some .int) ws ({ frames := 0, cells := 0, slots := 0, locals := 0 } : Room) #[(.int (2 : Int32))] Z h0 (Qrm_nl2 Z  h0 n0) := by
  refine own_body own_pn15 ?_
  intro p e s m below meth c T0 X0 hx hby hml hown hnm hret hlk hZ e0
  have N0 := Fr.nil n0
  refine own_st (fun t k => castTop (own_ef_rm_nl2 m ) k) ?_
  show own_Go p.tables e below (T0.setTop (mkF m 0 #[.val (.int (2 : Int32))] [])) _
  have Z0 := own_Z0 O_0
  refine own_iloadN X0 hx hby own_d15_0 (pc' := 1) rfl rfl ?_
  refine own_ifYes X0 hx hby own_d15_1 (pc' := 12) (by decide) (by decide) ?_
  refine own_iloadN X0 hx hby own_d15_12 (pc' := 13) rfl rfl ?_
  refine own_ldc X0 hx hby own_d15_13 (pc' := 15) rfl hZ hown (own_t hw 81 rfl) ?_
  refine own_icmpYes X0 hx hby own_d15_15 (pc' := 55) (by decide) (by decide) ?_
  refine own_iloadN X0 hx hby own_d15_55 (pc' := 56) rfl rfl ?_
  refine own_iconst X0 hx hby own_d15_56 (pc' := 57) rfl (z := (1 : Int32)) (by decide) ?_
  refine own_ishl X0 hx hby own_d15_57 (pc' := 58) rfl (z := (4 : Int32)) (by decide) ?_
  exact own_retI X0 hx hret (hb hby own_d15_58) hlk (by decide) (by decide) ⟨rfl, N0, e0⟩
theorem own_ef_rm_nf2 (m : MethodId)  : entryFrame m #[(.int (2 : Int32))] 1 = mkF m 0 #[.val (.int (2 : Int32))] [] := by first | (simp [entryFrame, mkF, argsToLocals, Value.category]; done) | rfl
def Qrm_nf2 (Z : State)  (h0 : Heap) (n0 : Nat) (v : Option Value) (h : Heap) (L : List Loc) : Prop := ∃ b, v = some (.ref b) ∧ Fr n0 L ∧ Keep h0 h [] ∧ h0.size ≤ b ∧ own_Ar Z h b .byte [(.int (0 : Int32)), (.int (0 : Int32)), (.int (0 : Int32)), (.int (0 : Int32))]
set_option maxRecDepth 65536 in
set_option maxHeartbeats 40000000 in
theorem rm_nf2 (l : Launch) (Z : State) (a0 : Array Value) (hw : ∀ d ∈ tables_1, d.before a0 Z = true) (ws : List Jvm.Cond)  (h0 : Heap) (n0 : Nat) (O_0 : Old Z n0 h0) :
    own_Met l (⟨"java/lang/StringUTF16", "newBytesFor", "(I)[B"⟩ : MethodName) jdk_52_method_2_code 1 (some (.array .byte)) ws ({ frames := 1, cells := 1, slots := 4, locals := 12 } : Room) #[(.int (2 : Int32))] Z h0 (Qrm_nf2 Z  h0 n0) := by
  refine own_body own_pn14 ?_
  intro p e s m below meth c T0 X0 hx hby hml hown hnm hret hlk hZ e0
  have N0 := Fr.nil n0
  refine own_st (fun t k => castTop (own_ef_rm_nf2 m ) k) ?_
  show own_Go p.tables e below (T0.setTop (mkF m 0 #[.val (.int (2 : Int32))] [])) _
  have Z0 := own_Z0 O_0
  refine own_iloadN X0 hx hby own_d14_0 (pc' := 1) rfl rfl ?_
  refine own_callS X0 hx hZ (rm_nl2 l Z a0 hw [] h0 n0 (O_0)) hown (own_t hw 78 rfl) (own_t hw 79 rfl) (own_t hw 67 rfl) (own_t hw 80 rfl) (by decide) (W := 0) (by decide) (by decide) (by rw [hml]; rfl) (argsL := [(.int (2 : Int32))]) (rest := []) rfl (lenOf own_pd0 rfl) rfl (Nat.le_of_eq rfl) (hb hby own_d14_1) e0 (by decide) (by decide) ?_
  intro v23 T23 L23 X23 hQ23
  obtain ⟨hv23, N23q, e23⟩ := hQ23
  subst hv23
  have N23 := Fr.app N0 N23q
  show own_Go p.tables e below (T23.setTop (mkF m 4 #[.val (.int (2 : Int32))] [(.int (4 : Int32))])) _
  refine own_newA X23 hx hby own_d14_4 (pc' := 6) rfl hZ (own_t hw 16 rfl) e23 (by decide) (cap := 4) (by decide) (by decide) (by decide) (by decide) (vs := [(.int (0 : Int32)), (.int (0 : Int32)), (.int (0 : Int32)), (.int (0 : Int32))]) (by rfl) ?_
  intro T24 h24 b24 X24 e24 g24 E24 A24
  have l24 : n0 ≤ b24 := (Nat.le_trans Z0 (Nat.le_trans (Nat.le_refl _) (Nat.le_of_eq g24.symm)))
  exact own_retA X24 hx hret rfl rfl (hb hby own_d14_6) hlk (by decide) (by decide) ⟨b24, rfl, N23, by rw [show T24.heap = _ from e24]; exact ⟨((Keep.refl h0 []).ext E24), (Nat.le_of_eq g24.symm), A24⟩⟩
theorem own_ef_rm_pc2_0 (m : MethodId) (a1 : Addr) (c0 : Int32) : entryFrame m #[(.ref a1), (.int (0 : Int32)), (.int c0)] 3 = mkF m 0 #[.val (.ref a1), .val (.int (0 : Int32)), .val (.int c0)] [] := by first | (simp [entryFrame, mkF, argsToLocals, Value.category]; done) | rfl
def Qrm_pc2_0 (Z : State) (a1 : Addr) (c0 : Int32) (h0 : Heap) (n0 : Nat) (v : Option Value) (h : Heap) (L : List Loc) : Prop := v = none ∧ Fr n0 L ∧ Keep h0 h [a1] ∧ own_Ar Z h a1 .byte [(.int (lo8 c0)), (.int (hi8 c0)), (.int (0 : Int32)), (.int (0 : Int32))]
set_option maxRecDepth 65536 in
set_option maxHeartbeats 40000000 in
theorem rm_pc2_0 (l : Launch) (Z : State) (a0 : Array Value) (hw : ∀ d ∈ tables_1, d.before a0 Z = true) (ws : List Jvm.Cond) (a1 : Addr) (c0 : Int32) (h0 : Heap) (n0 : Nat) (O_0 : Old Z n0 h0) (S_A : Sta Z Z.heap "java/lang/StringUTF16" "$assertionsDisabled" "Z" (.int (1 : Int32))) (S_H : Sta Z Z.heap "java/lang/StringUTF16" "HI_BYTE_SHIFT" "I" (.int (0 : Int32))) (S_L : Sta Z Z.heap "java/lang/StringUTF16" "LO_BYTE_SHIFT" "I" (.int (8 : Int32))) (A_1 : own_Ar Z h0 a1 .byte [(.int (0 : Int32)), (.int (0 : Int32)), (.int (0 : Int32)), (.int (0 : Int32))]) (G_1 : n0 ≤ a1) :
    own_Met l (⟨"java/lang/StringUTF16", "putChar", "([BII)V"⟩ : MethodName) jdk_52_method_4_code 3 none ws ({ frames := 0, cells := 0, slots := 0, locals := 0 } : Room) #[(.ref a1), (.int (0 : Int32)), (.int c0)] Z h0 (Qrm_pc2_0 Z a1 c0 h0 n0) := by
  refine own_body own_pn16 ?_
  intro p e s m below meth c T0 X0 hx hby hml hown hnm hret hlk hZ e0
  have N0 := Fr.nil n0
  refine own_st (fun t k => castTop (own_ef_rm_pc2_0 m a1 c0) k) ?_
  show own_Go p.tables e below (T0.setTop (mkF m 0 #[.val (.ref a1), .val (.int (0 : Int32)), .val (.int c0)] [])) _
  have Z0 := own_Z0 O_0
  refine own_getS X0 hx hby own_d16_0 (pc' := 3) rfl hZ hown (host := "") (Or.inl (own_t hw 85 rfl)) Via.refl e0 (S_A.ext (O_0).2) ?_
  intro T25 X25 e25
  refine own_ifYes X25 hx hby own_d16_3 (pc' := 28) (by decide) (by decide) ?_
  refine own_iloadN X25 hx hby own_d16_28 (pc' := 29) rfl rfl ?_
  refine own_iconst X25 hx hby own_d16_29 (pc' := 30) rfl (z := (1 : Int32)) (by decide) ?_
  refine own_ishl X25 hx hby own_d16_30 (pc' := 31) rfl (z := (0 : Int32)) (by decide) ?_
  refine own_istoreN X25 hx hby own_d16_31 (pc' := 32) rfl (Ls' := #[.val (.ref a1), .val (.int (0 : Int32)), .val (.int c0)]) rfl ?_
  refine own_aloadN X25 hx hby own_d16_32 (pc' := 33) rfl rfl rfl ?_
  refine own_iloadN X25 hx hby own_d16_33 (pc' := 34) rfl rfl ?_
  refine own_iinc X25 hx hby own_d16_34 (pc' := 37) rfl rfl (z := (1 : Int32)) (by decide) (Ls' := #[.val (.ref a1), .val (.int (1 : Int32)), .val (.int c0)]) rfl ?_
  refine own_iloadN X25 hx hby own_d16_37 (pc' := 38) rfl rfl ?_
  refine own_getS X25 hx hby own_d16_38 (pc' := 41) rfl hZ hown (host := "") (Or.inl (own_t hw 86 rfl)) Via.refl e25 (S_H.ext (O_0).2) ?_
  intro T26 X26 e26
  refine own_ishr X26 hx hby own_d16_41 (pc' := 42) rfl rfl ?_
  refine own_i2b X26 hx hby own_d16_42 (pc' := 43) rfl rfl ?_
  refine own_bastore X26 hx hby own_d16_43 (pc' := 44) rfl hZ e26 (A_1) (by decide) (v := (.int (0 : Int32))) rfl ?_
  intro T27 h27 X27 e27 W27 A27
  have B27 : own_Ar Z h27 a1 .byte [(.int (lo8 c0)), (.int (0 : Int32)), (.int (0 : Int32)), (.int (0 : Int32))] := by
    have q : own_Ar Z h27 a1 .byte [(.int (lo8 (lo8 (c0 >>> ((0 : Int32) &&& 31))))), (.int (0 : Int32)), (.int (0 : Int32)), (.int (0 : Int32))] := A27
    rw [own_lolo, StrChars.shr0] at q
    exact q
  have N27 := Fr.snoc X27 N0 G_1
  refine own_aloadN X27 hx hby own_d16_44 (pc' := 45) rfl rfl rfl ?_
  refine own_iloadN X27 hx hby own_d16_45 (pc' := 46) rfl rfl ?_
  refine own_iloadN X27 hx hby own_d16_46 (pc' := 47) rfl rfl ?_
  refine own_getS X27 hx hby own_d16_47 (pc' := 50) rfl hZ hown (host := "") (Or.inl (own_t hw 87 rfl)) Via.refl e27 (S_L.ext ((O_0.wr W27 G_1)).2) ?_
  intro T28 X28 e28
  refine own_ishr X28 hx hby own_d16_50 (pc' := 51) rfl rfl ?_
  refine own_i2b X28 hx hby own_d16_51 (pc' := 52) rfl rfl ?_
  refine own_bastore X28 hx hby own_d16_52 (pc' := 53) rfl hZ e28 (B27) (by decide) (v := (.int (0 : Int32))) rfl ?_
  intro T29 h29 X29 e29 W29 A29
  have B29 : own_Ar Z h29 a1 .byte [(.int (lo8 c0)), (.int (hi8 c0)), (.int (0 : Int32)), (.int (0 : Int32))] := by
    have q : own_Ar Z h29 a1 .byte [(.int (lo8 c0)), (.int (lo8 (lo8 (c0 >>> ((8 : Int32) &&& 31))))), (.int (0 : Int32)), (.int (0 : Int32))] := A29
    rw [own_lolo] at q
    exact q
  have N29 := Fr.snoc X29 N27 G_1
  exact own_retV X29 hx hret (hb hby own_d16_53) hlk (by decide) (by decide) ⟨rfl, N29, by rw [e29]; exact ⟨(((Keep.refl h0 [a1]).wr W27 (Or.inl (List.mem_of_getElem? (i := 0) rfl))).wr W29 (Or.inl (List.mem_of_getElem? (i := 0) rfl))), B29⟩⟩
theorem own_ef_rm_pc2_1 (m : MethodId) (a1 : Addr) (c1 : Int32) : entryFrame m #[(.ref a1), (.int (1 : Int32)), (.int c1)] 3 = mkF m 0 #[.val (.ref a1), .val (.int (1 : Int32)), .val (.int c1)] [] := by first | (simp [entryFrame, mkF, argsToLocals, Value.category]; done) | rfl
def Qrm_pc2_1 (Z : State) (a1 : Addr) (c1 : Int32) (c0 : Int32) (h0 : Heap) (n0 : Nat) (v : Option Value) (h : Heap) (L : List Loc) : Prop := v = none ∧ Fr n0 L ∧ Keep h0 h [a1] ∧ own_Ar Z h a1 .byte [(.int (lo8 c0)), (.int (hi8 c0)), (.int (lo8 c1)), (.int (hi8 c1))]
set_option maxRecDepth 65536 in
set_option maxHeartbeats 40000000 in
theorem rm_pc2_1 (l : Launch) (Z : State) (a0 : Array Value) (hw : ∀ d ∈ tables_1, d.before a0 Z = true) (ws : List Jvm.Cond) (a1 : Addr) (c1 : Int32) (c0 : Int32) (h0 : Heap) (n0 : Nat) (O_0 : Old Z n0 h0) (S_A : Sta Z Z.heap "java/lang/StringUTF16" "$assertionsDisabled" "Z" (.int (1 : Int32))) (S_H : Sta Z Z.heap "java/lang/StringUTF16" "HI_BYTE_SHIFT" "I" (.int (0 : Int32))) (S_L : Sta Z Z.heap "java/lang/StringUTF16" "LO_BYTE_SHIFT" "I" (.int (8 : Int32))) (A_1 : own_Ar Z h0 a1 .byte [(.int (lo8 c0)), (.int (hi8 c0)), (.int (0 : Int32)), (.int (0 : Int32))]) (G_1 : n0 ≤ a1) :
    own_Met l (⟨"java/lang/StringUTF16", "putChar", "([BII)V"⟩ : MethodName) jdk_52_method_4_code 3 none ws ({ frames := 0, cells := 0, slots := 0, locals := 0 } : Room) #[(.ref a1), (.int (1 : Int32)), (.int c1)] Z h0 (Qrm_pc2_1 Z a1 c1 c0 h0 n0) := by
  refine own_body own_pn16 ?_
  intro p e s m below meth c T0 X0 hx hby hml hown hnm hret hlk hZ e0
  have N0 := Fr.nil n0
  refine own_st (fun t k => castTop (own_ef_rm_pc2_1 m a1 c1) k) ?_
  show own_Go p.tables e below (T0.setTop (mkF m 0 #[.val (.ref a1), .val (.int (1 : Int32)), .val (.int c1)] [])) _
  have Z0 := own_Z0 O_0
  refine own_getS X0 hx hby own_d16_0 (pc' := 3) rfl hZ hown (host := "") (Or.inl (own_t hw 85 rfl)) Via.refl e0 (S_A.ext (O_0).2) ?_
  intro T30 X30 e30
  refine own_ifYes X30 hx hby own_d16_3 (pc' := 28) (by decide) (by decide) ?_
  refine own_iloadN X30 hx hby own_d16_28 (pc' := 29) rfl rfl ?_
  refine own_iconst X30 hx hby own_d16_29 (pc' := 30) rfl (z := (1 : Int32)) (by decide) ?_
  refine own_ishl X30 hx hby own_d16_30 (pc' := 31) rfl (z := (2 : Int32)) (by decide) ?_
  refine own_istoreN X30 hx hby own_d16_31 (pc' := 32) rfl (Ls' := #[.val (.ref a1), .val (.int (2 : Int32)), .val (.int c1)]) rfl ?_
  refine own_aloadN X30 hx hby own_d16_32 (pc' := 33) rfl rfl rfl ?_
  refine own_iloadN X30 hx hby own_d16_33 (pc' := 34) rfl rfl ?_
  refine own_iinc X30 hx hby own_d16_34 (pc' := 37) rfl rfl (z := (3 : Int32)) (by decide) (Ls' := #[.val (.ref a1), .val (.int (3 : Int32)), .val (.int c1)]) rfl ?_
  refine own_iloadN X30 hx hby own_d16_37 (pc' := 38) rfl rfl ?_
  refine own_getS X30 hx hby own_d16_38 (pc' := 41) rfl hZ hown (host := "") (Or.inl (own_t hw 86 rfl)) Via.refl e30 (S_H.ext (O_0).2) ?_
  intro T31 X31 e31
  refine own_ishr X31 hx hby own_d16_41 (pc' := 42) rfl rfl ?_
  refine own_i2b X31 hx hby own_d16_42 (pc' := 43) rfl rfl ?_
  refine own_bastore X31 hx hby own_d16_43 (pc' := 44) rfl hZ e31 (A_1) (by decide) (v := (.int (0 : Int32))) rfl ?_
  intro T32 h32 X32 e32 W32 A32
  have B32 : own_Ar Z h32 a1 .byte [(.int (lo8 c0)), (.int (hi8 c0)), (.int (lo8 c1)), (.int (0 : Int32))] := by
    have q : own_Ar Z h32 a1 .byte [(.int (lo8 c0)), (.int (hi8 c0)), (.int (lo8 (lo8 (c1 >>> ((0 : Int32) &&& 31))))), (.int (0 : Int32))] := A32
    rw [own_lolo, StrChars.shr0] at q
    exact q
  have N32 := Fr.snoc X32 N0 G_1
  refine own_aloadN X32 hx hby own_d16_44 (pc' := 45) rfl rfl rfl ?_
  refine own_iloadN X32 hx hby own_d16_45 (pc' := 46) rfl rfl ?_
  refine own_iloadN X32 hx hby own_d16_46 (pc' := 47) rfl rfl ?_
  refine own_getS X32 hx hby own_d16_47 (pc' := 50) rfl hZ hown (host := "") (Or.inl (own_t hw 87 rfl)) Via.refl e32 (S_L.ext ((O_0.wr W32 G_1)).2) ?_
  intro T33 X33 e33
  refine own_ishr X33 hx hby own_d16_50 (pc' := 51) rfl rfl ?_
  refine own_i2b X33 hx hby own_d16_51 (pc' := 52) rfl rfl ?_
  refine own_bastore X33 hx hby own_d16_52 (pc' := 53) rfl hZ e33 (B32) (by decide) (v := (.int (0 : Int32))) rfl ?_
  intro T34 h34 X34 e34 W34 A34
  have B34 : own_Ar Z h34 a1 .byte [(.int (lo8 c0)), (.int (hi8 c0)), (.int (lo8 c1)), (.int (hi8 c1))] := by
    have q : own_Ar Z h34 a1 .byte [(.int (lo8 c0)), (.int (hi8 c0)), (.int (lo8 c1)), (.int (lo8 (lo8 (c1 >>> ((8 : Int32) &&& 31)))))] := A34
    rw [own_lolo] at q
    exact q
  have N34 := Fr.snoc X34 N32 G_1
  exact own_retV X34 hx hret (hb hby own_d16_53) hlk (by decide) (by decide) ⟨rfl, N34, by rw [e34]; exact ⟨(((Keep.refl h0 [a1]).wr W32 (Or.inl (List.mem_of_getElem? (i := 0) rfl))).wr W34 (Or.inl (List.mem_of_getElem? (i := 0) rfl))), B34⟩⟩
theorem own_ef_rm_tb2 (m : MethodId) (a1 : Addr) : entryFrame m #[(.ref a1), (.int (0 : Int32)), (.int (2 : Int32))] 5 = mkF m 0 #[.val (.ref a1), .val (.int (0 : Int32)), .val (.int (2 : Int32)), .unset, .unset] [] := by first | (simp [entryFrame, mkF, argsToLocals, Value.category]; done) | rfl
def Qrm_tb2 (Z : State) (a1 : Addr) (c0 : Int32) (c1 : Int32) (h0 : Heap) (n0 : Nat) (v : Option Value) (h : Heap) (L : List Loc) : Prop := ∃ b, v = some (.ref b) ∧ Fr n0 L ∧ Keep h0 h [] ∧ h0.size ≤ b ∧ own_Ar Z h b .byte [(.int (lo8 c0)), (.int (hi8 c0)), (.int (lo8 c1)), (.int (hi8 c1))]
set_option maxRecDepth 65536 in
set_option maxHeartbeats 40000000 in
theorem rm_tb2 (l : Launch) (Z : State) (a0 : Array Value) (hw : ∀ d ∈ tables_1, d.before a0 Z = true) (ws : List Jvm.Cond) (a1 : Addr) (c0 : Int32) (c1 : Int32) (h0 : Heap) (n0 : Nat) (O_0 : Old Z n0 h0) (S_A : Sta Z Z.heap "java/lang/StringUTF16" "$assertionsDisabled" "Z" (.int (1 : Int32))) (S_H : Sta Z Z.heap "java/lang/StringUTF16" "HI_BYTE_SHIFT" "I" (.int (0 : Int32))) (S_L : Sta Z Z.heap "java/lang/StringUTF16" "LO_BYTE_SHIFT" "I" (.int (8 : Int32))) (A_1 : own_Ar Z h0 a1 .char [(.int c0), (.int c1)]) :
    own_Met l (⟨"java/lang/StringUTF16", "toBytes", "([CII)[B"⟩ : MethodName) jdk_52_method_14_code 5 (some (.array .byte)) ws ({ frames := 2, cells := 1, slots := 4, locals := 24 } : Room) #[(.ref a1), (.int (0 : Int32)), (.int (2 : Int32))] Z h0 (Qrm_tb2 Z a1 c0 c1 h0 n0) := by
  refine own_body own_pn13 ?_
  intro p e s m below meth c T0 X0 hx hby hml hown hnm hret hlk hZ e0
  have N0 := Fr.nil n0
  refine own_st (fun t k => castTop (own_ef_rm_tb2 m a1) k) ?_
  show own_Go p.tables e below (T0.setTop (mkF m 0 #[.val (.ref a1), .val (.int (0 : Int32)), .val (.int (2 : Int32)), .unset, .unset] [])) _
  have Z0 := own_Z0 O_0
  refine own_iloadN X0 hx hby own_d13_0 (pc' := 1) rfl rfl ?_
  refine own_callS X0 hx hZ (rm_nf2 l Z a0 hw [] h0 n0 (O_0)) hown (own_t hw 75 rfl) (own_t hw 76 rfl) (own_t hw 67 rfl) (own_t hw 77 rfl) (by decide) (W := 0) (by decide) (by decide) (by rw [hml]; rfl) (argsL := [(.int (2 : Int32))]) (rest := []) rfl (lenOf own_pd1 rfl) rfl (Nat.le_of_eq rfl) (hb hby own_d13_1) e0 (by decide) (by decide) ?_
  intro v35 T35 L35 X35 hQ35
  obtain ⟨b35, hv35, N35q, K35, g35, A35⟩ := hQ35
  subst hv35
  have N35 := Fr.app N0 N35q
  have l35 : n0 ≤ b35 := (Nat.le_trans Z0 (Nat.le_trans (Nat.le_refl _) g35))
  show own_Go p.tables e below (T35.setTop (mkF m 4 #[.val (.ref a1), .val (.int (0 : Int32)), .val (.int (2 : Int32)), .unset, .unset] [(.ref b35)])) _
  refine own_astoreN X35 hx hby own_d13_4 (pc' := 5) rfl rfl (Ls' := #[.val (.ref a1), .val (.int (0 : Int32)), .val (.int (2 : Int32)), .val (.ref b35), .unset]) rfl ?_
  refine own_iconst X35 hx hby own_d13_5 (pc' := 6) rfl (z := (0 : Int32)) (by decide) ?_
  refine own_istore X35 hx hby own_d13_6 (pc' := 8) rfl (Ls' := #[.val (.ref a1), .val (.int (0 : Int32)), .val (.int (2 : Int32)), .val (.ref b35), .val (.int (0 : Int32))]) rfl ?_
  refine own_iload X35 hx hby own_d13_8 (pc' := 10) rfl rfl ?_
  refine own_iloadN X35 hx hby own_d13_10 (pc' := 11) rfl rfl ?_
  refine own_icmpNo X35 hx hby own_d13_11 (pc' := 14) rfl (by decide) ?_
  refine own_aloadN X35 hx hby own_d13_14 (pc' := 15) rfl rfl rfl ?_
  refine own_iload X35 hx hby own_d13_15 (pc' := 17) rfl rfl ?_
  refine own_aloadN X35 hx hby own_d13_17 (pc' := 18) rfl rfl rfl ?_
  refine own_iloadN X35 hx hby own_d13_18 (pc' := 19) rfl rfl ?_
  refine own_caload X35 hx hby own_d13_19 (pc' := 20) rfl hZ rfl ((A_1.keep K35 nin0)) (by decide) (v := (.int c0)) rfl ?_
  refine own_callS X35 hx hZ (rm_pc2_0 l Z a0 hw [] b35 c0 T35.heap n0 ((O_0.keep K35 all0)) S_A S_H S_L (A35) l35) hown (own_t hw 82 rfl) (own_t hw 83 rfl) (own_t hw 67 rfl) (own_t hw 84 rfl) (by decide) (W := 0) (by decide) (by decide) (by rw [hml]; rfl) (argsL := [(.ref b35), (.int (0 : Int32)), (.int c0)]) (rest := []) rfl (lenOf own_pd2 rfl) rfl (Nat.le_of_eq rfl) (hb hby own_d13_20) rfl (by decide) (by decide) ?_
  intro v36 T36 L36 X36 hQ36
  obtain ⟨hv36, N36q, K36, A36⟩ := hQ36
  subst hv36
  have N36 := Fr.app N35 N36q
  show own_Go p.tables e below (T36.setTop (mkF m 23 #[.val (.ref a1), .val (.int (0 : Int32)), .val (.int (2 : Int32)), .val (.ref b35), .val (.int (0 : Int32))] [])) _
  refine own_iinc X36 hx hby own_d13_23 (pc' := 26) rfl rfl (z := (1 : Int32)) (by decide) (Ls' := #[.val (.ref a1), .val (.int (1 : Int32)), .val (.int (2 : Int32)), .val (.ref b35), .val (.int (0 : Int32))]) rfl ?_
  refine own_iinc X36 hx hby own_d13_26 (pc' := 29) rfl rfl (z := (1 : Int32)) (by decide) (Ls' := #[.val (.ref a1), .val (.int (1 : Int32)), .val (.int (2 : Int32)), .val (.ref b35), .val (.int (1 : Int32))]) rfl ?_
  refine own_goto X36 hx hby own_d13_29 (pc' := 8) (by decide) ?_
  refine own_iload X36 hx hby own_d13_8 (pc' := 10) rfl rfl ?_
  refine own_iloadN X36 hx hby own_d13_10 (pc' := 11) rfl rfl ?_
  refine own_icmpNo X36 hx hby own_d13_11 (pc' := 14) rfl (by decide) ?_
  refine own_aloadN X36 hx hby own_d13_14 (pc' := 15) rfl rfl rfl ?_
  refine own_iload X36 hx hby own_d13_15 (pc' := 17) rfl rfl ?_
  refine own_aloadN X36 hx hby own_d13_17 (pc' := 18) rfl rfl rfl ?_
  refine own_iloadN X36 hx hby own_d13_18 (pc' := 19) rfl rfl ?_
  refine own_caload X36 hx hby own_d13_19 (pc' := 20) rfl hZ rfl (((A_1.keep K35 nin0).keep K36 (ninS (Nat.ne_of_lt (Nat.lt_of_lt_of_le (A_1).lt g35)) nin0))) (by decide) (v := (.int c1)) rfl ?_
  refine own_callS X36 hx hZ (rm_pc2_1 l Z a0 hw [] b35 c1 c0 T36.heap n0 (((O_0.keep K35 all0).keep K36 (allS l35 all0))) S_A S_H S_L (A36) l35) hown (own_t hw 82 rfl) (own_t hw 83 rfl) (own_t hw 67 rfl) (own_t hw 84 rfl) (by decide) (W := 0) (by decide) (by decide) (by rw [hml]; rfl) (argsL := [(.ref b35), (.int (1 : Int32)), (.int c1)]) (rest := []) rfl (lenOf own_pd2 rfl) rfl (Nat.le_of_eq rfl) (hb hby own_d13_20) rfl (by decide) (by decide) ?_
  intro v37 T37 L37 X37 hQ37
  obtain ⟨hv37, N37q, K37, A37⟩ := hQ37
  subst hv37
  have N37 := Fr.app N36 N37q
  show own_Go p.tables e below (T37.setTop (mkF m 23 #[.val (.ref a1), .val (.int (1 : Int32)), .val (.int (2 : Int32)), .val (.ref b35), .val (.int (1 : Int32))] [])) _
  refine own_iinc X37 hx hby own_d13_23 (pc' := 26) rfl rfl (z := (2 : Int32)) (by decide) (Ls' := #[.val (.ref a1), .val (.int (2 : Int32)), .val (.int (2 : Int32)), .val (.ref b35), .val (.int (1 : Int32))]) rfl ?_
  refine own_iinc X37 hx hby own_d13_26 (pc' := 29) rfl rfl (z := (2 : Int32)) (by decide) (Ls' := #[.val (.ref a1), .val (.int (2 : Int32)), .val (.int (2 : Int32)), .val (.ref b35), .val (.int (2 : Int32))]) rfl ?_
  refine own_goto X37 hx hby own_d13_29 (pc' := 8) (by decide) ?_
  refine own_iload X37 hx hby own_d13_8 (pc' := 10) rfl rfl ?_
  refine own_iloadN X37 hx hby own_d13_10 (pc' := 11) rfl rfl ?_
  refine own_icmpYes X37 hx hby own_d13_11 (pc' := 32) (by decide) (by decide) ?_
  refine own_aloadN X37 hx hby own_d13_32 (pc' := 33) rfl rfl rfl ?_
  exact own_retA X37 hx hret rfl rfl (hb hby own_d13_33) hlk (by decide) (by decide) ⟨b35, rfl, N37, by rw [show T37.heap = _ from rfl]; exact ⟨((((Keep.refl h0 []).trans K35 all0).trans K36 (allS (Or.inr (Nat.le_trans (Nat.le_refl _) g35)) all0)).trans K37 (allS (Or.inr (Nat.le_trans (Nat.le_refl _) g35)) all0)), (Nat.le_trans (Nat.le_refl _) g35), A37⟩⟩
theorem own_ef_rm_gc2_0 (m : MethodId) (a1 : Addr) : entryFrame m #[(.ref a1), (.int (0 : Int32))] 2 = mkF m 0 #[.val (.ref a1), .val (.int (0 : Int32))] [] := by first | (simp [entryFrame, mkF, argsToLocals, Value.category]; done) | rfl
def Qrm_gc2_0 (Z : State) (a1 : Addr) (c0 : Int32) (c1 : Int32) (h0 : Heap) (n0 : Nat) (v : Option Value) (h : Heap) (L : List Loc) : Prop := v = some (.int c0) ∧ Fr n0 L ∧ h = h0
set_option maxRecDepth 65536 in
set_option maxHeartbeats 40000000 in
theorem rm_gc2_0 (l : Launch) (Z : State) (a0 : Array Value) (hw : ∀ d ∈ tables_1, d.before a0 Z = true) (ws : List Jvm.Cond) (a1 : Addr) (c0 : Int32) (c1 : Int32) (h0 : Heap) (n0 : Nat) (O_0 : Old Z n0 h0) (S_A : Sta Z Z.heap "java/lang/StringUTF16" "$assertionsDisabled" "Z" (.int (1 : Int32))) (S_H : Sta Z Z.heap "java/lang/StringUTF16" "HI_BYTE_SHIFT" "I" (.int (0 : Int32))) (S_L : Sta Z Z.heap "java/lang/StringUTF16" "LO_BYTE_SHIFT" "I" (.int (8 : Int32))) (A_1 : own_Ar Z h0 a1 .byte [(.int (lo8 c0)), (.int (hi8 c0)), (.int (lo8 c1)), (.int (hi8 c1))]) (hb0 : own_W c0) :
    own_Met l (⟨"java/lang/StringUTF16", "getChar", "([BI)C"⟩ : MethodName) jdk_52_method_5_code 2 (some .char) ws ({ frames := 0, cells := 0, slots := 0, locals := 0 } : Room) #[(.ref a1), (.int (0 : Int32))] Z h0 (Qrm_gc2_0 Z a1 c0 c1 h0 n0) := by
  refine own_body own_pn17 ?_
  intro p e s m below meth c T0 X0 hx hby hml hown hnm hret hlk hZ e0
  have N0 := Fr.nil n0
  refine own_st (fun t k => castTop (own_ef_rm_gc2_0 m a1) k) ?_
  show own_Go p.tables e below (T0.setTop (mkF m 0 #[.val (.ref a1), .val (.int (0 : Int32))] [])) _
  have Z0 := own_Z0 O_0
  refine own_getS X0 hx hby own_d17_0 (pc' := 3) rfl hZ hown (host := "") (Or.inl (own_t hw 85 rfl)) Via.refl e0 (S_A.ext (O_0).2) ?_
  intro T38 X38 e38
  refine own_ifYes X38 hx hby own_d17_3 (pc' := 28) (by decide) (by decide) ?_
  refine own_iloadN X38 hx hby own_d17_28 (pc' := 29) rfl rfl ?_
  refine own_iconst X38 hx hby own_d17_29 (pc' := 30) rfl (z := (1 : Int32)) (by decide) ?_
  refine own_ishl X38 hx hby own_d17_30 (pc' := 31) rfl (z := (0 : Int32)) (by decide) ?_
  refine own_istoreN X38 hx hby own_d17_31 (pc' := 32) rfl (Ls' := #[.val (.ref a1), .val (.int (0 : Int32))]) rfl ?_
  refine own_aloadN X38 hx hby own_d17_32 (pc' := 33) rfl rfl rfl ?_
  refine own_iloadN X38 hx hby own_d17_33 (pc' := 34) rfl rfl ?_
  refine own_iinc X38 hx hby own_d17_34 (pc' := 37) rfl rfl (z := (1 : Int32)) (by decide) (Ls' := #[.val (.ref a1), .val (.int (1 : Int32))]) rfl ?_
  refine own_baload X38 hx hby own_d17_37 (pc' := 38) rfl hZ e38 (A_1) (by decide) (v := (.int (lo8 c0))) rfl ?_
  refine own_sipush X38 hx hby own_d17_38 (pc' := 41) rfl (z := (255 : Int32)) (by decide) ?_
  refine own_iand X38 hx hby own_d17_41 (pc' := 42) rfl rfl ?_
  refine own_getS X38 hx hby own_d17_42 (pc' := 45) rfl hZ hown (host := "") (Or.inl (own_t hw 86 rfl)) Via.refl e38 (S_H.ext (O_0).2) ?_
  intro T39 X39 e39
  refine own_ishl X39 hx hby own_d17_45 (pc' := 46) rfl rfl ?_
  refine own_aloadN X39 hx hby own_d17_46 (pc' := 47) rfl rfl rfl ?_
  refine own_iloadN X39 hx hby own_d17_47 (pc' := 48) rfl rfl ?_
  refine own_baload X39 hx hby own_d17_48 (pc' := 49) rfl hZ e39 (A_1) (by decide) (v := (.int (hi8 c0))) rfl ?_
  refine own_sipush X39 hx hby own_d17_49 (pc' := 52) rfl (z := (255 : Int32)) (by decide) ?_
  refine own_iand X39 hx hby own_d17_52 (pc' := 53) rfl rfl ?_
  refine own_getS X39 hx hby own_d17_53 (pc' := 56) rfl hZ hown (host := "") (Or.inl (own_t hw 87 rfl)) Via.refl e39 (S_L.ext (O_0).2) ?_
  intro T40 X40 e40
  refine own_ishl X40 hx hby own_d17_56 (pc' := 57) rfl rfl ?_
  refine own_ior X40 hx hby own_d17_57 (pc' := 58) rfl rfl ?_
  refine own_i2c X40 hx hby own_d17_58 (pc' := 59) rfl rfl ?_
  exact own_retZ (t := .char) X40 hx hret (by simp) (hb hby own_d17_59) hlk (by decide) (by decide) ⟨congrArg (fun z => some (Value.int z)) (own_pair hb0), N0, e40⟩
theorem own_ef_rm_gc2_1 (m : MethodId) (a1 : Addr) : entryFrame m #[(.ref a1), (.int (1 : Int32))] 2 = mkF m 0 #[.val (.ref a1), .val (.int (1 : Int32))] [] := by first | (simp [entryFrame, mkF, argsToLocals, Value.category]; done) | rfl
def Qrm_gc2_1 (Z : State) (a1 : Addr) (c0 : Int32) (c1 : Int32) (h0 : Heap) (n0 : Nat) (v : Option Value) (h : Heap) (L : List Loc) : Prop := v = some (.int c1) ∧ Fr n0 L ∧ h = h0
set_option maxRecDepth 65536 in
set_option maxHeartbeats 40000000 in
theorem rm_gc2_1 (l : Launch) (Z : State) (a0 : Array Value) (hw : ∀ d ∈ tables_1, d.before a0 Z = true) (ws : List Jvm.Cond) (a1 : Addr) (c0 : Int32) (c1 : Int32) (h0 : Heap) (n0 : Nat) (O_0 : Old Z n0 h0) (S_A : Sta Z Z.heap "java/lang/StringUTF16" "$assertionsDisabled" "Z" (.int (1 : Int32))) (S_H : Sta Z Z.heap "java/lang/StringUTF16" "HI_BYTE_SHIFT" "I" (.int (0 : Int32))) (S_L : Sta Z Z.heap "java/lang/StringUTF16" "LO_BYTE_SHIFT" "I" (.int (8 : Int32))) (A_1 : own_Ar Z h0 a1 .byte [(.int (lo8 c0)), (.int (hi8 c0)), (.int (lo8 c1)), (.int (hi8 c1))]) (hb1 : own_W c1) :
    own_Met l (⟨"java/lang/StringUTF16", "getChar", "([BI)C"⟩ : MethodName) jdk_52_method_5_code 2 (some .char) ws ({ frames := 0, cells := 0, slots := 0, locals := 0 } : Room) #[(.ref a1), (.int (1 : Int32))] Z h0 (Qrm_gc2_1 Z a1 c0 c1 h0 n0) := by
  refine own_body own_pn17 ?_
  intro p e s m below meth c T0 X0 hx hby hml hown hnm hret hlk hZ e0
  have N0 := Fr.nil n0
  refine own_st (fun t k => castTop (own_ef_rm_gc2_1 m a1) k) ?_
  show own_Go p.tables e below (T0.setTop (mkF m 0 #[.val (.ref a1), .val (.int (1 : Int32))] [])) _
  have Z0 := own_Z0 O_0
  refine own_getS X0 hx hby own_d17_0 (pc' := 3) rfl hZ hown (host := "") (Or.inl (own_t hw 85 rfl)) Via.refl e0 (S_A.ext (O_0).2) ?_
  intro T41 X41 e41
  refine own_ifYes X41 hx hby own_d17_3 (pc' := 28) (by decide) (by decide) ?_
  refine own_iloadN X41 hx hby own_d17_28 (pc' := 29) rfl rfl ?_
  refine own_iconst X41 hx hby own_d17_29 (pc' := 30) rfl (z := (1 : Int32)) (by decide) ?_
  refine own_ishl X41 hx hby own_d17_30 (pc' := 31) rfl (z := (2 : Int32)) (by decide) ?_
  refine own_istoreN X41 hx hby own_d17_31 (pc' := 32) rfl (Ls' := #[.val (.ref a1), .val (.int (2 : Int32))]) rfl ?_
  refine own_aloadN X41 hx hby own_d17_32 (pc' := 33) rfl rfl rfl ?_
  refine own_iloadN X41 hx hby own_d17_33 (pc' := 34) rfl rfl ?_
  refine own_iinc X41 hx hby own_d17_34 (pc' := 37) rfl rfl (z := (3 : Int32)) (by decide) (Ls' := #[.val (.ref a1), .val (.int (3 : Int32))]) rfl ?_
  refine own_baload X41 hx hby own_d17_37 (pc' := 38) rfl hZ e41 (A_1) (by decide) (v := (.int (lo8 c1))) rfl ?_
  refine own_sipush X41 hx hby own_d17_38 (pc' := 41) rfl (z := (255 : Int32)) (by decide) ?_
  refine own_iand X41 hx hby own_d17_41 (pc' := 42) rfl rfl ?_
  refine own_getS X41 hx hby own_d17_42 (pc' := 45) rfl hZ hown (host := "") (Or.inl (own_t hw 86 rfl)) Via.refl e41 (S_H.ext (O_0).2) ?_
  intro T42 X42 e42
  refine own_ishl X42 hx hby own_d17_45 (pc' := 46) rfl rfl ?_
  refine own_aloadN X42 hx hby own_d17_46 (pc' := 47) rfl rfl rfl ?_
  refine own_iloadN X42 hx hby own_d17_47 (pc' := 48) rfl rfl ?_
  refine own_baload X42 hx hby own_d17_48 (pc' := 49) rfl hZ e42 (A_1) (by decide) (v := (.int (hi8 c1))) rfl ?_
  refine own_sipush X42 hx hby own_d17_49 (pc' := 52) rfl (z := (255 : Int32)) (by decide) ?_
  refine own_iand X42 hx hby own_d17_52 (pc' := 53) rfl rfl ?_
  refine own_getS X42 hx hby own_d17_53 (pc' := 56) rfl hZ hown (host := "") (Or.inl (own_t hw 87 rfl)) Via.refl e42 (S_L.ext (O_0).2) ?_
  intro T43 X43 e43
  refine own_ishl X43 hx hby own_d17_56 (pc' := 57) rfl rfl ?_
  refine own_ior X43 hx hby own_d17_57 (pc' := 58) rfl rfl ?_
  refine own_i2c X43 hx hby own_d17_58 (pc' := 59) rfl rfl ?_
  exact own_retZ (t := .char) X43 hx hret (by simp) (hb hby own_d17_59) hlk (by decide) (by decide) ⟨congrArg (fun z => some (Value.int z)) (own_pair hb1), N0, e43⟩
theorem own_ef_rm_nl3 (m : MethodId)  : entryFrame m #[(.int (3 : Int32))] 1 = mkF m 0 #[.val (.int (3 : Int32))] [] := by first | (simp [entryFrame, mkF, argsToLocals, Value.category]; done) | rfl
def Qrm_nl3 (Z : State)  (h0 : Heap) (n0 : Nat) (v : Option Value) (h : Heap) (L : List Loc) : Prop := v = some (.int (6 : Int32)) ∧ Fr n0 L ∧ h = h0
set_option maxRecDepth 65536 in
set_option maxHeartbeats 40000000 in
theorem rm_nl3 (l : Launch) (Z : State) (a0 : Array Value) (hw : ∀ d ∈ tables_1, d.before a0 Z = true) (ws : List Jvm.Cond)  (h0 : Heap) (n0 : Nat) (O_0 : Old Z n0 h0) :
    own_Met l (⟨"java/lang/StringUTF16", "newBytesLength", "(I)I"⟩ : MethodName) jdk_52_method_3_code 1 (some .int) ws ({ frames := 0, cells := 0, slots := 0, locals := 0 } : Room) #[(.int (3 : Int32))] Z h0 (Qrm_nl3 Z  h0 n0) := by
  refine own_body own_pn15 ?_
  intro p e s m below meth c T0 X0 hx hby hml hown hnm hret hlk hZ e0
  have N0 := Fr.nil n0
  refine own_st (fun t k => castTop (own_ef_rm_nl3 m ) k) ?_
  show own_Go p.tables e below (T0.setTop (mkF m 0 #[.val (.int (3 : Int32))] [])) _
  have Z0 := own_Z0 O_0
  refine own_iloadN X0 hx hby own_d15_0 (pc' := 1) rfl rfl ?_
  refine own_ifYes X0 hx hby own_d15_1 (pc' := 12) (by decide) (by decide) ?_
  refine own_iloadN X0 hx hby own_d15_12 (pc' := 13) rfl rfl ?_
  refine own_ldc X0 hx hby own_d15_13 (pc' := 15) rfl hZ hown (own_t hw 81 rfl) ?_
  refine own_icmpYes X0 hx hby own_d15_15 (pc' := 55) (by decide) (by decide) ?_
  refine own_iloadN X0 hx hby own_d15_55 (pc' := 56) rfl rfl ?_
  refine own_iconst X0 hx hby own_d15_56 (pc' := 57) rfl (z := (1 : Int32)) (by decide) ?_
  refine own_ishl X0 hx hby own_d15_57 (pc' := 58) rfl (z := (6 : Int32)) (by decide) ?_
  exact own_retI X0 hx hret (hb hby own_d15_58) hlk (by decide) (by decide) ⟨rfl, N0, e0⟩
theorem own_ef_rm_nf3 (m : MethodId)  : entryFrame m #[(.int (3 : Int32))] 1 = mkF m 0 #[.val (.int (3 : Int32))] [] := by first | (simp [entryFrame, mkF, argsToLocals, Value.category]; done) | rfl
def Qrm_nf3 (Z : State)  (h0 : Heap) (n0 : Nat) (v : Option Value) (h : Heap) (L : List Loc) : Prop := ∃ b, v = some (.ref b) ∧ Fr n0 L ∧ Keep h0 h [] ∧ h0.size ≤ b ∧ own_Ar Z h b .byte [(.int (0 : Int32)), (.int (0 : Int32)), (.int (0 : Int32)), (.int (0 : Int32)), (.int (0 : Int32)), (.int (0 : Int32))]
set_option maxRecDepth 65536 in
set_option maxHeartbeats 40000000 in
theorem rm_nf3 (l : Launch) (Z : State) (a0 : Array Value) (hw : ∀ d ∈ tables_1, d.before a0 Z = true) (ws : List Jvm.Cond)  (h0 : Heap) (n0 : Nat) (O_0 : Old Z n0 h0) :
    own_Met l (⟨"java/lang/StringUTF16", "newBytesFor", "(I)[B"⟩ : MethodName) jdk_52_method_2_code 1 (some (.array .byte)) ws ({ frames := 1, cells := 1, slots := 6, locals := 12 } : Room) #[(.int (3 : Int32))] Z h0 (Qrm_nf3 Z  h0 n0) := by
  refine own_body own_pn14 ?_
  intro p e s m below meth c T0 X0 hx hby hml hown hnm hret hlk hZ e0
  have N0 := Fr.nil n0
  refine own_st (fun t k => castTop (own_ef_rm_nf3 m ) k) ?_
  show own_Go p.tables e below (T0.setTop (mkF m 0 #[.val (.int (3 : Int32))] [])) _
  have Z0 := own_Z0 O_0
  refine own_iloadN X0 hx hby own_d14_0 (pc' := 1) rfl rfl ?_
  refine own_callS X0 hx hZ (rm_nl3 l Z a0 hw [] h0 n0 (O_0)) hown (own_t hw 78 rfl) (own_t hw 79 rfl) (own_t hw 67 rfl) (own_t hw 80 rfl) (by decide) (W := 0) (by decide) (by decide) (by rw [hml]; rfl) (argsL := [(.int (3 : Int32))]) (rest := []) rfl (lenOf own_pd0 rfl) rfl (Nat.le_of_eq rfl) (hb hby own_d14_1) e0 (by decide) (by decide) ?_
  intro v44 T44 L44 X44 hQ44
  obtain ⟨hv44, N44q, e44⟩ := hQ44
  subst hv44
  have N44 := Fr.app N0 N44q
  show own_Go p.tables e below (T44.setTop (mkF m 4 #[.val (.int (3 : Int32))] [(.int (6 : Int32))])) _
  refine own_newA X44 hx hby own_d14_4 (pc' := 6) rfl hZ (own_t hw 16 rfl) e44 (by decide) (cap := 6) (by decide) (by decide) (by decide) (by decide) (vs := [(.int (0 : Int32)), (.int (0 : Int32)), (.int (0 : Int32)), (.int (0 : Int32)), (.int (0 : Int32)), (.int (0 : Int32))]) (by rfl) ?_
  intro T45 h45 b45 X45 e45 g45 E45 A45
  have l45 : n0 ≤ b45 := (Nat.le_trans Z0 (Nat.le_trans (Nat.le_refl _) (Nat.le_of_eq g45.symm)))
  exact own_retA X45 hx hret rfl rfl (hb hby own_d14_6) hlk (by decide) (by decide) ⟨b45, rfl, N44, by rw [show T45.heap = _ from e45]; exact ⟨((Keep.refl h0 []).ext E45), (Nat.le_of_eq g45.symm), A45⟩⟩
theorem own_ef_rm_pc3_0 (m : MethodId) (a1 : Addr) (c0 : Int32) : entryFrame m #[(.ref a1), (.int (0 : Int32)), (.int c0)] 3 = mkF m 0 #[.val (.ref a1), .val (.int (0 : Int32)), .val (.int c0)] [] := by first | (simp [entryFrame, mkF, argsToLocals, Value.category]; done) | rfl
def Qrm_pc3_0 (Z : State) (a1 : Addr) (c0 : Int32) (h0 : Heap) (n0 : Nat) (v : Option Value) (h : Heap) (L : List Loc) : Prop := v = none ∧ Fr n0 L ∧ Keep h0 h [a1] ∧ own_Ar Z h a1 .byte [(.int (lo8 c0)), (.int (hi8 c0)), (.int (0 : Int32)), (.int (0 : Int32)), (.int (0 : Int32)), (.int (0 : Int32))]
set_option maxRecDepth 65536 in
set_option maxHeartbeats 40000000 in
theorem rm_pc3_0 (l : Launch) (Z : State) (a0 : Array Value) (hw : ∀ d ∈ tables_1, d.before a0 Z = true) (ws : List Jvm.Cond) (a1 : Addr) (c0 : Int32) (h0 : Heap) (n0 : Nat) (O_0 : Old Z n0 h0) (S_A : Sta Z Z.heap "java/lang/StringUTF16" "$assertionsDisabled" "Z" (.int (1 : Int32))) (S_H : Sta Z Z.heap "java/lang/StringUTF16" "HI_BYTE_SHIFT" "I" (.int (0 : Int32))) (S_L : Sta Z Z.heap "java/lang/StringUTF16" "LO_BYTE_SHIFT" "I" (.int (8 : Int32))) (A_1 : own_Ar Z h0 a1 .byte [(.int (0 : Int32)), (.int (0 : Int32)), (.int (0 : Int32)), (.int (0 : Int32)), (.int (0 : Int32)), (.int (0 : Int32))]) (G_1 : n0 ≤ a1) :
    own_Met l (⟨"java/lang/StringUTF16", "putChar", "([BII)V"⟩ : MethodName) jdk_52_method_4_code 3 none ws ({ frames := 0, cells := 0, slots := 0, locals := 0 } : Room) #[(.ref a1), (.int (0 : Int32)), (.int c0)] Z h0 (Qrm_pc3_0 Z a1 c0 h0 n0) := by
  refine own_body own_pn16 ?_
  intro p e s m below meth c T0 X0 hx hby hml hown hnm hret hlk hZ e0
  have N0 := Fr.nil n0
  refine own_st (fun t k => castTop (own_ef_rm_pc3_0 m a1 c0) k) ?_
  show own_Go p.tables e below (T0.setTop (mkF m 0 #[.val (.ref a1), .val (.int (0 : Int32)), .val (.int c0)] [])) _
  have Z0 := own_Z0 O_0
  refine own_getS X0 hx hby own_d16_0 (pc' := 3) rfl hZ hown (host := "") (Or.inl (own_t hw 85 rfl)) Via.refl e0 (S_A.ext (O_0).2) ?_
  intro T46 X46 e46
  refine own_ifYes X46 hx hby own_d16_3 (pc' := 28) (by decide) (by decide) ?_
  refine own_iloadN X46 hx hby own_d16_28 (pc' := 29) rfl rfl ?_
  refine own_iconst X46 hx hby own_d16_29 (pc' := 30) rfl (z := (1 : Int32)) (by decide) ?_
  refine own_ishl X46 hx hby own_d16_30 (pc' := 31) rfl (z := (0 : Int32)) (by decide) ?_
  refine own_istoreN X46 hx hby own_d16_31 (pc' := 32) rfl (Ls' := #[.val (.ref a1), .val (.int (0 : Int32)), .val (.int c0)]) rfl ?_
  refine own_aloadN X46 hx hby own_d16_32 (pc' := 33) rfl rfl rfl ?_
  refine own_iloadN X46 hx hby own_d16_33 (pc' := 34) rfl rfl ?_
  refine own_iinc X46 hx hby own_d16_34 (pc' := 37) rfl rfl (z := (1 : Int32)) (by decide) (Ls' := #[.val (.ref a1), .val (.int (1 : Int32)), .val (.int c0)]) rfl ?_
  refine own_iloadN X46 hx hby own_d16_37 (pc' := 38) rfl rfl ?_
  refine own_getS X46 hx hby own_d16_38 (pc' := 41) rfl hZ hown (host := "") (Or.inl (own_t hw 86 rfl)) Via.refl e46 (S_H.ext (O_0).2) ?_
  intro T47 X47 e47
  refine own_ishr X47 hx hby own_d16_41 (pc' := 42) rfl rfl ?_
  refine own_i2b X47 hx hby own_d16_42 (pc' := 43) rfl rfl ?_
  refine own_bastore X47 hx hby own_d16_43 (pc' := 44) rfl hZ e47 (A_1) (by decide) (v := (.int (0 : Int32))) rfl ?_
  intro T48 h48 X48 e48 W48 A48
  have B48 : own_Ar Z h48 a1 .byte [(.int (lo8 c0)), (.int (0 : Int32)), (.int (0 : Int32)), (.int (0 : Int32)), (.int (0 : Int32)), (.int (0 : Int32))] := by
    have q : own_Ar Z h48 a1 .byte [(.int (lo8 (lo8 (c0 >>> ((0 : Int32) &&& 31))))), (.int (0 : Int32)), (.int (0 : Int32)), (.int (0 : Int32)), (.int (0 : Int32)), (.int (0 : Int32))] := A48
    rw [own_lolo, StrChars.shr0] at q
    exact q
  have N48 := Fr.snoc X48 N0 G_1
  refine own_aloadN X48 hx hby own_d16_44 (pc' := 45) rfl rfl rfl ?_
  refine own_iloadN X48 hx hby own_d16_45 (pc' := 46) rfl rfl ?_
  refine own_iloadN X48 hx hby own_d16_46 (pc' := 47) rfl rfl ?_
  refine own_getS X48 hx hby own_d16_47 (pc' := 50) rfl hZ hown (host := "") (Or.inl (own_t hw 87 rfl)) Via.refl e48 (S_L.ext ((O_0.wr W48 G_1)).2) ?_
  intro T49 X49 e49
  refine own_ishr X49 hx hby own_d16_50 (pc' := 51) rfl rfl ?_
  refine own_i2b X49 hx hby own_d16_51 (pc' := 52) rfl rfl ?_
  refine own_bastore X49 hx hby own_d16_52 (pc' := 53) rfl hZ e49 (B48) (by decide) (v := (.int (0 : Int32))) rfl ?_
  intro T50 h50 X50 e50 W50 A50
  have B50 : own_Ar Z h50 a1 .byte [(.int (lo8 c0)), (.int (hi8 c0)), (.int (0 : Int32)), (.int (0 : Int32)), (.int (0 : Int32)), (.int (0 : Int32))] := by
    have q : own_Ar Z h50 a1 .byte [(.int (lo8 c0)), (.int (lo8 (lo8 (c0 >>> ((8 : Int32) &&& 31))))), (.int (0 : Int32)), (.int (0 : Int32)), (.int (0 : Int32)), (.int (0 : Int32))] := A50
    rw [own_lolo] at q
    exact q
  have N50 := Fr.snoc X50 N48 G_1
  exact own_retV X50 hx hret (hb hby own_d16_53) hlk (by decide) (by decide) ⟨rfl, N50, by rw [e50]; exact ⟨(((Keep.refl h0 [a1]).wr W48 (Or.inl (List.mem_of_getElem? (i := 0) rfl))).wr W50 (Or.inl (List.mem_of_getElem? (i := 0) rfl))), B50⟩⟩
theorem own_ef_rm_pc3_1 (m : MethodId) (a1 : Addr) (c1 : Int32) : entryFrame m #[(.ref a1), (.int (1 : Int32)), (.int c1)] 3 = mkF m 0 #[.val (.ref a1), .val (.int (1 : Int32)), .val (.int c1)] [] := by first | (simp [entryFrame, mkF, argsToLocals, Value.category]; done) | rfl
def Qrm_pc3_1 (Z : State) (a1 : Addr) (c1 : Int32) (c0 : Int32) (h0 : Heap) (n0 : Nat) (v : Option Value) (h : Heap) (L : List Loc) : Prop := v = none ∧ Fr n0 L ∧ Keep h0 h [a1] ∧ own_Ar Z h a1 .byte [(.int (lo8 c0)), (.int (hi8 c0)), (.int (lo8 c1)), (.int (hi8 c1)), (.int (0 : Int32)), (.int (0 : Int32))]
set_option maxRecDepth 65536 in
set_option maxHeartbeats 40000000 in
theorem rm_pc3_1 (l : Launch) (Z : State) (a0 : Array Value) (hw : ∀ d ∈ tables_1, d.before a0 Z = true) (ws : List Jvm.Cond) (a1 : Addr) (c1 : Int32) (c0 : Int32) (h0 : Heap) (n0 : Nat) (O_0 : Old Z n0 h0) (S_A : Sta Z Z.heap "java/lang/StringUTF16" "$assertionsDisabled" "Z" (.int (1 : Int32))) (S_H : Sta Z Z.heap "java/lang/StringUTF16" "HI_BYTE_SHIFT" "I" (.int (0 : Int32))) (S_L : Sta Z Z.heap "java/lang/StringUTF16" "LO_BYTE_SHIFT" "I" (.int (8 : Int32))) (A_1 : own_Ar Z h0 a1 .byte [(.int (lo8 c0)), (.int (hi8 c0)), (.int (0 : Int32)), (.int (0 : Int32)), (.int (0 : Int32)), (.int (0 : Int32))]) (G_1 : n0 ≤ a1) :
    own_Met l (⟨"java/lang/StringUTF16", "putChar", "([BII)V"⟩ : MethodName) jdk_52_method_4_code 3 none ws ({ frames := 0, cells := 0, slots := 0, locals := 0 } : Room) #[(.ref a1), (.int (1 : Int32)), (.int c1)] Z h0 (Qrm_pc3_1 Z a1 c1 c0 h0 n0) := by
  refine own_body own_pn16 ?_
  intro p e s m below meth c T0 X0 hx hby hml hown hnm hret hlk hZ e0
  have N0 := Fr.nil n0
  refine own_st (fun t k => castTop (own_ef_rm_pc3_1 m a1 c1) k) ?_
  show own_Go p.tables e below (T0.setTop (mkF m 0 #[.val (.ref a1), .val (.int (1 : Int32)), .val (.int c1)] [])) _
  have Z0 := own_Z0 O_0
  refine own_getS X0 hx hby own_d16_0 (pc' := 3) rfl hZ hown (host := "") (Or.inl (own_t hw 85 rfl)) Via.refl e0 (S_A.ext (O_0).2) ?_
  intro T51 X51 e51
  refine own_ifYes X51 hx hby own_d16_3 (pc' := 28) (by decide) (by decide) ?_
  refine own_iloadN X51 hx hby own_d16_28 (pc' := 29) rfl rfl ?_
  refine own_iconst X51 hx hby own_d16_29 (pc' := 30) rfl (z := (1 : Int32)) (by decide) ?_
  refine own_ishl X51 hx hby own_d16_30 (pc' := 31) rfl (z := (2 : Int32)) (by decide) ?_
  refine own_istoreN X51 hx hby own_d16_31 (pc' := 32) rfl (Ls' := #[.val (.ref a1), .val (.int (2 : Int32)), .val (.int c1)]) rfl ?_
  refine own_aloadN X51 hx hby own_d16_32 (pc' := 33) rfl rfl rfl ?_
  refine own_iloadN X51 hx hby own_d16_33 (pc' := 34) rfl rfl ?_
  refine own_iinc X51 hx hby own_d16_34 (pc' := 37) rfl rfl (z := (3 : Int32)) (by decide) (Ls' := #[.val (.ref a1), .val (.int (3 : Int32)), .val (.int c1)]) rfl ?_
  refine own_iloadN X51 hx hby own_d16_37 (pc' := 38) rfl rfl ?_
  refine own_getS X51 hx hby own_d16_38 (pc' := 41) rfl hZ hown (host := "") (Or.inl (own_t hw 86 rfl)) Via.refl e51 (S_H.ext (O_0).2) ?_
  intro T52 X52 e52
  refine own_ishr X52 hx hby own_d16_41 (pc' := 42) rfl rfl ?_
  refine own_i2b X52 hx hby own_d16_42 (pc' := 43) rfl rfl ?_
  refine own_bastore X52 hx hby own_d16_43 (pc' := 44) rfl hZ e52 (A_1) (by decide) (v := (.int (0 : Int32))) rfl ?_
  intro T53 h53 X53 e53 W53 A53
  have B53 : own_Ar Z h53 a1 .byte [(.int (lo8 c0)), (.int (hi8 c0)), (.int (lo8 c1)), (.int (0 : Int32)), (.int (0 : Int32)), (.int (0 : Int32))] := by
    have q : own_Ar Z h53 a1 .byte [(.int (lo8 c0)), (.int (hi8 c0)), (.int (lo8 (lo8 (c1 >>> ((0 : Int32) &&& 31))))), (.int (0 : Int32)), (.int (0 : Int32)), (.int (0 : Int32))] := A53
    rw [own_lolo, StrChars.shr0] at q
    exact q
  have N53 := Fr.snoc X53 N0 G_1
  refine own_aloadN X53 hx hby own_d16_44 (pc' := 45) rfl rfl rfl ?_
  refine own_iloadN X53 hx hby own_d16_45 (pc' := 46) rfl rfl ?_
  refine own_iloadN X53 hx hby own_d16_46 (pc' := 47) rfl rfl ?_
  refine own_getS X53 hx hby own_d16_47 (pc' := 50) rfl hZ hown (host := "") (Or.inl (own_t hw 87 rfl)) Via.refl e53 (S_L.ext ((O_0.wr W53 G_1)).2) ?_
  intro T54 X54 e54
  refine own_ishr X54 hx hby own_d16_50 (pc' := 51) rfl rfl ?_
  refine own_i2b X54 hx hby own_d16_51 (pc' := 52) rfl rfl ?_
  refine own_bastore X54 hx hby own_d16_52 (pc' := 53) rfl hZ e54 (B53) (by decide) (v := (.int (0 : Int32))) rfl ?_
  intro T55 h55 X55 e55 W55 A55
  have B55 : own_Ar Z h55 a1 .byte [(.int (lo8 c0)), (.int (hi8 c0)), (.int (lo8 c1)), (.int (hi8 c1)), (.int (0 : Int32)), (.int (0 : Int32))] := by
    have q : own_Ar Z h55 a1 .byte [(.int (lo8 c0)), (.int (hi8 c0)), (.int (lo8 c1)), (.int (lo8 (lo8 (c1 >>> ((8 : Int32) &&& 31))))), (.int (0 : Int32)), (.int (0 : Int32))] := A55
    rw [own_lolo] at q
    exact q
  have N55 := Fr.snoc X55 N53 G_1
  exact own_retV X55 hx hret (hb hby own_d16_53) hlk (by decide) (by decide) ⟨rfl, N55, by rw [e55]; exact ⟨(((Keep.refl h0 [a1]).wr W53 (Or.inl (List.mem_of_getElem? (i := 0) rfl))).wr W55 (Or.inl (List.mem_of_getElem? (i := 0) rfl))), B55⟩⟩
theorem own_ef_rm_pc3_2 (m : MethodId) (a1 : Addr) (c2 : Int32) : entryFrame m #[(.ref a1), (.int (2 : Int32)), (.int c2)] 3 = mkF m 0 #[.val (.ref a1), .val (.int (2 : Int32)), .val (.int c2)] [] := by first | (simp [entryFrame, mkF, argsToLocals, Value.category]; done) | rfl
def Qrm_pc3_2 (Z : State) (a1 : Addr) (c2 : Int32) (c0 : Int32) (c1 : Int32) (h0 : Heap) (n0 : Nat) (v : Option Value) (h : Heap) (L : List Loc) : Prop := v = none ∧ Fr n0 L ∧ Keep h0 h [a1] ∧ own_Ar Z h a1 .byte [(.int (lo8 c0)), (.int (hi8 c0)), (.int (lo8 c1)), (.int (hi8 c1)), (.int (lo8 c2)), (.int (hi8 c2))]
set_option maxRecDepth 65536 in
set_option maxHeartbeats 40000000 in
theorem rm_pc3_2 (l : Launch) (Z : State) (a0 : Array Value) (hw : ∀ d ∈ tables_1, d.before a0 Z = true) (ws : List Jvm.Cond) (a1 : Addr) (c2 : Int32) (c0 : Int32) (c1 : Int32) (h0 : Heap) (n0 : Nat) (O_0 : Old Z n0 h0) (S_A : Sta Z Z.heap "java/lang/StringUTF16" "$assertionsDisabled" "Z" (.int (1 : Int32))) (S_H : Sta Z Z.heap "java/lang/StringUTF16" "HI_BYTE_SHIFT" "I" (.int (0 : Int32))) (S_L : Sta Z Z.heap "java/lang/StringUTF16" "LO_BYTE_SHIFT" "I" (.int (8 : Int32))) (A_1 : own_Ar Z h0 a1 .byte [(.int (lo8 c0)), (.int (hi8 c0)), (.int (lo8 c1)), (.int (hi8 c1)), (.int (0 : Int32)), (.int (0 : Int32))]) (G_1 : n0 ≤ a1) :
    own_Met l (⟨"java/lang/StringUTF16", "putChar", "([BII)V"⟩ : MethodName) jdk_52_method_4_code 3 none ws ({ frames := 0, cells := 0, slots := 0, locals := 0 } : Room) #[(.ref a1), (.int (2 : Int32)), (.int c2)] Z h0 (Qrm_pc3_2 Z a1 c2 c0 c1 h0 n0) := by
  refine own_body own_pn16 ?_
  intro p e s m below meth c T0 X0 hx hby hml hown hnm hret hlk hZ e0
  have N0 := Fr.nil n0
  refine own_st (fun t k => castTop (own_ef_rm_pc3_2 m a1 c2) k) ?_
  show own_Go p.tables e below (T0.setTop (mkF m 0 #[.val (.ref a1), .val (.int (2 : Int32)), .val (.int c2)] [])) _
  have Z0 := own_Z0 O_0
  refine own_getS X0 hx hby own_d16_0 (pc' := 3) rfl hZ hown (host := "") (Or.inl (own_t hw 85 rfl)) Via.refl e0 (S_A.ext (O_0).2) ?_
  intro T56 X56 e56
  refine own_ifYes X56 hx hby own_d16_3 (pc' := 28) (by decide) (by decide) ?_
  refine own_iloadN X56 hx hby own_d16_28 (pc' := 29) rfl rfl ?_
  refine own_iconst X56 hx hby own_d16_29 (pc' := 30) rfl (z := (1 : Int32)) (by decide) ?_
  refine own_ishl X56 hx hby own_d16_30 (pc' := 31) rfl (z := (4 : Int32)) (by decide) ?_
  refine own_istoreN X56 hx hby own_d16_31 (pc' := 32) rfl (Ls' := #[.val (.ref a1), .val (.int (4 : Int32)), .val (.int c2)]) rfl ?_
  refine own_aloadN X56 hx hby own_d16_32 (pc' := 33) rfl rfl rfl ?_
  refine own_iloadN X56 hx hby own_d16_33 (pc' := 34) rfl rfl ?_
  refine own_iinc X56 hx hby own_d16_34 (pc' := 37) rfl rfl (z := (5 : Int32)) (by decide) (Ls' := #[.val (.ref a1), .val (.int (5 : Int32)), .val (.int c2)]) rfl ?_
  refine own_iloadN X56 hx hby own_d16_37 (pc' := 38) rfl rfl ?_
  refine own_getS X56 hx hby own_d16_38 (pc' := 41) rfl hZ hown (host := "") (Or.inl (own_t hw 86 rfl)) Via.refl e56 (S_H.ext (O_0).2) ?_
  intro T57 X57 e57
  refine own_ishr X57 hx hby own_d16_41 (pc' := 42) rfl rfl ?_
  refine own_i2b X57 hx hby own_d16_42 (pc' := 43) rfl rfl ?_
  refine own_bastore X57 hx hby own_d16_43 (pc' := 44) rfl hZ e57 (A_1) (by decide) (v := (.int (0 : Int32))) rfl ?_
  intro T58 h58 X58 e58 W58 A58
  have B58 : own_Ar Z h58 a1 .byte [(.int (lo8 c0)), (.int (hi8 c0)), (.int (lo8 c1)), (.int (hi8 c1)), (.int (lo8 c2)), (.int (0 : Int32))] := by
    have q : own_Ar Z h58 a1 .byte [(.int (lo8 c0)), (.int (hi8 c0)), (.int (lo8 c1)), (.int (hi8 c1)), (.int (lo8 (lo8 (c2 >>> ((0 : Int32) &&& 31))))), (.int (0 : Int32))] := A58
    rw [own_lolo, StrChars.shr0] at q
    exact q
  have N58 := Fr.snoc X58 N0 G_1
  refine own_aloadN X58 hx hby own_d16_44 (pc' := 45) rfl rfl rfl ?_
  refine own_iloadN X58 hx hby own_d16_45 (pc' := 46) rfl rfl ?_
  refine own_iloadN X58 hx hby own_d16_46 (pc' := 47) rfl rfl ?_
  refine own_getS X58 hx hby own_d16_47 (pc' := 50) rfl hZ hown (host := "") (Or.inl (own_t hw 87 rfl)) Via.refl e58 (S_L.ext ((O_0.wr W58 G_1)).2) ?_
  intro T59 X59 e59
  refine own_ishr X59 hx hby own_d16_50 (pc' := 51) rfl rfl ?_
  refine own_i2b X59 hx hby own_d16_51 (pc' := 52) rfl rfl ?_
  refine own_bastore X59 hx hby own_d16_52 (pc' := 53) rfl hZ e59 (B58) (by decide) (v := (.int (0 : Int32))) rfl ?_
  intro T60 h60 X60 e60 W60 A60
  have B60 : own_Ar Z h60 a1 .byte [(.int (lo8 c0)), (.int (hi8 c0)), (.int (lo8 c1)), (.int (hi8 c1)), (.int (lo8 c2)), (.int (hi8 c2))] := by
    have q : own_Ar Z h60 a1 .byte [(.int (lo8 c0)), (.int (hi8 c0)), (.int (lo8 c1)), (.int (hi8 c1)), (.int (lo8 c2)), (.int (lo8 (lo8 (c2 >>> ((8 : Int32) &&& 31)))))] := A60
    rw [own_lolo] at q
    exact q
  have N60 := Fr.snoc X60 N58 G_1
  exact own_retV X60 hx hret (hb hby own_d16_53) hlk (by decide) (by decide) ⟨rfl, N60, by rw [e60]; exact ⟨(((Keep.refl h0 [a1]).wr W58 (Or.inl (List.mem_of_getElem? (i := 0) rfl))).wr W60 (Or.inl (List.mem_of_getElem? (i := 0) rfl))), B60⟩⟩
theorem own_ef_rm_tb3 (m : MethodId) (a1 : Addr) : entryFrame m #[(.ref a1), (.int (0 : Int32)), (.int (3 : Int32))] 5 = mkF m 0 #[.val (.ref a1), .val (.int (0 : Int32)), .val (.int (3 : Int32)), .unset, .unset] [] := by first | (simp [entryFrame, mkF, argsToLocals, Value.category]; done) | rfl
def Qrm_tb3 (Z : State) (a1 : Addr) (c0 : Int32) (c1 : Int32) (c2 : Int32) (h0 : Heap) (n0 : Nat) (v : Option Value) (h : Heap) (L : List Loc) : Prop := ∃ b, v = some (.ref b) ∧ Fr n0 L ∧ Keep h0 h [] ∧ h0.size ≤ b ∧ own_Ar Z h b .byte [(.int (lo8 c0)), (.int (hi8 c0)), (.int (lo8 c1)), (.int (hi8 c1)), (.int (lo8 c2)), (.int (hi8 c2))]
set_option maxRecDepth 65536 in
set_option maxHeartbeats 40000000 in
theorem rm_tb3 (l : Launch) (Z : State) (a0 : Array Value) (hw : ∀ d ∈ tables_1, d.before a0 Z = true) (ws : List Jvm.Cond) (a1 : Addr) (c0 : Int32) (c1 : Int32) (c2 : Int32) (h0 : Heap) (n0 : Nat) (O_0 : Old Z n0 h0) (S_A : Sta Z Z.heap "java/lang/StringUTF16" "$assertionsDisabled" "Z" (.int (1 : Int32))) (S_H : Sta Z Z.heap "java/lang/StringUTF16" "HI_BYTE_SHIFT" "I" (.int (0 : Int32))) (S_L : Sta Z Z.heap "java/lang/StringUTF16" "LO_BYTE_SHIFT" "I" (.int (8 : Int32))) (A_1 : own_Ar Z h0 a1 .char [(.int c0), (.int c1), (.int c2)]) :
    own_Met l (⟨"java/lang/StringUTF16", "toBytes", "([CII)[B"⟩ : MethodName) jdk_52_method_14_code 5 (some (.array .byte)) ws ({ frames := 2, cells := 1, slots := 6, locals := 24 } : Room) #[(.ref a1), (.int (0 : Int32)), (.int (3 : Int32))] Z h0 (Qrm_tb3 Z a1 c0 c1 c2 h0 n0) := by
  refine own_body own_pn13 ?_
  intro p e s m below meth c T0 X0 hx hby hml hown hnm hret hlk hZ e0
  have N0 := Fr.nil n0
  refine own_st (fun t k => castTop (own_ef_rm_tb3 m a1) k) ?_
  show own_Go p.tables e below (T0.setTop (mkF m 0 #[.val (.ref a1), .val (.int (0 : Int32)), .val (.int (3 : Int32)), .unset, .unset] [])) _
  have Z0 := own_Z0 O_0
  refine own_iloadN X0 hx hby own_d13_0 (pc' := 1) rfl rfl ?_
  refine own_callS X0 hx hZ (rm_nf3 l Z a0 hw [] h0 n0 (O_0)) hown (own_t hw 75 rfl) (own_t hw 76 rfl) (own_t hw 67 rfl) (own_t hw 77 rfl) (by decide) (W := 0) (by decide) (by decide) (by rw [hml]; rfl) (argsL := [(.int (3 : Int32))]) (rest := []) rfl (lenOf own_pd1 rfl) rfl (Nat.le_of_eq rfl) (hb hby own_d13_1) e0 (by decide) (by decide) ?_
  intro v61 T61 L61 X61 hQ61
  obtain ⟨b61, hv61, N61q, K61, g61, A61⟩ := hQ61
  subst hv61
  have N61 := Fr.app N0 N61q
  have l61 : n0 ≤ b61 := (Nat.le_trans Z0 (Nat.le_trans (Nat.le_refl _) g61))
  show own_Go p.tables e below (T61.setTop (mkF m 4 #[.val (.ref a1), .val (.int (0 : Int32)), .val (.int (3 : Int32)), .unset, .unset] [(.ref b61)])) _
  refine own_astoreN X61 hx hby own_d13_4 (pc' := 5) rfl rfl (Ls' := #[.val (.ref a1), .val (.int (0 : Int32)), .val (.int (3 : Int32)), .val (.ref b61), .unset]) rfl ?_
  refine own_iconst X61 hx hby own_d13_5 (pc' := 6) rfl (z := (0 : Int32)) (by decide) ?_
  refine own_istore X61 hx hby own_d13_6 (pc' := 8) rfl (Ls' := #[.val (.ref a1), .val (.int (0 : Int32)), .val (.int (3 : Int32)), .val (.ref b61), .val (.int (0 : Int32))]) rfl ?_
  refine own_iload X61 hx hby own_d13_8 (pc' := 10) rfl rfl ?_
  refine own_iloadN X61 hx hby own_d13_10 (pc' := 11) rfl rfl ?_
  refine own_icmpNo X61 hx hby own_d13_11 (pc' := 14) rfl (by decide) ?_
  refine own_aloadN X61 hx hby own_d13_14 (pc' := 15) rfl rfl rfl ?_
  refine own_iload X61 hx hby own_d13_15 (pc' := 17) rfl rfl ?_
  refine own_aloadN X61 hx hby own_d13_17 (pc' := 18) rfl rfl rfl ?_
  refine own_iloadN X61 hx hby own_d13_18 (pc' := 19) rfl rfl ?_
  refine own_caload X61 hx hby own_d13_19 (pc' := 20) rfl hZ rfl ((A_1.keep K61 nin0)) (by decide) (v := (.int c0)) rfl ?_
  refine own_callS X61 hx hZ (rm_pc3_0 l Z a0 hw [] b61 c0 T61.heap n0 ((O_0.keep K61 all0)) S_A S_H S_L (A61) l61) hown (own_t hw 82 rfl) (own_t hw 83 rfl) (own_t hw 67 rfl) (own_t hw 84 rfl) (by decide) (W := 0) (by decide) (by decide) (by rw [hml]; rfl) (argsL := [(.ref b61), (.int (0 : Int32)), (.int c0)]) (rest := []) rfl (lenOf own_pd2 rfl) rfl (Nat.le_of_eq rfl) (hb hby own_d13_20) rfl (by decide) (by decide) ?_
  intro v62 T62 L62 X62 hQ62
  obtain ⟨hv62, N62q, K62, A62⟩ := hQ62
  subst hv62
  have N62 := Fr.app N61 N62q
  show own_Go p.tables e below (T62.setTop (mkF m 23 #[.val (.ref a1), .val (.int (0 : Int32)), .val (.int (3 : Int32)), .val (.ref b61), .val (.int (0 : Int32))] [])) _
  refine own_iinc X62 hx hby own_d13_23 (pc' := 26) rfl rfl (z := (1 : Int32)) (by decide) (Ls' := #[.val (.ref a1), .val (.int (1 : Int32)), .val (.int (3 : Int32)), .val (.ref b61), .val (.int (0 : Int32))]) rfl ?_
  refine own_iinc X62 hx hby own_d13_26 (pc' := 29) rfl rfl (z := (1 : Int32)) (by decide) (Ls' := #[.val (.ref a1), .val (.int (1 : Int32)), .val (.int (3 : Int32)), .val (.ref b61), .val (.int (1 : Int32))]) rfl ?_
  refine own_goto X62 hx hby own_d13_29 (pc' := 8) (by decide) ?_
  refine own_iload X62 hx hby own_d13_8 (pc' := 10) rfl rfl ?_
  refine own_iloadN X62 hx hby own_d13_10 (pc' := 11) rfl rfl ?_
  refine own_icmpNo X62 hx hby own_d13_11 (pc' := 14) rfl (by decide) ?_
  refine own_aloadN X62 hx hby own_d13_14 (pc' := 15) rfl rfl rfl ?_
  refine own_iload X62 hx hby own_d13_15 (pc' := 17) rfl rfl ?_
  refine own_aloadN X62 hx hby own_d13_17 (pc' := 18) rfl rfl rfl ?_
  refine own_iloadN X62 hx hby own_d13_18 (pc' := 19) rfl rfl ?_
  refine own_caload X62 hx hby own_d13_19 (pc' := 20) rfl hZ rfl (((A_1.keep K61 nin0).keep K62 (ninS (Nat.ne_of_lt (Nat.lt_of_lt_of_le (A_1).lt g61)) nin0))) (by decide) (v := (.int c1)) rfl ?_
  refine own_callS X62 hx hZ (rm_pc3_1 l Z a0 hw [] b61 c1 c0 T62.heap n0 (((O_0.keep K61 all0).keep K62 (allS l61 all0))) S_A S_H S_L (A62) l61) hown (own_t hw 82 rfl) (own_t hw 83 rfl) (own_t hw 67 rfl) (own_t hw 84 rfl) (by decide) (W := 0) (by decide) (by decide) (by rw [hml]; rfl) (argsL := [(.ref b61), (.int (1 : Int32)), (.int c1)]) (rest := []) rfl (lenOf own_pd2 rfl) rfl (Nat.le_of_eq rfl) (hb hby own_d13_20) rfl (by decide) (by decide) ?_
  intro v63 T63 L63 X63 hQ63
  obtain ⟨hv63, N63q, K63, A63⟩ := hQ63
  subst hv63
  have N63 := Fr.app N62 N63q
  show own_Go p.tables e below (T63.setTop (mkF m 23 #[.val (.ref a1), .val (.int (1 : Int32)), .val (.int (3 : Int32)), .val (.ref b61), .val (.int (1 : Int32))] [])) _
  refine own_iinc X63 hx hby own_d13_23 (pc' := 26) rfl rfl (z := (2 : Int32)) (by decide) (Ls' := #[.val (.ref a1), .val (.int (2 : Int32)), .val (.int (3 : Int32)), .val (.ref b61), .val (.int (1 : Int32))]) rfl ?_
  refine own_iinc X63 hx hby own_d13_26 (pc' := 29) rfl rfl (z := (2 : Int32)) (by decide) (Ls' := #[.val (.ref a1), .val (.int (2 : Int32)), .val (.int (3 : Int32)), .val (.ref b61), .val (.int (2 : Int32))]) rfl ?_
  refine own_goto X63 hx hby own_d13_29 (pc' := 8) (by decide) ?_
  refine own_iload X63 hx hby own_d13_8 (pc' := 10) rfl rfl ?_
  refine own_iloadN X63 hx hby own_d13_10 (pc' := 11) rfl rfl ?_
  refine own_icmpNo X63 hx hby own_d13_11 (pc' := 14) rfl (by decide) ?_
  refine own_aloadN X63 hx hby own_d13_14 (pc' := 15) rfl rfl rfl ?_
  refine own_iload X63 hx hby own_d13_15 (pc' := 17) rfl rfl ?_
  refine own_aloadN X63 hx hby own_d13_17 (pc' := 18) rfl rfl rfl ?_
  refine own_iloadN X63 hx hby own_d13_18 (pc' := 19) rfl rfl ?_
  refine own_caload X63 hx hby own_d13_19 (pc' := 20) rfl hZ rfl ((((A_1.keep K61 nin0).keep K62 (ninS (Nat.ne_of_lt (Nat.lt_of_lt_of_le (A_1).lt g61)) nin0)).keep K63 (ninS (Nat.ne_of_lt (Nat.lt_of_lt_of_le (A_1).lt g61)) nin0))) (by decide) (v := (.int c2)) rfl ?_
  refine own_callS X63 hx hZ (rm_pc3_2 l Z a0 hw [] b61 c2 c0 c1 T63.heap n0 ((((O_0.keep K61 all0).keep K62 (allS l61 all0)).keep K63 (allS l61 all0))) S_A S_H S_L (A63) l61) hown (own_t hw 82 rfl) (own_t hw 83 rfl) (own_t hw 67 rfl) (own_t hw 84 rfl) (by decide) (W := 0) (by decide) (by decide) (by rw [hml]; rfl) (argsL := [(.ref b61), (.int (2 : Int32)), (.int c2)]) (rest := []) rfl (lenOf own_pd2 rfl) rfl (Nat.le_of_eq rfl) (hb hby own_d13_20) rfl (by decide) (by decide) ?_
  intro v64 T64 L64 X64 hQ64
  obtain ⟨hv64, N64q, K64, A64⟩ := hQ64
  subst hv64
  have N64 := Fr.app N63 N64q
  show own_Go p.tables e below (T64.setTop (mkF m 23 #[.val (.ref a1), .val (.int (2 : Int32)), .val (.int (3 : Int32)), .val (.ref b61), .val (.int (2 : Int32))] [])) _
  refine own_iinc X64 hx hby own_d13_23 (pc' := 26) rfl rfl (z := (3 : Int32)) (by decide) (Ls' := #[.val (.ref a1), .val (.int (3 : Int32)), .val (.int (3 : Int32)), .val (.ref b61), .val (.int (2 : Int32))]) rfl ?_
  refine own_iinc X64 hx hby own_d13_26 (pc' := 29) rfl rfl (z := (3 : Int32)) (by decide) (Ls' := #[.val (.ref a1), .val (.int (3 : Int32)), .val (.int (3 : Int32)), .val (.ref b61), .val (.int (3 : Int32))]) rfl ?_
  refine own_goto X64 hx hby own_d13_29 (pc' := 8) (by decide) ?_
  refine own_iload X64 hx hby own_d13_8 (pc' := 10) rfl rfl ?_
  refine own_iloadN X64 hx hby own_d13_10 (pc' := 11) rfl rfl ?_
  refine own_icmpYes X64 hx hby own_d13_11 (pc' := 32) (by decide) (by decide) ?_
  refine own_aloadN X64 hx hby own_d13_32 (pc' := 33) rfl rfl rfl ?_
  exact own_retA X64 hx hret rfl rfl (hb hby own_d13_33) hlk (by decide) (by decide) ⟨b61, rfl, N64, by rw [show T64.heap = _ from rfl]; exact ⟨(((((Keep.refl h0 []).trans K61 all0).trans K62 (allS (Or.inr (Nat.le_trans (Nat.le_refl _) g61)) all0)).trans K63 (allS (Or.inr (Nat.le_trans (Nat.le_refl _) g61)) all0)).trans K64 (allS (Or.inr (Nat.le_trans (Nat.le_refl _) g61)) all0)), (Nat.le_trans (Nat.le_refl _) g61), A64⟩⟩
theorem own_ef_rm_gc3_0 (m : MethodId) (a1 : Addr) : entryFrame m #[(.ref a1), (.int (0 : Int32))] 2 = mkF m 0 #[.val (.ref a1), .val (.int (0 : Int32))] [] := by first | (simp [entryFrame, mkF, argsToLocals, Value.category]; done) | rfl
def Qrm_gc3_0 (Z : State) (a1 : Addr) (c0 : Int32) (c1 : Int32) (c2 : Int32) (h0 : Heap) (n0 : Nat) (v : Option Value) (h : Heap) (L : List Loc) : Prop := v = some (.int c0) ∧ Fr n0 L ∧ h = h0
set_option maxRecDepth 65536 in
set_option maxHeartbeats 40000000 in
theorem rm_gc3_0 (l : Launch) (Z : State) (a0 : Array Value) (hw : ∀ d ∈ tables_1, d.before a0 Z = true) (ws : List Jvm.Cond) (a1 : Addr) (c0 : Int32) (c1 : Int32) (c2 : Int32) (h0 : Heap) (n0 : Nat) (O_0 : Old Z n0 h0) (S_A : Sta Z Z.heap "java/lang/StringUTF16" "$assertionsDisabled" "Z" (.int (1 : Int32))) (S_H : Sta Z Z.heap "java/lang/StringUTF16" "HI_BYTE_SHIFT" "I" (.int (0 : Int32))) (S_L : Sta Z Z.heap "java/lang/StringUTF16" "LO_BYTE_SHIFT" "I" (.int (8 : Int32))) (A_1 : own_Ar Z h0 a1 .byte [(.int (lo8 c0)), (.int (hi8 c0)), (.int (lo8 c1)), (.int (hi8 c1)), (.int (lo8 c2)), (.int (hi8 c2))]) (hb0 : own_W c0) :
    own_Met l (⟨"java/lang/StringUTF16", "getChar", "([BI)C"⟩ : MethodName) jdk_52_method_5_code 2 (some .char) ws ({ frames := 0, cells := 0, slots := 0, locals := 0 } : Room) #[(.ref a1), (.int (0 : Int32))] Z h0 (Qrm_gc3_0 Z a1 c0 c1 c2 h0 n0) := by
  refine own_body own_pn17 ?_
  intro p e s m below meth c T0 X0 hx hby hml hown hnm hret hlk hZ e0
  have N0 := Fr.nil n0
  refine own_st (fun t k => castTop (own_ef_rm_gc3_0 m a1) k) ?_
  show own_Go p.tables e below (T0.setTop (mkF m 0 #[.val (.ref a1), .val (.int (0 : Int32))] [])) _
  have Z0 := own_Z0 O_0
  refine own_getS X0 hx hby own_d17_0 (pc' := 3) rfl hZ hown (host := "") (Or.inl (own_t hw 85 rfl)) Via.refl e0 (S_A.ext (O_0).2) ?_
  intro T65 X65 e65
  refine own_ifYes X65 hx hby own_d17_3 (pc' := 28) (by decide) (by decide) ?_
  refine own_iloadN X65 hx hby own_d17_28 (pc' := 29) rfl rfl ?_
  refine own_iconst X65 hx hby own_d17_29 (pc' := 30) rfl (z := (1 : Int32)) (by decide) ?_
  refine own_ishl X65 hx hby own_d17_30 (pc' := 31) rfl (z := (0 : Int32)) (by decide) ?_
  refine own_istoreN X65 hx hby own_d17_31 (pc' := 32) rfl (Ls' := #[.val (.ref a1), .val (.int (0 : Int32))]) rfl ?_
  refine own_aloadN X65 hx hby own_d17_32 (pc' := 33) rfl rfl rfl ?_
  refine own_iloadN X65 hx hby own_d17_33 (pc' := 34) rfl rfl ?_
  refine own_iinc X65 hx hby own_d17_34 (pc' := 37) rfl rfl (z := (1 : Int32)) (by decide) (Ls' := #[.val (.ref a1), .val (.int (1 : Int32))]) rfl ?_
  refine own_baload X65 hx hby own_d17_37 (pc' := 38) rfl hZ e65 (A_1) (by decide) (v := (.int (lo8 c0))) rfl ?_
  refine own_sipush X65 hx hby own_d17_38 (pc' := 41) rfl (z := (255 : Int32)) (by decide) ?_
  refine own_iand X65 hx hby own_d17_41 (pc' := 42) rfl rfl ?_
  refine own_getS X65 hx hby own_d17_42 (pc' := 45) rfl hZ hown (host := "") (Or.inl (own_t hw 86 rfl)) Via.refl e65 (S_H.ext (O_0).2) ?_
  intro T66 X66 e66
  refine own_ishl X66 hx hby own_d17_45 (pc' := 46) rfl rfl ?_
  refine own_aloadN X66 hx hby own_d17_46 (pc' := 47) rfl rfl rfl ?_
  refine own_iloadN X66 hx hby own_d17_47 (pc' := 48) rfl rfl ?_
  refine own_baload X66 hx hby own_d17_48 (pc' := 49) rfl hZ e66 (A_1) (by decide) (v := (.int (hi8 c0))) rfl ?_
  refine own_sipush X66 hx hby own_d17_49 (pc' := 52) rfl (z := (255 : Int32)) (by decide) ?_
  refine own_iand X66 hx hby own_d17_52 (pc' := 53) rfl rfl ?_
  refine own_getS X66 hx hby own_d17_53 (pc' := 56) rfl hZ hown (host := "") (Or.inl (own_t hw 87 rfl)) Via.refl e66 (S_L.ext (O_0).2) ?_
  intro T67 X67 e67
  refine own_ishl X67 hx hby own_d17_56 (pc' := 57) rfl rfl ?_
  refine own_ior X67 hx hby own_d17_57 (pc' := 58) rfl rfl ?_
  refine own_i2c X67 hx hby own_d17_58 (pc' := 59) rfl rfl ?_
  exact own_retZ (t := .char) X67 hx hret (by simp) (hb hby own_d17_59) hlk (by decide) (by decide) ⟨congrArg (fun z => some (Value.int z)) (own_pair hb0), N0, e67⟩
theorem own_ef_rm_gc3_1 (m : MethodId) (a1 : Addr) : entryFrame m #[(.ref a1), (.int (1 : Int32))] 2 = mkF m 0 #[.val (.ref a1), .val (.int (1 : Int32))] [] := by first | (simp [entryFrame, mkF, argsToLocals, Value.category]; done) | rfl
def Qrm_gc3_1 (Z : State) (a1 : Addr) (c0 : Int32) (c1 : Int32) (c2 : Int32) (h0 : Heap) (n0 : Nat) (v : Option Value) (h : Heap) (L : List Loc) : Prop := v = some (.int c1) ∧ Fr n0 L ∧ h = h0
set_option maxRecDepth 65536 in
set_option maxHeartbeats 40000000 in
theorem rm_gc3_1 (l : Launch) (Z : State) (a0 : Array Value) (hw : ∀ d ∈ tables_1, d.before a0 Z = true) (ws : List Jvm.Cond) (a1 : Addr) (c0 : Int32) (c1 : Int32) (c2 : Int32) (h0 : Heap) (n0 : Nat) (O_0 : Old Z n0 h0) (S_A : Sta Z Z.heap "java/lang/StringUTF16" "$assertionsDisabled" "Z" (.int (1 : Int32))) (S_H : Sta Z Z.heap "java/lang/StringUTF16" "HI_BYTE_SHIFT" "I" (.int (0 : Int32))) (S_L : Sta Z Z.heap "java/lang/StringUTF16" "LO_BYTE_SHIFT" "I" (.int (8 : Int32))) (A_1 : own_Ar Z h0 a1 .byte [(.int (lo8 c0)), (.int (hi8 c0)), (.int (lo8 c1)), (.int (hi8 c1)), (.int (lo8 c2)), (.int (hi8 c2))]) (hb1 : own_W c1) :
    own_Met l (⟨"java/lang/StringUTF16", "getChar", "([BI)C"⟩ : MethodName) jdk_52_method_5_code 2 (some .char) ws ({ frames := 0, cells := 0, slots := 0, locals := 0 } : Room) #[(.ref a1), (.int (1 : Int32))] Z h0 (Qrm_gc3_1 Z a1 c0 c1 c2 h0 n0) := by
  refine own_body own_pn17 ?_
  intro p e s m below meth c T0 X0 hx hby hml hown hnm hret hlk hZ e0
  have N0 := Fr.nil n0
  refine own_st (fun t k => castTop (own_ef_rm_gc3_1 m a1) k) ?_
  show own_Go p.tables e below (T0.setTop (mkF m 0 #[.val (.ref a1), .val (.int (1 : Int32))] [])) _
  have Z0 := own_Z0 O_0
  refine own_getS X0 hx hby own_d17_0 (pc' := 3) rfl hZ hown (host := "") (Or.inl (own_t hw 85 rfl)) Via.refl e0 (S_A.ext (O_0).2) ?_
  intro T68 X68 e68
  refine own_ifYes X68 hx hby own_d17_3 (pc' := 28) (by decide) (by decide) ?_
  refine own_iloadN X68 hx hby own_d17_28 (pc' := 29) rfl rfl ?_
  refine own_iconst X68 hx hby own_d17_29 (pc' := 30) rfl (z := (1 : Int32)) (by decide) ?_
  refine own_ishl X68 hx hby own_d17_30 (pc' := 31) rfl (z := (2 : Int32)) (by decide) ?_
  refine own_istoreN X68 hx hby own_d17_31 (pc' := 32) rfl (Ls' := #[.val (.ref a1), .val (.int (2 : Int32))]) rfl ?_
  refine own_aloadN X68 hx hby own_d17_32 (pc' := 33) rfl rfl rfl ?_
  refine own_iloadN X68 hx hby own_d17_33 (pc' := 34) rfl rfl ?_
  refine own_iinc X68 hx hby own_d17_34 (pc' := 37) rfl rfl (z := (3 : Int32)) (by decide) (Ls' := #[.val (.ref a1), .val (.int (3 : Int32))]) rfl ?_
  refine own_baload X68 hx hby own_d17_37 (pc' := 38) rfl hZ e68 (A_1) (by decide) (v := (.int (lo8 c1))) rfl ?_
  refine own_sipush X68 hx hby own_d17_38 (pc' := 41) rfl (z := (255 : Int32)) (by decide) ?_
  refine own_iand X68 hx hby own_d17_41 (pc' := 42) rfl rfl ?_
  refine own_getS X68 hx hby own_d17_42 (pc' := 45) rfl hZ hown (host := "") (Or.inl (own_t hw 86 rfl)) Via.refl e68 (S_H.ext (O_0).2) ?_
  intro T69 X69 e69
  refine own_ishl X69 hx hby own_d17_45 (pc' := 46) rfl rfl ?_
  refine own_aloadN X69 hx hby own_d17_46 (pc' := 47) rfl rfl rfl ?_
  refine own_iloadN X69 hx hby own_d17_47 (pc' := 48) rfl rfl ?_
  refine own_baload X69 hx hby own_d17_48 (pc' := 49) rfl hZ e69 (A_1) (by decide) (v := (.int (hi8 c1))) rfl ?_
  refine own_sipush X69 hx hby own_d17_49 (pc' := 52) rfl (z := (255 : Int32)) (by decide) ?_
  refine own_iand X69 hx hby own_d17_52 (pc' := 53) rfl rfl ?_
  refine own_getS X69 hx hby own_d17_53 (pc' := 56) rfl hZ hown (host := "") (Or.inl (own_t hw 87 rfl)) Via.refl e69 (S_L.ext (O_0).2) ?_
  intro T70 X70 e70
  refine own_ishl X70 hx hby own_d17_56 (pc' := 57) rfl rfl ?_
  refine own_ior X70 hx hby own_d17_57 (pc' := 58) rfl rfl ?_
  refine own_i2c X70 hx hby own_d17_58 (pc' := 59) rfl rfl ?_
  exact own_retZ (t := .char) X70 hx hret (by simp) (hb hby own_d17_59) hlk (by decide) (by decide) ⟨congrArg (fun z => some (Value.int z)) (own_pair hb1), N0, e70⟩
theorem own_ef_rm_gc3_2 (m : MethodId) (a1 : Addr) : entryFrame m #[(.ref a1), (.int (2 : Int32))] 2 = mkF m 0 #[.val (.ref a1), .val (.int (2 : Int32))] [] := by first | (simp [entryFrame, mkF, argsToLocals, Value.category]; done) | rfl
def Qrm_gc3_2 (Z : State) (a1 : Addr) (c0 : Int32) (c1 : Int32) (c2 : Int32) (h0 : Heap) (n0 : Nat) (v : Option Value) (h : Heap) (L : List Loc) : Prop := v = some (.int c2) ∧ Fr n0 L ∧ h = h0
set_option maxRecDepth 65536 in
set_option maxHeartbeats 40000000 in
theorem rm_gc3_2 (l : Launch) (Z : State) (a0 : Array Value) (hw : ∀ d ∈ tables_1, d.before a0 Z = true) (ws : List Jvm.Cond) (a1 : Addr) (c0 : Int32) (c1 : Int32) (c2 : Int32) (h0 : Heap) (n0 : Nat) (O_0 : Old Z n0 h0) (S_A : Sta Z Z.heap "java/lang/StringUTF16" "$assertionsDisabled" "Z" (.int (1 : Int32))) (S_H : Sta Z Z.heap "java/lang/StringUTF16" "HI_BYTE_SHIFT" "I" (.int (0 : Int32))) (S_L : Sta Z Z.heap "java/lang/StringUTF16" "LO_BYTE_SHIFT" "I" (.int (8 : Int32))) (A_1 : own_Ar Z h0 a1 .byte [(.int (lo8 c0)), (.int (hi8 c0)), (.int (lo8 c1)), (.int (hi8 c1)), (.int (lo8 c2)), (.int (hi8 c2))]) (hb2 : own_W c2) :
    own_Met l (⟨"java/lang/StringUTF16", "getChar", "([BI)C"⟩ : MethodName) jdk_52_method_5_code 2 (some .char) ws ({ frames := 0, cells := 0, slots := 0, locals := 0 } : Room) #[(.ref a1), (.int (2 : Int32))] Z h0 (Qrm_gc3_2 Z a1 c0 c1 c2 h0 n0) := by
  refine own_body own_pn17 ?_
  intro p e s m below meth c T0 X0 hx hby hml hown hnm hret hlk hZ e0
  have N0 := Fr.nil n0
  refine own_st (fun t k => castTop (own_ef_rm_gc3_2 m a1) k) ?_
  show own_Go p.tables e below (T0.setTop (mkF m 0 #[.val (.ref a1), .val (.int (2 : Int32))] [])) _
  have Z0 := own_Z0 O_0
  refine own_getS X0 hx hby own_d17_0 (pc' := 3) rfl hZ hown (host := "") (Or.inl (own_t hw 85 rfl)) Via.refl e0 (S_A.ext (O_0).2) ?_
  intro T71 X71 e71
  refine own_ifYes X71 hx hby own_d17_3 (pc' := 28) (by decide) (by decide) ?_
  refine own_iloadN X71 hx hby own_d17_28 (pc' := 29) rfl rfl ?_
  refine own_iconst X71 hx hby own_d17_29 (pc' := 30) rfl (z := (1 : Int32)) (by decide) ?_
  refine own_ishl X71 hx hby own_d17_30 (pc' := 31) rfl (z := (4 : Int32)) (by decide) ?_
  refine own_istoreN X71 hx hby own_d17_31 (pc' := 32) rfl (Ls' := #[.val (.ref a1), .val (.int (4 : Int32))]) rfl ?_
  refine own_aloadN X71 hx hby own_d17_32 (pc' := 33) rfl rfl rfl ?_
  refine own_iloadN X71 hx hby own_d17_33 (pc' := 34) rfl rfl ?_
  refine own_iinc X71 hx hby own_d17_34 (pc' := 37) rfl rfl (z := (5 : Int32)) (by decide) (Ls' := #[.val (.ref a1), .val (.int (5 : Int32))]) rfl ?_
  refine own_baload X71 hx hby own_d17_37 (pc' := 38) rfl hZ e71 (A_1) (by decide) (v := (.int (lo8 c2))) rfl ?_
  refine own_sipush X71 hx hby own_d17_38 (pc' := 41) rfl (z := (255 : Int32)) (by decide) ?_
  refine own_iand X71 hx hby own_d17_41 (pc' := 42) rfl rfl ?_
  refine own_getS X71 hx hby own_d17_42 (pc' := 45) rfl hZ hown (host := "") (Or.inl (own_t hw 86 rfl)) Via.refl e71 (S_H.ext (O_0).2) ?_
  intro T72 X72 e72
  refine own_ishl X72 hx hby own_d17_45 (pc' := 46) rfl rfl ?_
  refine own_aloadN X72 hx hby own_d17_46 (pc' := 47) rfl rfl rfl ?_
  refine own_iloadN X72 hx hby own_d17_47 (pc' := 48) rfl rfl ?_
  refine own_baload X72 hx hby own_d17_48 (pc' := 49) rfl hZ e72 (A_1) (by decide) (v := (.int (hi8 c2))) rfl ?_
  refine own_sipush X72 hx hby own_d17_49 (pc' := 52) rfl (z := (255 : Int32)) (by decide) ?_
  refine own_iand X72 hx hby own_d17_52 (pc' := 53) rfl rfl ?_
  refine own_getS X72 hx hby own_d17_53 (pc' := 56) rfl hZ hown (host := "") (Or.inl (own_t hw 87 rfl)) Via.refl e72 (S_L.ext (O_0).2) ?_
  intro T73 X73 e73
  refine own_ishl X73 hx hby own_d17_56 (pc' := 57) rfl rfl ?_
  refine own_ior X73 hx hby own_d17_57 (pc' := 58) rfl rfl ?_
  refine own_i2c X73 hx hby own_d17_58 (pc' := 59) rfl rfl ?_
  exact own_retZ (t := .char) X73 hx hret (by simp) (hb hby own_d17_59) hlk (by decide) (by decide) ⟨congrArg (fun z => some (Value.int z)) (own_pair hb2), N0, e73⟩
theorem own_d18_0 : decode jdk_52_method_15_code 0 = .ok (.iload_n 1, 1) := by decide +kernel
theorem own_d18_1 : decode jdk_52_method_15_code 1 = .ok (.aload_n 0, 1) := by decide +kernel
theorem own_d18_2 : decode jdk_52_method_15_code 2 = .ok (.arraylength, 1) := by decide +kernel
theorem own_d18_3 : decode jdk_52_method_15_code 3 = .ok (.isub, 1) := by decide +kernel
theorem own_d18_4 : decode jdk_52_method_15_code 4 = .ok (.bipush 31, 2) := by decide +kernel
theorem own_d18_6 : decode jdk_52_method_15_code 6 = .ok (.iushr, 1) := by decide +kernel
theorem own_d18_7 : decode jdk_52_method_15_code 7 = .ok (.i2b, 1) := by decide +kernel
theorem own_d18_8 : decode jdk_52_method_15_code 8 = .ok (.ireturn, 1) := by decide +kernel
theorem own_ef_rm_cf1_0 (m : MethodId) (a1 : Addr) : entryFrame m #[(.ref a1), (.int (1 : Int32))] 2 = mkF m 0 #[.val (.ref a1), .val (.int (1 : Int32))] [] := by first | (simp [entryFrame, mkF, argsToLocals, Value.category]; done) | rfl
def Qrm_cf1_0 (Z : State) (a1 : Addr) (c0 : Int32) (h0 : Heap) (n0 : Nat) (v : Option Value) (h : Heap) (L : List Loc) : Prop := v = some (.int (0 : Int32)) ∧ Fr n0 L ∧ h = h0
set_option maxRecDepth 65536 in
set_option maxHeartbeats 40000000 in
theorem rm_cf1_0 (l : Launch) (Z : State) (a0 : Array Value) (hw : ∀ d ∈ tables_1, d.before a0 Z = true) (ws : List Jvm.Cond) (a1 : Addr) (c0 : Int32) (h0 : Heap) (n0 : Nat) (O_0 : Old Z n0 h0) (A_1 : own_Ar Z h0 a1 .byte [(.int (lo8 c0))]) :
    own_Met l (⟨"java/lang/StringUTF16", "coderFromArrayLen", "([BI)B"⟩ : MethodName) jdk_52_method_15_code 2 (some .byte) ws ({ frames := 0, cells := 0, slots := 0, locals := 0 } : Room) #[(.ref a1), (.int (1 : Int32))] Z h0 (Qrm_cf1_0 Z a1 c0 h0 n0) := by
  refine own_body own_pn18 ?_
  intro p e s m below meth c T0 X0 hx hby hml hown hnm hret hlk hZ e0
  have N0 := Fr.nil n0
  refine own_st (fun t k => castTop (own_ef_rm_cf1_0 m a1) k) ?_
  show own_Go p.tables e below (T0.setTop (mkF m 0 #[.val (.ref a1), .val (.int (1 : Int32))] [])) _
  have Z0 := own_Z0 O_0
  refine own_iloadN X0 hx hby own_d18_0 (pc' := 1) rfl rfl ?_
  refine own_aloadN X0 hx hby own_d18_1 (pc' := 2) rfl rfl rfl ?_
  refine own_len X0 hx hby own_d18_2 (pc' := 3) rfl hZ e0 (A_1) (n := (1 : Int32)) (by rfl) ?_
  refine own_isub X0 hx hby own_d18_3 (pc' := 4) rfl (z := (0 : Int32)) (by decide) ?_
  refine own_bipush X0 hx hby own_d18_4 (pc' := 6) rfl (z := (31 : Int32)) (by decide) ?_
  refine own_iushr X0 hx hby own_d18_6 (pc' := 7) rfl (z := (0 : Int32)) (by decide) ?_
  refine own_i2b X0 hx hby own_d18_7 (pc' := 8) rfl (z := (0 : Int32)) (by decide) ?_
  exact own_retZ (t := .byte) X0 hx hret (by simp) (hb hby own_d18_8) hlk (by decide) (by decide) ⟨congrArg (fun z => some (Value.int z)) (own_nb0), N0, e0⟩
theorem own_ef_rm_cf1_1 (m : MethodId) (a1 : Addr) : entryFrame m #[(.ref a1), (.int (1 : Int32))] 2 = mkF m 0 #[.val (.ref a1), .val (.int (1 : Int32))] [] := by first | (simp [entryFrame, mkF, argsToLocals, Value.category]; done) | rfl
def Qrm_cf1_1 (Z : State) (a1 : Addr) (c0 : Int32) (h0 : Heap) (n0 : Nat) (v : Option Value) (h : Heap) (L : List Loc) : Prop := v = some (.int (1 : Int32)) ∧ Fr n0 L ∧ h = h0
set_option maxRecDepth 65536 in
set_option maxHeartbeats 40000000 in
theorem rm_cf1_1 (l : Launch) (Z : State) (a0 : Array Value) (hw : ∀ d ∈ tables_1, d.before a0 Z = true) (ws : List Jvm.Cond) (a1 : Addr) (c0 : Int32) (h0 : Heap) (n0 : Nat) (O_0 : Old Z n0 h0) (A_1 : own_Ar Z h0 a1 .byte [(.int (lo8 c0)), (.int (hi8 c0))]) :
    own_Met l (⟨"java/lang/StringUTF16", "coderFromArrayLen", "([BI)B"⟩ : MethodName) jdk_52_method_15_code 2 (some .byte) ws ({ frames := 0, cells := 0, slots := 0, locals := 0 } : Room) #[(.ref a1), (.int (1 : Int32))] Z h0 (Qrm_cf1_1 Z a1 c0 h0 n0) := by
  refine own_body own_pn18 ?_
  intro p e s m below meth c T0 X0 hx hby hml hown hnm hret hlk hZ e0
  have N0 := Fr.nil n0
  refine own_st (fun t k => castTop (own_ef_rm_cf1_1 m a1) k) ?_
  show own_Go p.tables e below (T0.setTop (mkF m 0 #[.val (.ref a1), .val (.int (1 : Int32))] [])) _
  have Z0 := own_Z0 O_0
  refine own_iloadN X0 hx hby own_d18_0 (pc' := 1) rfl rfl ?_
  refine own_aloadN X0 hx hby own_d18_1 (pc' := 2) rfl rfl rfl ?_
  refine own_len X0 hx hby own_d18_2 (pc' := 3) rfl hZ e0 (A_1) (n := (2 : Int32)) (by rfl) ?_
  refine own_isub X0 hx hby own_d18_3 (pc' := 4) rfl (z := (-1 : Int32)) (by decide) ?_
  refine own_bipush X0 hx hby own_d18_4 (pc' := 6) rfl (z := (31 : Int32)) (by decide) ?_
  refine own_iushr X0 hx hby own_d18_6 (pc' := 7) rfl (z := (1 : Int32)) (by decide) ?_
  refine own_i2b X0 hx hby own_d18_7 (pc' := 8) rfl (z := (1 : Int32)) (by decide) ?_
  exact own_retZ (t := .byte) X0 hx hret (by simp) (hb hby own_d18_8) hlk (by decide) (by decide) ⟨congrArg (fun z => some (Value.int z)) (own_nb1), N0, e0⟩
theorem own_pd3 : parseMethodDescriptor "([CI[BII)I" = some ⟨[(.array .char), .int, (.array .byte), .int, .int], some .int⟩ := by decide +kernel
theorem own_pd4 : parseMethodDescriptor "([CII)[B" = some ⟨[(.array .char), .int, .int], some (.array .byte)⟩ := by decide +kernel
theorem own_pd5 : parseMethodDescriptor "([BI)C" = some ⟨[(.array .byte), .int], some .char⟩ := by decide +kernel
theorem own_d11_0 : decode jdk_52_method_16_code 0 = .ok (.iload_n 2, 1) := by decide +kernel
theorem own_d11_1 : decode jdk_52_method_16_code 1 = .ok (.newarray .byte, 2) := by decide +kernel
theorem own_d11_3 : decode jdk_52_method_16_code 3 = .ok (.astore_n 3, 1) := by decide +kernel
theorem own_d11_4 : decode jdk_52_method_16_code 4 = .ok (.aload_n 0, 1) := by decide +kernel
theorem own_d11_5 : decode jdk_52_method_16_code 5 = .ok (.iload_n 1, 1) := by decide +kernel
theorem own_d11_6 : decode jdk_52_method_16_code 6 = .ok (.aload_n 3, 1) := by decide +kernel
theorem own_d11_7 : decode jdk_52_method_16_code 7 = .ok (.iconst 0, 1) := by decide +kernel
theorem own_d11_8 : decode jdk_52_method_16_code 8 = .ok (.iload_n 2, 1) := by decide +kernel
theorem own_d11_9 : decode jdk_52_method_16_code 9 = .ok (.invokestatic 115, 3) := by decide +kernel
theorem own_d11_12 : decode jdk_52_method_16_code 12 = .ok (.istore 4, 2) := by decide +kernel
theorem own_d11_14 : decode jdk_52_method_16_code 14 = .ok (.iload 4, 2) := by decide +kernel
theorem own_d11_16 : decode jdk_52_method_16_code 16 = .ok (.iload_n 2, 1) := by decide +kernel
theorem own_d11_17 : decode jdk_52_method_16_code 17 = .ok (.if_icmp .eq 40, 3) := by decide +kernel
theorem own_d11_20 : decode jdk_52_method_16_code 20 = .ok (.aload_n 0, 1) := by decide +kernel
theorem own_d11_21 : decode jdk_52_method_16_code 21 = .ok (.iload_n 1, 1) := by decide +kernel
theorem own_d11_22 : decode jdk_52_method_16_code 22 = .ok (.iload_n 2, 1) := by decide +kernel
theorem own_d11_23 : decode jdk_52_method_16_code 23 = .ok (.invokestatic 119, 3) := by decide +kernel
theorem own_d11_26 : decode jdk_52_method_16_code 26 = .ok (.astore 5, 2) := by decide +kernel
theorem own_d11_28 : decode jdk_52_method_16_code 28 = .ok (.aload 5, 2) := by decide +kernel
theorem own_d11_30 : decode jdk_52_method_16_code 30 = .ok (.iload 4, 2) := by decide +kernel
theorem own_d11_32 : decode jdk_52_method_16_code 32 = .ok (.invokestatic 71, 3) := by decide +kernel
theorem own_d11_35 : decode jdk_52_method_16_code 35 = .ok (.sipush 255, 3) := by decide +kernel
theorem own_d11_38 : decode jdk_52_method_16_code 38 = .ok (.if_icmp .gt 16, 3) := by decide +kernel
theorem own_d11_54 : decode jdk_52_method_16_code 54 = .ok (.aload 5, 2) := by decide +kernel
theorem own_d11_56 : decode jdk_52_method_16_code 56 = .ok (.areturn, 1) := by decide +kernel
theorem own_ef_rm_c3_1_0 (m : MethodId) (a1 : Addr) : entryFrame m #[(.ref a1), (.int (0 : Int32)), (.int (1 : Int32))] 6 = mkF m 0 #[.val (.ref a1), .val (.int (0 : Int32)), .val (.int (1 : Int32)), .unset, .unset, .unset] [] := by first | (simp [entryFrame, mkF, argsToLocals, Value.category]; done) | rfl
def Qrm_c3_1_0 (Z : State) (a1 : Addr) (c0 : Int32) (h0 : Heap) (n0 : Nat) (v : Option Value) (h : Heap) (L : List Loc) : Prop := ∃ b, v = some (.ref b) ∧ Fr n0 L ∧ Keep h0 h [] ∧ h0.size ≤ b ∧ own_Ar Z h b .byte [(.int (lo8 c0)), (.int (hi8 c0))]
set_option maxRecDepth 65536 in
set_option maxHeartbeats 40000000 in
theorem rm_c3_1_0 (l : Launch) (Z : State) (a0 : Array Value) (hw : ∀ d ∈ tables_1, d.before a0 Z = true) (ws : List Jvm.Cond) (a1 : Addr) (c0 : Int32) (h0 : Heap) (n0 : Nat) (O_0 : Old Z n0 h0) (S_A : Sta Z Z.heap "java/lang/StringUTF16" "$assertionsDisabled" "Z" (.int (1 : Int32))) (S_H : Sta Z Z.heap "java/lang/StringUTF16" "HI_BYTE_SHIFT" "I" (.int (0 : Int32))) (S_L : Sta Z Z.heap "java/lang/StringUTF16" "LO_BYTE_SHIFT" "I" (.int (8 : Int32))) (A_1 : own_Ar Z h0 a1 .char [(.int c0)]) (hb0 : own_W c0) (hk0 : (255 : Int32) < c0) :
    own_Met l (⟨"java/lang/StringUTF16", "compress", "([CII)[B"⟩ : MethodName) jdk_52_method_16_code 6 (some (.array .byte)) ws ({ frames := 3, cells := 2, slots := 3, locals := 40 } : Room) #[(.ref a1), (.int (0 : Int32)), (.int (1 : Int32))] Z h0 (Qrm_c3_1_0 Z a1 c0 h0 n0) := by
  refine own_body own_pn11 ?_
  intro p e s m below meth c T0 X0 hx hby hml hown hnm hret hlk hZ e0
  have N0 := Fr.nil n0
  refine own_st (fun t k => castTop (own_ef_rm_c3_1_0 m a1) k) ?_
  show own_Go p.tables e below (T0.setTop (mkF m 0 #[.val (.ref a1), .val (.int (0 : Int32)), .val (.int (1 : Int32)), .unset, .unset, .unset] [])) _
  have Z0 := own_Z0 O_0
  refine own_iloadN X0 hx hby own_d11_0 (pc' := 1) rfl rfl ?_
  refine own_newA X0 hx hby own_d11_1 (pc' := 3) rfl hZ (own_t hw 16 rfl) e0 (by decide) (cap := 1) (by decide) (by decide) (by decide) (by decide) (vs := [(.int (0 : Int32))]) (by rfl) ?_
  intro T74 h74 b74 X74 e74 g74 E74 A74
  have l74 : n0 ≤ b74 := (Nat.le_trans Z0 (Nat.le_trans (Nat.le_refl _) (Nat.le_of_eq g74.symm)))
  refine own_astoreN X74 hx hby own_d11_3 (pc' := 4) rfl rfl (Ls' := #[.val (.ref a1), .val (.int (0 : Int32)), .val (.int (1 : Int32)), .val (.ref b74), .unset, .unset]) rfl ?_
  refine own_aloadN X74 hx hby own_d11_4 (pc' := 5) rfl rfl rfl ?_
  refine own_iloadN X74 hx hby own_d11_5 (pc' := 6) rfl rfl ?_
  refine own_aloadN X74 hx hby own_d11_6 (pc' := 7) rfl rfl rfl ?_
  refine own_iconst X74 hx hby own_d11_7 (pc' := 8) rfl (z := (0 : Int32)) (by decide) ?_
  refine own_iloadN X74 hx hby own_d11_8 (pc' := 9) rfl rfl ?_
  refine own_callS X74 hx hZ (rm_c5_1_0 l Z a0 hw [] a1 b74 c0 h74 n0 ((O_0.ext E74)) ((A_1.ext E74)) (A74) l74 (Nat.ne_of_lt (Nat.lt_of_lt_of_le (A_1).lt (Nat.le_of_eq g74.symm))) hk0) hown (own_t hw 69 rfl) (own_t hw 70 rfl) (own_t hw 67 rfl) (own_t hw 71 rfl) (by decide) (W := 0) (by decide) (by decide) (by rw [hml]; rfl) (argsL := [(.ref a1), (.int (0 : Int32)), (.ref b74), (.int (0 : Int32)), (.int (1 : Int32))]) (rest := []) rfl (lenOf own_pd3 rfl) rfl (Nat.le_of_eq rfl) (hb hby own_d11_9) e74 (by decide) (by decide) ?_
  intro v75 T75 L75 X75 hQ75
  obtain ⟨hv75, N75q, K75, A75⟩ := hQ75
  subst hv75
  have N75 := Fr.app N0 N75q
  show own_Go p.tables e below (T75.setTop (mkF m 12 #[.val (.ref a1), .val (.int (0 : Int32)), .val (.int (1 : Int32)), .val (.ref b74), .unset, .unset] [(.int (0 : Int32))])) _
  refine own_istore X75 hx hby own_d11_12 (pc' := 14) rfl (Ls' := #[.val (.ref a1), .val (.int (0 : Int32)), .val (.int (1 : Int32)), .val (.ref b74), .val (.int (0 : Int32)), .unset]) rfl ?_
  refine own_iload X75 hx hby own_d11_14 (pc' := 16) rfl rfl ?_
  refine own_iloadN X75 hx hby own_d11_16 (pc' := 17) rfl rfl ?_
  refine own_icmpNo X75 hx hby own_d11_17 (pc' := 20) rfl (by decide) ?_
  refine own_aloadN X75 hx hby own_d11_20 (pc' := 21) rfl rfl rfl ?_
  refine own_iloadN X75 hx hby own_d11_21 (pc' := 22) rfl rfl ?_
  refine own_iloadN X75 hx hby own_d11_22 (pc' := 23) rfl rfl ?_
  refine own_callS X75 hx hZ (rm_tb1 l Z a0 hw [] a1 c0 T75.heap n0 (((O_0.ext E74).keep K75 (allS l74 all0))) S_A S_H S_L (((A_1.ext E74).keep K75 (ninS (Nat.ne_of_lt (Nat.lt_of_lt_of_le (A_1).lt (Nat.le_of_eq g74.symm))) nin0)))) hown (own_t hw 72 rfl) (own_t hw 73 rfl) (own_t hw 67 rfl) (own_t hw 74 rfl) (by decide) (W := 0) (by decide) (by decide) (by rw [hml]; rfl) (argsL := [(.ref a1), (.int (0 : Int32)), (.int (1 : Int32))]) (rest := []) rfl (lenOf own_pd4 rfl) rfl (Nat.le_of_eq rfl) (hb hby own_d11_23) rfl (by decide) (by decide) ?_
  intro v76 T76 L76 X76 hQ76
  obtain ⟨b76, hv76, N76q, K76, g76, A76⟩ := hQ76
  subst hv76
  have N76 := Fr.app N75 N76q
  show own_Go p.tables e below (T76.setTop (mkF m 26 #[.val (.ref a1), .val (.int (0 : Int32)), .val (.int (1 : Int32)), .val (.ref b74), .val (.int (0 : Int32)), .unset] [(.ref b76)])) _
  refine own_astore X76 hx hby own_d11_26 (pc' := 28) rfl rfl (Ls' := #[.val (.ref a1), .val (.int (0 : Int32)), .val (.int (1 : Int32)), .val (.ref b74), .val (.int (0 : Int32)), .val (.ref b76)]) rfl ?_
  refine own_aload X76 hx hby own_d11_28 (pc' := 30) rfl rfl rfl ?_
  refine own_iload X76 hx hby own_d11_30 (pc' := 32) rfl rfl ?_
  refine own_callS X76 hx hZ (rm_gc1_0 l Z a0 hw [] b76 c0 T76.heap n0 ((((O_0.ext E74).keep K75 (allS l74 all0)).keep K76 all0)) S_A S_H S_L (A76) hb0) hown (own_t hw 88 rfl) (own_t hw 89 rfl) (own_t hw 67 rfl) (own_t hw 90 rfl) (by decide) (W := 0) (by decide) (by decide) (by rw [hml]; rfl) (argsL := [(.ref b76), (.int (0 : Int32))]) (rest := []) rfl (lenOf own_pd5 rfl) rfl (Nat.le_of_eq rfl) (hb hby own_d11_32) rfl (by decide) (by decide) ?_
  intro v77 T77 L77 X77 hQ77
  obtain ⟨hv77, N77q, e77⟩ := hQ77
  subst hv77
  have N77 := Fr.app N76 N77q
  show own_Go p.tables e below (T77.setTop (mkF m 35 #[.val (.ref a1), .val (.int (0 : Int32)), .val (.int (1 : Int32)), .val (.ref b74), .val (.int (0 : Int32)), .val (.ref b76)] [(.int c0)])) _
  refine own_sipush X77 hx hby own_d11_35 (pc' := 38) rfl (z := (255 : Int32)) (by decide) ?_
  refine own_icmpYes X77 hx hby own_d11_38 (pc' := 54) (by decide) (tlt hk0).2.2.1 ?_
  refine own_aload X77 hx hby own_d11_54 (pc' := 56) rfl rfl rfl ?_
  exact own_retA X77 hx hret rfl rfl (hb hby own_d11_56) hlk (by decide) (by decide) ⟨b76, rfl, N77, by rw [show T77.heap = _ from e77]; exact ⟨((((Keep.refl h0 []).ext E74).trans K75 (allS (Or.inr (Nat.le_trans (Nat.le_refl _) (Nat.le_of_eq g74.symm))) all0)).trans K76 all0), (Nat.le_trans (Nat.le_trans (Nat.le_trans (Nat.le_refl _) E74.1) K75.1) g76), A76⟩⟩
theorem own_d11_57 : decode jdk_52_method_16_code 57 = .ok (.aload_n 3, 1) := by decide +kernel
theorem own_d11_58 : decode jdk_52_method_16_code 58 = .ok (.areturn, 1) := by decide +kernel
theorem own_ef_rm_c3_1_1 (m : MethodId) (a1 : Addr) : entryFrame m #[(.ref a1), (.int (0 : Int32)), (.int (1 : Int32))] 6 = mkF m 0 #[.val (.ref a1), .val (.int (0 : Int32)), .val (.int (1 : Int32)), .unset, .unset, .unset] [] := by first | (simp [entryFrame, mkF, argsToLocals, Value.category]; done) | rfl
def Qrm_c3_1_1 (Z : State) (a1 : Addr) (c0 : Int32) (h0 : Heap) (n0 : Nat) (v : Option Value) (h : Heap) (L : List Loc) : Prop := ∃ b, v = some (.ref b) ∧ Fr n0 L ∧ Keep h0 h [] ∧ h0.size ≤ b ∧ own_Ar Z h b .byte [(.int (lo8 c0))]
set_option maxRecDepth 65536 in
set_option maxHeartbeats 40000000 in
theorem rm_c3_1_1 (l : Launch) (Z : State) (a0 : Array Value) (hw : ∀ d ∈ tables_1, d.before a0 Z = true) (ws : List Jvm.Cond) (a1 : Addr) (c0 : Int32) (h0 : Heap) (n0 : Nat) (O_0 : Old Z n0 h0) (S_A : Sta Z Z.heap "java/lang/StringUTF16" "$assertionsDisabled" "Z" (.int (1 : Int32))) (S_H : Sta Z Z.heap "java/lang/StringUTF16" "HI_BYTE_SHIFT" "I" (.int (0 : Int32))) (S_L : Sta Z Z.heap "java/lang/StringUTF16" "LO_BYTE_SHIFT" "I" (.int (8 : Int32))) (A_1 : own_Ar Z h0 a1 .char [(.int c0)]) (hk0 : ¬ (255 : Int32) < c0) :
    own_Met l (⟨"java/lang/StringUTF16", "compress", "([CII)[B"⟩ : MethodName) jdk_52_method_16_code 6 (some (.array .byte)) ws ({ frames := 3, cells := 2, slots := 3, locals := 40 } : Room) #[(.ref a1), (.int (0 : Int32)), (.int (1 : Int32))] Z h0 (Qrm_c3_1_1 Z a1 c0 h0 n0) := by
  refine own_body own_pn11 ?_
  intro p e s m below meth c T0 X0 hx hby hml hown hnm hret hlk hZ e0
  have N0 := Fr.nil n0
  refine own_st (fun t k => castTop (own_ef_rm_c3_1_1 m a1) k) ?_
  show own_Go p.tables e below (T0.setTop (mkF m 0 #[.val (.ref a1), .val (.int (0 : Int32)), .val (.int (1 : Int32)), .unset, .unset, .unset] [])) _
  have Z0 := own_Z0 O_0
  refine own_iloadN X0 hx hby own_d11_0 (pc' := 1) rfl rfl ?_
  refine own_newA X0 hx hby own_d11_1 (pc' := 3) rfl hZ (own_t hw 16 rfl) e0 (by decide) (cap := 1) (by decide) (by decide) (by decide) (by decide) (vs := [(.int (0 : Int32))]) (by rfl) ?_
  intro T78 h78 b78 X78 e78 g78 E78 A78
  have l78 : n0 ≤ b78 := (Nat.le_trans Z0 (Nat.le_trans (Nat.le_refl _) (Nat.le_of_eq g78.symm)))
  refine own_astoreN X78 hx hby own_d11_3 (pc' := 4) rfl rfl (Ls' := #[.val (.ref a1), .val (.int (0 : Int32)), .val (.int (1 : Int32)), .val (.ref b78), .unset, .unset]) rfl ?_
  refine own_aloadN X78 hx hby own_d11_4 (pc' := 5) rfl rfl rfl ?_
  refine own_iloadN X78 hx hby own_d11_5 (pc' := 6) rfl rfl ?_
  refine own_aloadN X78 hx hby own_d11_6 (pc' := 7) rfl rfl rfl ?_
  refine own_iconst X78 hx hby own_d11_7 (pc' := 8) rfl (z := (0 : Int32)) (by decide) ?_
  refine own_iloadN X78 hx hby own_d11_8 (pc' := 9) rfl rfl ?_
  refine own_callS X78 hx hZ (rm_c5_1_1 l Z a0 hw [] a1 b78 c0 h78 n0 ((O_0.ext E78)) ((A_1.ext E78)) (A78) l78 (Nat.ne_of_lt (Nat.lt_of_lt_of_le (A_1).lt (Nat.le_of_eq g78.symm))) hk0) hown (own_t hw 69 rfl) (own_t hw 70 rfl) (own_t hw 67 rfl) (own_t hw 71 rfl) (by decide) (W := 0) (by decide) (by decide) (by rw [hml]; rfl) (argsL := [(.ref a1), (.int (0 : Int32)), (.ref b78), (.int (0 : Int32)), (.int (1 : Int32))]) (rest := []) rfl (lenOf own_pd3 rfl) rfl (Nat.le_of_eq rfl) (hb hby own_d11_9) e78 (by decide) (by decide) ?_
  intro v79 T79 L79 X79 hQ79
  obtain ⟨hv79, N79q, K79, A79⟩ := hQ79
  subst hv79
  have N79 := Fr.app N0 N79q
  show own_Go p.tables e below (T79.setTop (mkF m 12 #[.val (.ref a1), .val (.int (0 : Int32)), .val (.int (1 : Int32)), .val (.ref b78), .unset, .unset] [(.int (1 : Int32))])) _
  refine own_istore X79 hx hby own_d11_12 (pc' := 14) rfl (Ls' := #[.val (.ref a1), .val (.int (0 : Int32)), .val (.int (1 : Int32)), .val (.ref b78), .val (.int (1 : Int32)), .unset]) rfl ?_
  refine own_iload X79 hx hby own_d11_14 (pc' := 16) rfl rfl ?_
  refine own_iloadN X79 hx hby own_d11_16 (pc' := 17) rfl rfl ?_
  refine own_icmpYes X79 hx hby own_d11_17 (pc' := 57) (by decide) (by decide) ?_
  refine own_aloadN X79 hx hby own_d11_57 (pc' := 58) rfl rfl rfl ?_
  exact own_retA X79 hx hret rfl rfl (hb hby own_d11_58) hlk (by decide) (by decide) ⟨b78, rfl, N79, by rw [show T79.heap = _ from rfl]; exact ⟨(((Keep.refl h0 []).ext E78).trans K79 (allS (Or.inr (Nat.le_trans (Nat.le_refl _) (Nat.le_of_eq g78.symm))) all0)), (Nat.le_trans (Nat.le_refl _) (Nat.le_of_eq g78.symm)), A79⟩⟩
theorem own_ef_rm_cf2_0 (m : MethodId) (a1 : Addr) : entryFrame m #[(.ref a1), (.int (2 : Int32))] 2 = mkF m 0 #[.val (.ref a1), .val (.int (2 : Int32))] [] := by first | (simp [entryFrame, mkF, argsToLocals, Value.category]; done) | rfl
def Qrm_cf2_0 (Z : State) (a1 : Addr) (c0 : Int32) (c1 : Int32) (h0 : Heap) (n0 : Nat) (v : Option Value) (h : Heap) (L : List Loc) : Prop := v = some (.int (0 : Int32)) ∧ Fr n0 L ∧ h = h0
set_option maxRecDepth 65536 in
set_option maxHeartbeats 40000000 in
theorem rm_cf2_0 (l : Launch) (Z : State) (a0 : Array Value) (hw : ∀ d ∈ tables_1, d.before a0 Z = true) (ws : List Jvm.Cond) (a1 : Addr) (c0 : Int32) (c1 : Int32) (h0 : Heap) (n0 : Nat) (O_0 : Old Z n0 h0) (A_1 : own_Ar Z h0 a1 .byte [(.int (lo8 c0)), (.int (lo8 c1))]) :
    own_Met l (⟨"java/lang/StringUTF16", "coderFromArrayLen", "([BI)B"⟩ : MethodName) jdk_52_method_15_code 2 (some .byte) ws ({ frames := 0, cells := 0, slots := 0, locals := 0 } : Room) #[(.ref a1), (.int (2 : Int32))] Z h0 (Qrm_cf2_0 Z a1 c0 c1 h0 n0) := by
  refine own_body own_pn18 ?_
  intro p e s m below meth c T0 X0 hx hby hml hown hnm hret hlk hZ e0
  have N0 := Fr.nil n0
  refine own_st (fun t k => castTop (own_ef_rm_cf2_0 m a1) k) ?_
  show own_Go p.tables e below (T0.setTop (mkF m 0 #[.val (.ref a1), .val (.int (2 : Int32))] [])) _
  have Z0 := own_Z0 O_0
  refine own_iloadN X0 hx hby own_d18_0 (pc' := 1) rfl rfl ?_
  refine own_aloadN X0 hx hby own_d18_1 (pc' := 2) rfl rfl rfl ?_
  refine own_len X0 hx hby own_d18_2 (pc' := 3) rfl hZ e0 (A_1) (n := (2 : Int32)) (by rfl) ?_
  refine own_isub X0 hx hby own_d18_3 (pc' := 4) rfl (z := (0 : Int32)) (by decide) ?_
  refine own_bipush X0 hx hby own_d18_4 (pc' := 6) rfl (z := (31 : Int32)) (by decide) ?_
  refine own_iushr X0 hx hby own_d18_6 (pc' := 7) rfl (z := (0 : Int32)) (by decide) ?_
  refine own_i2b X0 hx hby own_d18_7 (pc' := 8) rfl (z := (0 : Int32)) (by decide) ?_
  exact own_retZ (t := .byte) X0 hx hret (by simp) (hb hby own_d18_8) hlk (by decide) (by decide) ⟨congrArg (fun z => some (Value.int z)) (own_nb0), N0, e0⟩
theorem own_ef_rm_cf2_1 (m : MethodId) (a1 : Addr) : entryFrame m #[(.ref a1), (.int (2 : Int32))] 2 = mkF m 0 #[.val (.ref a1), .val (.int (2 : Int32))] [] := by first | (simp [entryFrame, mkF, argsToLocals, Value.category]; done) | rfl
def Qrm_cf2_1 (Z : State) (a1 : Addr) (c0 : Int32) (c1 : Int32) (h0 : Heap) (n0 : Nat) (v : Option Value) (h : Heap) (L : List Loc) : Prop := v = some (.int (1 : Int32)) ∧ Fr n0 L ∧ h = h0
set_option maxRecDepth 65536 in
set_option maxHeartbeats 40000000 in
theorem rm_cf2_1 (l : Launch) (Z : State) (a0 : Array Value) (hw : ∀ d ∈ tables_1, d.before a0 Z = true) (ws : List Jvm.Cond) (a1 : Addr) (c0 : Int32) (c1 : Int32) (h0 : Heap) (n0 : Nat) (O_0 : Old Z n0 h0) (A_1 : own_Ar Z h0 a1 .byte [(.int (lo8 c0)), (.int (hi8 c0)), (.int (lo8 c1)), (.int (hi8 c1))]) :
    own_Met l (⟨"java/lang/StringUTF16", "coderFromArrayLen", "([BI)B"⟩ : MethodName) jdk_52_method_15_code 2 (some .byte) ws ({ frames := 0, cells := 0, slots := 0, locals := 0 } : Room) #[(.ref a1), (.int (2 : Int32))] Z h0 (Qrm_cf2_1 Z a1 c0 c1 h0 n0) := by
  refine own_body own_pn18 ?_
  intro p e s m below meth c T0 X0 hx hby hml hown hnm hret hlk hZ e0
  have N0 := Fr.nil n0
  refine own_st (fun t k => castTop (own_ef_rm_cf2_1 m a1) k) ?_
  show own_Go p.tables e below (T0.setTop (mkF m 0 #[.val (.ref a1), .val (.int (2 : Int32))] [])) _
  have Z0 := own_Z0 O_0
  refine own_iloadN X0 hx hby own_d18_0 (pc' := 1) rfl rfl ?_
  refine own_aloadN X0 hx hby own_d18_1 (pc' := 2) rfl rfl rfl ?_
  refine own_len X0 hx hby own_d18_2 (pc' := 3) rfl hZ e0 (A_1) (n := (4 : Int32)) (by rfl) ?_
  refine own_isub X0 hx hby own_d18_3 (pc' := 4) rfl (z := (-2 : Int32)) (by decide) ?_
  refine own_bipush X0 hx hby own_d18_4 (pc' := 6) rfl (z := (31 : Int32)) (by decide) ?_
  refine own_iushr X0 hx hby own_d18_6 (pc' := 7) rfl (z := (1 : Int32)) (by decide) ?_
  refine own_i2b X0 hx hby own_d18_7 (pc' := 8) rfl (z := (1 : Int32)) (by decide) ?_
  exact own_retZ (t := .byte) X0 hx hret (by simp) (hb hby own_d18_8) hlk (by decide) (by decide) ⟨congrArg (fun z => some (Value.int z)) (own_nb1), N0, e0⟩
theorem own_ef_rm_c3_2_0 (m : MethodId) (a1 : Addr) : entryFrame m #[(.ref a1), (.int (0 : Int32)), (.int (2 : Int32))] 6 = mkF m 0 #[.val (.ref a1), .val (.int (0 : Int32)), .val (.int (2 : Int32)), .unset, .unset, .unset] [] := by first | (simp [entryFrame, mkF, argsToLocals, Value.category]; done) | rfl
def Qrm_c3_2_0 (Z : State) (a1 : Addr) (c0 : Int32) (c1 : Int32) (h0 : Heap) (n0 : Nat) (v : Option Value) (h : Heap) (L : List Loc) : Prop := ∃ b, v = some (.ref b) ∧ Fr n0 L ∧ Keep h0 h [] ∧ h0.size ≤ b ∧ own_Ar Z h b .byte [(.int (lo8 c0)), (.int (hi8 c0)), (.int (lo8 c1)), (.int (hi8 c1))]
set_option maxRecDepth 65536 in
set_option maxHeartbeats 40000000 in
theorem rm_c3_2_0 (l : Launch) (Z : State) (a0 : Array Value) (hw : ∀ d ∈ tables_1, d.before a0 Z = true) (ws : List Jvm.Cond) (a1 : Addr) (c0 : Int32) (c1 : Int32) (h0 : Heap) (n0 : Nat) (O_0 : Old Z n0 h0) (S_A : Sta Z Z.heap "java/lang/StringUTF16" "$assertionsDisabled" "Z" (.int (1 : Int32))) (S_H : Sta Z Z.heap "java/lang/StringUTF16" "HI_BYTE_SHIFT" "I" (.int (0 : Int32))) (S_L : Sta Z Z.heap "java/lang/StringUTF16" "LO_BYTE_SHIFT" "I" (.int (8 : Int32))) (A_1 : own_Ar Z h0 a1 .char [(.int c0), (.int c1)]) (hb0 : own_W c0) (hk0 : (255 : Int32) < c0) :
    own_Met l (⟨"java/lang/StringUTF16", "compress", "([CII)[B"⟩ : MethodName) jdk_52_method_16_code 6 (some (.array .byte)) ws ({ frames := 3, cells := 2, slots := 6, locals := 40 } : Room) #[(.ref a1), (.int (0 : Int32)), (.int (2 : Int32))] Z h0 (Qrm_c3_2_0 Z a1 c0 c1 h0 n0) := by
  refine own_body own_pn11 ?_
  intro p e s m below meth c T0 X0 hx hby hml hown hnm hret hlk hZ e0
  have N0 := Fr.nil n0
  refine own_st (fun t k => castTop (own_ef_rm_c3_2_0 m a1) k) ?_
  show own_Go p.tables e below (T0.setTop (mkF m 0 #[.val (.ref a1), .val (.int (0 : Int32)), .val (.int (2 : Int32)), .unset, .unset, .unset] [])) _
  have Z0 := own_Z0 O_0
  refine own_iloadN X0 hx hby own_d11_0 (pc' := 1) rfl rfl ?_
  refine own_newA X0 hx hby own_d11_1 (pc' := 3) rfl hZ (own_t hw 16 rfl) e0 (by decide) (cap := 2) (by decide) (by decide) (by decide) (by decide) (vs := [(.int (0 : Int32)), (.int (0 : Int32))]) (by rfl) ?_
  intro T80 h80 b80 X80 e80 g80 E80 A80
  have l80 : n0 ≤ b80 := (Nat.le_trans Z0 (Nat.le_trans (Nat.le_refl _) (Nat.le_of_eq g80.symm)))
  refine own_astoreN X80 hx hby own_d11_3 (pc' := 4) rfl rfl (Ls' := #[.val (.ref a1), .val (.int (0 : Int32)), .val (.int (2 : Int32)), .val (.ref b80), .unset, .unset]) rfl ?_
  refine own_aloadN X80 hx hby own_d11_4 (pc' := 5) rfl rfl rfl ?_
  refine own_iloadN X80 hx hby own_d11_5 (pc' := 6) rfl rfl ?_
  refine own_aloadN X80 hx hby own_d11_6 (pc' := 7) rfl rfl rfl ?_
  refine own_iconst X80 hx hby own_d11_7 (pc' := 8) rfl (z := (0 : Int32)) (by decide) ?_
  refine own_iloadN X80 hx hby own_d11_8 (pc' := 9) rfl rfl ?_
  refine own_callS X80 hx hZ (rm_c5_2_0 l Z a0 hw [] a1 b80 c0 c1 h80 n0 ((O_0.ext E80)) ((A_1.ext E80)) (A80) l80 (Nat.ne_of_lt (Nat.lt_of_lt_of_le (A_1).lt (Nat.le_of_eq g80.symm))) hk0) hown (own_t hw 69 rfl) (own_t hw 70 rfl) (own_t hw 67 rfl) (own_t hw 71 rfl) (by decide) (W := 0) (by decide) (by decide) (by rw [hml]; rfl) (argsL := [(.ref a1), (.int (0 : Int32)), (.ref b80), (.int (0 : Int32)), (.int (2 : Int32))]) (rest := []) rfl (lenOf own_pd3 rfl) rfl (Nat.le_of_eq rfl) (hb hby own_d11_9) e80 (by decide) (by decide) ?_
  intro v81 T81 L81 X81 hQ81
  obtain ⟨hv81, N81q, K81, A81⟩ := hQ81
  subst hv81
  have N81 := Fr.app N0 N81q
  show own_Go p.tables e below (T81.setTop (mkF m 12 #[.val (.ref a1), .val (.int (0 : Int32)), .val (.int (2 : Int32)), .val (.ref b80), .unset, .unset] [(.int (0 : Int32))])) _
  refine own_istore X81 hx hby own_d11_12 (pc' := 14) rfl (Ls' := #[.val (.ref a1), .val (.int (0 : Int32)), .val (.int (2 : Int32)), .val (.ref b80), .val (.int (0 : Int32)), .unset]) rfl ?_
  refine own_iload X81 hx hby own_d11_14 (pc' := 16) rfl rfl ?_
  refine own_iloadN X81 hx hby own_d11_16 (pc' := 17) rfl rfl ?_
  refine own_icmpNo X81 hx hby own_d11_17 (pc' := 20) rfl (by decide) ?_
  refine own_aloadN X81 hx hby own_d11_20 (pc' := 21) rfl rfl rfl ?_
  refine own_iloadN X81 hx hby own_d11_21 (pc' := 22) rfl rfl ?_
  refine own_iloadN X81 hx hby own_d11_22 (pc' := 23) rfl rfl ?_
  refine own_callS X81 hx hZ (rm_tb2 l Z a0 hw [] a1 c0 c1 T81.heap n0 (((O_0.ext E80).keep K81 (allS l80 all0))) S_A S_H S_L (((A_1.ext E80).keep K81 (ninS (Nat.ne_of_lt (Nat.lt_of_lt_of_le (A_1).lt (Nat.le_of_eq g80.symm))) nin0)))) hown (own_t hw 72 rfl) (own_t hw 73 rfl) (own_t hw 67 rfl) (own_t hw 74 rfl) (by decide) (W := 0) (by decide) (by decide) (by rw [hml]; rfl) (argsL := [(.ref a1), (.int (0 : Int32)), (.int (2 : Int32))]) (rest := []) rfl (lenOf own_pd4 rfl) rfl (Nat.le_of_eq rfl) (hb hby own_d11_23) rfl (by decide) (by decide) ?_
  intro v82 T82 L82 X82 hQ82
  obtain ⟨b82, hv82, N82q, K82, g82, A82⟩ := hQ82
  subst hv82
  have N82 := Fr.app N81 N82q
  show own_Go p.tables e below (T82.setTop (mkF m 26 #[.val (.ref a1), .val (.int (0 : Int32)), .val (.int (2 : Int32)), .val (.ref b80), .val (.int (0 : Int32)), .unset] [(.ref b82)])) _
  refine own_astore X82 hx hby own_d11_26 (pc' := 28) rfl rfl (Ls' := #[.val (.ref a1), .val (.int (0 : Int32)), .val (.int (2 : Int32)), .val (.ref b80), .val (.int (0 : Int32)), .val (.ref b82)]) rfl ?_
  refine own_aload X82 hx hby own_d11_28 (pc' := 30) rfl rfl rfl ?_
  refine own_iload X82 hx hby own_d11_30 (pc' := 32) rfl rfl ?_
  refine own_callS X82 hx hZ (rm_gc2_0 l Z a0 hw [] b82 c0 c1 T82.heap n0 ((((O_0.ext E80).keep K81 (allS l80 all0)).keep K82 all0)) S_A S_H S_L (A82) hb0) hown (own_t hw 88 rfl) (own_t hw 89 rfl) (own_t hw 67 rfl) (own_t hw 90 rfl) (by decide) (W := 0) (by decide) (by decide) (by rw [hml]; rfl) (argsL := [(.ref b82), (.int (0 : Int32))]) (rest := []) rfl (lenOf own_pd5 rfl) rfl (Nat.le_of_eq rfl) (hb hby own_d11_32) rfl (by decide) (by decide) ?_
  intro v83 T83 L83 X83 hQ83
  obtain ⟨hv83, N83q, e83⟩ := hQ83
  subst hv83
  have N83 := Fr.app N82 N83q
  show own_Go p.tables e below (T83.setTop (mkF m 35 #[.val (.ref a1), .val (.int (0 : Int32)), .val (.int (2 : Int32)), .val (.ref b80), .val (.int (0 : Int32)), .val (.ref b82)] [(.int c0)])) _
  refine own_sipush X83 hx hby own_d11_35 (pc' := 38) rfl (z := (255 : Int32)) (by decide) ?_
  refine own_icmpYes X83 hx hby own_d11_38 (pc' := 54) (by decide) (tlt hk0).2.2.1 ?_
  refine own_aload X83 hx hby own_d11_54 (pc' := 56) rfl rfl rfl ?_
  exact own_retA X83 hx hret rfl rfl (hb hby own_d11_56) hlk (by decide) (by decide) ⟨b82, rfl, N83, by rw [show T83.heap = _ from e83]; exact ⟨((((Keep.refl h0 []).ext E80).trans K81 (allS (Or.inr (Nat.le_trans (Nat.le_refl _) (Nat.le_of_eq g80.symm))) all0)).trans K82 all0), (Nat.le_trans (Nat.le_trans (Nat.le_trans (Nat.le_refl _) E80.1) K81.1) g82), A82⟩⟩
theorem own_ef_rm_c3_2_1 (m : MethodId) (a1 : Addr) : entryFrame m #[(.ref a1), (.int (0 : Int32)), (.int (2 : Int32))] 6 = mkF m 0 #[.val (.ref a1), .val (.int (0 : Int32)), .val (.int (2 : Int32)), .unset, .unset, .unset] [] := by first | (simp [entryFrame, mkF, argsToLocals, Value.category]; done) | rfl
def Qrm_c3_2_1 (Z : State) (a1 : Addr) (c0 : Int32) (c1 : Int32) (h0 : Heap) (n0 : Nat) (v : Option Value) (h : Heap) (L : List Loc) : Prop := ∃ b, v = some (.ref b) ∧ Fr n0 L ∧ Keep h0 h [] ∧ h0.size ≤ b ∧ own_Ar Z h b .byte [(.int (lo8 c0)), (.int (hi8 c0)), (.int (lo8 c1)), (.int (hi8 c1))]
set_option maxRecDepth 65536 in
set_option maxHeartbeats 40000000 in
theorem rm_c3_2_1 (l : Launch) (Z : State) (a0 : Array Value) (hw : ∀ d ∈ tables_1, d.before a0 Z = true) (ws : List Jvm.Cond) (a1 : Addr) (c0 : Int32) (c1 : Int32) (h0 : Heap) (n0 : Nat) (O_0 : Old Z n0 h0) (S_A : Sta Z Z.heap "java/lang/StringUTF16" "$assertionsDisabled" "Z" (.int (1 : Int32))) (S_H : Sta Z Z.heap "java/lang/StringUTF16" "HI_BYTE_SHIFT" "I" (.int (0 : Int32))) (S_L : Sta Z Z.heap "java/lang/StringUTF16" "LO_BYTE_SHIFT" "I" (.int (8 : Int32))) (A_1 : own_Ar Z h0 a1 .char [(.int c0), (.int c1)]) (hb1 : own_W c1) (hk0 : ¬ (255 : Int32) < c0) (hk1 : (255 : Int32) < c1) :
    own_Met l (⟨"java/lang/StringUTF16", "compress", "([CII)[B"⟩ : MethodName) jdk_52_method_16_code 6 (some (.array .byte)) ws ({ frames := 3, cells := 2, slots := 6, locals := 40 } : Room) #[(.ref a1), (.int (0 : Int32)), (.int (2 : Int32))] Z h0 (Qrm_c3_2_1 Z a1 c0 c1 h0 n0) := by
  refine own_body own_pn11 ?_
  intro p e s m below meth c T0 X0 hx hby hml hown hnm hret hlk hZ e0
  have N0 := Fr.nil n0
  refine own_st (fun t k => castTop (own_ef_rm_c3_2_1 m a1) k) ?_
  show own_Go p.tables e below (T0.setTop (mkF m 0 #[.val (.ref a1), .val (.int (0 : Int32)), .val (.int (2 : Int32)), .unset, .unset, .unset] [])) _
  have Z0 := own_Z0 O_0
  refine own_iloadN X0 hx hby own_d11_0 (pc' := 1) rfl rfl ?_
  refine own_newA X0 hx hby own_d11_1 (pc' := 3) rfl hZ (own_t hw 16 rfl) e0 (by decide) (cap := 2) (by decide) (by decide) (by decide) (by decide) (vs := [(.int (0 : Int32)), (.int (0 : Int32))]) (by rfl) ?_
  intro T84 h84 b84 X84 e84 g84 E84 A84
  have l84 : n0 ≤ b84 := (Nat.le_trans Z0 (Nat.le_trans (Nat.le_refl _) (Nat.le_of_eq g84.symm)))
  refine own_astoreN X84 hx hby own_d11_3 (pc' := 4) rfl rfl (Ls' := #[.val (.ref a1), .val (.int (0 : Int32)), .val (.int (2 : Int32)), .val (.ref b84), .unset, .unset]) rfl ?_
  refine own_aloadN X84 hx hby own_d11_4 (pc' := 5) rfl rfl rfl ?_
  refine own_iloadN X84 hx hby own_d11_5 (pc' := 6) rfl rfl ?_
  refine own_aloadN X84 hx hby own_d11_6 (pc' := 7) rfl rfl rfl ?_
  refine own_iconst X84 hx hby own_d11_7 (pc' := 8) rfl (z := (0 : Int32)) (by decide) ?_
  refine own_iloadN X84 hx hby own_d11_8 (pc' := 9) rfl rfl ?_
  refine own_callS X84 hx hZ (rm_c5_2_1 l Z a0 hw [] a1 b84 c0 c1 h84 n0 ((O_0.ext E84)) ((A_1.ext E84)) (A84) l84 (Nat.ne_of_lt (Nat.lt_of_lt_of_le (A_1).lt (Nat.le_of_eq g84.symm))) hk0 hk1) hown (own_t hw 69 rfl) (own_t hw 70 rfl) (own_t hw 67 rfl) (own_t hw 71 rfl) (by decide) (W := 0) (by decide) (by decide) (by rw [hml]; rfl) (argsL := [(.ref a1), (.int (0 : Int32)), (.ref b84), (.int (0 : Int32)), (.int (2 : Int32))]) (rest := []) rfl (lenOf own_pd3 rfl) rfl (Nat.le_of_eq rfl) (hb hby own_d11_9) e84 (by decide) (by decide) ?_
  intro v85 T85 L85 X85 hQ85
  obtain ⟨hv85, N85q, K85, A85⟩ := hQ85
  subst hv85
  have N85 := Fr.app N0 N85q
  show own_Go p.tables e below (T85.setTop (mkF m 12 #[.val (.ref a1), .val (.int (0 : Int32)), .val (.int (2 : Int32)), .val (.ref b84), .unset, .unset] [(.int (1 : Int32))])) _
  refine own_istore X85 hx hby own_d11_12 (pc' := 14) rfl (Ls' := #[.val (.ref a1), .val (.int (0 : Int32)), .val (.int (2 : Int32)), .val (.ref b84), .val (.int (1 : Int32)), .unset]) rfl ?_
  refine own_iload X85 hx hby own_d11_14 (pc' := 16) rfl rfl ?_
  refine own_iloadN X85 hx hby own_d11_16 (pc' := 17) rfl rfl ?_
  refine own_icmpNo X85 hx hby own_d11_17 (pc' := 20) rfl (by decide) ?_
  refine own_aloadN X85 hx hby own_d11_20 (pc' := 21) rfl rfl rfl ?_
  refine own_iloadN X85 hx hby own_d11_21 (pc' := 22) rfl rfl ?_
  refine own_iloadN X85 hx hby own_d11_22 (pc' := 23) rfl rfl ?_
  refine own_callS X85 hx hZ (rm_tb2 l Z a0 hw [] a1 c0 c1 T85.heap n0 (((O_0.ext E84).keep K85 (allS l84 all0))) S_A S_H S_L (((A_1.ext E84).keep K85 (ninS (Nat.ne_of_lt (Nat.lt_of_lt_of_le (A_1).lt (Nat.le_of_eq g84.symm))) nin0)))) hown (own_t hw 72 rfl) (own_t hw 73 rfl) (own_t hw 67 rfl) (own_t hw 74 rfl) (by decide) (W := 0) (by decide) (by decide) (by rw [hml]; rfl) (argsL := [(.ref a1), (.int (0 : Int32)), (.int (2 : Int32))]) (rest := []) rfl (lenOf own_pd4 rfl) rfl (Nat.le_of_eq rfl) (hb hby own_d11_23) rfl (by decide) (by decide) ?_
  intro v86 T86 L86 X86 hQ86
  obtain ⟨b86, hv86, N86q, K86, g86, A86⟩ := hQ86
  subst hv86
  have N86 := Fr.app N85 N86q
  show own_Go p.tables e below (T86.setTop (mkF m 26 #[.val (.ref a1), .val (.int (0 : Int32)), .val (.int (2 : Int32)), .val (.ref b84), .val (.int (1 : Int32)), .unset] [(.ref b86)])) _
  refine own_astore X86 hx hby own_d11_26 (pc' := 28) rfl rfl (Ls' := #[.val (.ref a1), .val (.int (0 : Int32)), .val (.int (2 : Int32)), .val (.ref b84), .val (.int (1 : Int32)), .val (.ref b86)]) rfl ?_
  refine own_aload X86 hx hby own_d11_28 (pc' := 30) rfl rfl rfl ?_
  refine own_iload X86 hx hby own_d11_30 (pc' := 32) rfl rfl ?_
  refine own_callS X86 hx hZ (rm_gc2_1 l Z a0 hw [] b86 c0 c1 T86.heap n0 ((((O_0.ext E84).keep K85 (allS l84 all0)).keep K86 all0)) S_A S_H S_L (A86) hb1) hown (own_t hw 88 rfl) (own_t hw 89 rfl) (own_t hw 67 rfl) (own_t hw 90 rfl) (by decide) (W := 0) (by decide) (by decide) (by rw [hml]; rfl) (argsL := [(.ref b86), (.int (1 : Int32))]) (rest := []) rfl (lenOf own_pd5 rfl) rfl (Nat.le_of_eq rfl) (hb hby own_d11_32) rfl (by decide) (by decide) ?_
  intro v87 T87 L87 X87 hQ87
  obtain ⟨hv87, N87q, e87⟩ := hQ87
  subst hv87
  have N87 := Fr.app N86 N87q
  show own_Go p.tables e below (T87.setTop (mkF m 35 #[.val (.ref a1), .val (.int (0 : Int32)), .val (.int (2 : Int32)), .val (.ref b84), .val (.int (1 : Int32)), .val (.ref b86)] [(.int c1)])) _
  refine own_sipush X87 hx hby own_d11_35 (pc' := 38) rfl (z := (255 : Int32)) (by decide) ?_
  refine own_icmpYes X87 hx hby own_d11_38 (pc' := 54) (by decide) (tlt hk1).2.2.1 ?_
  refine own_aload X87 hx hby own_d11_54 (pc' := 56) rfl rfl rfl ?_
  exact own_retA X87 hx hret rfl rfl (hb hby own_d11_56) hlk (by decide) (by decide) ⟨b86, rfl, N87, by rw [show T87.heap = _ from e87]; exact ⟨((((Keep.refl h0 []).ext E84).trans K85 (allS (Or.inr (Nat.le_trans (Nat.le_refl _) (Nat.le_of_eq g84.symm))) all0)).trans K86 all0), (Nat.le_trans (Nat.le_trans (Nat.le_trans (Nat.le_refl _) E84.1) K85.1) g86), A86⟩⟩
theorem own_ef_rm_c3_2_2 (m : MethodId) (a1 : Addr) : entryFrame m #[(.ref a1), (.int (0 : Int32)), (.int (2 : Int32))] 6 = mkF m 0 #[.val (.ref a1), .val (.int (0 : Int32)), .val (.int (2 : Int32)), .unset, .unset, .unset] [] := by first | (simp [entryFrame, mkF, argsToLocals, Value.category]; done) | rfl
def Qrm_c3_2_2 (Z : State) (a1 : Addr) (c0 : Int32) (c1 : Int32) (h0 : Heap) (n0 : Nat) (v : Option Value) (h : Heap) (L : List Loc) : Prop := ∃ b, v = some (.ref b) ∧ Fr n0 L ∧ Keep h0 h [] ∧ h0.size ≤ b ∧ own_Ar Z h b .byte [(.int (lo8 c0)), (.int (lo8 c1))]
set_option maxRecDepth 65536 in
set_option maxHeartbeats 40000000 in
theorem rm_c3_2_2 (l : Launch) (Z : State) (a0 : Array Value) (hw : ∀ d ∈ tables_1, d.before a0 Z = true) (ws : List Jvm.Cond) (a1 : Addr) (c0 : Int32) (c1 : Int32) (h0 : Heap) (n0 : Nat) (O_0 : Old Z n0 h0) (S_A : Sta Z Z.heap "java/lang/StringUTF16" "$assertionsDisabled" "Z" (.int (1 : Int32))) (S_H : Sta Z Z.heap "java/lang/StringUTF16" "HI_BYTE_SHIFT" "I" (.int (0 : Int32))) (S_L : Sta Z Z.heap "java/lang/StringUTF16" "LO_BYTE_SHIFT" "I" (.int (8 : Int32))) (A_1 : own_Ar Z h0 a1 .char [(.int c0), (.int c1)]) (hk0 : ¬ (255 : Int32) < c0) (hk1 : ¬ (255 : Int32) < c1) :
    own_Met l (⟨"java/lang/StringUTF16", "compress", "([CII)[B"⟩ : MethodName) jdk_52_method_16_code 6 (some (.array .byte)) ws ({ frames := 3, cells := 2, slots := 6, locals := 40 } : Room) #[(.ref a1), (.int (0 : Int32)), (.int (2 : Int32))] Z h0 (Qrm_c3_2_2 Z a1 c0 c1 h0 n0) := by
  refine own_body own_pn11 ?_
  intro p e s m below meth c T0 X0 hx hby hml hown hnm hret hlk hZ e0
  have N0 := Fr.nil n0
  refine own_st (fun t k => castTop (own_ef_rm_c3_2_2 m a1) k) ?_
  show own_Go p.tables e below (T0.setTop (mkF m 0 #[.val (.ref a1), .val (.int (0 : Int32)), .val (.int (2 : Int32)), .unset, .unset, .unset] [])) _
  have Z0 := own_Z0 O_0
  refine own_iloadN X0 hx hby own_d11_0 (pc' := 1) rfl rfl ?_
  refine own_newA X0 hx hby own_d11_1 (pc' := 3) rfl hZ (own_t hw 16 rfl) e0 (by decide) (cap := 2) (by decide) (by decide) (by decide) (by decide) (vs := [(.int (0 : Int32)), (.int (0 : Int32))]) (by rfl) ?_
  intro T88 h88 b88 X88 e88 g88 E88 A88
  have l88 : n0 ≤ b88 := (Nat.le_trans Z0 (Nat.le_trans (Nat.le_refl _) (Nat.le_of_eq g88.symm)))
  refine own_astoreN X88 hx hby own_d11_3 (pc' := 4) rfl rfl (Ls' := #[.val (.ref a1), .val (.int (0 : Int32)), .val (.int (2 : Int32)), .val (.ref b88), .unset, .unset]) rfl ?_
  refine own_aloadN X88 hx hby own_d11_4 (pc' := 5) rfl rfl rfl ?_
  refine own_iloadN X88 hx hby own_d11_5 (pc' := 6) rfl rfl ?_
  refine own_aloadN X88 hx hby own_d11_6 (pc' := 7) rfl rfl rfl ?_
  refine own_iconst X88 hx hby own_d11_7 (pc' := 8) rfl (z := (0 : Int32)) (by decide) ?_
  refine own_iloadN X88 hx hby own_d11_8 (pc' := 9) rfl rfl ?_
  refine own_callS X88 hx hZ (rm_c5_2_2 l Z a0 hw [] a1 b88 c0 c1 h88 n0 ((O_0.ext E88)) ((A_1.ext E88)) (A88) l88 (Nat.ne_of_lt (Nat.lt_of_lt_of_le (A_1).lt (Nat.le_of_eq g88.symm))) hk0 hk1) hown (own_t hw 69 rfl) (own_t hw 70 rfl) (own_t hw 67 rfl) (own_t hw 71 rfl) (by decide) (W := 0) (by decide) (by decide) (by rw [hml]; rfl) (argsL := [(.ref a1), (.int (0 : Int32)), (.ref b88), (.int (0 : Int32)), (.int (2 : Int32))]) (rest := []) rfl (lenOf own_pd3 rfl) rfl (Nat.le_of_eq rfl) (hb hby own_d11_9) e88 (by decide) (by decide) ?_
  intro v89 T89 L89 X89 hQ89
  obtain ⟨hv89, N89q, K89, A89⟩ := hQ89
  subst hv89
  have N89 := Fr.app N0 N89q
  show own_Go p.tables e below (T89.setTop (mkF m 12 #[.val (.ref a1), .val (.int (0 : Int32)), .val (.int (2 : Int32)), .val (.ref b88), .unset, .unset] [(.int (2 : Int32))])) _
  refine own_istore X89 hx hby own_d11_12 (pc' := 14) rfl (Ls' := #[.val (.ref a1), .val (.int (0 : Int32)), .val (.int (2 : Int32)), .val (.ref b88), .val (.int (2 : Int32)), .unset]) rfl ?_
  refine own_iload X89 hx hby own_d11_14 (pc' := 16) rfl rfl ?_
  refine own_iloadN X89 hx hby own_d11_16 (pc' := 17) rfl rfl ?_
  refine own_icmpYes X89 hx hby own_d11_17 (pc' := 57) (by decide) (by decide) ?_
  refine own_aloadN X89 hx hby own_d11_57 (pc' := 58) rfl rfl rfl ?_
  exact own_retA X89 hx hret rfl rfl (hb hby own_d11_58) hlk (by decide) (by decide) ⟨b88, rfl, N89, by rw [show T89.heap = _ from rfl]; exact ⟨(((Keep.refl h0 []).ext E88).trans K89 (allS (Or.inr (Nat.le_trans (Nat.le_refl _) (Nat.le_of_eq g88.symm))) all0)), (Nat.le_trans (Nat.le_refl _) (Nat.le_of_eq g88.symm)), A89⟩⟩
theorem own_ef_rm_cf3_0 (m : MethodId) (a1 : Addr) : entryFrame m #[(.ref a1), (.int (3 : Int32))] 2 = mkF m 0 #[.val (.ref a1), .val (.int (3 : Int32))] [] := by first | (simp [entryFrame, mkF, argsToLocals, Value.category]; done) | rfl
def Qrm_cf3_0 (Z : State) (a1 : Addr) (c0 : Int32) (c1 : Int32) (c2 : Int32) (h0 : Heap) (n0 : Nat) (v : Option Value) (h : Heap) (L : List Loc) : Prop := v = some (.int (0 : Int32)) ∧ Fr n0 L ∧ h = h0
set_option maxRecDepth 65536 in
set_option maxHeartbeats 40000000 in
theorem rm_cf3_0 (l : Launch) (Z : State) (a0 : Array Value) (hw : ∀ d ∈ tables_1, d.before a0 Z = true) (ws : List Jvm.Cond) (a1 : Addr) (c0 : Int32) (c1 : Int32) (c2 : Int32) (h0 : Heap) (n0 : Nat) (O_0 : Old Z n0 h0) (A_1 : own_Ar Z h0 a1 .byte [(.int (lo8 c0)), (.int (lo8 c1)), (.int (lo8 c2))]) :
    own_Met l (⟨"java/lang/StringUTF16", "coderFromArrayLen", "([BI)B"⟩ : MethodName) jdk_52_method_15_code 2 (some .byte) ws ({ frames := 0, cells := 0, slots := 0, locals := 0 } : Room) #[(.ref a1), (.int (3 : Int32))] Z h0 (Qrm_cf3_0 Z a1 c0 c1 c2 h0 n0) := by
  refine own_body own_pn18 ?_
  intro p e s m below meth c T0 X0 hx hby hml hown hnm hret hlk hZ e0
  have N0 := Fr.nil n0
  refine own_st (fun t k => castTop (own_ef_rm_cf3_0 m a1) k) ?_
  show own_Go p.tables e below (T0.setTop (mkF m 0 #[.val (.ref a1), .val (.int (3 : Int32))] [])) _
  have Z0 := own_Z0 O_0
  refine own_iloadN X0 hx hby own_d18_0 (pc' := 1) rfl rfl ?_
  refine own_aloadN X0 hx hby own_d18_1 (pc' := 2) rfl rfl rfl ?_
  refine own_len X0 hx hby own_d18_2 (pc' := 3) rfl hZ e0 (A_1) (n := (3 : Int32)) (by rfl) ?_
  refine own_isub X0 hx hby own_d18_3 (pc' := 4) rfl (z := (0 : Int32)) (by decide) ?_
  refine own_bipush X0 hx hby own_d18_4 (pc' := 6) rfl (z := (31 : Int32)) (by decide) ?_
  refine own_iushr X0 hx hby own_d18_6 (pc' := 7) rfl (z := (0 : Int32)) (by decide) ?_
  refine own_i2b X0 hx hby own_d18_7 (pc' := 8) rfl (z := (0 : Int32)) (by decide) ?_
  exact own_retZ (t := .byte) X0 hx hret (by simp) (hb hby own_d18_8) hlk (by decide) (by decide) ⟨congrArg (fun z => some (Value.int z)) (own_nb0), N0, e0⟩
theorem own_ef_rm_cf3_1 (m : MethodId) (a1 : Addr) : entryFrame m #[(.ref a1), (.int (3 : Int32))] 2 = mkF m 0 #[.val (.ref a1), .val (.int (3 : Int32))] [] := by first | (simp [entryFrame, mkF, argsToLocals, Value.category]; done) | rfl
def Qrm_cf3_1 (Z : State) (a1 : Addr) (c0 : Int32) (c1 : Int32) (c2 : Int32) (h0 : Heap) (n0 : Nat) (v : Option Value) (h : Heap) (L : List Loc) : Prop := v = some (.int (1 : Int32)) ∧ Fr n0 L ∧ h = h0
set_option maxRecDepth 65536 in
set_option maxHeartbeats 40000000 in
theorem rm_cf3_1 (l : Launch) (Z : State) (a0 : Array Value) (hw : ∀ d ∈ tables_1, d.before a0 Z = true) (ws : List Jvm.Cond) (a1 : Addr) (c0 : Int32) (c1 : Int32) (c2 : Int32) (h0 : Heap) (n0 : Nat) (O_0 : Old Z n0 h0) (A_1 : own_Ar Z h0 a1 .byte [(.int (lo8 c0)), (.int (hi8 c0)), (.int (lo8 c1)), (.int (hi8 c1)), (.int (lo8 c2)), (.int (hi8 c2))]) :
    own_Met l (⟨"java/lang/StringUTF16", "coderFromArrayLen", "([BI)B"⟩ : MethodName) jdk_52_method_15_code 2 (some .byte) ws ({ frames := 0, cells := 0, slots := 0, locals := 0 } : Room) #[(.ref a1), (.int (3 : Int32))] Z h0 (Qrm_cf3_1 Z a1 c0 c1 c2 h0 n0) := by
  refine own_body own_pn18 ?_
  intro p e s m below meth c T0 X0 hx hby hml hown hnm hret hlk hZ e0
  have N0 := Fr.nil n0
  refine own_st (fun t k => castTop (own_ef_rm_cf3_1 m a1) k) ?_
  show own_Go p.tables e below (T0.setTop (mkF m 0 #[.val (.ref a1), .val (.int (3 : Int32))] [])) _
  have Z0 := own_Z0 O_0
  refine own_iloadN X0 hx hby own_d18_0 (pc' := 1) rfl rfl ?_
  refine own_aloadN X0 hx hby own_d18_1 (pc' := 2) rfl rfl rfl ?_
  refine own_len X0 hx hby own_d18_2 (pc' := 3) rfl hZ e0 (A_1) (n := (6 : Int32)) (by rfl) ?_
  refine own_isub X0 hx hby own_d18_3 (pc' := 4) rfl (z := (-3 : Int32)) (by decide) ?_
  refine own_bipush X0 hx hby own_d18_4 (pc' := 6) rfl (z := (31 : Int32)) (by decide) ?_
  refine own_iushr X0 hx hby own_d18_6 (pc' := 7) rfl (z := (1 : Int32)) (by decide) ?_
  refine own_i2b X0 hx hby own_d18_7 (pc' := 8) rfl (z := (1 : Int32)) (by decide) ?_
  exact own_retZ (t := .byte) X0 hx hret (by simp) (hb hby own_d18_8) hlk (by decide) (by decide) ⟨congrArg (fun z => some (Value.int z)) (own_nb1), N0, e0⟩
theorem own_ef_rm_c3_3_0 (m : MethodId) (a1 : Addr) : entryFrame m #[(.ref a1), (.int (0 : Int32)), (.int (3 : Int32))] 6 = mkF m 0 #[.val (.ref a1), .val (.int (0 : Int32)), .val (.int (3 : Int32)), .unset, .unset, .unset] [] := by first | (simp [entryFrame, mkF, argsToLocals, Value.category]; done) | rfl
def Qrm_c3_3_0 (Z : State) (a1 : Addr) (c0 : Int32) (c1 : Int32) (c2 : Int32) (h0 : Heap) (n0 : Nat) (v : Option Value) (h : Heap) (L : List Loc) : Prop := ∃ b, v = some (.ref b) ∧ Fr n0 L ∧ Keep h0 h [] ∧ h0.size ≤ b ∧ own_Ar Z h b .byte [(.int (lo8 c0)), (.int (hi8 c0)), (.int (lo8 c1)), (.int (hi8 c1)), (.int (lo8 c2)), (.int (hi8 c2))]
set_option maxRecDepth 65536 in
set_option maxHeartbeats 40000000 in
theorem rm_c3_3_0 (l : Launch) (Z : State) (a0 : Array Value) (hw : ∀ d ∈ tables_1, d.before a0 Z = true) (ws : List Jvm.Cond) (a1 : Addr) (c0 : Int32) (c1 : Int32) (c2 : Int32) (h0 : Heap) (n0 : Nat) (O_0 : Old Z n0 h0) (S_A : Sta Z Z.heap "java/lang/StringUTF16" "$assertionsDisabled" "Z" (.int (1 : Int32))) (S_H : Sta Z Z.heap "java/lang/StringUTF16" "HI_BYTE_SHIFT" "I" (.int (0 : Int32))) (S_L : Sta Z Z.heap "java/lang/StringUTF16" "LO_BYTE_SHIFT" "I" (.int (8 : Int32))) (A_1 : own_Ar Z h0 a1 .char [(.int c0), (.int c1), (.int c2)]) (hb0 : own_W c0) (hk0 : (255 : Int32) < c0) :
    own_Met l (⟨"java/lang/StringUTF16", "compress", "([CII)[B"⟩ : MethodName) jdk_52_method_16_code 6 (some (.array .byte)) ws ({ frames := 3, cells := 2, slots := 9, locals := 40 } : Room) #[(.ref a1), (.int (0 : Int32)), (.int (3 : Int32))] Z h0 (Qrm_c3_3_0 Z a1 c0 c1 c2 h0 n0) := by
  refine own_body own_pn11 ?_
  intro p e s m below meth c T0 X0 hx hby hml hown hnm hret hlk hZ e0
  have N0 := Fr.nil n0
  refine own_st (fun t k => castTop (own_ef_rm_c3_3_0 m a1) k) ?_
  show own_Go p.tables e below (T0.setTop (mkF m 0 #[.val (.ref a1), .val (.int (0 : Int32)), .val (.int (3 : Int32)), .unset, .unset, .unset] [])) _
  have Z0 := own_Z0 O_0
  refine own_iloadN X0 hx hby own_d11_0 (pc' := 1) rfl rfl ?_
  refine own_newA X0 hx hby own_d11_1 (pc' := 3) rfl hZ (own_t hw 16 rfl) e0 (by decide) (cap := 3) (by decide) (by decide) (by decide) (by decide) (vs := [(.int (0 : Int32)), (.int (0 : Int32)), (.int (0 : Int32))]) (by rfl) ?_
  intro T90 h90 b90 X90 e90 g90 E90 A90
  have l90 : n0 ≤ b90 := (Nat.le_trans Z0 (Nat.le_trans (Nat.le_refl _) (Nat.le_of_eq g90.symm)))
  refine own_astoreN X90 hx hby own_d11_3 (pc' := 4) rfl rfl (Ls' := #[.val (.ref a1), .val (.int (0 : Int32)), .val (.int (3 : Int32)), .val (.ref b90), .unset, .unset]) rfl ?_
  refine own_aloadN X90 hx hby own_d11_4 (pc' := 5) rfl rfl rfl ?_
  refine own_iloadN X90 hx hby own_d11_5 (pc' := 6) rfl rfl ?_
  refine own_aloadN X90 hx hby own_d11_6 (pc' := 7) rfl rfl rfl ?_
  refine own_iconst X90 hx hby own_d11_7 (pc' := 8) rfl (z := (0 : Int32)) (by decide) ?_
  refine own_iloadN X90 hx hby own_d11_8 (pc' := 9) rfl rfl ?_
  refine own_callS X90 hx hZ (rm_c5_3_0 l Z a0 hw [] a1 b90 c0 c1 c2 h90 n0 ((O_0.ext E90)) ((A_1.ext E90)) (A90) l90 (Nat.ne_of_lt (Nat.lt_of_lt_of_le (A_1).lt (Nat.le_of_eq g90.symm))) hk0) hown (own_t hw 69 rfl) (own_t hw 70 rfl) (own_t hw 67 rfl) (own_t hw 71 rfl) (by decide) (W := 0) (by decide) (by decide) (by rw [hml]; rfl) (argsL := [(.ref a1), (.int (0 : Int32)), (.ref b90), (.int (0 : Int32)), (.int (3 : Int32))]) (rest := []) rfl (lenOf own_pd3 rfl) rfl (Nat.le_of_eq rfl) (hb hby own_d11_9) e90 (by decide) (by decide) ?_
  intro v91 T91 L91 X91 hQ91
  obtain ⟨hv91, N91q, K91, A91⟩ := hQ91
  subst hv91
  have N91 := Fr.app N0 N91q
  show own_Go p.tables e below (T91.setTop (mkF m 12 #[.val (.ref a1), .val (.int (0 : Int32)), .val (.int (3 : Int32)), .val (.ref b90), .unset, .unset] [(.int (0 : Int32))])) _
  refine own_istore X91 hx hby own_d11_12 (pc' := 14) rfl (Ls' := #[.val (.ref a1), .val (.int (0 : Int32)), .val (.int (3 : Int32)), .val (.ref b90), .val (.int (0 : Int32)), .unset]) rfl ?_
  refine own_iload X91 hx hby own_d11_14 (pc' := 16) rfl rfl ?_
  refine own_iloadN X91 hx hby own_d11_16 (pc' := 17) rfl rfl ?_
  refine own_icmpNo X91 hx hby own_d11_17 (pc' := 20) rfl (by decide) ?_
  refine own_aloadN X91 hx hby own_d11_20 (pc' := 21) rfl rfl rfl ?_
  refine own_iloadN X91 hx hby own_d11_21 (pc' := 22) rfl rfl ?_
  refine own_iloadN X91 hx hby own_d11_22 (pc' := 23) rfl rfl ?_
  refine own_callS X91 hx hZ (rm_tb3 l Z a0 hw [] a1 c0 c1 c2 T91.heap n0 (((O_0.ext E90).keep K91 (allS l90 all0))) S_A S_H S_L (((A_1.ext E90).keep K91 (ninS (Nat.ne_of_lt (Nat.lt_of_lt_of_le (A_1).lt (Nat.le_of_eq g90.symm))) nin0)))) hown (own_t hw 72 rfl) (own_t hw 73 rfl) (own_t hw 67 rfl) (own_t hw 74 rfl) (by decide) (W := 0) (by decide) (by decide) (by rw [hml]; rfl) (argsL := [(.ref a1), (.int (0 : Int32)), (.int (3 : Int32))]) (rest := []) rfl (lenOf own_pd4 rfl) rfl (Nat.le_of_eq rfl) (hb hby own_d11_23) rfl (by decide) (by decide) ?_
  intro v92 T92 L92 X92 hQ92
  obtain ⟨b92, hv92, N92q, K92, g92, A92⟩ := hQ92
  subst hv92
  have N92 := Fr.app N91 N92q
  show own_Go p.tables e below (T92.setTop (mkF m 26 #[.val (.ref a1), .val (.int (0 : Int32)), .val (.int (3 : Int32)), .val (.ref b90), .val (.int (0 : Int32)), .unset] [(.ref b92)])) _
  refine own_astore X92 hx hby own_d11_26 (pc' := 28) rfl rfl (Ls' := #[.val (.ref a1), .val (.int (0 : Int32)), .val (.int (3 : Int32)), .val (.ref b90), .val (.int (0 : Int32)), .val (.ref b92)]) rfl ?_
  refine own_aload X92 hx hby own_d11_28 (pc' := 30) rfl rfl rfl ?_
  refine own_iload X92 hx hby own_d11_30 (pc' := 32) rfl rfl ?_
  refine own_callS X92 hx hZ (rm_gc3_0 l Z a0 hw [] b92 c0 c1 c2 T92.heap n0 ((((O_0.ext E90).keep K91 (allS l90 all0)).keep K92 all0)) S_A S_H S_L (A92) hb0) hown (own_t hw 88 rfl) (own_t hw 89 rfl) (own_t hw 67 rfl) (own_t hw 90 rfl) (by decide) (W := 0) (by decide) (by decide) (by rw [hml]; rfl) (argsL := [(.ref b92), (.int (0 : Int32))]) (rest := []) rfl (lenOf own_pd5 rfl) rfl (Nat.le_of_eq rfl) (hb hby own_d11_32) rfl (by decide) (by decide) ?_
  intro v93 T93 L93 X93 hQ93
  obtain ⟨hv93, N93q, e93⟩ := hQ93
  subst hv93
  have N93 := Fr.app N92 N93q
  show own_Go p.tables e below (T93.setTop (mkF m 35 #[.val (.ref a1), .val (.int (0 : Int32)), .val (.int (3 : Int32)), .val (.ref b90), .val (.int (0 : Int32)), .val (.ref b92)] [(.int c0)])) _
  refine own_sipush X93 hx hby own_d11_35 (pc' := 38) rfl (z := (255 : Int32)) (by decide) ?_
  refine own_icmpYes X93 hx hby own_d11_38 (pc' := 54) (by decide) (tlt hk0).2.2.1 ?_
  refine own_aload X93 hx hby own_d11_54 (pc' := 56) rfl rfl rfl ?_
  exact own_retA X93 hx hret rfl rfl (hb hby own_d11_56) hlk (by decide) (by decide) ⟨b92, rfl, N93, by rw [show T93.heap = _ from e93]; exact ⟨((((Keep.refl h0 []).ext E90).trans K91 (allS (Or.inr (Nat.le_trans (Nat.le_refl _) (Nat.le_of_eq g90.symm))) all0)).trans K92 all0), (Nat.le_trans (Nat.le_trans (Nat.le_trans (Nat.le_refl _) E90.1) K91.1) g92), A92⟩⟩
theorem own_ef_rm_c3_3_1 (m : MethodId) (a1 : Addr) : entryFrame m #[(.ref a1), (.int (0 : Int32)), (.int (3 : Int32))] 6 = mkF m 0 #[.val (.ref a1), .val (.int (0 : Int32)), .val (.int (3 : Int32)), .unset, .unset, .unset] [] := by first | (simp [entryFrame, mkF, argsToLocals, Value.category]; done) | rfl
def Qrm_c3_3_1 (Z : State) (a1 : Addr) (c0 : Int32) (c1 : Int32) (c2 : Int32) (h0 : Heap) (n0 : Nat) (v : Option Value) (h : Heap) (L : List Loc) : Prop := ∃ b, v = some (.ref b) ∧ Fr n0 L ∧ Keep h0 h [] ∧ h0.size ≤ b ∧ own_Ar Z h b .byte [(.int (lo8 c0)), (.int (hi8 c0)), (.int (lo8 c1)), (.int (hi8 c1)), (.int (lo8 c2)), (.int (hi8 c2))]
set_option maxRecDepth 65536 in
set_option maxHeartbeats 40000000 in
theorem rm_c3_3_1 (l : Launch) (Z : State) (a0 : Array Value) (hw : ∀ d ∈ tables_1, d.before a0 Z = true) (ws : List Jvm.Cond) (a1 : Addr) (c0 : Int32) (c1 : Int32) (c2 : Int32) (h0 : Heap) (n0 : Nat) (O_0 : Old Z n0 h0) (S_A : Sta Z Z.heap "java/lang/StringUTF16" "$assertionsDisabled" "Z" (.int (1 : Int32))) (S_H : Sta Z Z.heap "java/lang/StringUTF16" "HI_BYTE_SHIFT" "I" (.int (0 : Int32))) (S_L : Sta Z Z.heap "java/lang/StringUTF16" "LO_BYTE_SHIFT" "I" (.int (8 : Int32))) (A_1 : own_Ar Z h0 a1 .char [(.int c0), (.int c1), (.int c2)]) (hb1 : own_W c1) (hk0 : ¬ (255 : Int32) < c0) (hk1 : (255 : Int32) < c1) :
    own_Met l (⟨"java/lang/StringUTF16", "compress", "([CII)[B"⟩ : MethodName) jdk_52_method_16_code 6 (some (.array .byte)) ws ({ frames := 3, cells := 2, slots := 9, locals := 40 } : Room) #[(.ref a1), (.int (0 : Int32)), (.int (3 : Int32))] Z h0 (Qrm_c3_3_1 Z a1 c0 c1 c2 h0 n0) := by
  refine own_body own_pn11 ?_
  intro p e s m below meth c T0 X0 hx hby hml hown hnm hret hlk hZ e0
  have N0 := Fr.nil n0
  refine own_st (fun t k => castTop (own_ef_rm_c3_3_1 m a1) k) ?_
  show own_Go p.tables e below (T0.setTop (mkF m 0 #[.val (.ref a1), .val (.int (0 : Int32)), .val (.int (3 : Int32)), .unset, .unset, .unset] [])) _
  have Z0 := own_Z0 O_0
  refine own_iloadN X0 hx hby own_d11_0 (pc' := 1) rfl rfl ?_
  refine own_newA X0 hx hby own_d11_1 (pc' := 3) rfl hZ (own_t hw 16 rfl) e0 (by decide) (cap := 3) (by decide) (by decide) (by decide) (by decide) (vs := [(.int (0 : Int32)), (.int (0 : Int32)), (.int (0 : Int32))]) (by rfl) ?_
  intro T94 h94 b94 X94 e94 g94 E94 A94
  have l94 : n0 ≤ b94 := (Nat.le_trans Z0 (Nat.le_trans (Nat.le_refl _) (Nat.le_of_eq g94.symm)))
  refine own_astoreN X94 hx hby own_d11_3 (pc' := 4) rfl rfl (Ls' := #[.val (.ref a1), .val (.int (0 : Int32)), .val (.int (3 : Int32)), .val (.ref b94), .unset, .unset]) rfl ?_
  refine own_aloadN X94 hx hby own_d11_4 (pc' := 5) rfl rfl rfl ?_
  refine own_iloadN X94 hx hby own_d11_5 (pc' := 6) rfl rfl ?_
  refine own_aloadN X94 hx hby own_d11_6 (pc' := 7) rfl rfl rfl ?_
  refine own_iconst X94 hx hby own_d11_7 (pc' := 8) rfl (z := (0 : Int32)) (by decide) ?_
  refine own_iloadN X94 hx hby own_d11_8 (pc' := 9) rfl rfl ?_
  refine own_callS X94 hx hZ (rm_c5_3_1 l Z a0 hw [] a1 b94 c0 c1 c2 h94 n0 ((O_0.ext E94)) ((A_1.ext E94)) (A94) l94 (Nat.ne_of_lt (Nat.lt_of_lt_of_le (A_1).lt (Nat.le_of_eq g94.symm))) hk0 hk1) hown (own_t hw 69 rfl) (own_t hw 70 rfl) (own_t hw 67 rfl) (own_t hw 71 rfl) (by decide) (W := 0) (by decide) (by decide) (by rw [hml]; rfl) (argsL := [(.ref a1), (.int (0 : Int32)), (.ref b94), (.int (0 : Int32)), (.int (3 : Int32))]) (rest := []) rfl (lenOf own_pd3 rfl) rfl (Nat.le_of_eq rfl) (hb hby own_d11_9) e94 (by decide) (by decide) ?_
  intro v95 T95 L95 X95 hQ95
  obtain ⟨hv95, N95q, K95, A95⟩ := hQ95
  subst hv95
  have N95 := Fr.app N0 N95q
  show own_Go p.tables e below (T95.setTop (mkF m 12 #[.val (.ref a1), .val (.int (0 : Int32)), .val (.int (3 : Int32)), .val (.ref b94), .unset, .unset] [(.int (1 : Int32))])) _
  refine own_istore X95 hx hby own_d11_12 (pc' := 14) rfl (Ls' := #[.val (.ref a1), .val (.int (0 : Int32)), .val (.int (3 : Int32)), .val (.ref b94), .val (.int (1 : Int32)), .unset]) rfl ?_
  refine own_iload X95 hx hby own_d11_14 (pc' := 16) rfl rfl ?_
  refine own_iloadN X95 hx hby own_d11_16 (pc' := 17) rfl rfl ?_
  refine own_icmpNo X95 hx hby own_d11_17 (pc' := 20) rfl (by decide) ?_
  refine own_aloadN X95 hx hby own_d11_20 (pc' := 21) rfl rfl rfl ?_
  refine own_iloadN X95 hx hby own_d11_21 (pc' := 22) rfl rfl ?_
  refine own_iloadN X95 hx hby own_d11_22 (pc' := 23) rfl rfl ?_
  refine own_callS X95 hx hZ (rm_tb3 l Z a0 hw [] a1 c0 c1 c2 T95.heap n0 (((O_0.ext E94).keep K95 (allS l94 all0))) S_A S_H S_L (((A_1.ext E94).keep K95 (ninS (Nat.ne_of_lt (Nat.lt_of_lt_of_le (A_1).lt (Nat.le_of_eq g94.symm))) nin0)))) hown (own_t hw 72 rfl) (own_t hw 73 rfl) (own_t hw 67 rfl) (own_t hw 74 rfl) (by decide) (W := 0) (by decide) (by decide) (by rw [hml]; rfl) (argsL := [(.ref a1), (.int (0 : Int32)), (.int (3 : Int32))]) (rest := []) rfl (lenOf own_pd4 rfl) rfl (Nat.le_of_eq rfl) (hb hby own_d11_23) rfl (by decide) (by decide) ?_
  intro v96 T96 L96 X96 hQ96
  obtain ⟨b96, hv96, N96q, K96, g96, A96⟩ := hQ96
  subst hv96
  have N96 := Fr.app N95 N96q
  show own_Go p.tables e below (T96.setTop (mkF m 26 #[.val (.ref a1), .val (.int (0 : Int32)), .val (.int (3 : Int32)), .val (.ref b94), .val (.int (1 : Int32)), .unset] [(.ref b96)])) _
  refine own_astore X96 hx hby own_d11_26 (pc' := 28) rfl rfl (Ls' := #[.val (.ref a1), .val (.int (0 : Int32)), .val (.int (3 : Int32)), .val (.ref b94), .val (.int (1 : Int32)), .val (.ref b96)]) rfl ?_
  refine own_aload X96 hx hby own_d11_28 (pc' := 30) rfl rfl rfl ?_
  refine own_iload X96 hx hby own_d11_30 (pc' := 32) rfl rfl ?_
  refine own_callS X96 hx hZ (rm_gc3_1 l Z a0 hw [] b96 c0 c1 c2 T96.heap n0 ((((O_0.ext E94).keep K95 (allS l94 all0)).keep K96 all0)) S_A S_H S_L (A96) hb1) hown (own_t hw 88 rfl) (own_t hw 89 rfl) (own_t hw 67 rfl) (own_t hw 90 rfl) (by decide) (W := 0) (by decide) (by decide) (by rw [hml]; rfl) (argsL := [(.ref b96), (.int (1 : Int32))]) (rest := []) rfl (lenOf own_pd5 rfl) rfl (Nat.le_of_eq rfl) (hb hby own_d11_32) rfl (by decide) (by decide) ?_
  intro v97 T97 L97 X97 hQ97
  obtain ⟨hv97, N97q, e97⟩ := hQ97
  subst hv97
  have N97 := Fr.app N96 N97q
  show own_Go p.tables e below (T97.setTop (mkF m 35 #[.val (.ref a1), .val (.int (0 : Int32)), .val (.int (3 : Int32)), .val (.ref b94), .val (.int (1 : Int32)), .val (.ref b96)] [(.int c1)])) _
  refine own_sipush X97 hx hby own_d11_35 (pc' := 38) rfl (z := (255 : Int32)) (by decide) ?_
  refine own_icmpYes X97 hx hby own_d11_38 (pc' := 54) (by decide) (tlt hk1).2.2.1 ?_
  refine own_aload X97 hx hby own_d11_54 (pc' := 56) rfl rfl rfl ?_
  exact own_retA X97 hx hret rfl rfl (hb hby own_d11_56) hlk (by decide) (by decide) ⟨b96, rfl, N97, by rw [show T97.heap = _ from e97]; exact ⟨((((Keep.refl h0 []).ext E94).trans K95 (allS (Or.inr (Nat.le_trans (Nat.le_refl _) (Nat.le_of_eq g94.symm))) all0)).trans K96 all0), (Nat.le_trans (Nat.le_trans (Nat.le_trans (Nat.le_refl _) E94.1) K95.1) g96), A96⟩⟩
theorem own_ef_rm_c3_3_2 (m : MethodId) (a1 : Addr) : entryFrame m #[(.ref a1), (.int (0 : Int32)), (.int (3 : Int32))] 6 = mkF m 0 #[.val (.ref a1), .val (.int (0 : Int32)), .val (.int (3 : Int32)), .unset, .unset, .unset] [] := by first | (simp [entryFrame, mkF, argsToLocals, Value.category]; done) | rfl
def Qrm_c3_3_2 (Z : State) (a1 : Addr) (c0 : Int32) (c1 : Int32) (c2 : Int32) (h0 : Heap) (n0 : Nat) (v : Option Value) (h : Heap) (L : List Loc) : Prop := ∃ b, v = some (.ref b) ∧ Fr n0 L ∧ Keep h0 h [] ∧ h0.size ≤ b ∧ own_Ar Z h b .byte [(.int (lo8 c0)), (.int (hi8 c0)), (.int (lo8 c1)), (.int (hi8 c1)), (.int (lo8 c2)), (.int (hi8 c2))]
set_option maxRecDepth 65536 in
set_option maxHeartbeats 40000000 in
theorem rm_c3_3_2 (l : Launch) (Z : State) (a0 : Array Value) (hw : ∀ d ∈ tables_1, d.before a0 Z = true) (ws : List Jvm.Cond) (a1 : Addr) (c0 : Int32) (c1 : Int32) (c2 : Int32) (h0 : Heap) (n0 : Nat) (O_0 : Old Z n0 h0) (S_A : Sta Z Z.heap "java/lang/StringUTF16" "$assertionsDisabled" "Z" (.int (1 : Int32))) (S_H : Sta Z Z.heap "java/lang/StringUTF16" "HI_BYTE_SHIFT" "I" (.int (0 : Int32))) (S_L : Sta Z Z.heap "java/lang/StringUTF16" "LO_BYTE_SHIFT" "I" (.int (8 : Int32))) (A_1 : own_Ar Z h0 a1 .char [(.int c0), (.int c1), (.int c2)]) (hb2 : own_W c2) (hk0 : ¬ (255 : Int32) < c0) (hk1 : ¬ (255 : Int32) < c1) (hk2 : (255 : Int32) < c2) :
    own_Met l (⟨"java/lang/StringUTF16", "compress", "([CII)[B"⟩ : MethodName) jdk_52_method_16_code 6 (some (.array .byte)) ws ({ frames := 3, cells := 2, slots := 9, locals := 40 } : Room) #[(.ref a1), (.int (0 : Int32)), (.int (3 : Int32))] Z h0 (Qrm_c3_3_2 Z a1 c0 c1 c2 h0 n0) := by
  refine own_body own_pn11 ?_
  intro p e s m below meth c T0 X0 hx hby hml hown hnm hret hlk hZ e0
  have N0 := Fr.nil n0
  refine own_st (fun t k => castTop (own_ef_rm_c3_3_2 m a1) k) ?_
  show own_Go p.tables e below (T0.setTop (mkF m 0 #[.val (.ref a1), .val (.int (0 : Int32)), .val (.int (3 : Int32)), .unset, .unset, .unset] [])) _
  have Z0 := own_Z0 O_0
  refine own_iloadN X0 hx hby own_d11_0 (pc' := 1) rfl rfl ?_
  refine own_newA X0 hx hby own_d11_1 (pc' := 3) rfl hZ (own_t hw 16 rfl) e0 (by decide) (cap := 3) (by decide) (by decide) (by decide) (by decide) (vs := [(.int (0 : Int32)), (.int (0 : Int32)), (.int (0 : Int32))]) (by rfl) ?_
  intro T98 h98 b98 X98 e98 g98 E98 A98
  have l98 : n0 ≤ b98 := (Nat.le_trans Z0 (Nat.le_trans (Nat.le_refl _) (Nat.le_of_eq g98.symm)))
  refine own_astoreN X98 hx hby own_d11_3 (pc' := 4) rfl rfl (Ls' := #[.val (.ref a1), .val (.int (0 : Int32)), .val (.int (3 : Int32)), .val (.ref b98), .unset, .unset]) rfl ?_
  refine own_aloadN X98 hx hby own_d11_4 (pc' := 5) rfl rfl rfl ?_
  refine own_iloadN X98 hx hby own_d11_5 (pc' := 6) rfl rfl ?_
  refine own_aloadN X98 hx hby own_d11_6 (pc' := 7) rfl rfl rfl ?_
  refine own_iconst X98 hx hby own_d11_7 (pc' := 8) rfl (z := (0 : Int32)) (by decide) ?_
  refine own_iloadN X98 hx hby own_d11_8 (pc' := 9) rfl rfl ?_
  refine own_callS X98 hx hZ (rm_c5_3_2 l Z a0 hw [] a1 b98 c0 c1 c2 h98 n0 ((O_0.ext E98)) ((A_1.ext E98)) (A98) l98 (Nat.ne_of_lt (Nat.lt_of_lt_of_le (A_1).lt (Nat.le_of_eq g98.symm))) hk0 hk1 hk2) hown (own_t hw 69 rfl) (own_t hw 70 rfl) (own_t hw 67 rfl) (own_t hw 71 rfl) (by decide) (W := 0) (by decide) (by decide) (by rw [hml]; rfl) (argsL := [(.ref a1), (.int (0 : Int32)), (.ref b98), (.int (0 : Int32)), (.int (3 : Int32))]) (rest := []) rfl (lenOf own_pd3 rfl) rfl (Nat.le_of_eq rfl) (hb hby own_d11_9) e98 (by decide) (by decide) ?_
  intro v99 T99 L99 X99 hQ99
  obtain ⟨hv99, N99q, K99, A99⟩ := hQ99
  subst hv99
  have N99 := Fr.app N0 N99q
  show own_Go p.tables e below (T99.setTop (mkF m 12 #[.val (.ref a1), .val (.int (0 : Int32)), .val (.int (3 : Int32)), .val (.ref b98), .unset, .unset] [(.int (2 : Int32))])) _
  refine own_istore X99 hx hby own_d11_12 (pc' := 14) rfl (Ls' := #[.val (.ref a1), .val (.int (0 : Int32)), .val (.int (3 : Int32)), .val (.ref b98), .val (.int (2 : Int32)), .unset]) rfl ?_
  refine own_iload X99 hx hby own_d11_14 (pc' := 16) rfl rfl ?_
  refine own_iloadN X99 hx hby own_d11_16 (pc' := 17) rfl rfl ?_
  refine own_icmpNo X99 hx hby own_d11_17 (pc' := 20) rfl (by decide) ?_
  refine own_aloadN X99 hx hby own_d11_20 (pc' := 21) rfl rfl rfl ?_
  refine own_iloadN X99 hx hby own_d11_21 (pc' := 22) rfl rfl ?_
  refine own_iloadN X99 hx hby own_d11_22 (pc' := 23) rfl rfl ?_
  refine own_callS X99 hx hZ (rm_tb3 l Z a0 hw [] a1 c0 c1 c2 T99.heap n0 (((O_0.ext E98).keep K99 (allS l98 all0))) S_A S_H S_L (((A_1.ext E98).keep K99 (ninS (Nat.ne_of_lt (Nat.lt_of_lt_of_le (A_1).lt (Nat.le_of_eq g98.symm))) nin0)))) hown (own_t hw 72 rfl) (own_t hw 73 rfl) (own_t hw 67 rfl) (own_t hw 74 rfl) (by decide) (W := 0) (by decide) (by decide) (by rw [hml]; rfl) (argsL := [(.ref a1), (.int (0 : Int32)), (.int (3 : Int32))]) (rest := []) rfl (lenOf own_pd4 rfl) rfl (Nat.le_of_eq rfl) (hb hby own_d11_23) rfl (by decide) (by decide) ?_
  intro v100 T100 L100 X100 hQ100
  obtain ⟨b100, hv100, N100q, K100, g100, A100⟩ := hQ100
  subst hv100
  have N100 := Fr.app N99 N100q
  show own_Go p.tables e below (T100.setTop (mkF m 26 #[.val (.ref a1), .val (.int (0 : Int32)), .val (.int (3 : Int32)), .val (.ref b98), .val (.int (2 : Int32)), .unset] [(.ref b100)])) _
  refine own_astore X100 hx hby own_d11_26 (pc' := 28) rfl rfl (Ls' := #[.val (.ref a1), .val (.int (0 : Int32)), .val (.int (3 : Int32)), .val (.ref b98), .val (.int (2 : Int32)), .val (.ref b100)]) rfl ?_
  refine own_aload X100 hx hby own_d11_28 (pc' := 30) rfl rfl rfl ?_
  refine own_iload X100 hx hby own_d11_30 (pc' := 32) rfl rfl ?_
  refine own_callS X100 hx hZ (rm_gc3_2 l Z a0 hw [] b100 c0 c1 c2 T100.heap n0 ((((O_0.ext E98).keep K99 (allS l98 all0)).keep K100 all0)) S_A S_H S_L (A100) hb2) hown (own_t hw 88 rfl) (own_t hw 89 rfl) (own_t hw 67 rfl) (own_t hw 90 rfl) (by decide) (W := 0) (by decide) (by decide) (by rw [hml]; rfl) (argsL := [(.ref b100), (.int (2 : Int32))]) (rest := []) rfl (lenOf own_pd5 rfl) rfl (Nat.le_of_eq rfl) (hb hby own_d11_32) rfl (by decide) (by decide) ?_
  intro v101 T101 L101 X101 hQ101
  obtain ⟨hv101, N101q, e101⟩ := hQ101
  subst hv101
  have N101 := Fr.app N100 N101q
  show own_Go p.tables e below (T101.setTop (mkF m 35 #[.val (.ref a1), .val (.int (0 : Int32)), .val (.int (3 : Int32)), .val (.ref b98), .val (.int (2 : Int32)), .val (.ref b100)] [(.int c2)])) _
  refine own_sipush X101 hx hby own_d11_35 (pc' := 38) rfl (z := (255 : Int32)) (by decide) ?_
  refine own_icmpYes X101 hx hby own_d11_38 (pc' := 54) (by decide) (tlt hk2).2.2.1 ?_
  refine own_aload X101 hx hby own_d11_54 (pc' := 56) rfl rfl rfl ?_
  exact own_retA X101 hx hret rfl rfl (hb hby own_d11_56) hlk (by decide) (by decide) ⟨b100, rfl, N101, by rw [show T101.heap = _ from e101]; exact ⟨((((Keep.refl h0 []).ext E98).trans K99 (allS (Or.inr (Nat.le_trans (Nat.le_refl _) (Nat.le_of_eq g98.symm))) all0)).trans K100 all0), (Nat.le_trans (Nat.le_trans (Nat.le_trans (Nat.le_refl _) E98.1) K99.1) g100), A100⟩⟩
theorem own_ef_rm_c3_3_3 (m : MethodId) (a1 : Addr) : entryFrame m #[(.ref a1), (.int (0 : Int32)), (.int (3 : Int32))] 6 = mkF m 0 #[.val (.ref a1), .val (.int (0 : Int32)), .val (.int (3 : Int32)), .unset, .unset, .unset] [] := by first | (simp [entryFrame, mkF, argsToLocals, Value.category]; done) | rfl
def Qrm_c3_3_3 (Z : State) (a1 : Addr) (c0 : Int32) (c1 : Int32) (c2 : Int32) (h0 : Heap) (n0 : Nat) (v : Option Value) (h : Heap) (L : List Loc) : Prop := ∃ b, v = some (.ref b) ∧ Fr n0 L ∧ Keep h0 h [] ∧ h0.size ≤ b ∧ own_Ar Z h b .byte [(.int (lo8 c0)), (.int (lo8 c1)), (.int (lo8 c2))]
set_option maxRecDepth 65536 in
set_option maxHeartbeats 40000000 in
theorem rm_c3_3_3 (l : Launch) (Z : State) (a0 : Array Value) (hw : ∀ d ∈ tables_1, d.before a0 Z = true) (ws : List Jvm.Cond) (a1 : Addr) (c0 : Int32) (c1 : Int32) (c2 : Int32) (h0 : Heap) (n0 : Nat) (O_0 : Old Z n0 h0) (S_A : Sta Z Z.heap "java/lang/StringUTF16" "$assertionsDisabled" "Z" (.int (1 : Int32))) (S_H : Sta Z Z.heap "java/lang/StringUTF16" "HI_BYTE_SHIFT" "I" (.int (0 : Int32))) (S_L : Sta Z Z.heap "java/lang/StringUTF16" "LO_BYTE_SHIFT" "I" (.int (8 : Int32))) (A_1 : own_Ar Z h0 a1 .char [(.int c0), (.int c1), (.int c2)]) (hk0 : ¬ (255 : Int32) < c0) (hk1 : ¬ (255 : Int32) < c1) (hk2 : ¬ (255 : Int32) < c2) :
    own_Met l (⟨"java/lang/StringUTF16", "compress", "([CII)[B"⟩ : MethodName) jdk_52_method_16_code 6 (some (.array .byte)) ws ({ frames := 3, cells := 2, slots := 9, locals := 40 } : Room) #[(.ref a1), (.int (0 : Int32)), (.int (3 : Int32))] Z h0 (Qrm_c3_3_3 Z a1 c0 c1 c2 h0 n0) := by
  refine own_body own_pn11 ?_
  intro p e s m below meth c T0 X0 hx hby hml hown hnm hret hlk hZ e0
  have N0 := Fr.nil n0
  refine own_st (fun t k => castTop (own_ef_rm_c3_3_3 m a1) k) ?_
  show own_Go p.tables e below (T0.setTop (mkF m 0 #[.val (.ref a1), .val (.int (0 : Int32)), .val (.int (3 : Int32)), .unset, .unset, .unset] [])) _
  have Z0 := own_Z0 O_0
  refine own_iloadN X0 hx hby own_d11_0 (pc' := 1) rfl rfl ?_
  refine own_newA X0 hx hby own_d11_1 (pc' := 3) rfl hZ (own_t hw 16 rfl) e0 (by decide) (cap := 3) (by decide) (by decide) (by decide) (by decide) (vs := [(.int (0 : Int32)), (.int (0 : Int32)), (.int (0 : Int32))]) (by rfl) ?_
  intro T102 h102 b102 X102 e102 g102 E102 A102
  have l102 : n0 ≤ b102 := (Nat.le_trans Z0 (Nat.le_trans (Nat.le_refl _) (Nat.le_of_eq g102.symm)))
  refine own_astoreN X102 hx hby own_d11_3 (pc' := 4) rfl rfl (Ls' := #[.val (.ref a1), .val (.int (0 : Int32)), .val (.int (3 : Int32)), .val (.ref b102), .unset, .unset]) rfl ?_
  refine own_aloadN X102 hx hby own_d11_4 (pc' := 5) rfl rfl rfl ?_
  refine own_iloadN X102 hx hby own_d11_5 (pc' := 6) rfl rfl ?_
  refine own_aloadN X102 hx hby own_d11_6 (pc' := 7) rfl rfl rfl ?_
  refine own_iconst X102 hx hby own_d11_7 (pc' := 8) rfl (z := (0 : Int32)) (by decide) ?_
  refine own_iloadN X102 hx hby own_d11_8 (pc' := 9) rfl rfl ?_
  refine own_callS X102 hx hZ (rm_c5_3_3 l Z a0 hw [] a1 b102 c0 c1 c2 h102 n0 ((O_0.ext E102)) ((A_1.ext E102)) (A102) l102 (Nat.ne_of_lt (Nat.lt_of_lt_of_le (A_1).lt (Nat.le_of_eq g102.symm))) hk0 hk1 hk2) hown (own_t hw 69 rfl) (own_t hw 70 rfl) (own_t hw 67 rfl) (own_t hw 71 rfl) (by decide) (W := 0) (by decide) (by decide) (by rw [hml]; rfl) (argsL := [(.ref a1), (.int (0 : Int32)), (.ref b102), (.int (0 : Int32)), (.int (3 : Int32))]) (rest := []) rfl (lenOf own_pd3 rfl) rfl (Nat.le_of_eq rfl) (hb hby own_d11_9) e102 (by decide) (by decide) ?_
  intro v103 T103 L103 X103 hQ103
  obtain ⟨hv103, N103q, K103, A103⟩ := hQ103
  subst hv103
  have N103 := Fr.app N0 N103q
  show own_Go p.tables e below (T103.setTop (mkF m 12 #[.val (.ref a1), .val (.int (0 : Int32)), .val (.int (3 : Int32)), .val (.ref b102), .unset, .unset] [(.int (3 : Int32))])) _
  refine own_istore X103 hx hby own_d11_12 (pc' := 14) rfl (Ls' := #[.val (.ref a1), .val (.int (0 : Int32)), .val (.int (3 : Int32)), .val (.ref b102), .val (.int (3 : Int32)), .unset]) rfl ?_
  refine own_iload X103 hx hby own_d11_14 (pc' := 16) rfl rfl ?_
  refine own_iloadN X103 hx hby own_d11_16 (pc' := 17) rfl rfl ?_
  refine own_icmpYes X103 hx hby own_d11_17 (pc' := 57) (by decide) (by decide) ?_
  refine own_aloadN X103 hx hby own_d11_57 (pc' := 58) rfl rfl rfl ?_
  exact own_retA X103 hx hret rfl rfl (hb hby own_d11_58) hlk (by decide) (by decide) ⟨b102, rfl, N103, by rw [show T103.heap = _ from rfl]; exact ⟨(((Keep.refl h0 []).ext E102).trans K103 (allS (Or.inr (Nat.le_trans (Nat.le_refl _) (Nat.le_of_eq g102.symm))) all0)), (Nat.le_trans (Nat.le_refl _) (Nat.le_of_eq g102.symm)), A103⟩⟩
theorem own_pd6 : parseMethodDescriptor "([BI)B" = some ⟨[(.array .byte), .int], some .byte⟩ := by decide +kernel
theorem own_d2_0 : decode jdk_42_method_149_code 0 = .ok (.aload_n 0, 1) := by decide +kernel
theorem own_d2_1 : decode jdk_42_method_149_code 1 = .ok (.invokespecial 1, 3) := by decide +kernel
theorem own_d2_4 : decode jdk_42_method_149_code 4 = .ok (.iload_n 3, 1) := by decide +kernel
theorem own_d2_5 : decode jdk_42_method_149_code 5 = .ok (.ifCond .ne 22, 3) := by decide +kernel
theorem own_d2_27 : decode jdk_42_method_149_code 27 = .ok (.getstatic 38, 3) := by decide +kernel
theorem own_d2_30 : decode jdk_42_method_149_code 30 = .ok (.ifCond .eq 28, 3) := by decide +kernel
theorem own_d2_33 : decode jdk_42_method_149_code 33 = .ok (.aload_n 1, 1) := by decide +kernel
theorem own_d2_34 : decode jdk_42_method_149_code 34 = .ok (.iload_n 2, 1) := by decide +kernel
theorem own_d2_35 : decode jdk_42_method_149_code 35 = .ok (.iload_n 3, 1) := by decide +kernel
theorem own_d2_36 : decode jdk_42_method_149_code 36 = .ok (.invokestatic 177, 3) := by decide +kernel
theorem own_d2_39 : decode jdk_42_method_149_code 39 = .ok (.astore 5, 2) := by decide +kernel
theorem own_d2_41 : decode jdk_42_method_149_code 41 = .ok (.aload_n 0, 1) := by decide +kernel
theorem own_d2_42 : decode jdk_42_method_149_code 42 = .ok (.aload 5, 2) := by decide +kernel
theorem own_d2_44 : decode jdk_42_method_149_code 44 = .ok (.iload_n 3, 1) := by decide +kernel
theorem own_d2_45 : decode jdk_42_method_149_code 45 = .ok (.invokestatic 47, 3) := by decide +kernel
theorem own_d2_48 : decode jdk_42_method_149_code 48 = .ok (.putfield 15, 3) := by decide +kernel
theorem own_d2_51 : decode jdk_42_method_149_code 51 = .ok (.aload_n 0, 1) := by decide +kernel
theorem own_d2_52 : decode jdk_42_method_149_code 52 = .ok (.aload 5, 2) := by decide +kernel
theorem own_d2_54 : decode jdk_42_method_149_code 54 = .ok (.putfield 9, 3) := by decide +kernel
theorem own_d2_57 : decode jdk_42_method_149_code 57 = .ok (.return_, 1) := by decide +kernel
theorem own_ef_rm_i4_1_0 (m : MethodId) (a1 : Addr) (a2 : Addr) : entryFrame m #[(.ref a1), (.ref a2), (.int (0 : Int32)), (.int (1 : Int32)), .null] 6 = mkF m 0 #[.val (.ref a1), .val (.ref a2), .val (.int (0 : Int32)), .val (.int (1 : Int32)), .val .null, .unset] [] := by first | (simp [entryFrame, mkF, argsToLocals, Value.category]; done) | rfl
def Qrm_i4_1_0 (Z : State) (a1 : Addr) (a2 : Addr) (c0 : Int32) (gS : Int32) (h0 : Heap) (n0 : Nat) (v : Option Value) (h : Heap) (L : List Loc) : Prop := v = none ∧ Fr n0 L ∧ Keep h0 h [a1] ∧ Exa Z h a1 "java/lang/String" ∧ Fld Z h a1 "java/lang/String" "coder" "B" (.int (1 : Int32)) ∧ ∃ t, Fld Z h a1 "java/lang/String" "value" "[B" (.ref t) ∧ own_Ar Z h t .byte [(.int (lo8 c0)), (.int (hi8 c0))]
set_option maxRecDepth 65536 in
set_option maxHeartbeats 40000000 in
theorem rm_i4_1_0 (l : Launch) (Z : State) (a0 : Array Value) (hw : ∀ d ∈ tables_1, d.before a0 Z = true) (ws : List Jvm.Cond) (a1 : Addr) (a2 : Addr) (c0 : Int32) (gS : Int32) (h0 : Heap) (n0 : Nat) (O_0 : Old Z n0 h0) (S_S : Sta Z Z.heap "java/lang/String" "COMPACT_STRINGS" "Z" (.int gS)) (hS : ¬ gS = 0) (S_A : Sta Z Z.heap "java/lang/StringUTF16" "$assertionsDisabled" "Z" (.int (1 : Int32))) (S_H : Sta Z Z.heap "java/lang/StringUTF16" "HI_BYTE_SHIFT" "I" (.int (0 : Int32))) (S_L : Sta Z Z.heap "java/lang/StringUTF16" "LO_BYTE_SHIFT" "I" (.int (8 : Int32))) (E_1 : Exa Z h0 a1 "java/lang/String") (F_v : Fld Z h0 a1 "java/lang/String" "value" "[B" .null) (F_c : Fld Z h0 a1 "java/lang/String" "coder" "B" (.int (0 : Int32))) (G_1 : n0 ≤ a1) (A_2 : own_Ar Z h0 a2 .char [(.int c0)]) (hb0 : own_W c0) (hk0 : (255 : Int32) < c0) :
    own_Met l (⟨"java/lang/String", "<init>", "([CIILjava/lang/Void;)V"⟩ : MethodName) jdk_42_method_149_code 6 none ws ({ frames := 4, cells := 2, slots := 3, locals := 57 } : Room) #[(.ref a1), (.ref a2), (.int (0 : Int32)), (.int (1 : Int32)), .null] Z h0 (Qrm_i4_1_0 Z a1 a2 c0 gS h0 n0) := by
  refine own_body own_pn2 ?_
  intro p e s m below meth c T0 X0 hx hby hml hown hnm hret hlk hZ e0
  have N0 := Fr.nil n0
  refine own_st (fun t k => castTop (own_ef_rm_i4_1_0 m a1 a2) k) ?_
  show own_Go p.tables e below (T0.setTop (mkF m 0 #[.val (.ref a1), .val (.ref a2), .val (.int (0 : Int32)), .val (.int (1 : Int32)), .val .null, .unset] [])) _
  have Z0 := own_Z0 O_0
  refine own_aloadN X0 hx hby own_d2_0 (pc' := 1) rfl rfl rfl ?_
  refine own_initO X0 hx hby own_d2_1 (pc' := 4) rfl hZ hown (own_t hw 12 rfl) (own_t hw 13 rfl) (own_t hw 14 rfl) e0 (by rw [hml]; rfl) (by decide) (W := 0) (Nat.le_of_eq rfl) (by decide) ?_
  intro T104 X104 e104
  show own_Go p.tables e below (T104.setTop (mkF m 4 #[.val (.ref a1), .val (.ref a2), .val (.int (0 : Int32)), .val (.int (1 : Int32)), .val .null, .unset] [])) _
  refine own_iloadN X104 hx hby own_d2_4 (pc' := 5) rfl rfl ?_
  refine own_ifYes X104 hx hby own_d2_5 (pc' := 27) (by decide) (by decide) ?_
  refine own_getS X104 hx hby own_d2_27 (pc' := 30) rfl hZ hown (host := "") (Or.inl (own_t hw 44 rfl)) Via.refl e104 (S_S.ext (O_0).2) ?_
  intro T105 X105 e105
  refine own_ifNo X105 hx hby own_d2_30 (pc' := 33) rfl (feq hS).1 ?_
  refine own_aloadN X105 hx hby own_d2_33 (pc' := 34) rfl rfl rfl ?_
  refine own_iloadN X105 hx hby own_d2_34 (pc' := 35) rfl rfl ?_
  refine own_iloadN X105 hx hby own_d2_35 (pc' := 36) rfl rfl ?_
  refine own_callS X105 hx hZ (rm_c3_1_0 l Z a0 hw [] a2 c0 h0 n0 (O_0) S_A S_H S_L (A_2) hb0 hk0) hown (own_t hw 65 rfl) (own_t hw 66 rfl) (own_t hw 67 rfl) (own_t hw 68 rfl) (by decide) (W := 0) (by decide) (by decide) (by rw [hml]; rfl) (argsL := [(.ref a2), (.int (0 : Int32)), (.int (1 : Int32))]) (rest := []) rfl (lenOf own_pd4 rfl) rfl (Nat.le_of_eq rfl) (hb hby own_d2_36) e105 (by decide) (by decide) ?_
  intro v106 T106 L106 X106 hQ106
  obtain ⟨b106, hv106, N106q, K106, g106, A106⟩ := hQ106
  subst hv106
  have N106 := Fr.app N0 N106q
  show own_Go p.tables e below (T106.setTop (mkF m 39 #[.val (.ref a1), .val (.ref a2), .val (.int (0 : Int32)), .val (.int (1 : Int32)), .val .null, .unset] [(.ref b106)])) _
  refine own_astore X106 hx hby own_d2_39 (pc' := 41) rfl rfl (Ls' := #[.val (.ref a1), .val (.ref a2), .val (.int (0 : Int32)), .val (.int (1 : Int32)), .val .null, .val (.ref b106)]) rfl ?_
  refine own_aloadN X106 hx hby own_d2_41 (pc' := 42) rfl rfl rfl ?_
  refine own_aload X106 hx hby own_d2_42 (pc' := 44) rfl rfl rfl ?_
  refine own_iloadN X106 hx hby own_d2_44 (pc' := 45) rfl rfl ?_
  refine own_callS X106 hx hZ (rm_cf1_1 l Z a0 hw [] b106 c0 T106.heap n0 ((O_0.keep K106 all0)) (A106)) hown (own_t hw 91 rfl) (own_t hw 92 rfl) (own_t hw 67 rfl) (own_t hw 93 rfl) (by decide) (W := 1) (by decide) (by decide) (by rw [hml]; rfl) (argsL := [(.ref b106), (.int (1 : Int32))]) (rest := [(.ref a1)]) rfl (lenOf own_pd6 rfl) rfl (Nat.le_of_eq rfl) (hb hby own_d2_45) rfl (by decide) (by decide) ?_
  intro v107 T107 L107 X107 hQ107
  obtain ⟨hv107, N107q, e107⟩ := hQ107
  subst hv107
  have N107 := Fr.app N106 N107q
  show own_Go p.tables e below (T107.setTop (mkF m 48 #[.val (.ref a1), .val (.ref a2), .val (.int (0 : Int32)), .val (.int (1 : Int32)), .val .null, .val (.ref b106)] [(.int (1 : Int32)), (.ref a1)])) _
  refine own_putN X107 hx hby own_d2_48 (pc' := 51) rfl hZ hown (own_t hw 22 rfl) Via.refl e107 (F_c.keep K106 nin0) (E_1.keep K106) (Or.inr ⟨(own_t hw 18 rfl), rfl, hnm⟩) (own_t hw 3 rfl) (ty := .byte) (v' := (.int (1 : Int32))) (by decide) rfl rfl ?_
  intro T108 h108 X108 e108 W108
  have F108 := ((F_c.keep K106 nin0)).same W108
  have N108 := Fr.snoc X108 N107 G_1
  refine own_aloadN X108 hx hby own_d2_51 (pc' := 52) rfl rfl rfl ?_
  refine own_aload X108 hx hby own_d2_52 (pc' := 54) rfl rfl rfl ?_
  refine own_put X108 hx hby own_d2_54 (pc' := 57) rfl hZ hown (host := "") (Or.inl (own_t hw 21 rfl)) Via.refl e108 ((F_v.keep K106 nin0).other W108 (Or.inr (slot_ne (Or.inr (own_t hw 17 rfl)) (Or.inr (own_t hw 18 rfl)) (by decide) (t := (.array .byte)) (t' := .byte) (by decide) (by decide)))) ((E_1.keep K106).wr W108) (Or.inr ⟨(own_t hw 17 rfl), rfl, hnm⟩) (own_t hw 3 rfl) (ty := (.array .byte)) (by decide) rfl rfl ?_
  intro T109 h109 X109 e109 W109
  have F109 := (((F_v.keep K106 nin0).other W108 (Or.inr (slot_ne (Or.inr (own_t hw 17 rfl)) (Or.inr (own_t hw 18 rfl)) (by decide) (t := (.array .byte)) (t' := .byte) (by decide) (by decide))))).same W109
  have N109 := Fr.snoc X109 N108 G_1
  exact own_retV X109 hx hret (hb hby own_d2_57) hlk (by decide) (by decide) ⟨rfl, N109, by rw [e109]; exact ⟨((((Keep.refl h0 [a1]).trans K106 all0).wr W108 (Or.inl (List.mem_of_getElem? (i := 0) rfl))).wr W109 (Or.inl (List.mem_of_getElem? (i := 0) rfl))), (((E_1.keep K106).wr W108).wr W109), (F108.other W109 (Or.inr (slot_ne (Or.inr (own_t hw 18 rfl)) (Or.inr (own_t hw 17 rfl)) (by decide) (t := .byte) (t' := (.array .byte)) (by decide) (by decide)))), b106, F109, ((A106.other W108 (Ne.symm (Nat.ne_of_lt (Nat.lt_of_lt_of_le (E_1).lt g106)))).other W109 (Ne.symm (Nat.ne_of_lt (Nat.lt_of_lt_of_le (E_1).lt g106))))⟩⟩
theorem own_pd7 : parseMethodDescriptor "([CIILjava/lang/Void;)V" = some ⟨[(.array .char), .int, .int, (.object "java/lang/Void")], none⟩ := by decide +kernel
theorem own_d1_0 : decode jdk_42_method_3_code 0 = .ok (.aload_n 0, 1) := by decide +kernel
theorem own_d1_1 : decode jdk_42_method_3_code 1 = .ok (.aload_n 1, 1) := by decide +kernel
theorem own_d1_2 : decode jdk_42_method_3_code 2 = .ok (.iconst 0, 1) := by decide +kernel
theorem own_d1_3 : decode jdk_42_method_3_code 3 = .ok (.aload_n 1, 1) := by decide +kernel
theorem own_d1_4 : decode jdk_42_method_3_code 4 = .ok (.arraylength, 1) := by decide +kernel
theorem own_d1_5 : decode jdk_42_method_3_code 5 = .ok (.aconst_null, 1) := by decide +kernel
theorem own_d1_6 : decode jdk_42_method_3_code 6 = .ok (.invokespecial 27, 3) := by decide +kernel
theorem own_d1_9 : decode jdk_42_method_3_code 9 = .ok (.return_, 1) := by decide +kernel
theorem own_ef_rm_i1_1_0 (m : MethodId) (a1 : Addr) (a2 : Addr) : entryFrame m #[(.ref a1), (.ref a2)] 2 = mkF m 0 #[.val (.ref a1), .val (.ref a2)] [] := by first | (simp [entryFrame, mkF, argsToLocals, Value.category]; done) | rfl
def Qrm_i1_1_0 (Z : State) (a1 : Addr) (a2 : Addr) (c0 : Int32) (gS : Int32) (h0 : Heap) (n0 : Nat) (v : Option Value) (h : Heap) (L : List Loc) : Prop := v = none ∧ Fr n0 L ∧ Keep h0 h [a1] ∧ Exa Z h a1 "java/lang/String" ∧ Fld Z h a1 "java/lang/String" "coder" "B" (.int (1 : Int32)) ∧ ∃ t, Fld Z h a1 "java/lang/String" "value" "[B" (.ref t) ∧ own_Ar Z h t .byte [(.int (lo8 c0)), (.int (hi8 c0))]
set_option maxRecDepth 65536 in
set_option maxHeartbeats 40000000 in
theorem rm_i1_1_0 (l : Launch) (Z : State) (a0 : Array Value) (hw : ∀ d ∈ tables_1, d.before a0 Z = true) (ws : List Jvm.Cond) (a1 : Addr) (a2 : Addr) (c0 : Int32) (gS : Int32) (h0 : Heap) (n0 : Nat) (O_0 : Old Z n0 h0) (S_S : Sta Z Z.heap "java/lang/String" "COMPACT_STRINGS" "Z" (.int gS)) (hS : ¬ gS = 0) (S_A : Sta Z Z.heap "java/lang/StringUTF16" "$assertionsDisabled" "Z" (.int (1 : Int32))) (S_H : Sta Z Z.heap "java/lang/StringUTF16" "HI_BYTE_SHIFT" "I" (.int (0 : Int32))) (S_L : Sta Z Z.heap "java/lang/StringUTF16" "LO_BYTE_SHIFT" "I" (.int (8 : Int32))) (E_1 : Exa Z h0 a1 "java/lang/String") (F_v : Fld Z h0 a1 "java/lang/String" "value" "[B" .null) (F_c : Fld Z h0 a1 "java/lang/String" "coder" "B" (.int (0 : Int32))) (G_1 : n0 ≤ a1) (A_2 : own_Ar Z h0 a2 .char [(.int c0)]) (hb0 : own_W c0) (hk0 : (255 : Int32) < c0) :
    own_Met l (⟨"java/lang/String", "<init>", "([C)V"⟩ : MethodName) jdk_42_method_3_code 2 none ws ({ frames := 5, cells := 2, slots := 3, locals := 74 } : Room) #[(.ref a1), (.ref a2)] Z h0 (Qrm_i1_1_0 Z a1 a2 c0 gS h0 n0) := by
  refine own_body own_pn1 ?_
  intro p e s m below meth c T0 X0 hx hby hml hown hnm hret hlk hZ e0
  have N0 := Fr.nil n0
  refine own_st (fun t k => castTop (own_ef_rm_i1_1_0 m a1 a2) k) ?_
  show own_Go p.tables e below (T0.setTop (mkF m 0 #[.val (.ref a1), .val (.ref a2)] [])) _
  have Z0 := own_Z0 O_0
  refine own_aloadN X0 hx hby own_d1_0 (pc' := 1) rfl rfl rfl ?_
  refine own_aloadN X0 hx hby own_d1_1 (pc' := 2) rfl rfl rfl ?_
  refine own_iconst X0 hx hby own_d1_2 (pc' := 3) rfl (z := (0 : Int32)) (by decide) ?_
  refine own_aloadN X0 hx hby own_d1_3 (pc' := 4) rfl rfl rfl ?_
  refine own_len X0 hx hby own_d1_4 (pc' := 5) rfl hZ e0 (A_2) (n := (1 : Int32)) (by rfl) ?_
  refine own_aconst_null X0 hx hby own_d1_5 (pc' := 6) rfl ?_
  refine own_callSp X0 hx hZ (rm_i4_1_0 l Z a0 hw [] a1 a2 c0 gS h0 n0 (O_0) S_S hS S_A S_H S_L E_1 F_v F_c G_1 (A_2) hb0 hk0) rfl hown (own_t hw 8 rfl) (own_t hw 9 rfl) (own_t hw 11 rfl) (own_t hw 4 rfl) (by decide) (W := 0) (by decide) (by decide) (by rw [hml]; rfl) (argsL := [(.ref a2), (.int (0 : Int32)), (.int (1 : Int32)), .null]) (rest := []) rfl (lenOf own_pd7 rfl) rfl (Nat.le_of_eq rfl) (hb hby own_d1_6) e0 (by decide) (by decide) ?_
  intro v110 T110 L110 X110 hQ110
  obtain ⟨hv110, N110q, K110, R110⟩ := hQ110
  subst hv110
  have N110 := Fr.app N0 N110q
  show own_Go p.tables e below (T110.setTop (mkF m 9 #[.val (.ref a1), .val (.ref a2)] [])) _
  exact own_retV X110 hx hret (hb hby own_d1_9) hlk (by decide) (by decide) ⟨rfl, N110, ((Keep.refl h0 [a1]).trans K110 (allS (Or.inl (List.mem_of_getElem? (i := 0) rfl)) all0)), R110⟩
theorem own_ef_rm_i4_1_1 (m : MethodId) (a1 : Addr) (a2 : Addr) : entryFrame m #[(.ref a1), (.ref a2), (.int (0 : Int32)), (.int (1 : Int32)), .null] 6 = mkF m 0 #[.val (.ref a1), .val (.ref a2), .val (.int (0 : Int32)), .val (.int (1 : Int32)), .val .null, .unset] [] := by first | (simp [entryFrame, mkF, argsToLocals, Value.category]; done) | rfl
def Qrm_i4_1_1 (Z : State) (a1 : Addr) (a2 : Addr) (c0 : Int32) (gS : Int32) (h0 : Heap) (n0 : Nat) (v : Option Value) (h : Heap) (L : List Loc) : Prop := v = none ∧ Fr n0 L ∧ Keep h0 h [a1] ∧ Exa Z h a1 "java/lang/String" ∧ Fld Z h a1 "java/lang/String" "coder" "B" (.int (0 : Int32)) ∧ ∃ t, Fld Z h a1 "java/lang/String" "value" "[B" (.ref t) ∧ own_Ar Z h t .byte [(.int (lo8 c0))]
set_option maxRecDepth 65536 in
set_option maxHeartbeats 40000000 in
theorem rm_i4_1_1 (l : Launch) (Z : State) (a0 : Array Value) (hw : ∀ d ∈ tables_1, d.before a0 Z = true) (ws : List Jvm.Cond) (a1 : Addr) (a2 : Addr) (c0 : Int32) (gS : Int32) (h0 : Heap) (n0 : Nat) (O_0 : Old Z n0 h0) (S_S : Sta Z Z.heap "java/lang/String" "COMPACT_STRINGS" "Z" (.int gS)) (hS : ¬ gS = 0) (S_A : Sta Z Z.heap "java/lang/StringUTF16" "$assertionsDisabled" "Z" (.int (1 : Int32))) (S_H : Sta Z Z.heap "java/lang/StringUTF16" "HI_BYTE_SHIFT" "I" (.int (0 : Int32))) (S_L : Sta Z Z.heap "java/lang/StringUTF16" "LO_BYTE_SHIFT" "I" (.int (8 : Int32))) (E_1 : Exa Z h0 a1 "java/lang/String") (F_v : Fld Z h0 a1 "java/lang/String" "value" "[B" .null) (F_c : Fld Z h0 a1 "java/lang/String" "coder" "B" (.int (0 : Int32))) (G_1 : n0 ≤ a1) (A_2 : own_Ar Z h0 a2 .char [(.int c0)]) (hk0 : ¬ (255 : Int32) < c0) :
    own_Met l (⟨"java/lang/String", "<init>", "([CIILjava/lang/Void;)V"⟩ : MethodName) jdk_42_method_149_code 6 none ws ({ frames := 4, cells := 2, slots := 3, locals := 57 } : Room) #[(.ref a1), (.ref a2), (.int (0 : Int32)), (.int (1 : Int32)), .null] Z h0 (Qrm_i4_1_1 Z a1 a2 c0 gS h0 n0) := by
  refine own_body own_pn2 ?_
  intro p e s m below meth c T0 X0 hx hby hml hown hnm hret hlk hZ e0
  have N0 := Fr.nil n0
  refine own_st (fun t k => castTop (own_ef_rm_i4_1_1 m a1 a2) k) ?_
  show own_Go p.tables e below (T0.setTop (mkF m 0 #[.val (.ref a1), .val (.ref a2), .val (.int (0 : Int32)), .val (.int (1 : Int32)), .val .null, .unset] [])) _
  have Z0 := own_Z0 O_0
  refine own_aloadN X0 hx hby own_d2_0 (pc' := 1) rfl rfl rfl ?_
  refine own_initO X0 hx hby own_d2_1 (pc' := 4) rfl hZ hown (own_t hw 12 rfl) (own_t hw 13 rfl) (own_t hw 14 rfl) e0 (by rw [hml]; rfl) (by decide) (W := 0) (Nat.le_of_eq rfl) (by decide) ?_
  intro T111 X111 e111
  show own_Go p.tables e below (T111.setTop (mkF m 4 #[.val (.ref a1), .val (.ref a2), .val (.int (0 : Int32)), .val (.int (1 : Int32)), .val .null, .unset] [])) _
  refine own_iloadN X111 hx hby own_d2_4 (pc' := 5) rfl rfl ?_
  refine own_ifYes X111 hx hby own_d2_5 (pc' := 27) (by decide) (by decide) ?_
  refine own_getS X111 hx hby own_d2_27 (pc' := 30) rfl hZ hown (host := "") (Or.inl (own_t hw 44 rfl)) Via.refl e111 (S_S.ext (O_0).2) ?_
  intro T112 X112 e112
  refine own_ifNo X112 hx hby own_d2_30 (pc' := 33) rfl (feq hS).1 ?_
  refine own_aloadN X112 hx hby own_d2_33 (pc' := 34) rfl rfl rfl ?_
  refine own_iloadN X112 hx hby own_d2_34 (pc' := 35) rfl rfl ?_
  refine own_iloadN X112 hx hby own_d2_35 (pc' := 36) rfl rfl ?_
  refine own_callS X112 hx hZ (rm_c3_1_1 l Z a0 hw [] a2 c0 h0 n0 (O_0) S_A S_H S_L (A_2) hk0) hown (own_t hw 65 rfl) (own_t hw 66 rfl) (own_t hw 67 rfl) (own_t hw 68 rfl) (by decide) (W := 0) (by decide) (by decide) (by rw [hml]; rfl) (argsL := [(.ref a2), (.int (0 : Int32)), (.int (1 : Int32))]) (rest := []) rfl (lenOf own_pd4 rfl) rfl (Nat.le_of_eq rfl) (hb hby own_d2_36) e112 (by decide) (by decide) ?_
  intro v113 T113 L113 X113 hQ113
  obtain ⟨b113, hv113, N113q, K113, g113, A113⟩ := hQ113
  subst hv113
  have N113 := Fr.app N0 N113q
  show own_Go p.tables e below (T113.setTop (mkF m 39 #[.val (.ref a1), .val (.ref a2), .val (.int (0 : Int32)), .val (.int (1 : Int32)), .val .null, .unset] [(.ref b113)])) _
  refine own_astore X113 hx hby own_d2_39 (pc' := 41) rfl rfl (Ls' := #[.val (.ref a1), .val (.ref a2), .val (.int (0 : Int32)), .val (.int (1 : Int32)), .val .null, .val (.ref b113)]) rfl ?_
  refine own_aloadN X113 hx hby own_d2_41 (pc' := 42) rfl rfl rfl ?_
  refine own_aload X113 hx hby own_d2_42 (pc' := 44) rfl rfl rfl ?_
  refine own_iloadN X113 hx hby own_d2_44 (pc' := 45) rfl rfl ?_
  refine own_callS X113 hx hZ (rm_cf1_0 l Z a0 hw [] b113 c0 T113.heap n0 ((O_0.keep K113 all0)) (A113)) hown (own_t hw 91 rfl) (own_t hw 92 rfl) (own_t hw 67 rfl) (own_t hw 93 rfl) (by decide) (W := 1) (by decide) (by decide) (by rw [hml]; rfl) (argsL := [(.ref b113), (.int (1 : Int32))]) (rest := [(.ref a1)]) rfl (lenOf own_pd6 rfl) rfl (Nat.le_of_eq rfl) (hb hby own_d2_45) rfl (by decide) (by decide) ?_
  intro v114 T114 L114 X114 hQ114
  obtain ⟨hv114, N114q, e114⟩ := hQ114
  subst hv114
  have N114 := Fr.app N113 N114q
  show own_Go p.tables e below (T114.setTop (mkF m 48 #[.val (.ref a1), .val (.ref a2), .val (.int (0 : Int32)), .val (.int (1 : Int32)), .val .null, .val (.ref b113)] [(.int (0 : Int32)), (.ref a1)])) _
  refine own_putN X114 hx hby own_d2_48 (pc' := 51) rfl hZ hown (own_t hw 22 rfl) Via.refl e114 (F_c.keep K113 nin0) (E_1.keep K113) (Or.inr ⟨(own_t hw 18 rfl), rfl, hnm⟩) (own_t hw 3 rfl) (ty := .byte) (v' := (.int (0 : Int32))) (by decide) rfl rfl ?_
  intro T115 h115 X115 e115 W115
  have F115 := ((F_c.keep K113 nin0)).same W115
  have N115 := Fr.snoc X115 N114 G_1
  refine own_aloadN X115 hx hby own_d2_51 (pc' := 52) rfl rfl rfl ?_
  refine own_aload X115 hx hby own_d2_52 (pc' := 54) rfl rfl rfl ?_
  refine own_put X115 hx hby own_d2_54 (pc' := 57) rfl hZ hown (host := "") (Or.inl (own_t hw 21 rfl)) Via.refl e115 ((F_v.keep K113 nin0).other W115 (Or.inr (slot_ne (Or.inr (own_t hw 17 rfl)) (Or.inr (own_t hw 18 rfl)) (by decide) (t := (.array .byte)) (t' := .byte) (by decide) (by decide)))) ((E_1.keep K113).wr W115) (Or.inr ⟨(own_t hw 17 rfl), rfl, hnm⟩) (own_t hw 3 rfl) (ty := (.array .byte)) (by decide) rfl rfl ?_
  intro T116 h116 X116 e116 W116
  have F116 := (((F_v.keep K113 nin0).other W115 (Or.inr (slot_ne (Or.inr (own_t hw 17 rfl)) (Or.inr (own_t hw 18 rfl)) (by decide) (t := (.array .byte)) (t' := .byte) (by decide) (by decide))))).same W116
  have N116 := Fr.snoc X116 N115 G_1
  exact own_retV X116 hx hret (hb hby own_d2_57) hlk (by decide) (by decide) ⟨rfl, N116, by rw [e116]; exact ⟨((((Keep.refl h0 [a1]).trans K113 all0).wr W115 (Or.inl (List.mem_of_getElem? (i := 0) rfl))).wr W116 (Or.inl (List.mem_of_getElem? (i := 0) rfl))), (((E_1.keep K113).wr W115).wr W116), (F115.other W116 (Or.inr (slot_ne (Or.inr (own_t hw 18 rfl)) (Or.inr (own_t hw 17 rfl)) (by decide) (t := .byte) (t' := (.array .byte)) (by decide) (by decide)))), b113, F116, ((A113.other W115 (Ne.symm (Nat.ne_of_lt (Nat.lt_of_lt_of_le (E_1).lt g113)))).other W116 (Ne.symm (Nat.ne_of_lt (Nat.lt_of_lt_of_le (E_1).lt g113))))⟩⟩
theorem own_ef_rm_i1_1_1 (m : MethodId) (a1 : Addr) (a2 : Addr) : entryFrame m #[(.ref a1), (.ref a2)] 2 = mkF m 0 #[.val (.ref a1), .val (.ref a2)] [] := by first | (simp [entryFrame, mkF, argsToLocals, Value.category]; done) | rfl
def Qrm_i1_1_1 (Z : State) (a1 : Addr) (a2 : Addr) (c0 : Int32) (gS : Int32) (h0 : Heap) (n0 : Nat) (v : Option Value) (h : Heap) (L : List Loc) : Prop := v = none ∧ Fr n0 L ∧ Keep h0 h [a1] ∧ Exa Z h a1 "java/lang/String" ∧ Fld Z h a1 "java/lang/String" "coder" "B" (.int (0 : Int32)) ∧ ∃ t, Fld Z h a1 "java/lang/String" "value" "[B" (.ref t) ∧ own_Ar Z h t .byte [(.int (lo8 c0))]
set_option maxRecDepth 65536 in
set_option maxHeartbeats 40000000 in
theorem rm_i1_1_1 (l : Launch) (Z : State) (a0 : Array Value) (hw : ∀ d ∈ tables_1, d.before a0 Z = true) (ws : List Jvm.Cond) (a1 : Addr) (a2 : Addr) (c0 : Int32) (gS : Int32) (h0 : Heap) (n0 : Nat) (O_0 : Old Z n0 h0) (S_S : Sta Z Z.heap "java/lang/String" "COMPACT_STRINGS" "Z" (.int gS)) (hS : ¬ gS = 0) (S_A : Sta Z Z.heap "java/lang/StringUTF16" "$assertionsDisabled" "Z" (.int (1 : Int32))) (S_H : Sta Z Z.heap "java/lang/StringUTF16" "HI_BYTE_SHIFT" "I" (.int (0 : Int32))) (S_L : Sta Z Z.heap "java/lang/StringUTF16" "LO_BYTE_SHIFT" "I" (.int (8 : Int32))) (E_1 : Exa Z h0 a1 "java/lang/String") (F_v : Fld Z h0 a1 "java/lang/String" "value" "[B" .null) (F_c : Fld Z h0 a1 "java/lang/String" "coder" "B" (.int (0 : Int32))) (G_1 : n0 ≤ a1) (A_2 : own_Ar Z h0 a2 .char [(.int c0)]) (hk0 : ¬ (255 : Int32) < c0) :
    own_Met l (⟨"java/lang/String", "<init>", "([C)V"⟩ : MethodName) jdk_42_method_3_code 2 none ws ({ frames := 5, cells := 2, slots := 3, locals := 74 } : Room) #[(.ref a1), (.ref a2)] Z h0 (Qrm_i1_1_1 Z a1 a2 c0 gS h0 n0) := by
  refine own_body own_pn1 ?_
  intro p e s m below meth c T0 X0 hx hby hml hown hnm hret hlk hZ e0
  have N0 := Fr.nil n0
  refine own_st (fun t k => castTop (own_ef_rm_i1_1_1 m a1 a2) k) ?_
  show own_Go p.tables e below (T0.setTop (mkF m 0 #[.val (.ref a1), .val (.ref a2)] [])) _
  have Z0 := own_Z0 O_0
  refine own_aloadN X0 hx hby own_d1_0 (pc' := 1) rfl rfl rfl ?_
  refine own_aloadN X0 hx hby own_d1_1 (pc' := 2) rfl rfl rfl ?_
  refine own_iconst X0 hx hby own_d1_2 (pc' := 3) rfl (z := (0 : Int32)) (by decide) ?_
  refine own_aloadN X0 hx hby own_d1_3 (pc' := 4) rfl rfl rfl ?_
  refine own_len X0 hx hby own_d1_4 (pc' := 5) rfl hZ e0 (A_2) (n := (1 : Int32)) (by rfl) ?_
  refine own_aconst_null X0 hx hby own_d1_5 (pc' := 6) rfl ?_
  refine own_callSp X0 hx hZ (rm_i4_1_1 l Z a0 hw [] a1 a2 c0 gS h0 n0 (O_0) S_S hS S_A S_H S_L E_1 F_v F_c G_1 (A_2) hk0) rfl hown (own_t hw 8 rfl) (own_t hw 9 rfl) (own_t hw 11 rfl) (own_t hw 4 rfl) (by decide) (W := 0) (by decide) (by decide) (by rw [hml]; rfl) (argsL := [(.ref a2), (.int (0 : Int32)), (.int (1 : Int32)), .null]) (rest := []) rfl (lenOf own_pd7 rfl) rfl (Nat.le_of_eq rfl) (hb hby own_d1_6) e0 (by decide) (by decide) ?_
  intro v117 T117 L117 X117 hQ117
  obtain ⟨hv117, N117q, K117, R117⟩ := hQ117
  subst hv117
  have N117 := Fr.app N0 N117q
  show own_Go p.tables e below (T117.setTop (mkF m 9 #[.val (.ref a1), .val (.ref a2)] [])) _
  exact own_retV X117 hx hret (hb hby own_d1_9) hlk (by decide) (by decide) ⟨rfl, N117, ((Keep.refl h0 [a1]).trans K117 (allS (Or.inl (List.mem_of_getElem? (i := 0) rfl)) all0)), R117⟩
theorem own_ef_rm_i4_2_0 (m : MethodId) (a1 : Addr) (a2 : Addr) : entryFrame m #[(.ref a1), (.ref a2), (.int (0 : Int32)), (.int (2 : Int32)), .null] 6 = mkF m 0 #[.val (.ref a1), .val (.ref a2), .val (.int (0 : Int32)), .val (.int (2 : Int32)), .val .null, .unset] [] := by first | (simp [entryFrame, mkF, argsToLocals, Value.category]; done) | rfl
def Qrm_i4_2_0 (Z : State) (a1 : Addr) (a2 : Addr) (c0 : Int32) (c1 : Int32) (gS : Int32) (h0 : Heap) (n0 : Nat) (v : Option Value) (h : Heap) (L : List Loc) : Prop := v = none ∧ Fr n0 L ∧ Keep h0 h [a1] ∧ Exa Z h a1 "java/lang/String" ∧ Fld Z h a1 "java/lang/String" "coder" "B" (.int (1 : Int32)) ∧ ∃ t, Fld Z h a1 "java/lang/String" "value" "[B" (.ref t) ∧ own_Ar Z h t .byte [(.int (lo8 c0)), (.int (hi8 c0)), (.int (lo8 c1)), (.int (hi8 c1))]
set_option maxRecDepth 65536 in
set_option maxHeartbeats 40000000 in
theorem rm_i4_2_0 (l : Launch) (Z : State) (a0 : Array Value) (hw : ∀ d ∈ tables_1, d.before a0 Z = true) (ws : List Jvm.Cond) (a1 : Addr) (a2 : Addr) (c0 : Int32) (c1 : Int32) (gS : Int32) (h0 : Heap) (n0 : Nat) (O_0 : Old Z n0 h0) (S_S : Sta Z Z.heap "java/lang/String" "COMPACT_STRINGS" "Z" (.int gS)) (hS : ¬ gS = 0) (S_A : Sta Z Z.heap "java/lang/StringUTF16" "$assertionsDisabled" "Z" (.int (1 : Int32))) (S_H : Sta Z Z.heap "java/lang/StringUTF16" "HI_BYTE_SHIFT" "I" (.int (0 : Int32))) (S_L : Sta Z Z.heap "java/lang/StringUTF16" "LO_BYTE_SHIFT" "I" (.int (8 : Int32))) (E_1 : Exa Z h0 a1 "java/lang/String") (F_v : Fld Z h0 a1 "java/lang/String" "value" "[B" .null) (F_c : Fld Z h0 a1 "java/lang/String" "coder" "B" (.int (0 : Int32))) (G_1 : n0 ≤ a1) (A_2 : own_Ar Z h0 a2 .char [(.int c0), (.int c1)]) (hb0 : own_W c0) (hk0 : (255 : Int32) < c0) :
    own_Met l (⟨"java/lang/String", "<init>", "([CIILjava/lang/Void;)V"⟩ : MethodName) jdk_42_method_149_code 6 none ws ({ frames := 4, cells := 2, slots := 6, locals := 57 } : Room) #[(.ref a1), (.ref a2), (.int (0 : Int32)), (.int (2 : Int32)), .null] Z h0 (Qrm_i4_2_0 Z a1 a2 c0 c1 gS h0 n0) := by
  refine own_body own_pn2 ?_
  intro p e s m below meth c T0 X0 hx hby hml hown hnm hret hlk hZ e0
  have N0 := Fr.nil n0
  refine own_st (fun t k => castTop (own_ef_rm_i4_2_0 m a1 a2) k) ?_
  show own_Go p.tables e below (T0.setTop (mkF m 0 #[.val (.ref a1), .val (.ref a2), .val (.int (0 : Int32)), .val (.int (2 : Int32)), .val .null, .unset] [])) _
  have Z0 := own_Z0 O_0
  refine own_aloadN X0 hx hby own_d2_0 (pc' := 1) rfl rfl rfl ?_
  refine own_initO X0 hx hby own_d2_1 (pc' := 4) rfl hZ hown (own_t hw 12 rfl) (own_t hw 13 rfl) (own_t hw 14 rfl) e0 (by rw [hml]; rfl) (by decide) (W := 0) (Nat.le_of_eq rfl) (by decide) ?_
  intro T118 X118 e118
  show own_Go p.tables e below (T118.setTop (mkF m 4 #[.val (.ref a1), .val (.ref a2), .val (.int (0 : Int32)), .val (.int (2 : Int32)), .val .null, .unset] [])) _
  refine own_iloadN X118 hx hby own_d2_4 (pc' := 5) rfl rfl ?_
  refine own_ifYes X118 hx hby own_d2_5 (pc' := 27) (by decide) (by decide) ?_
  refine own_getS X118 hx hby own_d2_27 (pc' := 30) rfl hZ hown (host := "") (Or.inl (own_t hw 44 rfl)) Via.refl e118 (S_S.ext (O_0).2) ?_
  intro T119 X119 e119
  refine own_ifNo X119 hx hby own_d2_30 (pc' := 33) rfl (feq hS).1 ?_
  refine own_aloadN X119 hx hby own_d2_33 (pc' := 34) rfl rfl rfl ?_
  refine own_iloadN X119 hx hby own_d2_34 (pc' := 35) rfl rfl ?_
  refine own_iloadN X119 hx hby own_d2_35 (pc' := 36) rfl rfl ?_
  refine own_callS X119 hx hZ (rm_c3_2_0 l Z a0 hw [] a2 c0 c1 h0 n0 (O_0) S_A S_H S_L (A_2) hb0 hk0) hown (own_t hw 65 rfl) (own_t hw 66 rfl) (own_t hw 67 rfl) (own_t hw 68 rfl) (by decide) (W := 0) (by decide) (by decide) (by rw [hml]; rfl) (argsL := [(.ref a2), (.int (0 : Int32)), (.int (2 : Int32))]) (rest := []) rfl (lenOf own_pd4 rfl) rfl (Nat.le_of_eq rfl) (hb hby own_d2_36) e119 (by decide) (by decide) ?_
  intro v120 T120 L120 X120 hQ120
  obtain ⟨b120, hv120, N120q, K120, g120, A120⟩ := hQ120
  subst hv120
  have N120 := Fr.app N0 N120q
  show own_Go p.tables e below (T120.setTop (mkF m 39 #[.val (.ref a1), .val (.ref a2), .val (.int (0 : Int32)), .val (.int (2 : Int32)), .val .null, .unset] [(.ref b120)])) _
  refine own_astore X120 hx hby own_d2_39 (pc' := 41) rfl rfl (Ls' := #[.val (.ref a1), .val (.ref a2), .val (.int (0 : Int32)), .val (.int (2 : Int32)), .val .null, .val (.ref b120)]) rfl ?_
  refine own_aloadN X120 hx hby own_d2_41 (pc' := 42) rfl rfl rfl ?_
  refine own_aload X120 hx hby own_d2_42 (pc' := 44) rfl rfl rfl ?_
  refine own_iloadN X120 hx hby own_d2_44 (pc' := 45) rfl rfl ?_
  refine own_callS X120 hx hZ (rm_cf2_1 l Z a0 hw [] b120 c0 c1 T120.heap n0 ((O_0.keep K120 all0)) (A120)) hown (own_t hw 91 rfl) (own_t hw 92 rfl) (own_t hw 67 rfl) (own_t hw 93 rfl) (by decide) (W := 1) (by decide) (by decide) (by rw [hml]; rfl) (argsL := [(.ref b120), (.int (2 : Int32))]) (rest := [(.ref a1)]) rfl (lenOf own_pd6 rfl) rfl (Nat.le_of_eq rfl) (hb hby own_d2_45) rfl (by decide) (by decide) ?_
  intro v121 T121 L121 X121 hQ121
  obtain ⟨hv121, N121q, e121⟩ := hQ121
  subst hv121
  have N121 := Fr.app N120 N121q
  show own_Go p.tables e below (T121.setTop (mkF m 48 #[.val (.ref a1), .val (.ref a2), .val (.int (0 : Int32)), .val (.int (2 : Int32)), .val .null, .val (.ref b120)] [(.int (1 : Int32)), (.ref a1)])) _
  refine own_putN X121 hx hby own_d2_48 (pc' := 51) rfl hZ hown (own_t hw 22 rfl) Via.refl e121 (F_c.keep K120 nin0) (E_1.keep K120) (Or.inr ⟨(own_t hw 18 rfl), rfl, hnm⟩) (own_t hw 3 rfl) (ty := .byte) (v' := (.int (1 : Int32))) (by decide) rfl rfl ?_
  intro T122 h122 X122 e122 W122
  have F122 := ((F_c.keep K120 nin0)).same W122
  have N122 := Fr.snoc X122 N121 G_1
  refine own_aloadN X122 hx hby own_d2_51 (pc' := 52) rfl rfl rfl ?_
  refine own_aload X122 hx hby own_d2_52 (pc' := 54) rfl rfl rfl ?_
  refine own_put X122 hx hby own_d2_54 (pc' := 57) rfl hZ hown (host := "") (Or.inl (own_t hw 21 rfl)) Via.refl e122 ((F_v.keep K120 nin0).other W122 (Or.inr (slot_ne (Or.inr (own_t hw 17 rfl)) (Or.inr (own_t hw 18 rfl)) (by decide) (t := (.array .byte)) (t' := .byte) (by decide) (by decide)))) ((E_1.keep K120).wr W122) (Or.inr ⟨(own_t hw 17 rfl), rfl, hnm⟩) (own_t hw 3 rfl) (ty := (.array .byte)) (by decide) rfl rfl ?_
  intro T123 h123 X123 e123 W123
  have F123 := (((F_v.keep K120 nin0).other W122 (Or.inr (slot_ne (Or.inr (own_t hw 17 rfl)) (Or.inr (own_t hw 18 rfl)) (by decide) (t := (.array .byte)) (t' := .byte) (by decide) (by decide))))).same W123
  have N123 := Fr.snoc X123 N122 G_1
  exact own_retV X123 hx hret (hb hby own_d2_57) hlk (by decide) (by decide) ⟨rfl, N123, by rw [e123]; exact ⟨((((Keep.refl h0 [a1]).trans K120 all0).wr W122 (Or.inl (List.mem_of_getElem? (i := 0) rfl))).wr W123 (Or.inl (List.mem_of_getElem? (i := 0) rfl))), (((E_1.keep K120).wr W122).wr W123), (F122.other W123 (Or.inr (slot_ne (Or.inr (own_t hw 18 rfl)) (Or.inr (own_t hw 17 rfl)) (by decide) (t := .byte) (t' := (.array .byte)) (by decide) (by decide)))), b120, F123, ((A120.other W122 (Ne.symm (Nat.ne_of_lt (Nat.lt_of_lt_of_le (E_1).lt g120)))).other W123 (Ne.symm (Nat.ne_of_lt (Nat.lt_of_lt_of_le (E_1).lt g120))))⟩⟩
theorem own_ef_rm_i1_2_0 (m : MethodId) (a1 : Addr) (a2 : Addr) : entryFrame m #[(.ref a1), (.ref a2)] 2 = mkF m 0 #[.val (.ref a1), .val (.ref a2)] [] := by first | (simp [entryFrame, mkF, argsToLocals, Value.category]; done) | rfl
def Qrm_i1_2_0 (Z : State) (a1 : Addr) (a2 : Addr) (c0 : Int32) (c1 : Int32) (gS : Int32) (h0 : Heap) (n0 : Nat) (v : Option Value) (h : Heap) (L : List Loc) : Prop := v = none ∧ Fr n0 L ∧ Keep h0 h [a1] ∧ Exa Z h a1 "java/lang/String" ∧ Fld Z h a1 "java/lang/String" "coder" "B" (.int (1 : Int32)) ∧ ∃ t, Fld Z h a1 "java/lang/String" "value" "[B" (.ref t) ∧ own_Ar Z h t .byte [(.int (lo8 c0)), (.int (hi8 c0)), (.int (lo8 c1)), (.int (hi8 c1))]
set_option maxRecDepth 65536 in
set_option maxHeartbeats 40000000 in
theorem rm_i1_2_0 (l : Launch) (Z : State) (a0 : Array Value) (hw : ∀ d ∈ tables_1, d.before a0 Z = true) (ws : List Jvm.Cond) (a1 : Addr) (a2 : Addr) (c0 : Int32) (c1 : Int32) (gS : Int32) (h0 : Heap) (n0 : Nat) (O_0 : Old Z n0 h0) (S_S : Sta Z Z.heap "java/lang/String" "COMPACT_STRINGS" "Z" (.int gS)) (hS : ¬ gS = 0) (S_A : Sta Z Z.heap "java/lang/StringUTF16" "$assertionsDisabled" "Z" (.int (1 : Int32))) (S_H : Sta Z Z.heap "java/lang/StringUTF16" "HI_BYTE_SHIFT" "I" (.int (0 : Int32))) (S_L : Sta Z Z.heap "java/lang/StringUTF16" "LO_BYTE_SHIFT" "I" (.int (8 : Int32))) (E_1 : Exa Z h0 a1 "java/lang/String") (F_v : Fld Z h0 a1 "java/lang/String" "value" "[B" .null) (F_c : Fld Z h0 a1 "java/lang/String" "coder" "B" (.int (0 : Int32))) (G_1 : n0 ≤ a1) (A_2 : own_Ar Z h0 a2 .char [(.int c0), (.int c1)]) (hb0 : own_W c0) (hk0 : (255 : Int32) < c0) :
    own_Met l (⟨"java/lang/String", "<init>", "([C)V"⟩ : MethodName) jdk_42_method_3_code 2 none ws ({ frames := 5, cells := 2, slots := 6, locals := 74 } : Room) #[(.ref a1), (.ref a2)] Z h0 (Qrm_i1_2_0 Z a1 a2 c0 c1 gS h0 n0) := by
  refine own_body own_pn1 ?_
  intro p e s m below meth c T0 X0 hx hby hml hown hnm hret hlk hZ e0
  have N0 := Fr.nil n0
  refine own_st (fun t k => castTop (own_ef_rm_i1_2_0 m a1 a2) k) ?_
  show own_Go p.tables e below (T0.setTop (mkF m 0 #[.val (.ref a1), .val (.ref a2)] [])) _
  have Z0 := own_Z0 O_0
  refine own_aloadN X0 hx hby own_d1_0 (pc' := 1) rfl rfl rfl ?_
  refine own_aloadN X0 hx hby own_d1_1 (pc' := 2) rfl rfl rfl ?_
  refine own_iconst X0 hx hby own_d1_2 (pc' := 3) rfl (z := (0 : Int32)) (by decide) ?_
  refine own_aloadN X0 hx hby own_d1_3 (pc' := 4) rfl rfl rfl ?_
  refine own_len X0 hx hby own_d1_4 (pc' := 5) rfl hZ e0 (A_2) (n := (2 : Int32)) (by rfl) ?_
  refine own_aconst_null X0 hx hby own_d1_5 (pc' := 6) rfl ?_
  refine own_callSp X0 hx hZ (rm_i4_2_0 l Z a0 hw [] a1 a2 c0 c1 gS h0 n0 (O_0) S_S hS S_A S_H S_L E_1 F_v F_c G_1 (A_2) hb0 hk0) rfl hown (own_t hw 8 rfl) (own_t hw 9 rfl) (own_t hw 11 rfl) (own_t hw 4 rfl) (by decide) (W := 0) (by decide) (by decide) (by rw [hml]; rfl) (argsL := [(.ref a2), (.int (0 : Int32)), (.int (2 : Int32)), .null]) (rest := []) rfl (lenOf own_pd7 rfl) rfl (Nat.le_of_eq rfl) (hb hby own_d1_6) e0 (by decide) (by decide) ?_
  intro v124 T124 L124 X124 hQ124
  obtain ⟨hv124, N124q, K124, R124⟩ := hQ124
  subst hv124
  have N124 := Fr.app N0 N124q
  show own_Go p.tables e below (T124.setTop (mkF m 9 #[.val (.ref a1), .val (.ref a2)] [])) _
  exact own_retV X124 hx hret (hb hby own_d1_9) hlk (by decide) (by decide) ⟨rfl, N124, ((Keep.refl h0 [a1]).trans K124 (allS (Or.inl (List.mem_of_getElem? (i := 0) rfl)) all0)), R124⟩
theorem own_ef_rm_i4_2_1 (m : MethodId) (a1 : Addr) (a2 : Addr) : entryFrame m #[(.ref a1), (.ref a2), (.int (0 : Int32)), (.int (2 : Int32)), .null] 6 = mkF m 0 #[.val (.ref a1), .val (.ref a2), .val (.int (0 : Int32)), .val (.int (2 : Int32)), .val .null, .unset] [] := by first | (simp [entryFrame, mkF, argsToLocals, Value.category]; done) | rfl
def Qrm_i4_2_1 (Z : State) (a1 : Addr) (a2 : Addr) (c0 : Int32) (c1 : Int32) (gS : Int32) (h0 : Heap) (n0 : Nat) (v : Option Value) (h : Heap) (L : List Loc) : Prop := v = none ∧ Fr n0 L ∧ Keep h0 h [a1] ∧ Exa Z h a1 "java/lang/String" ∧ Fld Z h a1 "java/lang/String" "coder" "B" (.int (1 : Int32)) ∧ ∃ t, Fld Z h a1 "java/lang/String" "value" "[B" (.ref t) ∧ own_Ar Z h t .byte [(.int (lo8 c0)), (.int (hi8 c0)), (.int (lo8 c1)), (.int (hi8 c1))]
set_option maxRecDepth 65536 in
set_option maxHeartbeats 40000000 in
theorem rm_i4_2_1 (l : Launch) (Z : State) (a0 : Array Value) (hw : ∀ d ∈ tables_1, d.before a0 Z = true) (ws : List Jvm.Cond) (a1 : Addr) (a2 : Addr) (c0 : Int32) (c1 : Int32) (gS : Int32) (h0 : Heap) (n0 : Nat) (O_0 : Old Z n0 h0) (S_S : Sta Z Z.heap "java/lang/String" "COMPACT_STRINGS" "Z" (.int gS)) (hS : ¬ gS = 0) (S_A : Sta Z Z.heap "java/lang/StringUTF16" "$assertionsDisabled" "Z" (.int (1 : Int32))) (S_H : Sta Z Z.heap "java/lang/StringUTF16" "HI_BYTE_SHIFT" "I" (.int (0 : Int32))) (S_L : Sta Z Z.heap "java/lang/StringUTF16" "LO_BYTE_SHIFT" "I" (.int (8 : Int32))) (E_1 : Exa Z h0 a1 "java/lang/String") (F_v : Fld Z h0 a1 "java/lang/String" "value" "[B" .null) (F_c : Fld Z h0 a1 "java/lang/String" "coder" "B" (.int (0 : Int32))) (G_1 : n0 ≤ a1) (A_2 : own_Ar Z h0 a2 .char [(.int c0), (.int c1)]) (hb1 : own_W c1) (hk0 : ¬ (255 : Int32) < c0) (hk1 : (255 : Int32) < c1) :
    own_Met l (⟨"java/lang/String", "<init>", "([CIILjava/lang/Void;)V"⟩ : MethodName) jdk_42_method_149_code 6 none ws ({ frames := 4, cells := 2, slots := 6, locals := 57 } : Room) #[(.ref a1), (.ref a2), (.int (0 : Int32)), (.int (2 : Int32)), .null] Z h0 (Qrm_i4_2_1 Z a1 a2 c0 c1 gS h0 n0) := by
  refine own_body own_pn2 ?_
  intro p e s m below meth c T0 X0 hx hby hml hown hnm hret hlk hZ e0
  have N0 := Fr.nil n0
  refine own_st (fun t k => castTop (own_ef_rm_i4_2_1 m a1 a2) k) ?_
  show own_Go p.tables e below (T0.setTop (mkF m 0 #[.val (.ref a1), .val (.ref a2), .val (.int (0 : Int32)), .val (.int (2 : Int32)), .val .null, .unset] [])) _
  have Z0 := own_Z0 O_0
  refine own_aloadN X0 hx hby own_d2_0 (pc' := 1) rfl rfl rfl ?_
  refine own_initO X0 hx hby own_d2_1 (pc' := 4) rfl hZ hown (own_t hw 12 rfl) (own_t hw 13 rfl) (own_t hw 14 rfl) e0 (by rw [hml]; rfl) (by decide) (W := 0) (Nat.le_of_eq rfl) (by decide) ?_
  intro T125 X125 e125
  show own_Go p.tables e below (T125.setTop (mkF m 4 #[.val (.ref a1), .val (.ref a2), .val (.int (0 : Int32)), .val (.int (2 : Int32)), .val .null, .unset] [])) _
  refine own_iloadN X125 hx hby own_d2_4 (pc' := 5) rfl rfl ?_
  refine own_ifYes X125 hx hby own_d2_5 (pc' := 27) (by decide) (by decide) ?_
  refine own_getS X125 hx hby own_d2_27 (pc' := 30) rfl hZ hown (host := "") (Or.inl (own_t hw 44 rfl)) Via.refl e125 (S_S.ext (O_0).2) ?_
  intro T126 X126 e126
  refine own_ifNo X126 hx hby own_d2_30 (pc' := 33) rfl (feq hS).1 ?_
  refine own_aloadN X126 hx hby own_d2_33 (pc' := 34) rfl rfl rfl ?_
  refine own_iloadN X126 hx hby own_d2_34 (pc' := 35) rfl rfl ?_
  refine own_iloadN X126 hx hby own_d2_35 (pc' := 36) rfl rfl ?_
  refine own_callS X126 hx hZ (rm_c3_2_1 l Z a0 hw [] a2 c0 c1 h0 n0 (O_0) S_A S_H S_L (A_2) hb1 hk0 hk1) hown (own_t hw 65 rfl) (own_t hw 66 rfl) (own_t hw 67 rfl) (own_t hw 68 rfl) (by decide) (W := 0) (by decide) (by decide) (by rw [hml]; rfl) (argsL := [(.ref a2), (.int (0 : Int32)), (.int (2 : Int32))]) (rest := []) rfl (lenOf own_pd4 rfl) rfl (Nat.le_of_eq rfl) (hb hby own_d2_36) e126 (by decide) (by decide) ?_
  intro v127 T127 L127 X127 hQ127
  obtain ⟨b127, hv127, N127q, K127, g127, A127⟩ := hQ127
  subst hv127
  have N127 := Fr.app N0 N127q
  show own_Go p.tables e below (T127.setTop (mkF m 39 #[.val (.ref a1), .val (.ref a2), .val (.int (0 : Int32)), .val (.int (2 : Int32)), .val .null, .unset] [(.ref b127)])) _
  refine own_astore X127 hx hby own_d2_39 (pc' := 41) rfl rfl (Ls' := #[.val (.ref a1), .val (.ref a2), .val (.int (0 : Int32)), .val (.int (2 : Int32)), .val .null, .val (.ref b127)]) rfl ?_
  refine own_aloadN X127 hx hby own_d2_41 (pc' := 42) rfl rfl rfl ?_
  refine own_aload X127 hx hby own_d2_42 (pc' := 44) rfl rfl rfl ?_
  refine own_iloadN X127 hx hby own_d2_44 (pc' := 45) rfl rfl ?_
  refine own_callS X127 hx hZ (rm_cf2_1 l Z a0 hw [] b127 c0 c1 T127.heap n0 ((O_0.keep K127 all0)) (A127)) hown (own_t hw 91 rfl) (own_t hw 92 rfl) (own_t hw 67 rfl) (own_t hw 93 rfl) (by decide) (W := 1) (by decide) (by decide) (by rw [hml]; rfl) (argsL := [(.ref b127), (.int (2 : Int32))]) (rest := [(.ref a1)]) rfl (lenOf own_pd6 rfl) rfl (Nat.le_of_eq rfl) (hb hby own_d2_45) rfl (by decide) (by decide) ?_
  intro v128 T128 L128 X128 hQ128
  obtain ⟨hv128, N128q, e128⟩ := hQ128
  subst hv128
  have N128 := Fr.app N127 N128q
  show own_Go p.tables e below (T128.setTop (mkF m 48 #[.val (.ref a1), .val (.ref a2), .val (.int (0 : Int32)), .val (.int (2 : Int32)), .val .null, .val (.ref b127)] [(.int (1 : Int32)), (.ref a1)])) _
  refine own_putN X128 hx hby own_d2_48 (pc' := 51) rfl hZ hown (own_t hw 22 rfl) Via.refl e128 (F_c.keep K127 nin0) (E_1.keep K127) (Or.inr ⟨(own_t hw 18 rfl), rfl, hnm⟩) (own_t hw 3 rfl) (ty := .byte) (v' := (.int (1 : Int32))) (by decide) rfl rfl ?_
  intro T129 h129 X129 e129 W129
  have F129 := ((F_c.keep K127 nin0)).same W129
  have N129 := Fr.snoc X129 N128 G_1
  refine own_aloadN X129 hx hby own_d2_51 (pc' := 52) rfl rfl rfl ?_
  refine own_aload X129 hx hby own_d2_52 (pc' := 54) rfl rfl rfl ?_
  refine own_put X129 hx hby own_d2_54 (pc' := 57) rfl hZ hown (host := "") (Or.inl (own_t hw 21 rfl)) Via.refl e129 ((F_v.keep K127 nin0).other W129 (Or.inr (slot_ne (Or.inr (own_t hw 17 rfl)) (Or.inr (own_t hw 18 rfl)) (by decide) (t := (.array .byte)) (t' := .byte) (by decide) (by decide)))) ((E_1.keep K127).wr W129) (Or.inr ⟨(own_t hw 17 rfl), rfl, hnm⟩) (own_t hw 3 rfl) (ty := (.array .byte)) (by decide) rfl rfl ?_
  intro T130 h130 X130 e130 W130
  have F130 := (((F_v.keep K127 nin0).other W129 (Or.inr (slot_ne (Or.inr (own_t hw 17 rfl)) (Or.inr (own_t hw 18 rfl)) (by decide) (t := (.array .byte)) (t' := .byte) (by decide) (by decide))))).same W130
  have N130 := Fr.snoc X130 N129 G_1
  exact own_retV X130 hx hret (hb hby own_d2_57) hlk (by decide) (by decide) ⟨rfl, N130, by rw [e130]; exact ⟨((((Keep.refl h0 [a1]).trans K127 all0).wr W129 (Or.inl (List.mem_of_getElem? (i := 0) rfl))).wr W130 (Or.inl (List.mem_of_getElem? (i := 0) rfl))), (((E_1.keep K127).wr W129).wr W130), (F129.other W130 (Or.inr (slot_ne (Or.inr (own_t hw 18 rfl)) (Or.inr (own_t hw 17 rfl)) (by decide) (t := .byte) (t' := (.array .byte)) (by decide) (by decide)))), b127, F130, ((A127.other W129 (Ne.symm (Nat.ne_of_lt (Nat.lt_of_lt_of_le (E_1).lt g127)))).other W130 (Ne.symm (Nat.ne_of_lt (Nat.lt_of_lt_of_le (E_1).lt g127))))⟩⟩
theorem own_ef_rm_i1_2_1 (m : MethodId) (a1 : Addr) (a2 : Addr) : entryFrame m #[(.ref a1), (.ref a2)] 2 = mkF m 0 #[.val (.ref a1), .val (.ref a2)] [] := by first | (simp [entryFrame, mkF, argsToLocals, Value.category]; done) | rfl
def Qrm_i1_2_1 (Z : State) (a1 : Addr) (a2 : Addr) (c0 : Int32) (c1 : Int32) (gS : Int32) (h0 : Heap) (n0 : Nat) (v : Option Value) (h : Heap) (L : List Loc) : Prop := v = none ∧ Fr n0 L ∧ Keep h0 h [a1] ∧ Exa Z h a1 "java/lang/String" ∧ Fld Z h a1 "java/lang/String" "coder" "B" (.int (1 : Int32)) ∧ ∃ t, Fld Z h a1 "java/lang/String" "value" "[B" (.ref t) ∧ own_Ar Z h t .byte [(.int (lo8 c0)), (.int (hi8 c0)), (.int (lo8 c1)), (.int (hi8 c1))]
set_option maxRecDepth 65536 in
set_option maxHeartbeats 40000000 in
theorem rm_i1_2_1 (l : Launch) (Z : State) (a0 : Array Value) (hw : ∀ d ∈ tables_1, d.before a0 Z = true) (ws : List Jvm.Cond) (a1 : Addr) (a2 : Addr) (c0 : Int32) (c1 : Int32) (gS : Int32) (h0 : Heap) (n0 : Nat) (O_0 : Old Z n0 h0) (S_S : Sta Z Z.heap "java/lang/String" "COMPACT_STRINGS" "Z" (.int gS)) (hS : ¬ gS = 0) (S_A : Sta Z Z.heap "java/lang/StringUTF16" "$assertionsDisabled" "Z" (.int (1 : Int32))) (S_H : Sta Z Z.heap "java/lang/StringUTF16" "HI_BYTE_SHIFT" "I" (.int (0 : Int32))) (S_L : Sta Z Z.heap "java/lang/StringUTF16" "LO_BYTE_SHIFT" "I" (.int (8 : Int32))) (E_1 : Exa Z h0 a1 "java/lang/String") (F_v : Fld Z h0 a1 "java/lang/String" "value" "[B" .null) (F_c : Fld Z h0 a1 "java/lang/String" "coder" "B" (.int (0 : Int32))) (G_1 : n0 ≤ a1) (A_2 : own_Ar Z h0 a2 .char [(.int c0), (.int c1)]) (hb1 : own_W c1) (hk0 : ¬ (255 : Int32) < c0) (hk1 : (255 : Int32) < c1) :
    own_Met l (⟨"java/lang/String", "<init>", "([C)V"⟩ : MethodName) jdk_42_method_3_code 2 none ws ({ frames := 5, cells := 2, slots := 6, locals := 74 } : Room) #[(.ref a1), (.ref a2)] Z h0 (Qrm_i1_2_1 Z a1 a2 c0 c1 gS h0 n0) := by
  refine own_body own_pn1 ?_
  intro p e s m below meth c T0 X0 hx hby hml hown hnm hret hlk hZ e0
  have N0 := Fr.nil n0
  refine own_st (fun t k => castTop (own_ef_rm_i1_2_1 m a1 a2) k) ?_
  show own_Go p.tables e below (T0.setTop (mkF m 0 #[.val (.ref a1), .val (.ref a2)] [])) _
  have Z0 := own_Z0 O_0
  refine own_aloadN X0 hx hby own_d1_0 (pc' := 1) rfl rfl rfl ?_
  refine own_aloadN X0 hx hby own_d1_1 (pc' := 2) rfl rfl rfl ?_
  refine own_iconst X0 hx hby own_d1_2 (pc' := 3) rfl (z := (0 : Int32)) (by decide) ?_
  refine own_aloadN X0 hx hby own_d1_3 (pc' := 4) rfl rfl rfl ?_
  refine own_len X0 hx hby own_d1_4 (pc' := 5) rfl hZ e0 (A_2) (n := (2 : Int32)) (by rfl) ?_
  refine own_aconst_null X0 hx hby own_d1_5 (pc' := 6) rfl ?_
  refine own_callSp X0 hx hZ (rm_i4_2_1 l Z a0 hw [] a1 a2 c0 c1 gS h0 n0 (O_0) S_S hS S_A S_H S_L E_1 F_v F_c G_1 (A_2) hb1 hk0 hk1) rfl hown (own_t hw 8 rfl) (own_t hw 9 rfl) (own_t hw 11 rfl) (own_t hw 4 rfl) (by decide) (W := 0) (by decide) (by decide) (by rw [hml]; rfl) (argsL := [(.ref a2), (.int (0 : Int32)), (.int (2 : Int32)), .null]) (rest := []) rfl (lenOf own_pd7 rfl) rfl (Nat.le_of_eq rfl) (hb hby own_d1_6) e0 (by decide) (by decide) ?_
  intro v131 T131 L131 X131 hQ131
  obtain ⟨hv131, N131q, K131, R131⟩ := hQ131
  subst hv131
  have N131 := Fr.app N0 N131q
  show own_Go p.tables e below (T131.setTop (mkF m 9 #[.val (.ref a1), .val (.ref a2)] [])) _
  exact own_retV X131 hx hret (hb hby own_d1_9) hlk (by decide) (by decide) ⟨rfl, N131, ((Keep.refl h0 [a1]).trans K131 (allS (Or.inl (List.mem_of_getElem? (i := 0) rfl)) all0)), R131⟩
theorem own_ef_rm_i4_2_2 (m : MethodId) (a1 : Addr) (a2 : Addr) : entryFrame m #[(.ref a1), (.ref a2), (.int (0 : Int32)), (.int (2 : Int32)), .null] 6 = mkF m 0 #[.val (.ref a1), .val (.ref a2), .val (.int (0 : Int32)), .val (.int (2 : Int32)), .val .null, .unset] [] := by first | (simp [entryFrame, mkF, argsToLocals, Value.category]; done) | rfl
def Qrm_i4_2_2 (Z : State) (a1 : Addr) (a2 : Addr) (c0 : Int32) (c1 : Int32) (gS : Int32) (h0 : Heap) (n0 : Nat) (v : Option Value) (h : Heap) (L : List Loc) : Prop := v = none ∧ Fr n0 L ∧ Keep h0 h [a1] ∧ Exa Z h a1 "java/lang/String" ∧ Fld Z h a1 "java/lang/String" "coder" "B" (.int (0 : Int32)) ∧ ∃ t, Fld Z h a1 "java/lang/String" "value" "[B" (.ref t) ∧ own_Ar Z h t .byte [(.int (lo8 c0)), (.int (lo8 c1))]
set_option maxRecDepth 65536 in
set_option maxHeartbeats 40000000 in
theorem rm_i4_2_2 (l : Launch) (Z : State) (a0 : Array Value) (hw : ∀ d ∈ tables_1, d.before a0 Z = true) (ws : List Jvm.Cond) (a1 : Addr) (a2 : Addr) (c0 : Int32) (c1 : Int32) (gS : Int32) (h0 : Heap) (n0 : Nat) (O_0 : Old Z n0 h0) (S_S : Sta Z Z.heap "java/lang/String" "COMPACT_STRINGS" "Z" (.int gS)) (hS : ¬ gS = 0) (S_A : Sta Z Z.heap "java/lang/StringUTF16" "$assertionsDisabled" "Z" (.int (1 : Int32))) (S_H : Sta Z Z.heap "java/lang/StringUTF16" "HI_BYTE_SHIFT" "I" (.int (0 : Int32))) (S_L : Sta Z Z.heap "java/lang/StringUTF16" "LO_BYTE_SHIFT" "I" (.int (8 : Int32))) (E_1 : Exa Z h0 a1 "java/lang/String") (F_v : Fld Z h0 a1 "java/lang/String" "value" "[B" .null) (F_c : Fld Z h0 a1 "java/lang/String" "coder" "B" (.int (0 : Int32))) (G_1 : n0 ≤ a1) (A_2 : own_Ar Z h0 a2 .char [(.int c0), (.int c1)]) (hk0 : ¬ (255 : Int32) < c0) (hk1 : ¬ (255 : Int32) < c1) :
    own_Met l (⟨"java/lang/String", "<init>", "([CIILjava/lang/Void;)V"⟩ : MethodName) jdk_42_method_149_code 6 none ws ({ frames := 4, cells := 2, slots := 6, locals := 57 } : Room) #[(.ref a1), (.ref a2), (.int (0 : Int32)), (.int (2 : Int32)), .null] Z h0 (Qrm_i4_2_2 Z a1 a2 c0 c1 gS h0 n0) := by
  refine own_body own_pn2 ?_
  intro p e s m below meth c T0 X0 hx hby hml hown hnm hret hlk hZ e0
  have N0 := Fr.nil n0
  refine own_st (fun t k => castTop (own_ef_rm_i4_2_2 m a1 a2) k) ?_
  show own_Go p.tables e below (T0.setTop (mkF m 0 #[.val (.ref a1), .val (.ref a2), .val (.int (0 : Int32)), .val (.int (2 : Int32)), .val .null, .unset] [])) _
  have Z0 := own_Z0 O_0
  refine own_aloadN X0 hx hby own_d2_0 (pc' := 1) rfl rfl rfl ?_
  refine own_initO X0 hx hby own_d2_1 (pc' := 4) rfl hZ hown (own_t hw 12 rfl) (own_t hw 13 rfl) (own_t hw 14 rfl) e0 (by rw [hml]; rfl) (by decide) (W := 0) (Nat.le_of_eq rfl) (by decide) ?_
  intro T132 X132 e132
  show own_Go p.tables e below (T132.setTop (mkF m 4 #[.val (.ref a1), .val (.ref a2), .val (.int (0 : Int32)), .val (.int (2 : Int32)), .val .null, .unset] [])) _
  refine own_iloadN X132 hx hby own_d2_4 (pc' := 5) rfl rfl ?_
  refine own_ifYes X132 hx hby own_d2_5 (pc' := 27) (by decide) (by decide) ?_
  refine own_getS X132 hx hby own_d2_27 (pc' := 30) rfl hZ hown (host := "") (Or.inl (own_t hw 44 rfl)) Via.refl e132 (S_S.ext (O_0).2) ?_
  intro T133 X133 e133
  refine own_ifNo X133 hx hby own_d2_30 (pc' := 33) rfl (feq hS).1 ?_
  refine own_aloadN X133 hx hby own_d2_33 (pc' := 34) rfl rfl rfl ?_
  refine own_iloadN X133 hx hby own_d2_34 (pc' := 35) rfl rfl ?_
  refine own_iloadN X133 hx hby own_d2_35 (pc' := 36) rfl rfl ?_
  refine own_callS X133 hx hZ (rm_c3_2_2 l Z a0 hw [] a2 c0 c1 h0 n0 (O_0) S_A S_H S_L (A_2) hk0 hk1) hown (own_t hw 65 rfl) (own_t hw 66 rfl) (own_t hw 67 rfl) (own_t hw 68 rfl) (by decide) (W := 0) (by decide) (by decide) (by rw [hml]; rfl) (argsL := [(.ref a2), (.int (0 : Int32)), (.int (2 : Int32))]) (rest := []) rfl (lenOf own_pd4 rfl) rfl (Nat.le_of_eq rfl) (hb hby own_d2_36) e133 (by decide) (by decide) ?_
  intro v134 T134 L134 X134 hQ134
  obtain ⟨b134, hv134, N134q, K134, g134, A134⟩ := hQ134
  subst hv134
  have N134 := Fr.app N0 N134q
  show own_Go p.tables e below (T134.setTop (mkF m 39 #[.val (.ref a1), .val (.ref a2), .val (.int (0 : Int32)), .val (.int (2 : Int32)), .val .null, .unset] [(.ref b134)])) _
  refine own_astore X134 hx hby own_d2_39 (pc' := 41) rfl rfl (Ls' := #[.val (.ref a1), .val (.ref a2), .val (.int (0 : Int32)), .val (.int (2 : Int32)), .val .null, .val (.ref b134)]) rfl ?_
  refine own_aloadN X134 hx hby own_d2_41 (pc' := 42) rfl rfl rfl ?_
  refine own_aload X134 hx hby own_d2_42 (pc' := 44) rfl rfl rfl ?_
  refine own_iloadN X134 hx hby own_d2_44 (pc' := 45) rfl rfl ?_
  refine own_callS X134 hx hZ (rm_cf2_0 l Z a0 hw [] b134 c0 c1 T134.heap n0 ((O_0.keep K134 all0)) (A134)) hown (own_t hw 91 rfl) (own_t hw 92 rfl) (own_t hw 67 rfl) (own_t hw 93 rfl) (by decide) (W := 1) (by decide) (by decide) (by rw [hml]; rfl) (argsL := [(.ref b134), (.int (2 : Int32))]) (rest := [(.ref a1)]) rfl (lenOf own_pd6 rfl) rfl (Nat.le_of_eq rfl) (hb hby own_d2_45) rfl (by decide) (by decide) ?_
  intro v135 T135 L135 X135 hQ135
  obtain ⟨hv135, N135q, e135⟩ := hQ135
  subst hv135
  have N135 := Fr.app N134 N135q
  show own_Go p.tables e below (T135.setTop (mkF m 48 #[.val (.ref a1), .val (.ref a2), .val (.int (0 : Int32)), .val (.int (2 : Int32)), .val .null, .val (.ref b134)] [(.int (0 : Int32)), (.ref a1)])) _
  refine own_putN X135 hx hby own_d2_48 (pc' := 51) rfl hZ hown (own_t hw 22 rfl) Via.refl e135 (F_c.keep K134 nin0) (E_1.keep K134) (Or.inr ⟨(own_t hw 18 rfl), rfl, hnm⟩) (own_t hw 3 rfl) (ty := .byte) (v' := (.int (0 : Int32))) (by decide) rfl rfl ?_
  intro T136 h136 X136 e136 W136
  have F136 := ((F_c.keep K134 nin0)).same W136
  have N136 := Fr.snoc X136 N135 G_1
  refine own_aloadN X136 hx hby own_d2_51 (pc' := 52) rfl rfl rfl ?_
  refine own_aload X136 hx hby own_d2_52 (pc' := 54) rfl rfl rfl ?_
  refine own_put X136 hx hby own_d2_54 (pc' := 57) rfl hZ hown (host := "") (Or.inl (own_t hw 21 rfl)) Via.refl e136 ((F_v.keep K134 nin0).other W136 (Or.inr (slot_ne (Or.inr (own_t hw 17 rfl)) (Or.inr (own_t hw 18 rfl)) (by decide) (t := (.array .byte)) (t' := .byte) (by decide) (by decide)))) ((E_1.keep K134).wr W136) (Or.inr ⟨(own_t hw 17 rfl), rfl, hnm⟩) (own_t hw 3 rfl) (ty := (.array .byte)) (by decide) rfl rfl ?_
  intro T137 h137 X137 e137 W137
  have F137 := (((F_v.keep K134 nin0).other W136 (Or.inr (slot_ne (Or.inr (own_t hw 17 rfl)) (Or.inr (own_t hw 18 rfl)) (by decide) (t := (.array .byte)) (t' := .byte) (by decide) (by decide))))).same W137
  have N137 := Fr.snoc X137 N136 G_1
  exact own_retV X137 hx hret (hb hby own_d2_57) hlk (by decide) (by decide) ⟨rfl, N137, by rw [e137]; exact ⟨((((Keep.refl h0 [a1]).trans K134 all0).wr W136 (Or.inl (List.mem_of_getElem? (i := 0) rfl))).wr W137 (Or.inl (List.mem_of_getElem? (i := 0) rfl))), (((E_1.keep K134).wr W136).wr W137), (F136.other W137 (Or.inr (slot_ne (Or.inr (own_t hw 18 rfl)) (Or.inr (own_t hw 17 rfl)) (by decide) (t := .byte) (t' := (.array .byte)) (by decide) (by decide)))), b134, F137, ((A134.other W136 (Ne.symm (Nat.ne_of_lt (Nat.lt_of_lt_of_le (E_1).lt g134)))).other W137 (Ne.symm (Nat.ne_of_lt (Nat.lt_of_lt_of_le (E_1).lt g134))))⟩⟩
theorem own_ef_rm_i1_2_2 (m : MethodId) (a1 : Addr) (a2 : Addr) : entryFrame m #[(.ref a1), (.ref a2)] 2 = mkF m 0 #[.val (.ref a1), .val (.ref a2)] [] := by first | (simp [entryFrame, mkF, argsToLocals, Value.category]; done) | rfl
def Qrm_i1_2_2 (Z : State) (a1 : Addr) (a2 : Addr) (c0 : Int32) (c1 : Int32) (gS : Int32) (h0 : Heap) (n0 : Nat) (v : Option Value) (h : Heap) (L : List Loc) : Prop := v = none ∧ Fr n0 L ∧ Keep h0 h [a1] ∧ Exa Z h a1 "java/lang/String" ∧ Fld Z h a1 "java/lang/String" "coder" "B" (.int (0 : Int32)) ∧ ∃ t, Fld Z h a1 "java/lang/String" "value" "[B" (.ref t) ∧ own_Ar Z h t .byte [(.int (lo8 c0)), (.int (lo8 c1))]
set_option maxRecDepth 65536 in
set_option maxHeartbeats 40000000 in
theorem rm_i1_2_2 (l : Launch) (Z : State) (a0 : Array Value) (hw : ∀ d ∈ tables_1, d.before a0 Z = true) (ws : List Jvm.Cond) (a1 : Addr) (a2 : Addr) (c0 : Int32) (c1 : Int32) (gS : Int32) (h0 : Heap) (n0 : Nat) (O_0 : Old Z n0 h0) (S_S : Sta Z Z.heap "java/lang/String" "COMPACT_STRINGS" "Z" (.int gS)) (hS : ¬ gS = 0) (S_A : Sta Z Z.heap "java/lang/StringUTF16" "$assertionsDisabled" "Z" (.int (1 : Int32))) (S_H : Sta Z Z.heap "java/lang/StringUTF16" "HI_BYTE_SHIFT" "I" (.int (0 : Int32))) (S_L : Sta Z Z.heap "java/lang/StringUTF16" "LO_BYTE_SHIFT" "I" (.int (8 : Int32))) (E_1 : Exa Z h0 a1 "java/lang/String") (F_v : Fld Z h0 a1 "java/lang/String" "value" "[B" .null) (F_c : Fld Z h0 a1 "java/lang/String" "coder" "B" (.int (0 : Int32))) (G_1 : n0 ≤ a1) (A_2 : own_Ar Z h0 a2 .char [(.int c0), (.int c1)]) (hk0 : ¬ (255 : Int32) < c0) (hk1 : ¬ (255 : Int32) < c1) :
    own_Met l (⟨"java/lang/String", "<init>", "([C)V"⟩ : MethodName) jdk_42_method_3_code 2 none ws ({ frames := 5, cells := 2, slots := 6, locals := 74 } : Room) #[(.ref a1), (.ref a2)] Z h0 (Qrm_i1_2_2 Z a1 a2 c0 c1 gS h0 n0) := by
  refine own_body own_pn1 ?_
  intro p e s m below meth c T0 X0 hx hby hml hown hnm hret hlk hZ e0
  have N0 := Fr.nil n0
  refine own_st (fun t k => castTop (own_ef_rm_i1_2_2 m a1 a2) k) ?_
  show own_Go p.tables e below (T0.setTop (mkF m 0 #[.val (.ref a1), .val (.ref a2)] [])) _
  have Z0 := own_Z0 O_0
  refine own_aloadN X0 hx hby own_d1_0 (pc' := 1) rfl rfl rfl ?_
  refine own_aloadN X0 hx hby own_d1_1 (pc' := 2) rfl rfl rfl ?_
  refine own_iconst X0 hx hby own_d1_2 (pc' := 3) rfl (z := (0 : Int32)) (by decide) ?_
  refine own_aloadN X0 hx hby own_d1_3 (pc' := 4) rfl rfl rfl ?_
  refine own_len X0 hx hby own_d1_4 (pc' := 5) rfl hZ e0 (A_2) (n := (2 : Int32)) (by rfl) ?_
  refine own_aconst_null X0 hx hby own_d1_5 (pc' := 6) rfl ?_
  refine own_callSp X0 hx hZ (rm_i4_2_2 l Z a0 hw [] a1 a2 c0 c1 gS h0 n0 (O_0) S_S hS S_A S_H S_L E_1 F_v F_c G_1 (A_2) hk0 hk1) rfl hown (own_t hw 8 rfl) (own_t hw 9 rfl) (own_t hw 11 rfl) (own_t hw 4 rfl) (by decide) (W := 0) (by decide) (by decide) (by rw [hml]; rfl) (argsL := [(.ref a2), (.int (0 : Int32)), (.int (2 : Int32)), .null]) (rest := []) rfl (lenOf own_pd7 rfl) rfl (Nat.le_of_eq rfl) (hb hby own_d1_6) e0 (by decide) (by decide) ?_
  intro v138 T138 L138 X138 hQ138
  obtain ⟨hv138, N138q, K138, R138⟩ := hQ138
  subst hv138
  have N138 := Fr.app N0 N138q
  show own_Go p.tables e below (T138.setTop (mkF m 9 #[.val (.ref a1), .val (.ref a2)] [])) _
  exact own_retV X138 hx hret (hb hby own_d1_9) hlk (by decide) (by decide) ⟨rfl, N138, ((Keep.refl h0 [a1]).trans K138 (allS (Or.inl (List.mem_of_getElem? (i := 0) rfl)) all0)), R138⟩
theorem own_ef_rm_i4_3_0 (m : MethodId) (a1 : Addr) (a2 : Addr) : entryFrame m #[(.ref a1), (.ref a2), (.int (0 : Int32)), (.int (3 : Int32)), .null] 6 = mkF m 0 #[.val (.ref a1), .val (.ref a2), .val (.int (0 : Int32)), .val (.int (3 : Int32)), .val .null, .unset] [] := by first | (simp [entryFrame, mkF, argsToLocals, Value.category]; done) | rfl
def Qrm_i4_3_0 (Z : State) (a1 : Addr) (a2 : Addr) (c0 : Int32) (c1 : Int32) (c2 : Int32) (gS : Int32) (h0 : Heap) (n0 : Nat) (v : Option Value) (h : Heap) (L : List Loc) : Prop := v = none ∧ Fr n0 L ∧ Keep h0 h [a1] ∧ Exa Z h a1 "java/lang/String" ∧ Fld Z h a1 "java/lang/String" "coder" "B" (.int (1 : Int32)) ∧ ∃ t, Fld Z h a1 "java/lang/String" "value" "[B" (.ref t) ∧ own_Ar Z h t .byte [(.int (lo8 c0)), (.int (hi8 c0)), (.int (lo8 c1)), (.int (hi8 c1)), (.int (lo8 c2)), (.int (hi8 c2))]
set_option maxRecDepth 65536 in
set_option maxHeartbeats 40000000 in
theorem rm_i4_3_0 (l : Launch) (Z : State) (a0 : Array Value) (hw : ∀ d ∈ tables_1, d.before a0 Z = true) (ws : List Jvm.Cond) (a1 : Addr) (a2 : Addr) (c0 : Int32) (c1 : Int32) (c2 : Int32) (gS : Int32) (h0 : Heap) (n0 : Nat) (O_0 : Old Z n0 h0) (S_S : Sta Z Z.heap "java/lang/String" "COMPACT_STRINGS" "Z" (.int gS)) (hS : ¬ gS = 0) (S_A : Sta Z Z.heap "java/lang/StringUTF16" "$assertionsDisabled" "Z" (.int (1 : Int32))) (S_H : Sta Z Z.heap "java/lang/StringUTF16" "HI_BYTE_SHIFT" "I" (.int (0 : Int32))) (S_L : Sta Z Z.heap "java/lang/StringUTF16" "LO_BYTE_SHIFT" "I" (.int (8 : Int32))) (E_1 : Exa Z h0 a1 "java/lang/String") (F_v : Fld Z h0 a1 "java/lang/String" "value" "[B" .null) (F_c : Fld Z h0 a1 "java/lang/String" "coder" "B" (.int (0 : Int32))) (G_1 : n0 ≤ a1) (A_2 : own_Ar Z h0 a2 .char [(.int c0), (.int c1), (.int c2)]) (hb0 : own_W c0) (hk0 : (255 : Int32) < c0) :
    own_Met l (⟨"java/lang/String", "<init>", "([CIILjava/lang/Void;)V"⟩ : MethodName) jdk_42_method_149_code 6 none ws ({ frames := 4, cells := 2, slots := 9, locals := 57 } : Room) #[(.ref a1), (.ref a2), (.int (0 : Int32)), (.int (3 : Int32)), .null] Z h0 (Qrm_i4_3_0 Z a1 a2 c0 c1 c2 gS h0 n0) := by
  refine own_body own_pn2 ?_
  intro p e s m below meth c T0 X0 hx hby hml hown hnm hret hlk hZ e0
  have N0 := Fr.nil n0
  refine own_st (fun t k => castTop (own_ef_rm_i4_3_0 m a1 a2) k) ?_
  show own_Go p.tables e below (T0.setTop (mkF m 0 #[.val (.ref a1), .val (.ref a2), .val (.int (0 : Int32)), .val (.int (3 : Int32)), .val .null, .unset] [])) _
  have Z0 := own_Z0 O_0
  refine own_aloadN X0 hx hby own_d2_0 (pc' := 1) rfl rfl rfl ?_
  refine own_initO X0 hx hby own_d2_1 (pc' := 4) rfl hZ hown (own_t hw 12 rfl) (own_t hw 13 rfl) (own_t hw 14 rfl) e0 (by rw [hml]; rfl) (by decide) (W := 0) (Nat.le_of_eq rfl) (by decide) ?_
  intro T139 X139 e139
  show own_Go p.tables e below (T139.setTop (mkF m 4 #[.val (.ref a1), .val (.ref a2), .val (.int (0 : Int32)), .val (.int (3 : Int32)), .val .null, .unset] [])) _
  refine own_iloadN X139 hx hby own_d2_4 (pc' := 5) rfl rfl ?_
  refine own_ifYes X139 hx hby own_d2_5 (pc' := 27) (by decide) (by decide) ?_
  refine own_getS X139 hx hby own_d2_27 (pc' := 30) rfl hZ hown (host := "") (Or.inl (own_t hw 44 rfl)) Via.refl e139 (S_S.ext (O_0).2) ?_
  intro T140 X140 e140
  refine own_ifNo X140 hx hby own_d2_30 (pc' := 33) rfl (feq hS).1 ?_
  refine own_aloadN X140 hx hby own_d2_33 (pc' := 34) rfl rfl rfl ?_
  refine own_iloadN X140 hx hby own_d2_34 (pc' := 35) rfl rfl ?_
  refine own_iloadN X140 hx hby own_d2_35 (pc' := 36) rfl rfl ?_
  refine own_callS X140 hx hZ (rm_c3_3_0 l Z a0 hw [] a2 c0 c1 c2 h0 n0 (O_0) S_A S_H S_L (A_2) hb0 hk0) hown (own_t hw 65 rfl) (own_t hw 66 rfl) (own_t hw 67 rfl) (own_t hw 68 rfl) (by decide) (W := 0) (by decide) (by decide) (by rw [hml]; rfl) (argsL := [(.ref a2), (.int (0 : Int32)), (.int (3 : Int32))]) (rest := []) rfl (lenOf own_pd4 rfl) rfl (Nat.le_of_eq rfl) (hb hby own_d2_36) e140 (by decide) (by decide) ?_
  intro v141 T141 L141 X141 hQ141
  obtain ⟨b141, hv141, N141q, K141, g141, A141⟩ := hQ141
  subst hv141
  have N141 := Fr.app N0 N141q
  show own_Go p.tables e below (T141.setTop (mkF m 39 #[.val (.ref a1), .val (.ref a2), .val (.int (0 : Int32)), .val (.int (3 : Int32)), .val .null, .unset] [(.ref b141)])) _
  refine own_astore X141 hx hby own_d2_39 (pc' := 41) rfl rfl (Ls' := #[.val (.ref a1), .val (.ref a2), .val (.int (0 : Int32)), .val (.int (3 : Int32)), .val .null, .val (.ref b141)]) rfl ?_
  refine own_aloadN X141 hx hby own_d2_41 (pc' := 42) rfl rfl rfl ?_
  refine own_aload X141 hx hby own_d2_42 (pc' := 44) rfl rfl rfl ?_
  refine own_iloadN X141 hx hby own_d2_44 (pc' := 45) rfl rfl ?_
  refine own_callS X141 hx hZ (rm_cf3_1 l Z a0 hw [] b141 c0 c1 c2 T141.heap n0 ((O_0.keep K141 all0)) (A141)) hown (own_t hw 91 rfl) (own_t hw 92 rfl) (own_t hw 67 rfl) (own_t hw 93 rfl) (by decide) (W := 1) (by decide) (by decide) (by rw [hml]; rfl) (argsL := [(.ref b141), (.int (3 : Int32))]) (rest := [(.ref a1)]) rfl (lenOf own_pd6 rfl) rfl (Nat.le_of_eq rfl) (hb hby own_d2_45) rfl (by decide) (by decide) ?_
  intro v142 T142 L142 X142 hQ142
  obtain ⟨hv142, N142q, e142⟩ := hQ142
  subst hv142
  have N142 := Fr.app N141 N142q
  show own_Go p.tables e below (T142.setTop (mkF m 48 #[.val (.ref a1), .val (.ref a2), .val (.int (0 : Int32)), .val (.int (3 : Int32)), .val .null, .val (.ref b141)] [(.int (1 : Int32)), (.ref a1)])) _
  refine own_putN X142 hx hby own_d2_48 (pc' := 51) rfl hZ hown (own_t hw 22 rfl) Via.refl e142 (F_c.keep K141 nin0) (E_1.keep K141) (Or.inr ⟨(own_t hw 18 rfl), rfl, hnm⟩) (own_t hw 3 rfl) (ty := .byte) (v' := (.int (1 : Int32))) (by decide) rfl rfl ?_
  intro T143 h143 X143 e143 W143
  have F143 := ((F_c.keep K141 nin0)).same W143
  have N143 := Fr.snoc X143 N142 G_1
  refine own_aloadN X143 hx hby own_d2_51 (pc' := 52) rfl rfl rfl ?_
  refine own_aload X143 hx hby own_d2_52 (pc' := 54) rfl rfl rfl ?_
  refine own_put X143 hx hby own_d2_54 (pc' := 57) rfl hZ hown (host := "") (Or.inl (own_t hw 21 rfl)) Via.refl e143 ((F_v.keep K141 nin0).other W143 (Or.inr (slot_ne (Or.inr (own_t hw 17 rfl)) (Or.inr (own_t hw 18 rfl)) (by decide) (t := (.array .byte)) (t' := .byte) (by decide) (by decide)))) ((E_1.keep K141).wr W143) (Or.inr ⟨(own_t hw 17 rfl), rfl, hnm⟩) (own_t hw 3 rfl) (ty := (.array .byte)) (by decide) rfl rfl ?_
  intro T144 h144 X144 e144 W144
  have F144 := (((F_v.keep K141 nin0).other W143 (Or.inr (slot_ne (Or.inr (own_t hw 17 rfl)) (Or.inr (own_t hw 18 rfl)) (by decide) (t := (.array .byte)) (t' := .byte) (by decide) (by decide))))).same W144
  have N144 := Fr.snoc X144 N143 G_1
  exact own_retV X144 hx hret (hb hby own_d2_57) hlk (by decide) (by decide) ⟨rfl, N144, by rw [e144]; exact ⟨((((Keep.refl h0 [a1]).trans K141 all0).wr W143 (Or.inl (List.mem_of_getElem? (i := 0) rfl))).wr W144 (Or.inl (List.mem_of_getElem? (i := 0) rfl))), (((E_1.keep K141).wr W143).wr W144), (F143.other W144 (Or.inr (slot_ne (Or.inr (own_t hw 18 rfl)) (Or.inr (own_t hw 17 rfl)) (by decide) (t := .byte) (t' := (.array .byte)) (by decide) (by decide)))), b141, F144, ((A141.other W143 (Ne.symm (Nat.ne_of_lt (Nat.lt_of_lt_of_le (E_1).lt g141)))).other W144 (Ne.symm (Nat.ne_of_lt (Nat.lt_of_lt_of_le (E_1).lt g141))))⟩⟩
theorem own_ef_rm_i1_3_0 (m : MethodId) (a1 : Addr) (a2 : Addr) : entryFrame m #[(.ref a1), (.ref a2)] 2 = mkF m 0 #[.val (.ref a1), .val (.ref a2)] [] := by first | (simp [entryFrame, mkF, argsToLocals, Value.category]; done) | rfl
def Qrm_i1_3_0 (Z : State) (a1 : Addr) (a2 : Addr) (c0 : Int32) (c1 : Int32) (c2 : Int32) (gS : Int32) (h0 : Heap) (n0 : Nat) (v : Option Value) (h : Heap) (L : List Loc) : Prop := v = none ∧ Fr n0 L ∧ Keep h0 h [a1] ∧ Exa Z h a1 "java/lang/String" ∧ Fld Z h a1 "java/lang/String" "coder" "B" (.int (1 : Int32)) ∧ ∃ t, Fld Z h a1 "java/lang/String" "value" "[B" (.ref t) ∧ own_Ar Z h t .byte [(.int (lo8 c0)), (.int (hi8 c0)), (.int (lo8 c1)), (.int (hi8 c1)), (.int (lo8 c2)), (.int (hi8 c2))]
set_option maxRecDepth 65536 in
set_option maxHeartbeats 40000000 in
theorem rm_i1_3_0 (l : Launch) (Z : State) (a0 : Array Value) (hw : ∀ d ∈ tables_1, d.before a0 Z = true) (ws : List Jvm.Cond) (a1 : Addr) (a2 : Addr) (c0 : Int32) (c1 : Int32) (c2 : Int32) (gS : Int32) (h0 : Heap) (n0 : Nat) (O_0 : Old Z n0 h0) (S_S : Sta Z Z.heap "java/lang/String" "COMPACT_STRINGS" "Z" (.int gS)) (hS : ¬ gS = 0) (S_A : Sta Z Z.heap "java/lang/StringUTF16" "$assertionsDisabled" "Z" (.int (1 : Int32))) (S_H : Sta Z Z.heap "java/lang/StringUTF16" "HI_BYTE_SHIFT" "I" (.int (0 : Int32))) (S_L : Sta Z Z.heap "java/lang/StringUTF16" "LO_BYTE_SHIFT" "I" (.int (8 : Int32))) (E_1 : Exa Z h0 a1 "java/lang/String") (F_v : Fld Z h0 a1 "java/lang/String" "value" "[B" .null) (F_c : Fld Z h0 a1 "java/lang/String" "coder" "B" (.int (0 : Int32))) (G_1 : n0 ≤ a1) (A_2 : own_Ar Z h0 a2 .char [(.int c0), (.int c1), (.int c2)]) (hb0 : own_W c0) (hk0 : (255 : Int32) < c0) :
    own_Met l (⟨"java/lang/String", "<init>", "([C)V"⟩ : MethodName) jdk_42_method_3_code 2 none ws ({ frames := 5, cells := 2, slots := 9, locals := 74 } : Room) #[(.ref a1), (.ref a2)] Z h0 (Qrm_i1_3_0 Z a1 a2 c0 c1 c2 gS h0 n0) := by
  refine own_body own_pn1 ?_
  intro p e s m below meth c T0 X0 hx hby hml hown hnm hret hlk hZ e0
  have N0 := Fr.nil n0
  refine own_st (fun t k => castTop (own_ef_rm_i1_3_0 m a1 a2) k) ?_
  show own_Go p.tables e below (T0.setTop (mkF m 0 #[.val (.ref a1), .val (.ref a2)] [])) _
  have Z0 := own_Z0 O_0
  refine own_aloadN X0 hx hby own_d1_0 (pc' := 1) rfl rfl rfl ?_
  refine own_aloadN X0 hx hby own_d1_1 (pc' := 2) rfl rfl rfl ?_
  refine own_iconst X0 hx hby own_d1_2 (pc' := 3) rfl (z := (0 : Int32)) (by decide) ?_
  refine own_aloadN X0 hx hby own_d1_3 (pc' := 4) rfl rfl rfl ?_
  refine own_len X0 hx hby own_d1_4 (pc' := 5) rfl hZ e0 (A_2) (n := (3 : Int32)) (by rfl) ?_
  refine own_aconst_null X0 hx hby own_d1_5 (pc' := 6) rfl ?_
  refine own_callSp X0 hx hZ (rm_i4_3_0 l Z a0 hw [] a1 a2 c0 c1 c2 gS h0 n0 (O_0) S_S hS S_A S_H S_L E_1 F_v F_c G_1 (A_2) hb0 hk0) rfl hown (own_t hw 8 rfl) (own_t hw 9 rfl) (own_t hw 11 rfl) (own_t hw 4 rfl) (by decide) (W := 0) (by decide) (by decide) (by rw [hml]; rfl) (argsL := [(.ref a2), (.int (0 : Int32)), (.int (3 : Int32)), .null]) (rest := []) rfl (lenOf own_pd7 rfl) rfl (Nat.le_of_eq rfl) (hb hby own_d1_6) e0 (by decide) (by decide) ?_
  intro v145 T145 L145 X145 hQ145
  obtain ⟨hv145, N145q, K145, R145⟩ := hQ145
  subst hv145
  have N145 := Fr.app N0 N145q
  show own_Go p.tables e below (T145.setTop (mkF m 9 #[.val (.ref a1), .val (.ref a2)] [])) _
  exact own_retV X145 hx hret (hb hby own_d1_9) hlk (by decide) (by decide) ⟨rfl, N145, ((Keep.refl h0 [a1]).trans K145 (allS (Or.inl (List.mem_of_getElem? (i := 0) rfl)) all0)), R145⟩
theorem own_ef_rm_i4_3_1 (m : MethodId) (a1 : Addr) (a2 : Addr) : entryFrame m #[(.ref a1), (.ref a2), (.int (0 : Int32)), (.int (3 : Int32)), .null] 6 = mkF m 0 #[.val (.ref a1), .val (.ref a2), .val (.int (0 : Int32)), .val (.int (3 : Int32)), .val .null, .unset] [] := by first | (simp [entryFrame, mkF, argsToLocals, Value.category]; done) | rfl
def Qrm_i4_3_1 (Z : State) (a1 : Addr) (a2 : Addr) (c0 : Int32) (c1 : Int32) (c2 : Int32) (gS : Int32) (h0 : Heap) (n0 : Nat) (v : Option Value) (h : Heap) (L : List Loc) : Prop := v = none ∧ Fr n0 L ∧ Keep h0 h [a1] ∧ Exa Z h a1 "java/lang/String" ∧ Fld Z h a1 "java/lang/String" "coder" "B" (.int (1 : Int32)) ∧ ∃ t, Fld Z h a1 "java/lang/String" "value" "[B" (.ref t) ∧ own_Ar Z h t .byte [(.int (lo8 c0)), (.int (hi8 c0)), (.int (lo8 c1)), (.int (hi8 c1)), (.int (lo8 c2)), (.int (hi8 c2))]
set_option maxRecDepth 65536 in
set_option maxHeartbeats 40000000 in
theorem rm_i4_3_1 (l : Launch) (Z : State) (a0 : Array Value) (hw : ∀ d ∈ tables_1, d.before a0 Z = true) (ws : List Jvm.Cond) (a1 : Addr) (a2 : Addr) (c0 : Int32) (c1 : Int32) (c2 : Int32) (gS : Int32) (h0 : Heap) (n0 : Nat) (O_0 : Old Z n0 h0) (S_S : Sta Z Z.heap "java/lang/String" "COMPACT_STRINGS" "Z" (.int gS)) (hS : ¬ gS = 0) (S_A : Sta Z Z.heap "java/lang/StringUTF16" "$assertionsDisabled" "Z" (.int (1 : Int32))) (S_H : Sta Z Z.heap "java/lang/StringUTF16" "HI_BYTE_SHIFT" "I" (.int (0 : Int32))) (S_L : Sta Z Z.heap "java/lang/StringUTF16" "LO_BYTE_SHIFT" "I" (.int (8 : Int32))) (E_1 : Exa Z h0 a1 "java/lang/String") (F_v : Fld Z h0 a1 "java/lang/String" "value" "[B" .null) (F_c : Fld Z h0 a1 "java/lang/String" "coder" "B" (.int (0 : Int32))) (G_1 : n0 ≤ a1) (A_2 : own_Ar Z h0 a2 .char [(.int c0), (.int c1), (.int c2)]) (hb1 : own_W c1) (hk0 : ¬ (255 : Int32) < c0) (hk1 : (255 : Int32) < c1) :
    own_Met l (⟨"java/lang/String", "<init>", "([CIILjava/lang/Void;)V"⟩ : MethodName) jdk_42_method_149_code 6 none ws ({ frames := 4, cells := 2, slots := 9, locals := 57 } : Room) #[(.ref a1), (.ref a2), (.int (0 : Int32)), (.int (3 : Int32)), .null] Z h0 (Qrm_i4_3_1 Z a1 a2 c0 c1 c2 gS h0 n0) := by
  refine own_body own_pn2 ?_
  intro p e s m below meth c T0 X0 hx hby hml hown hnm hret hlk hZ e0
  have N0 := Fr.nil n0
  refine own_st (fun t k => castTop (own_ef_rm_i4_3_1 m a1 a2) k) ?_
  show own_Go p.tables e below (T0.setTop (mkF m 0 #[.val (.ref a1), .val (.ref a2), .val (.int (0 : Int32)), .val (.int (3 : Int32)), .val .null, .unset] [])) _
  have Z0 := own_Z0 O_0
  refine own_aloadN X0 hx hby own_d2_0 (pc' := 1) rfl rfl rfl ?_
  refine own_initO X0 hx hby own_d2_1 (pc' := 4) rfl hZ hown (own_t hw 12 rfl) (own_t hw 13 rfl) (own_t hw 14 rfl) e0 (by rw [hml]; rfl) (by decide) (W := 0) (Nat.le_of_eq rfl) (by decide) ?_
  intro T146 X146 e146
  show own_Go p.tables e below (T146.setTop (mkF m 4 #[.val (.ref a1), .val (.ref a2), .val (.int (0 : Int32)), .val (.int (3 : Int32)), .val .null, .unset] [])) _
  refine own_iloadN X146 hx hby own_d2_4 (pc' := 5) rfl rfl ?_
  refine own_ifYes X146 hx hby own_d2_5 (pc' := 27) (by decide) (by decide) ?_
  refine own_getS X146 hx hby own_d2_27 (pc' := 30) rfl hZ hown (host := "") (Or.inl (own_t hw 44 rfl)) Via.refl e146 (S_S.ext (O_0).2) ?_
  intro T147 X147 e147
  refine own_ifNo X147 hx hby own_d2_30 (pc' := 33) rfl (feq hS).1 ?_
  refine own_aloadN X147 hx hby own_d2_33 (pc' := 34) rfl rfl rfl ?_
  refine own_iloadN X147 hx hby own_d2_34 (pc' := 35) rfl rfl ?_
  refine own_iloadN X147 hx hby own_d2_35 (pc' := 36) rfl rfl ?_
  refine own_callS X147 hx hZ (rm_c3_3_1 l Z a0 hw [] a2 c0 c1 c2 h0 n0 (O_0) S_A S_H S_L (A_2) hb1 hk0 hk1) hown (own_t hw 65 rfl) (own_t hw 66 rfl) (own_t hw 67 rfl) (own_t hw 68 rfl) (by decide) (W := 0) (by decide) (by decide) (by rw [hml]; rfl) (argsL := [(.ref a2), (.int (0 : Int32)), (.int (3 : Int32))]) (rest := []) rfl (lenOf own_pd4 rfl) rfl (Nat.le_of_eq rfl) (hb hby own_d2_36) e147 (by decide) (by decide) ?_
  intro v148 T148 L148 X148 hQ148
  obtain ⟨b148, hv148, N148q, K148, g148, A148⟩ := hQ148
  subst hv148
  have N148 := Fr.app N0 N148q
  show own_Go p.tables e below (T148.setTop (mkF m 39 #[.val (.ref a1), .val (.ref a2), .val (.int (0 : Int32)), .val (.int (3 : Int32)), .val .null, .unset] [(.ref b148)])) _
  refine own_astore X148 hx hby own_d2_39 (pc' := 41) rfl rfl (Ls' := #[.val (.ref a1), .val (.ref a2), .val (.int (0 : Int32)), .val (.int (3 : Int32)), .val .null, .val (.ref b148)]) rfl ?_
  refine own_aloadN X148 hx hby own_d2_41 (pc' := 42) rfl rfl rfl ?_
  refine own_aload X148 hx hby own_d2_42 (pc' := 44) rfl rfl rfl ?_
  refine own_iloadN X148 hx hby own_d2_44 (pc' := 45) rfl rfl ?_
  refine own_callS X148 hx hZ (rm_cf3_1 l Z a0 hw [] b148 c0 c1 c2 T148.heap n0 ((O_0.keep K148 all0)) (A148)) hown (own_t hw 91 rfl) (own_t hw 92 rfl) (own_t hw 67 rfl) (own_t hw 93 rfl) (by decide) (W := 1) (by decide) (by decide) (by rw [hml]; rfl) (argsL := [(.ref b148), (.int (3 : Int32))]) (rest := [(.ref a1)]) rfl (lenOf own_pd6 rfl) rfl (Nat.le_of_eq rfl) (hb hby own_d2_45) rfl (by decide) (by decide) ?_
  intro v149 T149 L149 X149 hQ149
  obtain ⟨hv149, N149q, e149⟩ := hQ149
  subst hv149
  have N149 := Fr.app N148 N149q
  show own_Go p.tables e below (T149.setTop (mkF m 48 #[.val (.ref a1), .val (.ref a2), .val (.int (0 : Int32)), .val (.int (3 : Int32)), .val .null, .val (.ref b148)] [(.int (1 : Int32)), (.ref a1)])) _
  refine own_putN X149 hx hby own_d2_48 (pc' := 51) rfl hZ hown (own_t hw 22 rfl) Via.refl e149 (F_c.keep K148 nin0) (E_1.keep K148) (Or.inr ⟨(own_t hw 18 rfl), rfl, hnm⟩) (own_t hw 3 rfl) (ty := .byte) (v' := (.int (1 : Int32))) (by decide) rfl rfl ?_
  intro T150 h150 X150 e150 W150
  have F150 := ((F_c.keep K148 nin0)).same W150
  have N150 := Fr.snoc X150 N149 G_1
  refine own_aloadN X150 hx hby own_d2_51 (pc' := 52) rfl rfl rfl ?_
  refine own_aload X150 hx hby own_d2_52 (pc' := 54) rfl rfl rfl ?_
  refine own_put X150 hx hby own_d2_54 (pc' := 57) rfl hZ hown (host := "") (Or.inl (own_t hw 21 rfl)) Via.refl e150 ((F_v.keep K148 nin0).other W150 (Or.inr (slot_ne (Or.inr (own_t hw 17 rfl)) (Or.inr (own_t hw 18 rfl)) (by decide) (t := (.array .byte)) (t' := .byte) (by decide) (by decide)))) ((E_1.keep K148).wr W150) (Or.inr ⟨(own_t hw 17 rfl), rfl, hnm⟩) (own_t hw 3 rfl) (ty := (.array .byte)) (by decide) rfl rfl ?_
  intro T151 h151 X151 e151 W151
  have F151 := (((F_v.keep K148 nin0).other W150 (Or.inr (slot_ne (Or.inr (own_t hw 17 rfl)) (Or.inr (own_t hw 18 rfl)) (by decide) (t := (.array .byte)) (t' := .byte) (by decide) (by decide))))).same W151
  have N151 := Fr.snoc X151 N150 G_1
  exact own_retV X151 hx hret (hb hby own_d2_57) hlk (by decide) (by decide) ⟨rfl, N151, by rw [e151]; exact ⟨((((Keep.refl h0 [a1]).trans K148 all0).wr W150 (Or.inl (List.mem_of_getElem? (i := 0) rfl))).wr W151 (Or.inl (List.mem_of_getElem? (i := 0) rfl))), (((E_1.keep K148).wr W150).wr W151), (F150.other W151 (Or.inr (slot_ne (Or.inr (own_t hw 18 rfl)) (Or.inr (own_t hw 17 rfl)) (by decide) (t := .byte) (t' := (.array .byte)) (by decide) (by decide)))), b148, F151, ((A148.other W150 (Ne.symm (Nat.ne_of_lt (Nat.lt_of_lt_of_le (E_1).lt g148)))).other W151 (Ne.symm (Nat.ne_of_lt (Nat.lt_of_lt_of_le (E_1).lt g148))))⟩⟩
theorem own_ef_rm_i1_3_1 (m : MethodId) (a1 : Addr) (a2 : Addr) : entryFrame m #[(.ref a1), (.ref a2)] 2 = mkF m 0 #[.val (.ref a1), .val (.ref a2)] [] := by first | (simp [entryFrame, mkF, argsToLocals, Value.category]; done) | rfl
def Qrm_i1_3_1 (Z : State) (a1 : Addr) (a2 : Addr) (c0 : Int32) (c1 : Int32) (c2 : Int32) (gS : Int32) (h0 : Heap) (n0 : Nat) (v : Option Value) (h : Heap) (L : List Loc) : Prop := v = none ∧ Fr n0 L ∧ Keep h0 h [a1] ∧ Exa Z h a1 "java/lang/String" ∧ Fld Z h a1 "java/lang/String" "coder" "B" (.int (1 : Int32)) ∧ ∃ t, Fld Z h a1 "java/lang/String" "value" "[B" (.ref t) ∧ own_Ar Z h t .byte [(.int (lo8 c0)), (.int (hi8 c0)), (.int (lo8 c1)), (.int (hi8 c1)), (.int (lo8 c2)), (.int (hi8 c2))]
set_option maxRecDepth 65536 in
set_option maxHeartbeats 40000000 in
theorem rm_i1_3_1 (l : Launch) (Z : State) (a0 : Array Value) (hw : ∀ d ∈ tables_1, d.before a0 Z = true) (ws : List Jvm.Cond) (a1 : Addr) (a2 : Addr) (c0 : Int32) (c1 : Int32) (c2 : Int32) (gS : Int32) (h0 : Heap) (n0 : Nat) (O_0 : Old Z n0 h0) (S_S : Sta Z Z.heap "java/lang/String" "COMPACT_STRINGS" "Z" (.int gS)) (hS : ¬ gS = 0) (S_A : Sta Z Z.heap "java/lang/StringUTF16" "$assertionsDisabled" "Z" (.int (1 : Int32))) (S_H : Sta Z Z.heap "java/lang/StringUTF16" "HI_BYTE_SHIFT" "I" (.int (0 : Int32))) (S_L : Sta Z Z.heap "java/lang/StringUTF16" "LO_BYTE_SHIFT" "I" (.int (8 : Int32))) (E_1 : Exa Z h0 a1 "java/lang/String") (F_v : Fld Z h0 a1 "java/lang/String" "value" "[B" .null) (F_c : Fld Z h0 a1 "java/lang/String" "coder" "B" (.int (0 : Int32))) (G_1 : n0 ≤ a1) (A_2 : own_Ar Z h0 a2 .char [(.int c0), (.int c1), (.int c2)]) (hb1 : own_W c1) (hk0 : ¬ (255 : Int32) < c0) (hk1 : (255 : Int32) < c1) :
    own_Met l (⟨"java/lang/String", "<init>", "([C)V"⟩ : MethodName) jdk_42_method_3_code 2 none ws ({ frames := 5, cells := 2, slots := 9, locals := 74 } : Room) #[(.ref a1), (.ref a2)] Z h0 (Qrm_i1_3_1 Z a1 a2 c0 c1 c2 gS h0 n0) := by
  refine own_body own_pn1 ?_
  intro p e s m below meth c T0 X0 hx hby hml hown hnm hret hlk hZ e0
  have N0 := Fr.nil n0
  refine own_st (fun t k => castTop (own_ef_rm_i1_3_1 m a1 a2) k) ?_
  show own_Go p.tables e below (T0.setTop (mkF m 0 #[.val (.ref a1), .val (.ref a2)] [])) _
  have Z0 := own_Z0 O_0
  refine own_aloadN X0 hx hby own_d1_0 (pc' := 1) rfl rfl rfl ?_
  refine own_aloadN X0 hx hby own_d1_1 (pc' := 2) rfl rfl rfl ?_
  refine own_iconst X0 hx hby own_d1_2 (pc' := 3) rfl (z := (0 : Int32)) (by decide) ?_
  refine own_aloadN X0 hx hby own_d1_3 (pc' := 4) rfl rfl rfl ?_
  refine own_len X0 hx hby own_d1_4 (pc' := 5) rfl hZ e0 (A_2) (n := (3 : Int32)) (by rfl) ?_
  refine own_aconst_null X0 hx hby own_d1_5 (pc' := 6) rfl ?_
  refine own_callSp X0 hx hZ (rm_i4_3_1 l Z a0 hw [] a1 a2 c0 c1 c2 gS h0 n0 (O_0) S_S hS S_A S_H S_L E_1 F_v F_c G_1 (A_2) hb1 hk0 hk1) rfl hown (own_t hw 8 rfl) (own_t hw 9 rfl) (own_t hw 11 rfl) (own_t hw 4 rfl) (by decide) (W := 0) (by decide) (by decide) (by rw [hml]; rfl) (argsL := [(.ref a2), (.int (0 : Int32)), (.int (3 : Int32)), .null]) (rest := []) rfl (lenOf own_pd7 rfl) rfl (Nat.le_of_eq rfl) (hb hby own_d1_6) e0 (by decide) (by decide) ?_
  intro v152 T152 L152 X152 hQ152
  obtain ⟨hv152, N152q, K152, R152⟩ := hQ152
  subst hv152
  have N152 := Fr.app N0 N152q
  show own_Go p.tables e below (T152.setTop (mkF m 9 #[.val (.ref a1), .val (.ref a2)] [])) _
  exact own_retV X152 hx hret (hb hby own_d1_9) hlk (by decide) (by decide) ⟨rfl, N152, ((Keep.refl h0 [a1]).trans K152 (allS (Or.inl (List.mem_of_getElem? (i := 0) rfl)) all0)), R152⟩
theorem own_ef_rm_i4_3_2 (m : MethodId) (a1 : Addr) (a2 : Addr) : entryFrame m #[(.ref a1), (.ref a2), (.int (0 : Int32)), (.int (3 : Int32)), .null] 6 = mkF m 0 #[.val (.ref a1), .val (.ref a2), .val (.int (0 : Int32)), .val (.int (3 : Int32)), .val .null, .unset] [] := by first | (simp [entryFrame, mkF, argsToLocals, Value.category]; done) | rfl
def Qrm_i4_3_2 (Z : State) (a1 : Addr) (a2 : Addr) (c0 : Int32) (c1 : Int32) (c2 : Int32) (gS : Int32) (h0 : Heap) (n0 : Nat) (v : Option Value) (h : Heap) (L : List Loc) : Prop := v = none ∧ Fr n0 L ∧ Keep h0 h [a1] ∧ Exa Z h a1 "java/lang/String" ∧ Fld Z h a1 "java/lang/String" "coder" "B" (.int (1 : Int32)) ∧ ∃ t, Fld Z h a1 "java/lang/String" "value" "[B" (.ref t) ∧ own_Ar Z h t .byte [(.int (lo8 c0)), (.int (hi8 c0)), (.int (lo8 c1)), (.int (hi8 c1)), (.int (lo8 c2)), (.int (hi8 c2))]
set_option maxRecDepth 65536 in
set_option maxHeartbeats 40000000 in
theorem rm_i4_3_2 (l : Launch) (Z : State) (a0 : Array Value) (hw : ∀ d ∈ tables_1, d.before a0 Z = true) (ws : List Jvm.Cond) (a1 : Addr) (a2 : Addr) (c0 : Int32) (c1 : Int32) (c2 : Int32) (gS : Int32) (h0 : Heap) (n0 : Nat) (O_0 : Old Z n0 h0) (S_S : Sta Z Z.heap "java/lang/String" "COMPACT_STRINGS" "Z" (.int gS)) (hS : ¬ gS = 0) (S_A : Sta Z Z.heap "java/lang/StringUTF16" "$assertionsDisabled" "Z" (.int (1 : Int32))) (S_H : Sta Z Z.heap "java/lang/StringUTF16" "HI_BYTE_SHIFT" "I" (.int (0 : Int32))) (S_L : Sta Z Z.heap "java/lang/StringUTF16" "LO_BYTE_SHIFT" "I" (.int (8 : Int32))) (E_1 : Exa Z h0 a1 "java/lang/String") (F_v : Fld Z h0 a1 "java/lang/String" "value" "[B" .null) (F_c : Fld Z h0 a1 "java/lang/String" "coder" "B" (.int (0 : Int32))) (G_1 : n0 ≤ a1) (A_2 : own_Ar Z h0 a2 .char [(.int c0), (.int c1), (.int c2)]) (hb2 : own_W c2) (hk0 : ¬ (255 : Int32) < c0) (hk1 : ¬ (255 : Int32) < c1) (hk2 : (255 : Int32) < c2) :
    own_Met l (⟨"java/lang/String", "<init>", "([CIILjava/lang/Void;)V"⟩ : MethodName) jdk_42_method_149_code 6 none ws ({ frames := 4, cells := 2, slots := 9, locals := 57 } : Room) #[(.ref a1), (.ref a2), (.int (0 : Int32)), (.int (3 : Int32)), .null] Z h0 (Qrm_i4_3_2 Z a1 a2 c0 c1 c2 gS h0 n0) := by
  refine own_body own_pn2 ?_
  intro p e s m below meth c T0 X0 hx hby hml hown hnm hret hlk hZ e0
  have N0 := Fr.nil n0
  refine own_st (fun t k => castTop (own_ef_rm_i4_3_2 m a1 a2) k) ?_
  show own_Go p.tables e below (T0.setTop (mkF m 0 #[.val (.ref a1), .val (.ref a2), .val (.int (0 : Int32)), .val (.int (3 : Int32)), .val .null, .unset] [])) _
  have Z0 := own_Z0 O_0
  refine own_aloadN X0 hx hby own_d2_0 (pc' := 1) rfl rfl rfl ?_
  refine own_initO X0 hx hby own_d2_1 (pc' := 4) rfl hZ hown (own_t hw 12 rfl) (own_t hw 13 rfl) (own_t hw 14 rfl) e0 (by rw [hml]; rfl) (by decide) (W := 0) (Nat.le_of_eq rfl) (by decide) ?_
  intro T153 X153 e153
  show own_Go p.tables e below (T153.setTop (mkF m 4 #[.val (.ref a1), .val (.ref a2), .val (.int (0 : Int32)), .val (.int (3 : Int32)), .val .null, .unset] [])) _
  refine own_iloadN X153 hx hby own_d2_4 (pc' := 5) rfl rfl ?_
  refine own_ifYes X153 hx hby own_d2_5 (pc' := 27) (by decide) (by decide) ?_
  refine own_getS X153 hx hby own_d2_27 (pc' := 30) rfl hZ hown (host := "") (Or.inl (own_t hw 44 rfl)) Via.refl e153 (S_S.ext (O_0).2) ?_
  intro T154 X154 e154
  refine own_ifNo X154 hx hby own_d2_30 (pc' := 33) rfl (feq hS).1 ?_
  refine own_aloadN X154 hx hby own_d2_33 (pc' := 34) rfl rfl rfl ?_
  refine own_iloadN X154 hx hby own_d2_34 (pc' := 35) rfl rfl ?_
  refine own_iloadN X154 hx hby own_d2_35 (pc' := 36) rfl rfl ?_
  refine own_callS X154 hx hZ (rm_c3_3_2 l Z a0 hw [] a2 c0 c1 c2 h0 n0 (O_0) S_A S_H S_L (A_2) hb2 hk0 hk1 hk2) hown (own_t hw 65 rfl) (own_t hw 66 rfl) (own_t hw 67 rfl) (own_t hw 68 rfl) (by decide) (W := 0) (by decide) (by decide) (by rw [hml]; rfl) (argsL := [(.ref a2), (.int (0 : Int32)), (.int (3 : Int32))]) (rest := []) rfl (lenOf own_pd4 rfl) rfl (Nat.le_of_eq rfl) (hb hby own_d2_36) e154 (by decide) (by decide) ?_
  intro v155 T155 L155 X155 hQ155
  obtain ⟨b155, hv155, N155q, K155, g155, A155⟩ := hQ155
  subst hv155
  have N155 := Fr.app N0 N155q
  show own_Go p.tables e below (T155.setTop (mkF m 39 #[.val (.ref a1), .val (.ref a2), .val (.int (0 : Int32)), .val (.int (3 : Int32)), .val .null, .unset] [(.ref b155)])) _
  refine own_astore X155 hx hby own_d2_39 (pc' := 41) rfl rfl (Ls' := #[.val (.ref a1), .val (.ref a2), .val (.int (0 : Int32)), .val (.int (3 : Int32)), .val .null, .val (.ref b155)]) rfl ?_
  refine own_aloadN X155 hx hby own_d2_41 (pc' := 42) rfl rfl rfl ?_
  refine own_aload X155 hx hby own_d2_42 (pc' := 44) rfl rfl rfl ?_
  refine own_iloadN X155 hx hby own_d2_44 (pc' := 45) rfl rfl ?_
  refine own_callS X155 hx hZ (rm_cf3_1 l Z a0 hw [] b155 c0 c1 c2 T155.heap n0 ((O_0.keep K155 all0)) (A155)) hown (own_t hw 91 rfl) (own_t hw 92 rfl) (own_t hw 67 rfl) (own_t hw 93 rfl) (by decide) (W := 1) (by decide) (by decide) (by rw [hml]; rfl) (argsL := [(.ref b155), (.int (3 : Int32))]) (rest := [(.ref a1)]) rfl (lenOf own_pd6 rfl) rfl (Nat.le_of_eq rfl) (hb hby own_d2_45) rfl (by decide) (by decide) ?_
  intro v156 T156 L156 X156 hQ156
  obtain ⟨hv156, N156q, e156⟩ := hQ156
  subst hv156
  have N156 := Fr.app N155 N156q
  show own_Go p.tables e below (T156.setTop (mkF m 48 #[.val (.ref a1), .val (.ref a2), .val (.int (0 : Int32)), .val (.int (3 : Int32)), .val .null, .val (.ref b155)] [(.int (1 : Int32)), (.ref a1)])) _
  refine own_putN X156 hx hby own_d2_48 (pc' := 51) rfl hZ hown (own_t hw 22 rfl) Via.refl e156 (F_c.keep K155 nin0) (E_1.keep K155) (Or.inr ⟨(own_t hw 18 rfl), rfl, hnm⟩) (own_t hw 3 rfl) (ty := .byte) (v' := (.int (1 : Int32))) (by decide) rfl rfl ?_
  intro T157 h157 X157 e157 W157
  have F157 := ((F_c.keep K155 nin0)).same W157
  have N157 := Fr.snoc X157 N156 G_1
  refine own_aloadN X157 hx hby own_d2_51 (pc' := 52) rfl rfl rfl ?_
  refine own_aload X157 hx hby own_d2_52 (pc' := 54) rfl rfl rfl ?_
  refine own_put X157 hx hby own_d2_54 (pc' := 57) rfl hZ hown (host := "") (Or.inl (own_t hw 21 rfl)) Via.refl e157 ((F_v.keep K155 nin0).other W157 (Or.inr (slot_ne (Or.inr (own_t hw 17 rfl)) (Or.inr (own_t hw 18 rfl)) (by decide) (t := (.array .byte)) (t' := .byte) (by decide) (by decide)))) ((E_1.keep K155).wr W157) (Or.inr ⟨(own_t hw 17 rfl), rfl, hnm⟩) (own_t hw 3 rfl) (ty := (.array .byte)) (by decide) rfl rfl ?_
  intro T158 h158 X158 e158 W158
  have F158 := (((F_v.keep K155 nin0).other W157 (Or.inr (slot_ne (Or.inr (own_t hw 17 rfl)) (Or.inr (own_t hw 18 rfl)) (by decide) (t := (.array .byte)) (t' := .byte) (by decide) (by decide))))).same W158
  have N158 := Fr.snoc X158 N157 G_1
  exact own_retV X158 hx hret (hb hby own_d2_57) hlk (by decide) (by decide) ⟨rfl, N158, by rw [e158]; exact ⟨((((Keep.refl h0 [a1]).trans K155 all0).wr W157 (Or.inl (List.mem_of_getElem? (i := 0) rfl))).wr W158 (Or.inl (List.mem_of_getElem? (i := 0) rfl))), (((E_1.keep K155).wr W157).wr W158), (F157.other W158 (Or.inr (slot_ne (Or.inr (own_t hw 18 rfl)) (Or.inr (own_t hw 17 rfl)) (by decide) (t := .byte) (t' := (.array .byte)) (by decide) (by decide)))), b155, F158, ((A155.other W157 (Ne.symm (Nat.ne_of_lt (Nat.lt_of_lt_of_le (E_1).lt g155)))).other W158 (Ne.symm (Nat.ne_of_lt (Nat.lt_of_lt_of_le (E_1).lt g155))))⟩⟩
theorem own_ef_rm_i1_3_2 (m : MethodId) (a1 : Addr) (a2 : Addr) : entryFrame m #[(.ref a1), (.ref a2)] 2 = mkF m 0 #[.val (.ref a1), .val (.ref a2)] [] := by first | (simp [entryFrame, mkF, argsToLocals, Value.category]; done) | rfl
def Qrm_i1_3_2 (Z : State) (a1 : Addr) (a2 : Addr) (c0 : Int32) (c1 : Int32) (c2 : Int32) (gS : Int32) (h0 : Heap) (n0 : Nat) (v : Option Value) (h : Heap) (L : List Loc) : Prop := v = none ∧ Fr n0 L ∧ Keep h0 h [a1] ∧ Exa Z h a1 "java/lang/String" ∧ Fld Z h a1 "java/lang/String" "coder" "B" (.int (1 : Int32)) ∧ ∃ t, Fld Z h a1 "java/lang/String" "value" "[B" (.ref t) ∧ own_Ar Z h t .byte [(.int (lo8 c0)), (.int (hi8 c0)), (.int (lo8 c1)), (.int (hi8 c1)), (.int (lo8 c2)), (.int (hi8 c2))]
set_option maxRecDepth 65536 in
set_option maxHeartbeats 40000000 in
theorem rm_i1_3_2 (l : Launch) (Z : State) (a0 : Array Value) (hw : ∀ d ∈ tables_1, d.before a0 Z = true) (ws : List Jvm.Cond) (a1 : Addr) (a2 : Addr) (c0 : Int32) (c1 : Int32) (c2 : Int32) (gS : Int32) (h0 : Heap) (n0 : Nat) (O_0 : Old Z n0 h0) (S_S : Sta Z Z.heap "java/lang/String" "COMPACT_STRINGS" "Z" (.int gS)) (hS : ¬ gS = 0) (S_A : Sta Z Z.heap "java/lang/StringUTF16" "$assertionsDisabled" "Z" (.int (1 : Int32))) (S_H : Sta Z Z.heap "java/lang/StringUTF16" "HI_BYTE_SHIFT" "I" (.int (0 : Int32))) (S_L : Sta Z Z.heap "java/lang/StringUTF16" "LO_BYTE_SHIFT" "I" (.int (8 : Int32))) (E_1 : Exa Z h0 a1 "java/lang/String") (F_v : Fld Z h0 a1 "java/lang/String" "value" "[B" .null) (F_c : Fld Z h0 a1 "java/lang/String" "coder" "B" (.int (0 : Int32))) (G_1 : n0 ≤ a1) (A_2 : own_Ar Z h0 a2 .char [(.int c0), (.int c1), (.int c2)]) (hb2 : own_W c2) (hk0 : ¬ (255 : Int32) < c0) (hk1 : ¬ (255 : Int32) < c1) (hk2 : (255 : Int32) < c2) :
    own_Met l (⟨"java/lang/String", "<init>", "([C)V"⟩ : MethodName) jdk_42_method_3_code 2 none ws ({ frames := 5, cells := 2, slots := 9, locals := 74 } : Room) #[(.ref a1), (.ref a2)] Z h0 (Qrm_i1_3_2 Z a1 a2 c0 c1 c2 gS h0 n0) := by
  refine own_body own_pn1 ?_
  intro p e s m below meth c T0 X0 hx hby hml hown hnm hret hlk hZ e0
  have N0 := Fr.nil n0
  refine own_st (fun t k => castTop (own_ef_rm_i1_3_2 m a1 a2) k) ?_
  show own_Go p.tables e below (T0.setTop (mkF m 0 #[.val (.ref a1), .val (.ref a2)] [])) _
  have Z0 := own_Z0 O_0
  refine own_aloadN X0 hx hby own_d1_0 (pc' := 1) rfl rfl rfl ?_
  refine own_aloadN X0 hx hby own_d1_1 (pc' := 2) rfl rfl rfl ?_
  refine own_iconst X0 hx hby own_d1_2 (pc' := 3) rfl (z := (0 : Int32)) (by decide) ?_
  refine own_aloadN X0 hx hby own_d1_3 (pc' := 4) rfl rfl rfl ?_
  refine own_len X0 hx hby own_d1_4 (pc' := 5) rfl hZ e0 (A_2) (n := (3 : Int32)) (by rfl) ?_
  refine own_aconst_null X0 hx hby own_d1_5 (pc' := 6) rfl ?_
  refine own_callSp X0 hx hZ (rm_i4_3_2 l Z a0 hw [] a1 a2 c0 c1 c2 gS h0 n0 (O_0) S_S hS S_A S_H S_L E_1 F_v F_c G_1 (A_2) hb2 hk0 hk1 hk2) rfl hown (own_t hw 8 rfl) (own_t hw 9 rfl) (own_t hw 11 rfl) (own_t hw 4 rfl) (by decide) (W := 0) (by decide) (by decide) (by rw [hml]; rfl) (argsL := [(.ref a2), (.int (0 : Int32)), (.int (3 : Int32)), .null]) (rest := []) rfl (lenOf own_pd7 rfl) rfl (Nat.le_of_eq rfl) (hb hby own_d1_6) e0 (by decide) (by decide) ?_
  intro v159 T159 L159 X159 hQ159
  obtain ⟨hv159, N159q, K159, R159⟩ := hQ159
  subst hv159
  have N159 := Fr.app N0 N159q
  show own_Go p.tables e below (T159.setTop (mkF m 9 #[.val (.ref a1), .val (.ref a2)] [])) _
  exact own_retV X159 hx hret (hb hby own_d1_9) hlk (by decide) (by decide) ⟨rfl, N159, ((Keep.refl h0 [a1]).trans K159 (allS (Or.inl (List.mem_of_getElem? (i := 0) rfl)) all0)), R159⟩
theorem own_ef_rm_i4_3_3 (m : MethodId) (a1 : Addr) (a2 : Addr) : entryFrame m #[(.ref a1), (.ref a2), (.int (0 : Int32)), (.int (3 : Int32)), .null] 6 = mkF m 0 #[.val (.ref a1), .val (.ref a2), .val (.int (0 : Int32)), .val (.int (3 : Int32)), .val .null, .unset] [] := by first | (simp [entryFrame, mkF, argsToLocals, Value.category]; done) | rfl
def Qrm_i4_3_3 (Z : State) (a1 : Addr) (a2 : Addr) (c0 : Int32) (c1 : Int32) (c2 : Int32) (gS : Int32) (h0 : Heap) (n0 : Nat) (v : Option Value) (h : Heap) (L : List Loc) : Prop := v = none ∧ Fr n0 L ∧ Keep h0 h [a1] ∧ Exa Z h a1 "java/lang/String" ∧ Fld Z h a1 "java/lang/String" "coder" "B" (.int (0 : Int32)) ∧ ∃ t, Fld Z h a1 "java/lang/String" "value" "[B" (.ref t) ∧ own_Ar Z h t .byte [(.int (lo8 c0)), (.int (lo8 c1)), (.int (lo8 c2))]
set_option maxRecDepth 65536 in
set_option maxHeartbeats 40000000 in
theorem rm_i4_3_3 (l : Launch) (Z : State) (a0 : Array Value) (hw : ∀ d ∈ tables_1, d.before a0 Z = true) (ws : List Jvm.Cond) (a1 : Addr) (a2 : Addr) (c0 : Int32) (c1 : Int32) (c2 : Int32) (gS : Int32) (h0 : Heap) (n0 : Nat) (O_0 : Old Z n0 h0) (S_S : Sta Z Z.heap "java/lang/String" "COMPACT_STRINGS" "Z" (.int gS)) (hS : ¬ gS = 0) (S_A : Sta Z Z.heap "java/lang/StringUTF16" "$assertionsDisabled" "Z" (.int (1 : Int32))) (S_H : Sta Z Z.heap "java/lang/StringUTF16" "HI_BYTE_SHIFT" "I" (.int (0 : Int32))) (S_L : Sta Z Z.heap "java/lang/StringUTF16" "LO_BYTE_SHIFT" "I" (.int (8 : Int32))) (E_1 : Exa Z h0 a1 "java/lang/String") (F_v : Fld Z h0 a1 "java/lang/String" "value" "[B" .null) (F_c : Fld Z h0 a1 "java/lang/String" "coder" "B" (.int (0 : Int32))) (G_1 : n0 ≤ a1) (A_2 : own_Ar Z h0 a2 .char [(.int c0), (.int c1), (.int c2)]) (hk0 : ¬ (255 : Int32) < c0) (hk1 : ¬ (255 : Int32) < c1) (hk2 : ¬ (255 : Int32) < c2) :
    own_Met l (⟨"java/lang/String", "<init>", "([CIILjava/lang/Void;)V"⟩ : MethodName) jdk_42_method_149_code 6 none ws ({ frames := 4, cells := 2, slots := 9, locals := 57 } : Room) #[(.ref a1), (.ref a2), (.int (0 : Int32)), (.int (3 : Int32)), .null] Z h0 (Qrm_i4_3_3 Z a1 a2 c0 c1 c2 gS h0 n0) := by
  refine own_body own_pn2 ?_
  intro p e s m below meth c T0 X0 hx hby hml hown hnm hret hlk hZ e0
  have N0 := Fr.nil n0
  refine own_st (fun t k => castTop (own_ef_rm_i4_3_3 m a1 a2) k) ?_
  show own_Go p.tables e below (T0.setTop (mkF m 0 #[.val (.ref a1), .val (.ref a2), .val (.int (0 : Int32)), .val (.int (3 : Int32)), .val .null, .unset] [])) _
  have Z0 := own_Z0 O_0
  refine own_aloadN X0 hx hby own_d2_0 (pc' := 1) rfl rfl rfl ?_
  refine own_initO X0 hx hby own_d2_1 (pc' := 4) rfl hZ hown (own_t hw 12 rfl) (own_t hw 13 rfl) (own_t hw 14 rfl) e0 (by rw [hml]; rfl) (by decide) (W := 0) (Nat.le_of_eq rfl) (by decide) ?_
  intro T160 X160 e160
  show own_Go p.tables e below (T160.setTop (mkF m 4 #[.val (.ref a1), .val (.ref a2), .val (.int (0 : Int32)), .val (.int (3 : Int32)), .val .null, .unset] [])) _
  refine own_iloadN X160 hx hby own_d2_4 (pc' := 5) rfl rfl ?_
  refine own_ifYes X160 hx hby own_d2_5 (pc' := 27) (by decide) (by decide) ?_
  refine own_getS X160 hx hby own_d2_27 (pc' := 30) rfl hZ hown (host := "") (Or.inl (own_t hw 44 rfl)) Via.refl e160 (S_S.ext (O_0).2) ?_
  intro T161 X161 e161
  refine own_ifNo X161 hx hby own_d2_30 (pc' := 33) rfl (feq hS).1 ?_
  refine own_aloadN X161 hx hby own_d2_33 (pc' := 34) rfl rfl rfl ?_
  refine own_iloadN X161 hx hby own_d2_34 (pc' := 35) rfl rfl ?_
  refine own_iloadN X161 hx hby own_d2_35 (pc' := 36) rfl rfl ?_
  refine own_callS X161 hx hZ (rm_c3_3_3 l Z a0 hw [] a2 c0 c1 c2 h0 n0 (O_0) S_A S_H S_L (A_2) hk0 hk1 hk2) hown (own_t hw 65 rfl) (own_t hw 66 rfl) (own_t hw 67 rfl) (own_t hw 68 rfl) (by decide) (W := 0) (by decide) (by decide) (by rw [hml]; rfl) (argsL := [(.ref a2), (.int (0 : Int32)), (.int (3 : Int32))]) (rest := []) rfl (lenOf own_pd4 rfl) rfl (Nat.le_of_eq rfl) (hb hby own_d2_36) e161 (by decide) (by decide) ?_
  intro v162 T162 L162 X162 hQ162
  obtain ⟨b162, hv162, N162q, K162, g162, A162⟩ := hQ162
  subst hv162
  have N162 := Fr.app N0 N162q
  show own_Go p.tables e below (T162.setTop (mkF m 39 #[.val (.ref a1), .val (.ref a2), .val (.int (0 : Int32)), .val (.int (3 : Int32)), .val .null, .unset] [(.ref b162)])) _
  refine own_astore X162 hx hby own_d2_39 (pc' := 41) rfl rfl (Ls' := #[.val (.ref a1), .val (.ref a2), .val (.int (0 : Int32)), .val (.int (3 : Int32)), .val .null, .val (.ref b162)]) rfl ?_
  refine own_aloadN X162 hx hby own_d2_41 (pc' := 42) rfl rfl rfl ?_
  refine own_aload X162 hx hby own_d2_42 (pc' := 44) rfl rfl rfl ?_
  refine own_iloadN X162 hx hby own_d2_44 (pc' := 45) rfl rfl ?_
  refine own_callS X162 hx hZ (rm_cf3_0 l Z a0 hw [] b162 c0 c1 c2 T162.heap n0 ((O_0.keep K162 all0)) (A162)) hown (own_t hw 91 rfl) (own_t hw 92 rfl) (own_t hw 67 rfl) (own_t hw 93 rfl) (by decide) (W := 1) (by decide) (by decide) (by rw [hml]; rfl) (argsL := [(.ref b162), (.int (3 : Int32))]) (rest := [(.ref a1)]) rfl (lenOf own_pd6 rfl) rfl (Nat.le_of_eq rfl) (hb hby own_d2_45) rfl (by decide) (by decide) ?_
  intro v163 T163 L163 X163 hQ163
  obtain ⟨hv163, N163q, e163⟩ := hQ163
  subst hv163
  have N163 := Fr.app N162 N163q
  show own_Go p.tables e below (T163.setTop (mkF m 48 #[.val (.ref a1), .val (.ref a2), .val (.int (0 : Int32)), .val (.int (3 : Int32)), .val .null, .val (.ref b162)] [(.int (0 : Int32)), (.ref a1)])) _
  refine own_putN X163 hx hby own_d2_48 (pc' := 51) rfl hZ hown (own_t hw 22 rfl) Via.refl e163 (F_c.keep K162 nin0) (E_1.keep K162) (Or.inr ⟨(own_t hw 18 rfl), rfl, hnm⟩) (own_t hw 3 rfl) (ty := .byte) (v' := (.int (0 : Int32))) (by decide) rfl rfl ?_
  intro T164 h164 X164 e164 W164
  have F164 := ((F_c.keep K162 nin0)).same W164
  have N164 := Fr.snoc X164 N163 G_1
  refine own_aloadN X164 hx hby own_d2_51 (pc' := 52) rfl rfl rfl ?_
  refine own_aload X164 hx hby own_d2_52 (pc' := 54) rfl rfl rfl ?_
  refine own_put X164 hx hby own_d2_54 (pc' := 57) rfl hZ hown (host := "") (Or.inl (own_t hw 21 rfl)) Via.refl e164 ((F_v.keep K162 nin0).other W164 (Or.inr (slot_ne (Or.inr (own_t hw 17 rfl)) (Or.inr (own_t hw 18 rfl)) (by decide) (t := (.array .byte)) (t' := .byte) (by decide) (by decide)))) ((E_1.keep K162).wr W164) (Or.inr ⟨(own_t hw 17 rfl), rfl, hnm⟩) (own_t hw 3 rfl) (ty := (.array .byte)) (by decide) rfl rfl ?_
  intro T165 h165 X165 e165 W165
  have F165 := (((F_v.keep K162 nin0).other W164 (Or.inr (slot_ne (Or.inr (own_t hw 17 rfl)) (Or.inr (own_t hw 18 rfl)) (by decide) (t := (.array .byte)) (t' := .byte) (by decide) (by decide))))).same W165
  have N165 := Fr.snoc X165 N164 G_1
  exact own_retV X165 hx hret (hb hby own_d2_57) hlk (by decide) (by decide) ⟨rfl, N165, by rw [e165]; exact ⟨((((Keep.refl h0 [a1]).trans K162 all0).wr W164 (Or.inl (List.mem_of_getElem? (i := 0) rfl))).wr W165 (Or.inl (List.mem_of_getElem? (i := 0) rfl))), (((E_1.keep K162).wr W164).wr W165), (F164.other W165 (Or.inr (slot_ne (Or.inr (own_t hw 18 rfl)) (Or.inr (own_t hw 17 rfl)) (by decide) (t := .byte) (t' := (.array .byte)) (by decide) (by decide)))), b162, F165, ((A162.other W164 (Ne.symm (Nat.ne_of_lt (Nat.lt_of_lt_of_le (E_1).lt g162)))).other W165 (Ne.symm (Nat.ne_of_lt (Nat.lt_of_lt_of_le (E_1).lt g162))))⟩⟩
theorem own_ef_rm_i1_3_3 (m : MethodId) (a1 : Addr) (a2 : Addr) : entryFrame m #[(.ref a1), (.ref a2)] 2 = mkF m 0 #[.val (.ref a1), .val (.ref a2)] [] := by first | (simp [entryFrame, mkF, argsToLocals, Value.category]; done) | rfl
def Qrm_i1_3_3 (Z : State) (a1 : Addr) (a2 : Addr) (c0 : Int32) (c1 : Int32) (c2 : Int32) (gS : Int32) (h0 : Heap) (n0 : Nat) (v : Option Value) (h : Heap) (L : List Loc) : Prop := v = none ∧ Fr n0 L ∧ Keep h0 h [a1] ∧ Exa Z h a1 "java/lang/String" ∧ Fld Z h a1 "java/lang/String" "coder" "B" (.int (0 : Int32)) ∧ ∃ t, Fld Z h a1 "java/lang/String" "value" "[B" (.ref t) ∧ own_Ar Z h t .byte [(.int (lo8 c0)), (.int (lo8 c1)), (.int (lo8 c2))]
set_option maxRecDepth 65536 in
set_option maxHeartbeats 40000000 in
theorem rm_i1_3_3 (l : Launch) (Z : State) (a0 : Array Value) (hw : ∀ d ∈ tables_1, d.before a0 Z = true) (ws : List Jvm.Cond) (a1 : Addr) (a2 : Addr) (c0 : Int32) (c1 : Int32) (c2 : Int32) (gS : Int32) (h0 : Heap) (n0 : Nat) (O_0 : Old Z n0 h0) (S_S : Sta Z Z.heap "java/lang/String" "COMPACT_STRINGS" "Z" (.int gS)) (hS : ¬ gS = 0) (S_A : Sta Z Z.heap "java/lang/StringUTF16" "$assertionsDisabled" "Z" (.int (1 : Int32))) (S_H : Sta Z Z.heap "java/lang/StringUTF16" "HI_BYTE_SHIFT" "I" (.int (0 : Int32))) (S_L : Sta Z Z.heap "java/lang/StringUTF16" "LO_BYTE_SHIFT" "I" (.int (8 : Int32))) (E_1 : Exa Z h0 a1 "java/lang/String") (F_v : Fld Z h0 a1 "java/lang/String" "value" "[B" .null) (F_c : Fld Z h0 a1 "java/lang/String" "coder" "B" (.int (0 : Int32))) (G_1 : n0 ≤ a1) (A_2 : own_Ar Z h0 a2 .char [(.int c0), (.int c1), (.int c2)]) (hk0 : ¬ (255 : Int32) < c0) (hk1 : ¬ (255 : Int32) < c1) (hk2 : ¬ (255 : Int32) < c2) :
    own_Met l (⟨"java/lang/String", "<init>", "([C)V"⟩ : MethodName) jdk_42_method_3_code 2 none ws ({ frames := 5, cells := 2, slots := 9, locals := 74 } : Room) #[(.ref a1), (.ref a2)] Z h0 (Qrm_i1_3_3 Z a1 a2 c0 c1 c2 gS h0 n0) := by
  refine own_body own_pn1 ?_
  intro p e s m below meth c T0 X0 hx hby hml hown hnm hret hlk hZ e0
  have N0 := Fr.nil n0
  refine own_st (fun t k => castTop (own_ef_rm_i1_3_3 m a1 a2) k) ?_
  show own_Go p.tables e below (T0.setTop (mkF m 0 #[.val (.ref a1), .val (.ref a2)] [])) _
  have Z0 := own_Z0 O_0
  refine own_aloadN X0 hx hby own_d1_0 (pc' := 1) rfl rfl rfl ?_
  refine own_aloadN X0 hx hby own_d1_1 (pc' := 2) rfl rfl rfl ?_
  refine own_iconst X0 hx hby own_d1_2 (pc' := 3) rfl (z := (0 : Int32)) (by decide) ?_
  refine own_aloadN X0 hx hby own_d1_3 (pc' := 4) rfl rfl rfl ?_
  refine own_len X0 hx hby own_d1_4 (pc' := 5) rfl hZ e0 (A_2) (n := (3 : Int32)) (by rfl) ?_
  refine own_aconst_null X0 hx hby own_d1_5 (pc' := 6) rfl ?_
  refine own_callSp X0 hx hZ (rm_i4_3_3 l Z a0 hw [] a1 a2 c0 c1 c2 gS h0 n0 (O_0) S_S hS S_A S_H S_L E_1 F_v F_c G_1 (A_2) hk0 hk1 hk2) rfl hown (own_t hw 8 rfl) (own_t hw 9 rfl) (own_t hw 11 rfl) (own_t hw 4 rfl) (by decide) (W := 0) (by decide) (by decide) (by rw [hml]; rfl) (argsL := [(.ref a2), (.int (0 : Int32)), (.int (3 : Int32)), .null]) (rest := []) rfl (lenOf own_pd7 rfl) rfl (Nat.le_of_eq rfl) (hb hby own_d1_6) e0 (by decide) (by decide) ?_
  intro v166 T166 L166 X166 hQ166
  obtain ⟨hv166, N166q, K166, R166⟩ := hQ166
  subst hv166
  have N166 := Fr.app N0 N166q
  show own_Go p.tables e below (T166.setTop (mkF m 9 #[.val (.ref a1), .val (.ref a2)] [])) _
  exact own_retV X166 hx hret (hb hby own_d1_9) hlk (by decide) (by decide) ⟨rfl, N166, ((Keep.refl h0 [a1]).trans K166 (allS (Or.inl (List.mem_of_getElem? (i := 0) rfl)) all0)), R166⟩
theorem own_d2_8 : decode jdk_42_method_149_code 8 = .ok (.aload_n 0, 1) := by decide +kernel
theorem own_d2_9 : decode jdk_42_method_149_code 9 = .ok (.ldc 7, 2) := by decide +kernel
theorem own_d2_11 : decode jdk_42_method_149_code 11 = .ok (.getfield 9, 3) := by decide +kernel
theorem own_d2_14 : decode jdk_42_method_149_code 14 = .ok (.putfield 9, 3) := by decide +kernel
theorem own_d2_17 : decode jdk_42_method_149_code 17 = .ok (.aload_n 0, 1) := by decide +kernel
theorem own_d2_18 : decode jdk_42_method_149_code 18 = .ok (.ldc 7, 2) := by decide +kernel
theorem own_d2_20 : decode jdk_42_method_149_code 20 = .ok (.getfield 15, 3) := by decide +kernel
theorem own_d2_23 : decode jdk_42_method_149_code 23 = .ok (.putfield 15, 3) := by decide +kernel
theorem own_d2_26 : decode jdk_42_method_149_code 26 = .ok (.return_, 1) := by decide +kernel
theorem own_ef_rm_e4 (m : MethodId) (a1 : Addr) (a2 : Addr) : entryFrame m #[(.ref a1), (.ref a2), (.int (0 : Int32)), (.int (0 : Int32)), .null] 6 = mkF m 0 #[.val (.ref a1), .val (.ref a2), .val (.int (0 : Int32)), .val (.int (0 : Int32)), .val .null, .unset] [] := by first | (simp [entryFrame, mkF, argsToLocals, Value.category]; done) | rfl
def Qrm_e4 (Z : State) (a1 : Addr) (a2 : Addr) (h0 : Heap) (n0 : Nat) (v : Option Value) (h : Heap) (L : List Loc) : Prop := v = none ∧ Fr n0 L ∧ Keep h0 h [a1] ∧ Exa Z h a1 "java/lang/String" ∧ Fld Z h a1 "java/lang/String" "coder" "B" (.int (0 : Int32)) ∧ ∃ t, Fld Z h a1 "java/lang/String" "value" "[B" (.ref t) ∧ own_Ar Z h t .byte []
set_option maxRecDepth 65536 in
set_option maxHeartbeats 40000000 in
theorem rm_e4 (l : Launch) (Z : State) (a0 : Array Value) (hw : ∀ d ∈ tables_1, d.before a0 Z = true) (ws : List Jvm.Cond) (a1 : Addr) (a2 : Addr) (h0 : Heap) (n0 : Nat) (hEL : EW Z a0 own_EL) (E_1 : Exa Z h0 a1 "java/lang/String") (F_v : Fld Z h0 a1 "java/lang/String" "value" "[B" .null) (F_c : Fld Z h0 a1 "java/lang/String" "coder" "B" (.int (0 : Int32))) (G_1 : n0 ≤ a1) :
    own_MetW l (⟨"java/lang/String", "<init>", "([CIILjava/lang/Void;)V"⟩ : MethodName) jdk_42_method_149_code 6 none ws ({ frames := 1, cells := 4, slots := 8, locals := 12 } : Room) #[(.ref a1), (.ref a2), (.int (0 : Int32)), (.int (0 : Int32)), .null] Z own_EL h0 (Qrm_e4 Z a1 a2 h0 n0) := by
  refine own_bodyW own_pn2 ?_
  intro p e s m below meth c T0 X0 hx hby hml hnm hret hlk W0 e0
  have hZ := W0.1
  have hown := W0.2.1
  have N0 := Fr.nil n0
  refine own_st (fun t k => castTop (own_ef_rm_e4 m a1 a2) k) ?_
  show own_Go p.tables e below (T0.setTop (mkF m 0 #[.val (.ref a1), .val (.ref a2), .val (.int (0 : Int32)), .val (.int (0 : Int32)), .val .null, .unset] [])) _
  have wS : ∀ d ∈ Bundle.stringAtoms, d.before a0 Z = true := fun d hd => hw d ((by decide +kernel : ∀ d ∈ Bundle.stringAtoms, d ∈ tables_1) d hd)
  have Sf := own_safeN (EL := own_EL) W0.1.alike E_1 F_v
  refine own_aloadN X0 hx hby own_d2_0 (pc' := 1) rfl rfl rfl ?_
  refine own_initO X0 hx hby own_d2_1 (pc' := 4) rfl hZ hown (own_t hw 12 rfl) (own_t hw 13 rfl) (own_t hw 14 rfl) e0 (by rw [hml]; rfl) (by decide) (W := 0) (Nat.le_of_eq rfl) (by decide) ?_
  intro T167 X167 e167
  show own_Go p.tables e below (T167.setTop (mkF m 4 #[.val (.ref a1), .val (.ref a2), .val (.int (0 : Int32)), .val (.int (0 : Int32)), .val .null, .unset] [])) _
  refine own_iloadN X167 hx hby own_d2_4 (pc' := 5) rfl rfl ?_
  refine own_ifNo X167 hx hby own_d2_5 (pc' := 8) rfl (by decide) ?_
  refine own_aloadN X167 hx hby own_d2_8 (pc' := 9) rfl rfl rfl ?_
  refine own_ldcS X167 hx hby own_d2_9 (pc' := 11) rfl (own_t hw 15 rfl) wS e167 hEL (by decide) (W0) (vs := []) (z := (0 : Int32)) ⟨by decide, by rfl⟩ (by decide) (by rfl) (n := 0) (by decide) (by decide) (by decide) (by decide) ?_
  intro T168 h168 a168 b168 k168 vm168 X168 e168 E168 W168 C168 G168 Gc168 Gv168 Gb168 S168
  have hZ := W168.1
  have hown := W168.2.1
  refine own_getF X168 hx hby own_d2_11 (pc' := 14) rfl hZ hown (host := "") (Or.inl (own_t hw 21 rfl)) Via.refl e168 Gv168 ?_
  intro T169 X169 e169
  refine own_put X169 hx hby own_d2_14 (pc' := 17) rfl hZ hown (host := "") (Or.inl (own_t hw 21 rfl)) Via.refl e169 (F_v.ext E168) (E_1.ext E168) (Or.inr ⟨(own_t hw 17 rfl), rfl, hnm⟩) (own_t hw 3 rfl) (ty := (.array .byte)) (by decide) rfl rfl ?_
  intro T170 h170 X170 e170 W170
  have F170 := ((F_v.ext E168)).same W170
  have N170 := Fr.snoc X170 N0 G_1
  refine own_aloadN X170 hx hby own_d2_17 (pc' := 18) rfl rfl rfl ?_
  refine own_ldcS X170 hx hby own_d2_18 (pc' := 20) rfl (own_t hw 15 rfl) wS e170 hEL (by decide) ((W168.wr W170 (C168.safe (E_1).lt Sf))) (vs := []) (z := (0 : Int32)) ⟨by decide, by rfl⟩ (by decide) (by rfl) (n := 0) (by decide) (by decide) (by decide) (by decide) ?_
  intro T171 h171 a171 b171 k171 vm171 X171 e171 E171 W171 C171 G171 Gc171 Gv171 Gb171 S171
  have hZ := W171.1
  have hown := W171.2.1
  refine own_getF X171 hx hby own_d2_20 (pc' := 23) rfl hZ hown (host := "") (Or.inl (own_t hw 22 rfl)) Via.refl e171 Gc171 ?_
  intro T172 X172 e172
  refine own_putN X172 hx hby own_d2_23 (pc' := 26) rfl hZ hown (own_t hw 22 rfl) Via.refl e172 (((F_c.ext E168).other W170 (Or.inr (slot_ne (Or.inr (own_t hw 18 rfl)) (Or.inr (own_t hw 17 rfl)) (by decide) (t := .byte) (t' := (.array .byte)) (by decide) (by decide)))).ext E171) (((E_1.ext E168).wr W170).ext E171) (Or.inr ⟨(own_t hw 18 rfl), rfl, hnm⟩) (own_t hw 3 rfl) (ty := .byte) (v' := (.int (0 : Int32))) (by decide) rfl rfl ?_
  intro T173 h173 X173 e173 W173
  have F173 := ((((F_c.ext E168).other W170 (Or.inr (slot_ne (Or.inr (own_t hw 18 rfl)) (Or.inr (own_t hw 17 rfl)) (by decide) (t := .byte) (t' := (.array .byte)) (by decide) (by decide)))).ext E171)).same W173
  have N173 := Fr.snoc X173 N170 G_1
  exact own_retVW X173 hx hEL ((W171.wr W173 (C171.safe (Nat.lt_of_lt_of_le (Nat.lt_of_lt_of_le (E_1).lt E168.1) (Nat.le_of_eq (Wr.size W170).symm)) (Safe.wr W170 (C168.safe (E_1).lt Sf) (W168).ch (C168.safe (E_1).lt Sf))))) e173 hret (hb hby own_d2_26) hlk (by decide) (by decide) ⟨rfl, N173, by rw [e173]; exact ⟨(((((Keep.refl h0 [a1]).ext E168).wr W170 (Or.inl (List.mem_of_getElem? (i := 0) rfl))).ext E171).wr W173 (Or.inl (List.mem_of_getElem? (i := 0) rfl))), ((((E_1.ext E168).wr W170).ext E171).wr W173), F173, b168, ((F170.ext E171).other W173 (Or.inr (slot_ne (Or.inr (own_t hw 17 rfl)) (Or.inr (own_t hw 18 rfl)) (by decide) (t := (.array .byte)) (t' := .byte) (by decide) (by decide)))), own_Ar.of_arv ((((Gb168.other W170 (Ne.symm (S168 _ (C168.safe (E_1).lt Sf)).2)).ext E171).other W173 (Ne.symm (S168 _ (C168.safe (E_1).lt Sf)).2))) rfl⟩⟩
theorem own_ef_rm_e1 (m : MethodId) (a1 : Addr) (a2 : Addr) : entryFrame m #[(.ref a1), (.ref a2)] 2 = mkF m 0 #[.val (.ref a1), .val (.ref a2)] [] := by first | (simp [entryFrame, mkF, argsToLocals, Value.category]; done) | rfl
def Qrm_e1 (Z : State) (a1 : Addr) (a2 : Addr) (h0 : Heap) (n0 : Nat) (v : Option Value) (h : Heap) (L : List Loc) : Prop := v = none ∧ Fr n0 L ∧ Keep h0 h [a1] ∧ Exa Z h a1 "java/lang/String" ∧ Fld Z h a1 "java/lang/String" "coder" "B" (.int (0 : Int32)) ∧ ∃ t, Fld Z h a1 "java/lang/String" "value" "[B" (.ref t) ∧ own_Ar Z h t .byte []
set_option maxRecDepth 65536 in
set_option maxHeartbeats 40000000 in
theorem rm_e1 (l : Launch) (Z : State) (a0 : Array Value) (hw : ∀ d ∈ tables_1, d.before a0 Z = true) (ws : List Jvm.Cond) (a1 : Addr) (a2 : Addr) (h0 : Heap) (n0 : Nat) (hEL : EW Z a0 own_EL) (E_1 : Exa Z h0 a1 "java/lang/String") (F_v : Fld Z h0 a1 "java/lang/String" "value" "[B" .null) (F_c : Fld Z h0 a1 "java/lang/String" "coder" "B" (.int (0 : Int32))) (G_1 : n0 ≤ a1) (A_2 : own_Ar Z h0 a2 .char []) :
    own_MetW l (⟨"java/lang/String", "<init>", "([C)V"⟩ : MethodName) jdk_42_method_3_code 2 none ws ({ frames := 2, cells := 4, slots := 8, locals := 29 } : Room) #[(.ref a1), (.ref a2)] Z own_EL h0 (Qrm_e1 Z a1 a2 h0 n0) := by
  refine own_bodyW own_pn1 ?_
  intro p e s m below meth c T0 X0 hx hby hml hnm hret hlk W0 e0
  have hZ := W0.1
  have hown := W0.2.1
  have N0 := Fr.nil n0
  refine own_st (fun t k => castTop (own_ef_rm_e1 m a1 a2) k) ?_
  show own_Go p.tables e below (T0.setTop (mkF m 0 #[.val (.ref a1), .val (.ref a2)] [])) _
  have wS : ∀ d ∈ Bundle.stringAtoms, d.before a0 Z = true := fun d hd => hw d ((by decide +kernel : ∀ d ∈ Bundle.stringAtoms, d ∈ tables_1) d hd)
  have Sf := own_safeN (EL := own_EL) W0.1.alike E_1 F_v
  refine own_aloadN X0 hx hby own_d1_0 (pc' := 1) rfl rfl rfl ?_
  refine own_aloadN X0 hx hby own_d1_1 (pc' := 2) rfl rfl rfl ?_
  refine own_iconst X0 hx hby own_d1_2 (pc' := 3) rfl (z := (0 : Int32)) (by decide) ?_
  refine own_aloadN X0 hx hby own_d1_3 (pc' := 4) rfl rfl rfl ?_
  refine own_len X0 hx hby own_d1_4 (pc' := 5) rfl hZ e0 (A_2) (n := (0 : Int32)) (by rfl) ?_
  refine own_aconst_null X0 hx hby own_d1_5 (pc' := 6) rfl ?_
  refine own_callSpW X0 hx hEL (W0) (rm_e4 l Z a0 hw [] a1 a2 h0 n0 hEL (E_1) (F_v) (F_c) G_1) rfl (own_t hw 8 rfl) (own_t hw 9 rfl) (own_t hw 11 rfl) (own_t hw 4 rfl) (by decide) (W := 0) (by decide) (by decide) (by rw [hml]; rfl) (argsL := [(.ref a2), (.int (0 : Int32)), (.int (0 : Int32)), .null]) (rest := []) rfl (lenOf own_pd7 rfl) rfl (Nat.le_of_eq rfl) (hb hby own_d1_6) e0 (by decide) (by decide) ?_
  intro v174 T174 L174 vm174 X174 hQ174 W174 C174
  obtain ⟨hv174, N174q, K174, R174⟩ := hQ174
  subst hv174
  have N174 := Fr.app N0 N174q
  have hZ := W174.1
  have hown := W174.2.1
  show own_Go p.tables e below (T174.setTop (mkF m 9 #[.val (.ref a1), .val (.ref a2)] [])) _
  exact own_retVW X174 hx hEL (W174) rfl hret (hb hby own_d1_9) hlk (by decide) (by decide) ⟨rfl, N174, ((Keep.refl h0 [a1]).trans K174 (allS (Or.inl (List.mem_of_getElem? (i := 0) rfl)) all0)), R174⟩
theorem own_d7_0 : decode jdk_42_method_152_code 0 = .ok (.getstatic 38, 3) := by decide +kernel
theorem own_d7_3 : decode jdk_42_method_152_code 3 = .ok (.ifCond .eq 10, 3) := by decide +kernel
theorem own_d7_6 : decode jdk_42_method_152_code 6 = .ok (.aload_n 0, 1) := by decide +kernel
theorem own_d7_7 : decode jdk_42_method_152_code 7 = .ok (.getfield 15, 3) := by decide +kernel
theorem own_d7_10 : decode jdk_42_method_152_code 10 = .ok (.goto 4, 3) := by decide +kernel
theorem own_d7_14 : decode jdk_42_method_152_code 14 = .ok (.ireturn, 1) := by decide +kernel
theorem own_ef_rm_cd0 (m : MethodId) (a1 : Addr) : entryFrame m #[(.ref a1)] 1 = mkF m 0 #[.val (.ref a1)] [] := by first | (simp [entryFrame, mkF, argsToLocals, Value.category]; done) | rfl
def Qrm_cd0 (Z : State) (a1 : Addr) (gS : Int32) (h0 : Heap) (n0 : Nat) (v : Option Value) (h : Heap) (L : List Loc) : Prop := v = some (.int (0 : Int32)) ∧ Fr n0 L ∧ h = h0
set_option maxRecDepth 65536 in
set_option maxHeartbeats 40000000 in
theorem rm_cd0 (l : Launch) (Z : State) (a0 : Array Value) (hw : ∀ d ∈ tables_1, d.before a0 Z = true) (ws : List Jvm.Cond) (a1 : Addr) (gS : Int32) (h0 : Heap) (n0 : Nat) (O_0 : Old Z n0 h0) (S_S : Sta Z Z.heap "java/lang/String" "COMPACT_STRINGS" "Z" (.int gS)) (hS : ¬ gS = 0) (F_c : Fld Z h0 a1 "java/lang/String" "coder" "B" (.int (0 : Int32))) :
    own_Met l (⟨"java/lang/String", "coder", "()B"⟩ : MethodName) jdk_42_method_152_code 1 (some .byte) ws ({ frames := 0, cells := 0, slots := 0, locals := 0 } : Room) #[(.ref a1)] Z h0 (Qrm_cd0 Z a1 gS h0 n0) := by
  refine own_body own_pn7 ?_
  intro p e s m below meth c T0 X0 hx hby hml hown hnm hret hlk hZ e0
  have N0 := Fr.nil n0
  refine own_st (fun t k => castTop (own_ef_rm_cd0 m a1) k) ?_
  show own_Go p.tables e below (T0.setTop (mkF m 0 #[.val (.ref a1)] [])) _
  have Z0 := own_Z0 O_0
  refine own_getS X0 hx hby own_d7_0 (pc' := 3) rfl hZ hown (host := "") (Or.inl (own_t hw 44 rfl)) Via.refl e0 (S_S.ext (O_0).2) ?_
  intro T175 X175 e175
  refine own_ifNo X175 hx hby own_d7_3 (pc' := 6) rfl (feq hS).1 ?_
  refine own_aloadN X175 hx hby own_d7_6 (pc' := 7) rfl rfl rfl ?_
  refine own_getF X175 hx hby own_d7_7 (pc' := 10) rfl hZ hown (host := "") (Or.inl (own_t hw 22 rfl)) Via.refl e175 F_c ?_
  intro T176 X176 e176
  refine own_goto X176 hx hby own_d7_10 (pc' := 14) (by decide) ?_
  exact own_retZ (t := .byte) X176 hx hret (by simp) (hb hby own_d7_14) hlk (by decide) (by decide) ⟨congrArg (fun z => some (Value.int z)) (own_nb0), N0, e176⟩
theorem own_d20_0 : decode jdk_42_method_154_code 0 = .ok (.getstatic 38, 3) := by decide +kernel
theorem own_d20_3 : decode jdk_42_method_154_code 3 = .ok (.ifCond .eq 14, 3) := by decide +kernel
theorem own_d20_6 : decode jdk_42_method_154_code 6 = .ok (.aload_n 0, 1) := by decide +kernel
theorem own_d20_7 : decode jdk_42_method_154_code 7 = .ok (.getfield 15, 3) := by decide +kernel
theorem own_d20_10 : decode jdk_42_method_154_code 10 = .ok (.ifCond .ne 7, 3) := by decide +kernel
theorem own_d20_13 : decode jdk_42_method_154_code 13 = .ok (.iconst 1, 1) := by decide +kernel
theorem own_d20_14 : decode jdk_42_method_154_code 14 = .ok (.goto 4, 3) := by decide +kernel
theorem own_d20_18 : decode jdk_42_method_154_code 18 = .ok (.ireturn, 1) := by decide +kernel
theorem own_ef_rm_il0 (m : MethodId) (a1 : Addr) : entryFrame m #[(.ref a1)] 1 = mkF m 0 #[.val (.ref a1)] [] := by first | (simp [entryFrame, mkF, argsToLocals, Value.category]; done) | rfl
def Qrm_il0 (Z : State) (a1 : Addr) (gS : Int32) (h0 : Heap) (n0 : Nat) (v : Option Value) (h : Heap) (L : List Loc) : Prop := v = some (.int (1 : Int32)) ∧ Fr n0 L ∧ h = h0
set_option maxRecDepth 65536 in
set_option maxHeartbeats 40000000 in
theorem rm_il0 (l : Launch) (Z : State) (a0 : Array Value) (hw : ∀ d ∈ tables_1, d.before a0 Z = true) (ws : List Jvm.Cond) (a1 : Addr) (gS : Int32) (h0 : Heap) (n0 : Nat) (O_0 : Old Z n0 h0) (S_S : Sta Z Z.heap "java/lang/String" "COMPACT_STRINGS" "Z" (.int gS)) (hS : ¬ gS = 0) (F_c : Fld Z h0 a1 "java/lang/String" "coder" "B" (.int (0 : Int32))) :
    own_Met l (⟨"java/lang/String", "isLatin1", "()Z"⟩ : MethodName) jdk_42_method_154_code 1 (some .boolean) ws ({ frames := 0, cells := 0, slots := 0, locals := 0 } : Room) #[(.ref a1)] Z h0 (Qrm_il0 Z a1 gS h0 n0) := by
  refine own_body own_pn20 ?_
  intro p e s m below meth c T0 X0 hx hby hml hown hnm hret hlk hZ e0
  have N0 := Fr.nil n0
  refine own_st (fun t k => castTop (own_ef_rm_il0 m a1) k) ?_
  show own_Go p.tables e below (T0.setTop (mkF m 0 #[.val (.ref a1)] [])) _
  have Z0 := own_Z0 O_0
  refine own_getS X0 hx hby own_d20_0 (pc' := 3) rfl hZ hown (host := "") (Or.inl (own_t hw 44 rfl)) Via.refl e0 (S_S.ext (O_0).2) ?_
  intro T177 X177 e177
  refine own_ifNo X177 hx hby own_d20_3 (pc' := 6) rfl (feq hS).1 ?_
  refine own_aloadN X177 hx hby own_d20_6 (pc' := 7) rfl rfl rfl ?_
  refine own_getF X177 hx hby own_d20_7 (pc' := 10) rfl hZ hown (host := "") (Or.inl (own_t hw 22 rfl)) Via.refl e177 F_c ?_
  intro T178 X178 e178
  refine own_ifNo X178 hx hby own_d20_10 (pc' := 13) rfl (by decide) ?_
  refine own_iconst X178 hx hby own_d20_13 (pc' := 14) rfl (z := (1 : Int32)) (by decide) ?_
  refine own_goto X178 hx hby own_d20_14 (pc' := 18) (by decide) ?_
  exact own_retZ (t := .boolean) X178 hx hret (by simp) (hb hby own_d20_18) hlk (by decide) (by decide) ⟨congrArg (fun z => some (Value.int z)) (own_nar1), N0, e178⟩
theorem own_ef_rm_cd1 (m : MethodId) (a1 : Addr) : entryFrame m #[(.ref a1)] 1 = mkF m 0 #[.val (.ref a1)] [] := by first | (simp [entryFrame, mkF, argsToLocals, Value.category]; done) | rfl
def Qrm_cd1 (Z : State) (a1 : Addr) (gS : Int32) (h0 : Heap) (n0 : Nat) (v : Option Value) (h : Heap) (L : List Loc) : Prop := v = some (.int (1 : Int32)) ∧ Fr n0 L ∧ h = h0
set_option maxRecDepth 65536 in
set_option maxHeartbeats 40000000 in
theorem rm_cd1 (l : Launch) (Z : State) (a0 : Array Value) (hw : ∀ d ∈ tables_1, d.before a0 Z = true) (ws : List Jvm.Cond) (a1 : Addr) (gS : Int32) (h0 : Heap) (n0 : Nat) (O_0 : Old Z n0 h0) (S_S : Sta Z Z.heap "java/lang/String" "COMPACT_STRINGS" "Z" (.int gS)) (hS : ¬ gS = 0) (F_c : Fld Z h0 a1 "java/lang/String" "coder" "B" (.int (1 : Int32))) :
    own_Met l (⟨"java/lang/String", "coder", "()B"⟩ : MethodName) jdk_42_method_152_code 1 (some .byte) ws ({ frames := 0, cells := 0, slots := 0, locals := 0 } : Room) #[(.ref a1)] Z h0 (Qrm_cd1 Z a1 gS h0 n0) := by
  refine own_body own_pn7 ?_
  intro p e s m below meth c T0 X0 hx hby hml hown hnm hret hlk hZ e0
  have N0 := Fr.nil n0
  refine own_st (fun t k => castTop (own_ef_rm_cd1 m a1) k) ?_
  show own_Go p.tables e below (T0.setTop (mkF m 0 #[.val (.ref a1)] [])) _
  have Z0 := own_Z0 O_0
  refine own_getS X0 hx hby own_d7_0 (pc' := 3) rfl hZ hown (host := "") (Or.inl (own_t hw 44 rfl)) Via.refl e0 (S_S.ext (O_0).2) ?_
  intro T179 X179 e179
  refine own_ifNo X179 hx hby own_d7_3 (pc' := 6) rfl (feq hS).1 ?_
  refine own_aloadN X179 hx hby own_d7_6 (pc' := 7) rfl rfl rfl ?_
  refine own_getF X179 hx hby own_d7_7 (pc' := 10) rfl hZ hown (host := "") (Or.inl (own_t hw 22 rfl)) Via.refl e179 F_c ?_
  intro T180 X180 e180
  refine own_goto X180 hx hby own_d7_10 (pc' := 14) (by decide) ?_
  exact own_retZ (t := .byte) X180 hx hret (by simp) (hb hby own_d7_14) hlk (by decide) (by decide) ⟨congrArg (fun z => some (Value.int z)) (own_nb1), N0, e180⟩
theorem own_d20_17 : decode jdk_42_method_154_code 17 = .ok (.iconst 0, 1) := by decide +kernel
theorem own_ef_rm_il1 (m : MethodId) (a1 : Addr) : entryFrame m #[(.ref a1)] 1 = mkF m 0 #[.val (.ref a1)] [] := by first | (simp [entryFrame, mkF, argsToLocals, Value.category]; done) | rfl
def Qrm_il1 (Z : State) (a1 : Addr) (gS : Int32) (h0 : Heap) (n0 : Nat) (v : Option Value) (h : Heap) (L : List Loc) : Prop := v = some (.int (0 : Int32)) ∧ Fr n0 L ∧ h = h0
set_option maxRecDepth 65536 in
set_option maxHeartbeats 40000000 in
theorem rm_il1 (l : Launch) (Z : State) (a0 : Array Value) (hw : ∀ d ∈ tables_1, d.before a0 Z = true) (ws : List Jvm.Cond) (a1 : Addr) (gS : Int32) (h0 : Heap) (n0 : Nat) (O_0 : Old Z n0 h0) (S_S : Sta Z Z.heap "java/lang/String" "COMPACT_STRINGS" "Z" (.int gS)) (hS : ¬ gS = 0) (F_c : Fld Z h0 a1 "java/lang/String" "coder" "B" (.int (1 : Int32))) :
    own_Met l (⟨"java/lang/String", "isLatin1", "()Z"⟩ : MethodName) jdk_42_method_154_code 1 (some .boolean) ws ({ frames := 0, cells := 0, slots := 0, locals := 0 } : Room) #[(.ref a1)] Z h0 (Qrm_il1 Z a1 gS h0 n0) := by
  refine own_body own_pn20 ?_
  intro p e s m below meth c T0 X0 hx hby hml hown hnm hret hlk hZ e0
  have N0 := Fr.nil n0
  refine own_st (fun t k => castTop (own_ef_rm_il1 m a1) k) ?_
  show own_Go p.tables e below (T0.setTop (mkF m 0 #[.val (.ref a1)] [])) _
  have Z0 := own_Z0 O_0
  refine own_getS X0 hx hby own_d20_0 (pc' := 3) rfl hZ hown (host := "") (Or.inl (own_t hw 44 rfl)) Via.refl e0 (S_S.ext (O_0).2) ?_
  intro T181 X181 e181
  refine own_ifNo X181 hx hby own_d20_3 (pc' := 6) rfl (feq hS).1 ?_
  refine own_aloadN X181 hx hby own_d20_6 (pc' := 7) rfl rfl rfl ?_
  refine own_getF X181 hx hby own_d20_7 (pc' := 10) rfl hZ hown (host := "") (Or.inl (own_t hw 22 rfl)) Via.refl e181 F_c ?_
  intro T182 X182 e182
  refine own_ifYes X182 hx hby own_d20_10 (pc' := 17) (by decide) (by decide) ?_
  refine own_iconst X182 hx hby own_d20_17 (pc' := 18) rfl (z := (0 : Int32)) (by decide) ?_
  exact own_retZ (t := .boolean) X182 hx hret (by simp) (hb hby own_d20_18) hlk (by decide) (by decide) ⟨congrArg (fun z => some (Value.int z)) (own_nar0), N0, e182⟩
theorem own_pd8 : parseMethodDescriptor "()B" = some ⟨[], some .byte⟩ := by decide +kernel
theorem own_d6_0 : decode jdk_42_method_54_code 0 = .ok (.aload_n 0, 1) := by decide +kernel
theorem own_d6_1 : decode jdk_42_method_54_code 1 = .ok (.getfield 9, 3) := by decide +kernel
theorem own_d6_4 : decode jdk_42_method_54_code 4 = .ok (.arraylength, 1) := by decide +kernel
theorem own_d6_5 : decode jdk_42_method_54_code 5 = .ok (.aload_n 0, 1) := by decide +kernel
theorem own_d6_6 : decode jdk_42_method_54_code 6 = .ok (.invokevirtual 335, 3) := by decide +kernel
theorem own_d6_9 : decode jdk_42_method_54_code 9 = .ok (.ishr, 1) := by decide +kernel
theorem own_d6_10 : decode jdk_42_method_54_code 10 = .ok (.ireturn, 1) := by decide +kernel
theorem own_ef_rm_ln0_0 (m : MethodId) (a1 : Addr) : entryFrame m #[(.ref a1)] 1 = mkF m 0 #[.val (.ref a1)] [] := by first | (simp [entryFrame, mkF, argsToLocals, Value.category]; done) | rfl
def Qrm_ln0_0 (Z : State) (a1 : Addr) (a2 : Addr) (gS : Int32) (h0 : Heap) (n0 : Nat) (v : Option Value) (h : Heap) (L : List Loc) : Prop := v = some (.int (0 : Int32)) ∧ Fr n0 L ∧ h = h0
set_option maxRecDepth 65536 in
set_option maxHeartbeats 40000000 in
theorem rm_ln0_0 (l : Launch) (Z : State) (a0 : Array Value) (hw : ∀ d ∈ tables_1, d.before a0 Z = true) (ws : List Jvm.Cond) (a1 : Addr) (a2 : Addr) (gS : Int32) (h0 : Heap) (n0 : Nat) (O_0 : Old Z n0 h0) (S_S : Sta Z Z.heap "java/lang/String" "COMPACT_STRINGS" "Z" (.int gS)) (hS : ¬ gS = 0) (E_1 : Exa Z h0 a1 "java/lang/String") (F_c : Fld Z h0 a1 "java/lang/String" "coder" "B" (.int (0 : Int32))) (F_v : Fld Z h0 a1 "java/lang/String" "value" "[B" (.ref a2)) (A_2 : own_Ar Z h0 a2 .byte []) :
    own_Met l (⟨"java/lang/String", "length", "()I"⟩ : MethodName) jdk_42_method_54_code 1 (some .int) ws ({ frames := 1, cells := 0, slots := 0, locals := 13 } : Room) #[(.ref a1)] Z h0 (Qrm_ln0_0 Z a1 a2 gS h0 n0) := by
  refine own_body own_pn6 ?_
  intro p e s m below meth c T0 X0 hx hby hml hown hnm hret hlk hZ e0
  have N0 := Fr.nil n0
  refine own_st (fun t k => castTop (own_ef_rm_ln0_0 m a1) k) ?_
  show own_Go p.tables e below (T0.setTop (mkF m 0 #[.val (.ref a1)] [])) _
  have Z0 := own_Z0 O_0
  refine own_aloadN X0 hx hby own_d6_0 (pc' := 1) rfl rfl rfl ?_
  refine own_getF X0 hx hby own_d6_1 (pc' := 4) rfl hZ hown (host := "") (Or.inl (own_t hw 21 rfl)) Via.refl e0 F_v ?_
  intro T183 X183 e183
  refine own_len X183 hx hby own_d6_4 (pc' := 5) rfl hZ e183 (A_2) (n := (0 : Int32)) (by rfl) ?_
  refine own_aloadN X183 hx hby own_d6_5 (pc' := 6) rfl rfl rfl ?_
  refine own_callV X183 hx hZ (rm_cd0 l Z a0 hw [] a1 gS h0 n0 (O_0) S_S hS (F_c)) hown (own_t hw 39 rfl) (own_t hw 40 rfl) (own_t hw 42 rfl) (own_t hw 41 rfl) (own_t hw 43 rfl) (own_t hw 4 rfl) (by decide) E_1 (W := 1) (by decide) (by decide) (by rw [hml]; rfl) (argsL := []) (rest := [(.int (0 : Int32))]) rfl (lenOf own_pd8 rfl) rfl (Nat.le_of_eq rfl) (hb hby own_d6_6) e183 (by decide) (by decide) ?_
  intro v184 T184 L184 X184 hQ184
  obtain ⟨hv184, N184q, e184⟩ := hQ184
  subst hv184
  have N184 := Fr.app N0 N184q
  show own_Go p.tables e below (T184.setTop (mkF m 9 #[.val (.ref a1)] [(.int (0 : Int32)), (.int (0 : Int32))])) _
  refine own_ishr X184 hx hby own_d6_9 (pc' := 10) rfl (z := (0 : Int32)) (by decide) ?_
  exact own_retI X184 hx hret (hb hby own_d6_10) hlk (by decide) (by decide) ⟨rfl, N184, e184⟩
theorem own_ef_rm_ln1_0 (m : MethodId) (a1 : Addr) : entryFrame m #[(.ref a1)] 1 = mkF m 0 #[.val (.ref a1)] [] := by first | (simp [entryFrame, mkF, argsToLocals, Value.category]; done) | rfl
def Qrm_ln1_0 (Z : State) (a1 : Addr) (a2 : Addr) (c0 : Int32) (gS : Int32) (h0 : Heap) (n0 : Nat) (v : Option Value) (h : Heap) (L : List Loc) : Prop := v = some (.int (1 : Int32)) ∧ Fr n0 L ∧ h = h0
set_option maxRecDepth 65536 in
set_option maxHeartbeats 40000000 in
theorem rm_ln1_0 (l : Launch) (Z : State) (a0 : Array Value) (hw : ∀ d ∈ tables_1, d.before a0 Z = true) (ws : List Jvm.Cond) (a1 : Addr) (a2 : Addr) (c0 : Int32) (gS : Int32) (h0 : Heap) (n0 : Nat) (O_0 : Old Z n0 h0) (S_S : Sta Z Z.heap "java/lang/String" "COMPACT_STRINGS" "Z" (.int gS)) (hS : ¬ gS = 0) (E_1 : Exa Z h0 a1 "java/lang/String") (F_c : Fld Z h0 a1 "java/lang/String" "coder" "B" (.int (0 : Int32))) (F_v : Fld Z h0 a1 "java/lang/String" "value" "[B" (.ref a2)) (A_2 : own_Ar Z h0 a2 .byte [(.int (lo8 c0))]) :
    own_Met l (⟨"java/lang/String", "length", "()I"⟩ : MethodName) jdk_42_method_54_code 1 (some .int) ws ({ frames := 1, cells := 0, slots := 0, locals := 13 } : Room) #[(.ref a1)] Z h0 (Qrm_ln1_0 Z a1 a2 c0 gS h0 n0) := by
  refine own_body own_pn6 ?_
  intro p e s m below meth c T0 X0 hx hby hml hown hnm hret hlk hZ e0
  have N0 := Fr.nil n0
  refine own_st (fun t k => castTop (own_ef_rm_ln1_0 m a1) k) ?_
  show own_Go p.tables e below (T0.setTop (mkF m 0 #[.val (.ref a1)] [])) _
  have Z0 := own_Z0 O_0
  refine own_aloadN X0 hx hby own_d6_0 (pc' := 1) rfl rfl rfl ?_
  refine own_getF X0 hx hby own_d6_1 (pc' := 4) rfl hZ hown (host := "") (Or.inl (own_t hw 21 rfl)) Via.refl e0 F_v ?_
  intro T185 X185 e185
  refine own_len X185 hx hby own_d6_4 (pc' := 5) rfl hZ e185 (A_2) (n := (1 : Int32)) (by rfl) ?_
  refine own_aloadN X185 hx hby own_d6_5 (pc' := 6) rfl rfl rfl ?_
  refine own_callV X185 hx hZ (rm_cd0 l Z a0 hw [] a1 gS h0 n0 (O_0) S_S hS (F_c)) hown (own_t hw 39 rfl) (own_t hw 40 rfl) (own_t hw 42 rfl) (own_t hw 41 rfl) (own_t hw 43 rfl) (own_t hw 4 rfl) (by decide) E_1 (W := 1) (by decide) (by decide) (by rw [hml]; rfl) (argsL := []) (rest := [(.int (1 : Int32))]) rfl (lenOf own_pd8 rfl) rfl (Nat.le_of_eq rfl) (hb hby own_d6_6) e185 (by decide) (by decide) ?_
  intro v186 T186 L186 X186 hQ186
  obtain ⟨hv186, N186q, e186⟩ := hQ186
  subst hv186
  have N186 := Fr.app N0 N186q
  show own_Go p.tables e below (T186.setTop (mkF m 9 #[.val (.ref a1)] [(.int (0 : Int32)), (.int (1 : Int32))])) _
  refine own_ishr X186 hx hby own_d6_9 (pc' := 10) rfl (z := (1 : Int32)) (by decide) ?_
  exact own_retI X186 hx hret (hb hby own_d6_10) hlk (by decide) (by decide) ⟨rfl, N186, e186⟩
theorem own_ef_rm_ln1_1 (m : MethodId) (a1 : Addr) : entryFrame m #[(.ref a1)] 1 = mkF m 0 #[.val (.ref a1)] [] := by first | (simp [entryFrame, mkF, argsToLocals, Value.category]; done) | rfl
def Qrm_ln1_1 (Z : State) (a1 : Addr) (a2 : Addr) (c0 : Int32) (gS : Int32) (h0 : Heap) (n0 : Nat) (v : Option Value) (h : Heap) (L : List Loc) : Prop := v = some (.int (1 : Int32)) ∧ Fr n0 L ∧ h = h0
set_option maxRecDepth 65536 in
set_option maxHeartbeats 40000000 in
theorem rm_ln1_1 (l : Launch) (Z : State) (a0 : Array Value) (hw : ∀ d ∈ tables_1, d.before a0 Z = true) (ws : List Jvm.Cond) (a1 : Addr) (a2 : Addr) (c0 : Int32) (gS : Int32) (h0 : Heap) (n0 : Nat) (O_0 : Old Z n0 h0) (S_S : Sta Z Z.heap "java/lang/String" "COMPACT_STRINGS" "Z" (.int gS)) (hS : ¬ gS = 0) (E_1 : Exa Z h0 a1 "java/lang/String") (F_c : Fld Z h0 a1 "java/lang/String" "coder" "B" (.int (1 : Int32))) (F_v : Fld Z h0 a1 "java/lang/String" "value" "[B" (.ref a2)) (A_2 : own_Ar Z h0 a2 .byte [(.int (lo8 c0)), (.int (hi8 c0))]) :
    own_Met l (⟨"java/lang/String", "length", "()I"⟩ : MethodName) jdk_42_method_54_code 1 (some .int) ws ({ frames := 1, cells := 0, slots := 0, locals := 13 } : Room) #[(.ref a1)] Z h0 (Qrm_ln1_1 Z a1 a2 c0 gS h0 n0) := by
  refine own_body own_pn6 ?_
  intro p e s m below meth c T0 X0 hx hby hml hown hnm hret hlk hZ e0
  have N0 := Fr.nil n0
  refine own_st (fun t k => castTop (own_ef_rm_ln1_1 m a1) k) ?_
  show own_Go p.tables e below (T0.setTop (mkF m 0 #[.val (.ref a1)] [])) _
  have Z0 := own_Z0 O_0
  refine own_aloadN X0 hx hby own_d6_0 (pc' := 1) rfl rfl rfl ?_
  refine own_getF X0 hx hby own_d6_1 (pc' := 4) rfl hZ hown (host := "") (Or.inl (own_t hw 21 rfl)) Via.refl e0 F_v ?_
  intro T187 X187 e187
  refine own_len X187 hx hby own_d6_4 (pc' := 5) rfl hZ e187 (A_2) (n := (2 : Int32)) (by rfl) ?_
  refine own_aloadN X187 hx hby own_d6_5 (pc' := 6) rfl rfl rfl ?_
  refine own_callV X187 hx hZ (rm_cd1 l Z a0 hw [] a1 gS h0 n0 (O_0) S_S hS (F_c)) hown (own_t hw 39 rfl) (own_t hw 40 rfl) (own_t hw 42 rfl) (own_t hw 41 rfl) (own_t hw 43 rfl) (own_t hw 4 rfl) (by decide) E_1 (W := 1) (by decide) (by decide) (by rw [hml]; rfl) (argsL := []) (rest := [(.int (2 : Int32))]) rfl (lenOf own_pd8 rfl) rfl (Nat.le_of_eq rfl) (hb hby own_d6_6) e187 (by decide) (by decide) ?_
  intro v188 T188 L188 X188 hQ188
  obtain ⟨hv188, N188q, e188⟩ := hQ188
  subst hv188
  have N188 := Fr.app N0 N188q
  show own_Go p.tables e below (T188.setTop (mkF m 9 #[.val (.ref a1)] [(.int (1 : Int32)), (.int (2 : Int32))])) _
  refine own_ishr X188 hx hby own_d6_9 (pc' := 10) rfl (z := (1 : Int32)) (by decide) ?_
  exact own_retI X188 hx hret (hb hby own_d6_10) hlk (by decide) (by decide) ⟨rfl, N188, e188⟩
theorem own_ef_rm_ln2_0 (m : MethodId) (a1 : Addr) : entryFrame m #[(.ref a1)] 1 = mkF m 0 #[.val (.ref a1)] [] := by first | (simp [entryFrame, mkF, argsToLocals, Value.category]; done) | rfl
def Qrm_ln2_0 (Z : State) (a1 : Addr) (a2 : Addr) (c0 : Int32) (c1 : Int32) (gS : Int32) (h0 : Heap) (n0 : Nat) (v : Option Value) (h : Heap) (L : List Loc) : Prop := v = some (.int (2 : Int32)) ∧ Fr n0 L ∧ h = h0
set_option maxRecDepth 65536 in
set_option maxHeartbeats 40000000 in
theorem rm_ln2_0 (l : Launch) (Z : State) (a0 : Array Value) (hw : ∀ d ∈ tables_1, d.before a0 Z = true) (ws : List Jvm.Cond) (a1 : Addr) (a2 : Addr) (c0 : Int32) (c1 : Int32) (gS : Int32) (h0 : Heap) (n0 : Nat) (O_0 : Old Z n0 h0) (S_S : Sta Z Z.heap "java/lang/String" "COMPACT_STRINGS" "Z" (.int gS)) (hS : ¬ gS = 0) (E_1 : Exa Z h0 a1 "java/lang/String") (F_c : Fld Z h0 a1 "java/lang/String" "coder" "B" (.int (0 : Int32))) (F_v : Fld Z h0 a1 "java/lang/String" "value" "[B" (.ref a2)) (A_2 : own_Ar Z h0 a2 .byte [(.int (lo8 c0)), (.int (lo8 c1))]) :
    own_Met l (⟨"java/lang/String", "length", "()I"⟩ : MethodName) jdk_42_method_54_code 1 (some .int) ws ({ frames := 1, cells := 0, slots := 0, locals := 13 } : Room) #[(.ref a1)] Z h0 (Qrm_ln2_0 Z a1 a2 c0 c1 gS h0 n0) := by
  refine own_body own_pn6 ?_
  intro p e s m below meth c T0 X0 hx hby hml hown hnm hret hlk hZ e0
  have N0 := Fr.nil n0
  refine own_st (fun t k => castTop (own_ef_rm_ln2_0 m a1) k) ?_
  show own_Go p.tables e below (T0.setTop (mkF m 0 #[.val (.ref a1)] [])) _
  have Z0 := own_Z0 O_0
  refine own_aloadN X0 hx hby own_d6_0 (pc' := 1) rfl rfl rfl ?_
  refine own_getF X0 hx hby own_d6_1 (pc' := 4) rfl hZ hown (host := "") (Or.inl (own_t hw 21 rfl)) Via.refl e0 F_v ?_
  intro T189 X189 e189
  refine own_len X189 hx hby own_d6_4 (pc' := 5) rfl hZ e189 (A_2) (n := (2 : Int32)) (by rfl) ?_
  refine own_aloadN X189 hx hby own_d6_5 (pc' := 6) rfl rfl rfl ?_
  refine own_callV X189 hx hZ (rm_cd0 l Z a0 hw [] a1 gS h0 n0 (O_0) S_S hS (F_c)) hown (own_t hw 39 rfl) (own_t hw 40 rfl) (own_t hw 42 rfl) (own_t hw 41 rfl) (own_t hw 43 rfl) (own_t hw 4 rfl) (by decide) E_1 (W := 1) (by decide) (by decide) (by rw [hml]; rfl) (argsL := []) (rest := [(.int (2 : Int32))]) rfl (lenOf own_pd8 rfl) rfl (Nat.le_of_eq rfl) (hb hby own_d6_6) e189 (by decide) (by decide) ?_
  intro v190 T190 L190 X190 hQ190
  obtain ⟨hv190, N190q, e190⟩ := hQ190
  subst hv190
  have N190 := Fr.app N0 N190q
  show own_Go p.tables e below (T190.setTop (mkF m 9 #[.val (.ref a1)] [(.int (0 : Int32)), (.int (2 : Int32))])) _
  refine own_ishr X190 hx hby own_d6_9 (pc' := 10) rfl (z := (2 : Int32)) (by decide) ?_
  exact own_retI X190 hx hret (hb hby own_d6_10) hlk (by decide) (by decide) ⟨rfl, N190, e190⟩
theorem own_ef_rm_ln2_1 (m : MethodId) (a1 : Addr) : entryFrame m #[(.ref a1)] 1 = mkF m 0 #[.val (.ref a1)] [] := by first | (simp [entryFrame, mkF, argsToLocals, Value.category]; done) | rfl
def Qrm_ln2_1 (Z : State) (a1 : Addr) (a2 : Addr) (c0 : Int32) (c1 : Int32) (gS : Int32) (h0 : Heap) (n0 : Nat) (v : Option Value) (h : Heap) (L : List Loc) : Prop := v = some (.int (2 : Int32)) ∧ Fr n0 L ∧ h = h0
set_option maxRecDepth 65536 in
set_option maxHeartbeats 40000000 in
theorem rm_ln2_1 (l : Launch) (Z : State) (a0 : Array Value) (hw : ∀ d ∈ tables_1, d.before a0 Z = true) (ws : List Jvm.Cond) (a1 : Addr) (a2 : Addr) (c0 : Int32) (c1 : Int32) (gS : Int32) (h0 : Heap) (n0 : Nat) (O_0 : Old Z n0 h0) (S_S : Sta Z Z.heap "java/lang/String" "COMPACT_STRINGS" "Z" (.int gS)) (hS : ¬ gS = 0) (E_1 : Exa Z h0 a1 "java/lang/String") (F_c : Fld Z h0 a1 "java/lang/String" "coder" "B" (.int (1 : Int32))) (F_v : Fld Z h0 a1 "java/lang/String" "value" "[B" (.ref a2)) (A_2 : own_Ar Z h0 a2 .byte [(.int (lo8 c0)), (.int (hi8 c0)), (.int (lo8 c1)), (.int (hi8 c1))]) :
    own_Met l (⟨"java/lang/String", "length", "()I"⟩ : MethodName) jdk_42_method_54_code 1 (some .int) ws ({ frames := 1, cells := 0, slots := 0, locals := 13 } : Room) #[(.ref a1)] Z h0 (Qrm_ln2_1 Z a1 a2 c0 c1 gS h0 n0) := by
  refine own_body own_pn6 ?_
  intro p e s m below meth c T0 X0 hx hby hml hown hnm hret hlk hZ e0
  have N0 := Fr.nil n0
  refine own_st (fun t k => castTop (own_ef_rm_ln2_1 m a1) k) ?_
  show own_Go p.tables e below (T0.setTop (mkF m 0 #[.val (.ref a1)] [])) _
  have Z0 := own_Z0 O_0
  refine own_aloadN X0 hx hby own_d6_0 (pc' := 1) rfl rfl rfl ?_
  refine own_getF X0 hx hby own_d6_1 (pc' := 4) rfl hZ hown (host := "") (Or.inl (own_t hw 21 rfl)) Via.refl e0 F_v ?_
  intro T191 X191 e191
  refine own_len X191 hx hby own_d6_4 (pc' := 5) rfl hZ e191 (A_2) (n := (4 : Int32)) (by rfl) ?_
  refine own_aloadN X191 hx hby own_d6_5 (pc' := 6) rfl rfl rfl ?_
  refine own_callV X191 hx hZ (rm_cd1 l Z a0 hw [] a1 gS h0 n0 (O_0) S_S hS (F_c)) hown (own_t hw 39 rfl) (own_t hw 40 rfl) (own_t hw 42 rfl) (own_t hw 41 rfl) (own_t hw 43 rfl) (own_t hw 4 rfl) (by decide) E_1 (W := 1) (by decide) (by decide) (by rw [hml]; rfl) (argsL := []) (rest := [(.int (4 : Int32))]) rfl (lenOf own_pd8 rfl) rfl (Nat.le_of_eq rfl) (hb hby own_d6_6) e191 (by decide) (by decide) ?_
  intro v192 T192 L192 X192 hQ192
  obtain ⟨hv192, N192q, e192⟩ := hQ192
  subst hv192
  have N192 := Fr.app N0 N192q
  show own_Go p.tables e below (T192.setTop (mkF m 9 #[.val (.ref a1)] [(.int (1 : Int32)), (.int (4 : Int32))])) _
  refine own_ishr X192 hx hby own_d6_9 (pc' := 10) rfl (z := (2 : Int32)) (by decide) ?_
  exact own_retI X192 hx hret (hb hby own_d6_10) hlk (by decide) (by decide) ⟨rfl, N192, e192⟩
theorem own_ef_rm_ln3_0 (m : MethodId) (a1 : Addr) : entryFrame m #[(.ref a1)] 1 = mkF m 0 #[.val (.ref a1)] [] := by first | (simp [entryFrame, mkF, argsToLocals, Value.category]; done) | rfl
def Qrm_ln3_0 (Z : State) (a1 : Addr) (a2 : Addr) (c0 : Int32) (c1 : Int32) (c2 : Int32) (gS : Int32) (h0 : Heap) (n0 : Nat) (v : Option Value) (h : Heap) (L : List Loc) : Prop := v = some (.int (3 : Int32)) ∧ Fr n0 L ∧ h = h0
set_option maxRecDepth 65536 in
set_option maxHeartbeats 40000000 in
theorem rm_ln3_0 (l : Launch) (Z : State) (a0 : Array Value) (hw : ∀ d ∈ tables_1, d.before a0 Z = true) (ws : List Jvm.Cond) (a1 : Addr) (a2 : Addr) (c0 : Int32) (c1 : Int32) (c2 : Int32) (gS : Int32) (h0 : Heap) (n0 : Nat) (O_0 : Old Z n0 h0) (S_S : Sta Z Z.heap "java/lang/String" "COMPACT_STRINGS" "Z" (.int gS)) (hS : ¬ gS = 0) (E_1 : Exa Z h0 a1 "java/lang/String") (F_c : Fld Z h0 a1 "java/lang/String" "coder" "B" (.int (0 : Int32))) (F_v : Fld Z h0 a1 "java/lang/String" "value" "[B" (.ref a2)) (A_2 : own_Ar Z h0 a2 .byte [(.int (lo8 c0)), (.int (lo8 c1)), (.int (lo8 c2))]) :
    own_Met l (⟨"java/lang/String", "length", "()I"⟩ : MethodName) jdk_42_method_54_code 1 (some .int) ws ({ frames := 1, cells := 0, slots := 0, locals := 13 } : Room) #[(.ref a1)] Z h0 (Qrm_ln3_0 Z a1 a2 c0 c1 c2 gS h0 n0) := by
  refine own_body own_pn6 ?_
  intro p e s m below meth c T0 X0 hx hby hml hown hnm hret hlk hZ e0
  have N0 := Fr.nil n0
  refine own_st (fun t k => castTop (own_ef_rm_ln3_0 m a1) k) ?_
  show own_Go p.tables e below (T0.setTop (mkF m 0 #[.val (.ref a1)] [])) _
  have Z0 := own_Z0 O_0
  refine own_aloadN X0 hx hby own_d6_0 (pc' := 1) rfl rfl rfl ?_
  refine own_getF X0 hx hby own_d6_1 (pc' := 4) rfl hZ hown (host := "") (Or.inl (own_t hw 21 rfl)) Via.refl e0 F_v ?_
  intro T193 X193 e193
  refine own_len X193 hx hby own_d6_4 (pc' := 5) rfl hZ e193 (A_2) (n := (3 : Int32)) (by rfl) ?_
  refine own_aloadN X193 hx hby own_d6_5 (pc' := 6) rfl rfl rfl ?_
  refine own_callV X193 hx hZ (rm_cd0 l Z a0 hw [] a1 gS h0 n0 (O_0) S_S hS (F_c)) hown (own_t hw 39 rfl) (own_t hw 40 rfl) (own_t hw 42 rfl) (own_t hw 41 rfl) (own_t hw 43 rfl) (own_t hw 4 rfl) (by decide) E_1 (W := 1) (by decide) (by decide) (by rw [hml]; rfl) (argsL := []) (rest := [(.int (3 : Int32))]) rfl (lenOf own_pd8 rfl) rfl (Nat.le_of_eq rfl) (hb hby own_d6_6) e193 (by decide) (by decide) ?_
  intro v194 T194 L194 X194 hQ194
  obtain ⟨hv194, N194q, e194⟩ := hQ194
  subst hv194
  have N194 := Fr.app N0 N194q
  show own_Go p.tables e below (T194.setTop (mkF m 9 #[.val (.ref a1)] [(.int (0 : Int32)), (.int (3 : Int32))])) _
  refine own_ishr X194 hx hby own_d6_9 (pc' := 10) rfl (z := (3 : Int32)) (by decide) ?_
  exact own_retI X194 hx hret (hb hby own_d6_10) hlk (by decide) (by decide) ⟨rfl, N194, e194⟩
theorem own_ef_rm_ln3_1 (m : MethodId) (a1 : Addr) : entryFrame m #[(.ref a1)] 1 = mkF m 0 #[.val (.ref a1)] [] := by first | (simp [entryFrame, mkF, argsToLocals, Value.category]; done) | rfl
def Qrm_ln3_1 (Z : State) (a1 : Addr) (a2 : Addr) (c0 : Int32) (c1 : Int32) (c2 : Int32) (gS : Int32) (h0 : Heap) (n0 : Nat) (v : Option Value) (h : Heap) (L : List Loc) : Prop := v = some (.int (3 : Int32)) ∧ Fr n0 L ∧ h = h0
set_option maxRecDepth 65536 in
set_option maxHeartbeats 40000000 in
theorem rm_ln3_1 (l : Launch) (Z : State) (a0 : Array Value) (hw : ∀ d ∈ tables_1, d.before a0 Z = true) (ws : List Jvm.Cond) (a1 : Addr) (a2 : Addr) (c0 : Int32) (c1 : Int32) (c2 : Int32) (gS : Int32) (h0 : Heap) (n0 : Nat) (O_0 : Old Z n0 h0) (S_S : Sta Z Z.heap "java/lang/String" "COMPACT_STRINGS" "Z" (.int gS)) (hS : ¬ gS = 0) (E_1 : Exa Z h0 a1 "java/lang/String") (F_c : Fld Z h0 a1 "java/lang/String" "coder" "B" (.int (1 : Int32))) (F_v : Fld Z h0 a1 "java/lang/String" "value" "[B" (.ref a2)) (A_2 : own_Ar Z h0 a2 .byte [(.int (lo8 c0)), (.int (hi8 c0)), (.int (lo8 c1)), (.int (hi8 c1)), (.int (lo8 c2)), (.int (hi8 c2))]) :
    own_Met l (⟨"java/lang/String", "length", "()I"⟩ : MethodName) jdk_42_method_54_code 1 (some .int) ws ({ frames := 1, cells := 0, slots := 0, locals := 13 } : Room) #[(.ref a1)] Z h0 (Qrm_ln3_1 Z a1 a2 c0 c1 c2 gS h0 n0) := by
  refine own_body own_pn6 ?_
  intro p e s m below meth c T0 X0 hx hby hml hown hnm hret hlk hZ e0
  have N0 := Fr.nil n0
  refine own_st (fun t k => castTop (own_ef_rm_ln3_1 m a1) k) ?_
  show own_Go p.tables e below (T0.setTop (mkF m 0 #[.val (.ref a1)] [])) _
  have Z0 := own_Z0 O_0
  refine own_aloadN X0 hx hby own_d6_0 (pc' := 1) rfl rfl rfl ?_
  refine own_getF X0 hx hby own_d6_1 (pc' := 4) rfl hZ hown (host := "") (Or.inl (own_t hw 21 rfl)) Via.refl e0 F_v ?_
  intro T195 X195 e195
  refine own_len X195 hx hby own_d6_4 (pc' := 5) rfl hZ e195 (A_2) (n := (6 : Int32)) (by rfl) ?_
  refine own_aloadN X195 hx hby own_d6_5 (pc' := 6) rfl rfl rfl ?_
  refine own_callV X195 hx hZ (rm_cd1 l Z a0 hw [] a1 gS h0 n0 (O_0) S_S hS (F_c)) hown (own_t hw 39 rfl) (own_t hw 40 rfl) (own_t hw 42 rfl) (own_t hw 41 rfl) (own_t hw 43 rfl) (own_t hw 4 rfl) (by decide) E_1 (W := 1) (by decide) (by decide) (by rw [hml]; rfl) (argsL := []) (rest := [(.int (6 : Int32))]) rfl (lenOf own_pd8 rfl) rfl (Nat.le_of_eq rfl) (hb hby own_d6_6) e195 (by decide) (by decide) ?_
  intro v196 T196 L196 X196 hQ196
  obtain ⟨hv196, N196q, e196⟩ := hQ196
  subst hv196
  have N196 := Fr.app N0 N196q
  show own_Go p.tables e below (T196.setTop (mkF m 9 #[.val (.ref a1)] [(.int (1 : Int32)), (.int (6 : Int32))])) _
  refine own_ishr X196 hx hby own_d6_9 (pc' := 10) rfl (z := (3 : Int32)) (by decide) ?_
  exact own_retI X196 hx hret (hb hby own_d6_10) hlk (by decide) (by decide) ⟨rfl, N196, e196⟩
theorem own_d23_0 : decode jdk_52_method_6_code 0 = .ok (.aload_n 0, 1) := by decide +kernel
theorem own_d23_1 : decode jdk_52_method_6_code 1 = .ok (.arraylength, 1) := by decide +kernel
theorem own_d23_2 : decode jdk_52_method_6_code 2 = .ok (.iconst 1, 1) := by decide +kernel
theorem own_d23_3 : decode jdk_52_method_6_code 3 = .ok (.ishr, 1) := by decide +kernel
theorem own_d23_4 : decode jdk_52_method_6_code 4 = .ok (.ireturn, 1) := by decide +kernel
theorem own_ef_rm_ul1 (m : MethodId) (a1 : Addr) : entryFrame m #[(.ref a1)] 1 = mkF m 0 #[.val (.ref a1)] [] := by first | (simp [entryFrame, mkF, argsToLocals, Value.category]; done) | rfl
def Qrm_ul1 (Z : State) (a1 : Addr) (c0 : Int32) (h0 : Heap) (n0 : Nat) (v : Option Value) (h : Heap) (L : List Loc) : Prop := v = some (.int (1 : Int32)) ∧ Fr n0 L ∧ h = h0
set_option maxRecDepth 65536 in
set_option maxHeartbeats 40000000 in
theorem rm_ul1 (l : Launch) (Z : State) (a0 : Array Value) (hw : ∀ d ∈ tables_1, d.before a0 Z = true) (ws : List Jvm.Cond) (a1 : Addr) (c0 : Int32) (h0 : Heap) (n0 : Nat) (O_0 : Old Z n0 h0) (A_1 : own_Ar Z h0 a1 .byte [(.int (lo8 c0)), (.int (hi8 c0))]) :
    own_Met l (⟨"java/lang/StringUTF16", "length", "([B)I"⟩ : MethodName) jdk_52_method_6_code 1 (some .int) ws ({ frames := 0, cells := 0, slots := 0, locals := 0 } : Room) #[(.ref a1)] Z h0 (Qrm_ul1 Z a1 c0 h0 n0) := by
  refine own_body own_pn23 ?_
  intro p e s m below meth c T0 X0 hx hby hml hown hnm hret hlk hZ e0
  have N0 := Fr.nil n0
  refine own_st (fun t k => castTop (own_ef_rm_ul1 m a1) k) ?_
  show own_Go p.tables e below (T0.setTop (mkF m 0 #[.val (.ref a1)] [])) _
  have Z0 := own_Z0 O_0
  refine own_aloadN X0 hx hby own_d23_0 (pc' := 1) rfl rfl rfl ?_
  refine own_len X0 hx hby own_d23_1 (pc' := 2) rfl hZ e0 (A_1) (n := (2 : Int32)) (by rfl) ?_
  refine own_iconst X0 hx hby own_d23_2 (pc' := 3) rfl (z := (1 : Int32)) (by decide) ?_
  refine own_ishr X0 hx hby own_d23_3 (pc' := 4) rfl (z := (1 : Int32)) (by decide) ?_
  exact own_retI X0 hx hret (hb hby own_d23_4) hlk (by decide) (by decide) ⟨rfl, N0, e0⟩
theorem own_d25_0 : decode jdk_41_method_11_code 0 = .ok (.iload_n 0, 1) := by decide +kernel
theorem own_d25_1 : decode jdk_41_method_11_code 1 = .ok (.ifCond .lt 8, 3) := by decide +kernel
theorem own_d25_4 : decode jdk_41_method_11_code 4 = .ok (.iload_n 0, 1) := by decide +kernel
theorem own_d25_5 : decode jdk_41_method_11_code 5 = .ok (.iload_n 1, 1) := by decide +kernel
theorem own_d25_6 : decode jdk_41_method_11_code 6 = .ok (.if_icmp .lt 10, 3) := by decide +kernel
theorem own_d25_16 : decode jdk_41_method_11_code 16 = .ok (.iload_n 0, 1) := by decide +kernel
theorem own_d25_17 : decode jdk_41_method_11_code 17 = .ok (.ireturn, 1) := by decide +kernel
theorem own_ef_rm_pi1_0 (m : MethodId) (fm : Value) (hfm : fm.isRef = true) : entryFrame m #[(.int (0 : Int32)), (.int (1 : Int32)), fm] 3 = mkF m 0 #[.val (.int (0 : Int32)), .val (.int (1 : Int32)), .val fm] [] := by first | (simp [entryFrame, mkF, argsToLocals, Value.category, own_cat hfm]; done) | rfl | (cases fm <;> first | rfl | exact absurd hfm (by simp [Value.isRef]))
def Qrm_pi1_0 (Z : State) (fm : Value) (h0 : Heap) (n0 : Nat) (v : Option Value) (h : Heap) (L : List Loc) : Prop := v = some (.int (0 : Int32)) ∧ Fr n0 L ∧ h = h0
set_option maxRecDepth 65536 in
set_option maxHeartbeats 40000000 in
theorem rm_pi1_0 (l : Launch) (Z : State) (a0 : Array Value) (hw : ∀ d ∈ tables_1, d.before a0 Z = true) (ws : List Jvm.Cond) (fm : Value) (h0 : Heap) (n0 : Nat) (O_0 : Old Z n0 h0) (hfm : fm.isRef = true) :
    own_Met l (⟨"jdk/internal/util/Preconditions", "checkIndex", "(IILjava/util/function/BiFunction;)I"⟩ : MethodName) jdk_41_method_11_code 3 (some .int) ws ({ frames := 0, cells := 0, slots := 0, locals := 0 } : Room) #[(.int (0 : Int32)), (.int (1 : Int32)), fm] Z h0 (Qrm_pi1_0 Z fm h0 n0) := by
  refine own_body own_pn25 ?_
  intro p e s m below meth c T0 X0 hx hby hml hown hnm hret hlk hZ e0
  have N0 := Fr.nil n0
  refine own_st (fun t k => castTop (own_ef_rm_pi1_0 m fm hfm) k) ?_
  show own_Go p.tables e below (T0.setTop (mkF m 0 #[.val (.int (0 : Int32)), .val (.int (1 : Int32)), .val fm] [])) _
  have Z0 := own_Z0 O_0
  refine own_iloadN X0 hx hby own_d25_0 (pc' := 1) rfl rfl ?_
  refine own_ifNo X0 hx hby own_d25_1 (pc' := 4) rfl (by decide) ?_
  refine own_iloadN X0 hx hby own_d25_4 (pc' := 5) rfl rfl ?_
  refine own_iloadN X0 hx hby own_d25_5 (pc' := 6) rfl rfl ?_
  refine own_icmpYes X0 hx hby own_d25_6 (pc' := 16) (by decide) (by decide) ?_
  refine own_iloadN X0 hx hby own_d25_16 (pc' := 17) rfl rfl ?_
  exact own_retI X0 hx hret (hb hby own_d25_17) hlk (by decide) (by decide) ⟨rfl, N0, e0⟩
theorem own_pd9 : parseMethodDescriptor "(IILjava/util/function/BiFunction;)I" = some ⟨[.int, .int, (.object "java/util/function/BiFunction")], some .int⟩ := by decide +kernel
theorem own_d24_0 : decode jdk_42_method_155_code 0 = .ok (.iload_n 0, 1) := by decide +kernel
theorem own_d24_1 : decode jdk_42_method_155_code 1 = .ok (.iload_n 1, 1) := by decide +kernel
theorem own_d24_2 : decode jdk_42_method_155_code 2 = .ok (.getstatic 1053, 3) := by decide +kernel
theorem own_d24_5 : decode jdk_42_method_155_code 5 = .ok (.invokestatic 1059, 3) := by decide +kernel
theorem own_d24_8 : decode jdk_42_method_155_code 8 = .ok (.pop, 1) := by decide +kernel
theorem own_d24_9 : decode jdk_42_method_155_code 9 = .ok (.return_, 1) := by decide +kernel
theorem own_ef_rm_ci1_0 (m : MethodId)  : entryFrame m #[(.int (0 : Int32)), (.int (1 : Int32))] 2 = mkF m 0 #[.val (.int (0 : Int32)), .val (.int (1 : Int32))] [] := by first | (simp [entryFrame, mkF, argsToLocals, Value.category]; done) | rfl
def Qrm_ci1_0 (Z : State) (fm : Value) (h0 : Heap) (n0 : Nat) (v : Option Value) (h : Heap) (L : List Loc) : Prop := v = none ∧ Fr n0 L ∧ h = h0
set_option maxRecDepth 65536 in
set_option maxHeartbeats 40000000 in
theorem rm_ci1_0 (l : Launch) (Z : State) (a0 : Array Value) (hw : ∀ d ∈ tables_1, d.before a0 Z = true) (ws : List Jvm.Cond) (fm : Value) (h0 : Heap) (n0 : Nat) (O_0 : Old Z n0 h0) (S_F : Sta Z Z.heap "jdk/internal/util/Preconditions" "SIOOBE_FORMATTER" "Ljava/util/function/BiFunction;" fm) (hfm : fm.isRef = true) :
    own_Met l (⟨"java/lang/String", "checkIndex", "(II)V"⟩ : MethodName) jdk_42_method_155_code 2 none ws ({ frames := 1, cells := 0, slots := 0, locals := 14 } : Room) #[(.int (0 : Int32)), (.int (1 : Int32))] Z h0 (Qrm_ci1_0 Z fm h0 n0) := by
  refine own_body own_pn24 ?_
  intro p e s m below meth c T0 X0 hx hby hml hown hnm hret hlk hZ e0
  have N0 := Fr.nil n0
  refine own_st (fun t k => castTop (own_ef_rm_ci1_0 m ) k) ?_
  show own_Go p.tables e below (T0.setTop (mkF m 0 #[.val (.int (0 : Int32)), .val (.int (1 : Int32))] [])) _
  have Z0 := own_Z0 O_0
  refine own_iloadN X0 hx hby own_d24_0 (pc' := 1) rfl rfl ?_
  refine own_iloadN X0 hx hby own_d24_1 (pc' := 2) rfl rfl ?_
  refine own_getS X0 hx hby own_d24_2 (pc' := 5) rfl hZ hown (host := "") (Or.inl (own_t hw 117 rfl)) Via.refl e0 (S_F.ext (O_0).2) ?_
  intro T197 X197 e197
  refine own_callS X197 hx hZ (rm_pi1_0 l Z a0 hw [] fm h0 n0 (O_0) hfm) hown (own_t hw 119 rfl) (own_t hw 120 rfl) (own_t hw 118 rfl) (own_t hw 121 rfl) (by decide) (W := 0) (by decide) (by decide) (by rw [hml]; rfl) (argsL := [(.int (0 : Int32)), (.int (1 : Int32)), fm]) (rest := []) rfl (lenOf own_pd9 rfl) rfl (Nat.le_of_eq rfl) (hb hby own_d24_5) e197 (by decide) (by decide) ?_
  intro v198 T198 L198 X198 hQ198
  obtain ⟨hv198, N198q, e198⟩ := hQ198
  subst hv198
  have N198 := Fr.app N0 N198q
  show own_Go p.tables e below (T198.setTop (mkF m 8 #[.val (.int (0 : Int32)), .val (.int (1 : Int32))] [(.int (0 : Int32))])) _
  refine own_pop X198 hx hby own_d24_8 (pc' := 9) rfl rfl ?_
  exact own_retV X198 hx hret (hb hby own_d24_9) hlk (by decide) (by decide) ⟨rfl, N198, e198⟩
theorem own_pd10 : parseMethodDescriptor "(II)V" = some ⟨[.int, .int], none⟩ := by decide +kernel
theorem own_d26_0 : decode jdk_43_method_2_code 0 = .ok (.iload_n 1, 1) := by decide +kernel
theorem own_d26_1 : decode jdk_43_method_2_code 1 = .ok (.aload_n 0, 1) := by decide +kernel
theorem own_d26_2 : decode jdk_43_method_2_code 2 = .ok (.arraylength, 1) := by decide +kernel
theorem own_d26_3 : decode jdk_43_method_2_code 3 = .ok (.invokestatic 9, 3) := by decide +kernel
theorem own_d26_6 : decode jdk_43_method_2_code 6 = .ok (.aload_n 0, 1) := by decide +kernel
theorem own_d26_7 : decode jdk_43_method_2_code 7 = .ok (.iload_n 1, 1) := by decide +kernel
theorem own_d26_8 : decode jdk_43_method_2_code 8 = .ok (.baload, 1) := by decide +kernel
theorem own_d26_9 : decode jdk_43_method_2_code 9 = .ok (.sipush 255, 3) := by decide +kernel
theorem own_d26_12 : decode jdk_43_method_2_code 12 = .ok (.iand, 1) := by decide +kernel
theorem own_d26_13 : decode jdk_43_method_2_code 13 = .ok (.i2c, 1) := by decide +kernel
theorem own_d26_14 : decode jdk_43_method_2_code 14 = .ok (.ireturn, 1) := by decide +kernel
theorem own_ef_rm_lc1_0 (m : MethodId) (a1 : Addr) : entryFrame m #[(.ref a1), (.int (0 : Int32))] 2 = mkF m 0 #[.val (.ref a1), .val (.int (0 : Int32))] [] := by first | (simp [entryFrame, mkF, argsToLocals, Value.category]; done) | rfl
def Qrm_lc1_0 (Z : State) (a1 : Addr) (c0 : Int32) (fm : Value) (h0 : Heap) (n0 : Nat) (v : Option Value) (h : Heap) (L : List Loc) : Prop := v = some (.int c0) ∧ Fr n0 L ∧ h = h0
set_option maxRecDepth 65536 in
set_option maxHeartbeats 40000000 in
theorem rm_lc1_0 (l : Launch) (Z : State) (a0 : Array Value) (hw : ∀ d ∈ tables_1, d.before a0 Z = true) (ws : List Jvm.Cond) (a1 : Addr) (c0 : Int32) (fm : Value) (h0 : Heap) (n0 : Nat) (O_0 : Old Z n0 h0) (S_F : Sta Z Z.heap "jdk/internal/util/Preconditions" "SIOOBE_FORMATTER" "Ljava/util/function/BiFunction;" fm) (hfm : fm.isRef = true) (A_1 : own_Ar Z h0 a1 .byte [(.int (lo8 c0))]) (hb0 : own_W c0) (hk0 : ¬ (255 : Int32) < c0) :
    own_Met l (⟨"java/lang/StringLatin1", "charAt", "([BI)C"⟩ : MethodName) jdk_43_method_2_code 2 (some .char) ws ({ frames := 2, cells := 0, slots := 0, locals := 27 } : Room) #[(.ref a1), (.int (0 : Int32))] Z h0 (Qrm_lc1_0 Z a1 c0 fm h0 n0) := by
  refine own_body own_pn26 ?_
  intro p e s m below meth c T0 X0 hx hby hml hown hnm hret hlk hZ e0
  have N0 := Fr.nil n0
  refine own_st (fun t k => castTop (own_ef_rm_lc1_0 m a1) k) ?_
  show own_Go p.tables e below (T0.setTop (mkF m 0 #[.val (.ref a1), .val (.int (0 : Int32))] [])) _
  have Z0 := own_Z0 O_0
  refine own_iloadN X0 hx hby own_d26_0 (pc' := 1) rfl rfl ?_
  refine own_aloadN X0 hx hby own_d26_1 (pc' := 2) rfl rfl rfl ?_
  refine own_len X0 hx hby own_d26_2 (pc' := 3) rfl hZ e0 (A_1) (n := (1 : Int32)) (by rfl) ?_
  refine own_callS X0 hx hZ (rm_ci1_0 l Z a0 hw [] fm h0 n0 (O_0) S_F hfm) hown (own_t hw 127 rfl) (own_t hw 115 rfl) (own_t hw 4 rfl) (own_t hw 116 rfl) (by decide) (W := 0) (by decide) (by decide) (by rw [hml]; rfl) (argsL := [(.int (0 : Int32)), (.int (1 : Int32))]) (rest := []) rfl (lenOf own_pd10 rfl) rfl (Nat.le_of_eq rfl) (hb hby own_d26_3) e0 (by decide) (by decide) ?_
  intro v199 T199 L199 X199 hQ199
  obtain ⟨hv199, N199q, e199⟩ := hQ199
  subst hv199
  have N199 := Fr.app N0 N199q
  show own_Go p.tables e below (T199.setTop (mkF m 6 #[.val (.ref a1), .val (.int (0 : Int32))] [])) _
  refine own_aloadN X199 hx hby own_d26_6 (pc' := 7) rfl rfl rfl ?_
  refine own_iloadN X199 hx hby own_d26_7 (pc' := 8) rfl rfl ?_
  refine own_baload X199 hx hby own_d26_8 (pc' := 9) rfl hZ e199 (A_1) (by decide) (v := (.int (lo8 c0))) rfl ?_
  refine own_sipush X199 hx hby own_d26_9 (pc' := 12) rfl (z := (255 : Int32)) (by decide) ?_
  refine own_iand X199 hx hby own_d26_12 (pc' := 13) rfl rfl ?_
  refine own_i2c X199 hx hby own_d26_13 (pc' := 14) rfl rfl ?_
  exact own_retZ (t := .char) X199 hx hret (by simp) (hb hby own_d26_14) hlk (by decide) (by decide) ⟨congrArg (fun z => some (Value.int z)) (own_one8 hb0 hk0), N199, e199⟩
theorem own_pd11 : parseMethodDescriptor "([B)I" = some ⟨[(.array .byte)], some .int⟩ := by decide +kernel
theorem own_d22_0 : decode jdk_52_method_91_code 0 = .ok (.iload_n 0, 1) := by decide +kernel
theorem own_d22_1 : decode jdk_52_method_91_code 1 = .ok (.aload_n 1, 1) := by decide +kernel
theorem own_d22_2 : decode jdk_52_method_91_code 2 = .ok (.invokestatic 48, 3) := by decide +kernel
theorem own_d22_5 : decode jdk_52_method_91_code 5 = .ok (.invokestatic 414, 3) := by decide +kernel
theorem own_d22_8 : decode jdk_52_method_91_code 8 = .ok (.return_, 1) := by decide +kernel
theorem own_ef_rm_uk1_0 (m : MethodId) (a1 : Addr) : entryFrame m #[(.int (0 : Int32)), (.ref a1)] 2 = mkF m 0 #[.val (.int (0 : Int32)), .val (.ref a1)] [] := by first | (simp [entryFrame, mkF, argsToLocals, Value.category]; done) | rfl
def Qrm_uk1_0 (Z : State) (a1 : Addr) (c0 : Int32) (fm : Value) (h0 : Heap) (n0 : Nat) (v : Option Value) (h : Heap) (L : List Loc) : Prop := v = none ∧ Fr n0 L ∧ h = h0
set_option maxRecDepth 65536 in
set_option maxHeartbeats 40000000 in
theorem rm_uk1_0 (l : Launch) (Z : State) (a0 : Array Value) (hw : ∀ d ∈ tables_1, d.before a0 Z = true) (ws : List Jvm.Cond) (a1 : Addr) (c0 : Int32) (fm : Value) (h0 : Heap) (n0 : Nat) (O_0 : Old Z n0 h0) (S_F : Sta Z Z.heap "jdk/internal/util/Preconditions" "SIOOBE_FORMATTER" "Ljava/util/function/BiFunction;" fm) (hfm : fm.isRef = true) (A_1 : own_Ar Z h0 a1 .byte [(.int (lo8 c0)), (.int (hi8 c0))]) :
    own_Met l (⟨"java/lang/StringUTF16", "checkIndex", "(I[B)V"⟩ : MethodName) jdk_52_method_91_code 2 none ws ({ frames := 2, cells := 0, slots := 0, locals := 27 } : Room) #[(.int (0 : Int32)), (.ref a1)] Z h0 (Qrm_uk1_0 Z a1 c0 fm h0 n0) := by
  refine own_body own_pn22 ?_
  intro p e s m below meth c T0 X0 hx hby hml hown hnm hret hlk hZ e0
  have N0 := Fr.nil n0
  refine own_st (fun t k => castTop (own_ef_rm_uk1_0 m a1) k) ?_
  show own_Go p.tables e below (T0.setTop (mkF m 0 #[.val (.int (0 : Int32)), .val (.ref a1)] [])) _
  have Z0 := own_Z0 O_0
  refine own_iloadN X0 hx hby own_d22_0 (pc' := 1) rfl rfl ?_
  refine own_aloadN X0 hx hby own_d22_1 (pc' := 2) rfl rfl rfl ?_
  refine own_callS X0 hx hZ (rm_ul1 l Z a0 hw [] a1 c0 h0 n0 (O_0) (A_1)) hown (own_t hw 111 rfl) (own_t hw 112 rfl) (own_t hw 67 rfl) (own_t hw 113 rfl) (by decide) (W := 1) (by decide) (by decide) (by rw [hml]; rfl) (argsL := [(.ref a1)]) (rest := [(.int (0 : Int32))]) rfl (lenOf own_pd11 rfl) rfl (Nat.le_of_eq rfl) (hb hby own_d22_2) e0 (by decide) (by decide) ?_
  intro v200 T200 L200 X200 hQ200
  obtain ⟨hv200, N200q, e200⟩ := hQ200
  subst hv200
  have N200 := Fr.app N0 N200q
  show own_Go p.tables e below (T200.setTop (mkF m 5 #[.val (.int (0 : Int32)), .val (.ref a1)] [(.int (1 : Int32)), (.int (0 : Int32))])) _
  refine own_callS X200 hx hZ (rm_ci1_0 l Z a0 hw [] fm h0 n0 (O_0) S_F hfm) hown (own_t hw 114 rfl) (own_t hw 115 rfl) (own_t hw 4 rfl) (own_t hw 116 rfl) (by decide) (W := 0) (by decide) (by decide) (by rw [hml]; rfl) (argsL := [(.int (0 : Int32)), (.int (1 : Int32))]) (rest := []) rfl (lenOf own_pd10 rfl) rfl (Nat.le_of_eq rfl) (hb hby own_d22_5) e200 (by decide) (by decide) ?_
  intro v201 T201 L201 X201 hQ201
  obtain ⟨hv201, N201q, e201⟩ := hQ201
  subst hv201
  have N201 := Fr.app N200 N201q
  show own_Go p.tables e below (T201.setTop (mkF m 8 #[.val (.int (0 : Int32)), .val (.ref a1)] [])) _
  exact own_retV X201 hx hret (hb hby own_d22_8) hlk (by decide) (by decide) ⟨rfl, N201, e201⟩
theorem own_pd12 : parseMethodDescriptor "(I[B)V" = some ⟨[.int, (.array .byte)], none⟩ := by decide +kernel
theorem own_d21_0 : decode jdk_52_method_83_code 0 = .ok (.iload_n 1, 1) := by decide +kernel
theorem own_d21_1 : decode jdk_52_method_83_code 1 = .ok (.aload_n 0, 1) := by decide +kernel
theorem own_d21_2 : decode jdk_52_method_83_code 2 = .ok (.invokestatic 67, 3) := by decide +kernel
theorem own_d21_5 : decode jdk_52_method_83_code 5 = .ok (.aload_n 0, 1) := by decide +kernel
theorem own_d21_6 : decode jdk_52_method_83_code 6 = .ok (.iload_n 1, 1) := by decide +kernel
theorem own_d21_7 : decode jdk_52_method_83_code 7 = .ok (.invokestatic 71, 3) := by decide +kernel
theorem own_d21_10 : decode jdk_52_method_83_code 10 = .ok (.ireturn, 1) := by decide +kernel
theorem own_ef_rm_uc1_0 (m : MethodId) (a1 : Addr) : entryFrame m #[(.ref a1), (.int (0 : Int32))] 2 = mkF m 0 #[.val (.ref a1), .val (.int (0 : Int32))] [] := by first | (simp [entryFrame, mkF, argsToLocals, Value.category]; done) | rfl
def Qrm_uc1_0 (Z : State) (a1 : Addr) (c0 : Int32) (fm : Value) (h0 : Heap) (n0 : Nat) (v : Option Value) (h : Heap) (L : List Loc) : Prop := v = some (.int c0) ∧ Fr n0 L ∧ h = h0
set_option maxRecDepth 65536 in
set_option maxHeartbeats 40000000 in
theorem rm_uc1_0 (l : Launch) (Z : State) (a0 : Array Value) (hw : ∀ d ∈ tables_1, d.before a0 Z = true) (ws : List Jvm.Cond) (a1 : Addr) (c0 : Int32) (fm : Value) (h0 : Heap) (n0 : Nat) (O_0 : Old Z n0 h0) (S_A : Sta Z Z.heap "java/lang/StringUTF16" "$assertionsDisabled" "Z" (.int (1 : Int32))) (S_H : Sta Z Z.heap "java/lang/StringUTF16" "HI_BYTE_SHIFT" "I" (.int (0 : Int32))) (S_L : Sta Z Z.heap "java/lang/StringUTF16" "LO_BYTE_SHIFT" "I" (.int (8 : Int32))) (S_F : Sta Z Z.heap "jdk/internal/util/Preconditions" "SIOOBE_FORMATTER" "Ljava/util/function/BiFunction;" fm) (hfm : fm.isRef = true) (A_1 : own_Ar Z h0 a1 .byte [(.int (lo8 c0)), (.int (hi8 c0))]) (hb0 : own_W c0) :
    own_Met l (⟨"java/lang/StringUTF16", "charAt", "([BI)C"⟩ : MethodName) jdk_52_method_83_code 2 (some .char) ws ({ frames := 3, cells := 0, slots := 0, locals := 40 } : Room) #[(.ref a1), (.int (0 : Int32))] Z h0 (Qrm_uc1_0 Z a1 c0 fm h0 n0) := by
  refine own_body own_pn21 ?_
  intro p e s m below meth c T0 X0 hx hby hml hown hnm hret hlk hZ e0
  have N0 := Fr.nil n0
  refine own_st (fun t k => castTop (own_ef_rm_uc1_0 m a1) k) ?_
  show own_Go p.tables e below (T0.setTop (mkF m 0 #[.val (.ref a1), .val (.int (0 : Int32))] [])) _
  have Z0 := own_Z0 O_0
  refine own_iloadN X0 hx hby own_d21_0 (pc' := 1) rfl rfl ?_
  refine own_aloadN X0 hx hby own_d21_1 (pc' := 2) rfl rfl rfl ?_
  refine own_callS X0 hx hZ (rm_uk1_0 l Z a0 hw [] a1 c0 fm h0 n0 (O_0) S_F hfm (A_1)) hown (own_t hw 108 rfl) (own_t hw 109 rfl) (own_t hw 67 rfl) (own_t hw 110 rfl) (by decide) (W := 0) (by decide) (by decide) (by rw [hml]; rfl) (argsL := [(.int (0 : Int32)), (.ref a1)]) (rest := []) rfl (lenOf own_pd12 rfl) rfl (Nat.le_of_eq rfl) (hb hby own_d21_2) e0 (by decide) (by decide) ?_
  intro v202 T202 L202 X202 hQ202
  obtain ⟨hv202, N202q, e202⟩ := hQ202
  subst hv202
  have N202 := Fr.app N0 N202q
  show own_Go p.tables e below (T202.setTop (mkF m 5 #[.val (.ref a1), .val (.int (0 : Int32))] [])) _
  refine own_aloadN X202 hx hby own_d21_5 (pc' := 6) rfl rfl rfl ?_
  refine own_iloadN X202 hx hby own_d21_6 (pc' := 7) rfl rfl ?_
  refine own_callS X202 hx hZ (rm_gc1_0 l Z a0 hw [] a1 c0 h0 n0 (O_0) S_A S_H S_L (A_1) hb0) hown (own_t hw 88 rfl) (own_t hw 89 rfl) (own_t hw 67 rfl) (own_t hw 90 rfl) (by decide) (W := 0) (by decide) (by decide) (by rw [hml]; rfl) (argsL := [(.ref a1), (.int (0 : Int32))]) (rest := []) rfl (lenOf own_pd5 rfl) rfl (Nat.le_of_eq rfl) (hb hby own_d21_7) e202 (by decide) (by decide) ?_
  intro v203 T203 L203 X203 hQ203
  obtain ⟨hv203, N203q, e203⟩ := hQ203
  subst hv203
  have N203 := Fr.app N202 N203q
  show own_Go p.tables e below (T203.setTop (mkF m 10 #[.val (.ref a1), .val (.int (0 : Int32))] [(.int c0)])) _
  exact own_retZ (t := .char) X203 hx hret (by simp) (hb hby own_d21_10) hlk (by decide) (by decide) ⟨congrArg (fun z => some (Value.int z)) (own_narW hb0), N203, e203⟩
theorem own_pd13 : parseMethodDescriptor "()Z" = some ⟨[], some .boolean⟩ := by decide +kernel
theorem own_d19_0 : decode jdk_42_method_56_code 0 = .ok (.aload_n 0, 1) := by decide +kernel
theorem own_d19_1 : decode jdk_42_method_56_code 1 = .ok (.invokevirtual 492, 3) := by decide +kernel
theorem own_d19_4 : decode jdk_42_method_56_code 4 = .ok (.ifCond .eq 12, 3) := by decide +kernel
theorem own_d19_7 : decode jdk_42_method_56_code 7 = .ok (.aload_n 0, 1) := by decide +kernel
theorem own_d19_8 : decode jdk_42_method_56_code 8 = .ok (.getfield 9, 3) := by decide +kernel
theorem own_d19_11 : decode jdk_42_method_56_code 11 = .ok (.iload_n 1, 1) := by decide +kernel
theorem own_d19_12 : decode jdk_42_method_56_code 12 = .ok (.invokestatic 495, 3) := by decide +kernel
theorem own_d19_15 : decode jdk_42_method_56_code 15 = .ok (.ireturn, 1) := by decide +kernel
theorem own_ef_rm_ch1_0_0 (m : MethodId) (a1 : Addr) : entryFrame m #[(.ref a1), (.int (0 : Int32))] 2 = mkF m 0 #[.val (.ref a1), .val (.int (0 : Int32))] [] := by first | (simp [entryFrame, mkF, argsToLocals, Value.category]; done) | rfl
def Qrm_ch1_0_0 (Z : State) (a1 : Addr) (a2 : Addr) (c0 : Int32) (gS : Int32) (fm : Value) (h0 : Heap) (n0 : Nat) (v : Option Value) (h : Heap) (L : List Loc) : Prop := v = some (.int c0) ∧ Fr n0 L ∧ h = h0
set_option maxRecDepth 65536 in
set_option maxHeartbeats 40000000 in
theorem rm_ch1_0_0 (l : Launch) (Z : State) (a0 : Array Value) (hw : ∀ d ∈ tables_1, d.before a0 Z = true) (ws : List Jvm.Cond) (a1 : Addr) (a2 : Addr) (c0 : Int32) (gS : Int32) (fm : Value) (h0 : Heap) (n0 : Nat) (O_0 : Old Z n0 h0) (S_S : Sta Z Z.heap "java/lang/String" "COMPACT_STRINGS" "Z" (.int gS)) (hS : ¬ gS = 0) (S_A : Sta Z Z.heap "java/lang/StringUTF16" "$assertionsDisabled" "Z" (.int (1 : Int32))) (S_H : Sta Z Z.heap "java/lang/StringUTF16" "HI_BYTE_SHIFT" "I" (.int (0 : Int32))) (S_L : Sta Z Z.heap "java/lang/StringUTF16" "LO_BYTE_SHIFT" "I" (.int (8 : Int32))) (S_F : Sta Z Z.heap "jdk/internal/util/Preconditions" "SIOOBE_FORMATTER" "Ljava/util/function/BiFunction;" fm) (hfm : fm.isRef = true) (E_1 : Exa Z h0 a1 "java/lang/String") (F_c : Fld Z h0 a1 "java/lang/String" "coder" "B" (.int (0 : Int32))) (F_v : Fld Z h0 a1 "java/lang/String" "value" "[B" (.ref a2)) (A_2 : own_Ar Z h0 a2 .byte [(.int (lo8 c0))]) (hb0 : own_W c0) (hk0 : ¬ (255 : Int32) < c0) :
    own_Met l (⟨"java/lang/String", "charAt", "(I)C"⟩ : MethodName) jdk_42_method_56_code 2 (some .char) ws ({ frames := 4, cells := 0, slots := 0, locals := 53 } : Room) #[(.ref a1), (.int (0 : Int32))] Z h0 (Qrm_ch1_0_0 Z a1 a2 c0 gS fm h0 n0) := by
  refine own_body own_pn19 ?_
  intro p e s m below meth c T0 X0 hx hby hml hown hnm hret hlk hZ e0
  have N0 := Fr.nil n0
  refine own_st (fun t k => castTop (own_ef_rm_ch1_0_0 m a1) k) ?_
  show own_Go p.tables e below (T0.setTop (mkF m 0 #[.val (.ref a1), .val (.int (0 : Int32))] [])) _
  have Z0 := own_Z0 O_0
  refine own_aloadN X0 hx hby own_d19_0 (pc' := 1) rfl rfl rfl ?_
  refine own_callV X0 hx hZ (rm_il0 l Z a0 hw [] a1 gS h0 n0 (O_0) S_S hS (F_c)) hown (own_t hw 100 rfl) (own_t hw 101 rfl) (own_t hw 103 rfl) (own_t hw 102 rfl) (own_t hw 104 rfl) (own_t hw 4 rfl) (by decide) E_1 (W := 0) (by decide) (by decide) (by rw [hml]; rfl) (argsL := []) (rest := []) rfl (lenOf own_pd13 rfl) rfl (Nat.le_of_eq rfl) (hb hby own_d19_1) e0 (by decide) (by decide) ?_
  intro v204 T204 L204 X204 hQ204
  obtain ⟨hv204, N204q, e204⟩ := hQ204
  subst hv204
  have N204 := Fr.app N0 N204q
  show own_Go p.tables e below (T204.setTop (mkF m 4 #[.val (.ref a1), .val (.int (0 : Int32))] [(.int (1 : Int32))])) _
  refine own_ifNo X204 hx hby own_d19_4 (pc' := 7) rfl (by decide) ?_
  refine own_aloadN X204 hx hby own_d19_7 (pc' := 8) rfl rfl rfl ?_
  refine own_getF X204 hx hby own_d19_8 (pc' := 11) rfl hZ hown (host := "") (Or.inl (own_t hw 21 rfl)) Via.refl e204 F_v ?_
  intro T205 X205 e205
  refine own_iloadN X205 hx hby own_d19_11 (pc' := 12) rfl rfl ?_
  refine own_callS X205 hx hZ (rm_lc1_0 l Z a0 hw [] a2 c0 fm h0 n0 (O_0) S_F hfm (A_2) hb0 hk0) hown (own_t hw 123 rfl) (own_t hw 124 rfl) (own_t hw 125 rfl) (own_t hw 126 rfl) (by decide) (W := 0) (by decide) (by decide) (by rw [hml]; rfl) (argsL := [(.ref a2), (.int (0 : Int32))]) (rest := []) rfl (lenOf own_pd5 rfl) rfl (Nat.le_of_eq rfl) (hb hby own_d19_12) e205 (by decide) (by decide) ?_
  intro v206 T206 L206 X206 hQ206
  obtain ⟨hv206, N206q, e206⟩ := hQ206
  subst hv206
  have N206 := Fr.app N204 N206q
  show own_Go p.tables e below (T206.setTop (mkF m 15 #[.val (.ref a1), .val (.int (0 : Int32))] [(.int c0)])) _
  exact own_retZ (t := .char) X206 hx hret (by simp) (hb hby own_d19_15) hlk (by decide) (by decide) ⟨congrArg (fun z => some (Value.int z)) (own_narW hb0), N206, e206⟩
theorem own_d19_16 : decode jdk_42_method_56_code 16 = .ok (.aload_n 0, 1) := by decide +kernel
theorem own_d19_17 : decode jdk_42_method_56_code 17 = .ok (.getfield 9, 3) := by decide +kernel
theorem own_d19_20 : decode jdk_42_method_56_code 20 = .ok (.iload_n 1, 1) := by decide +kernel
theorem own_d19_21 : decode jdk_42_method_56_code 21 = .ok (.invokestatic 498, 3) := by decide +kernel
theorem own_d19_24 : decode jdk_42_method_56_code 24 = .ok (.ireturn, 1) := by decide +kernel
theorem own_ef_rm_ch1_1_0 (m : MethodId) (a1 : Addr) : entryFrame m #[(.ref a1), (.int (0 : Int32))] 2 = mkF m 0 #[.val (.ref a1), .val (.int (0 : Int32))] [] := by first | (simp [entryFrame, mkF, argsToLocals, Value.category]; done) | rfl
def Qrm_ch1_1_0 (Z : State) (a1 : Addr) (a2 : Addr) (c0 : Int32) (gS : Int32) (fm : Value) (h0 : Heap) (n0 : Nat) (v : Option Value) (h : Heap) (L : List Loc) : Prop := v = some (.int c0) ∧ Fr n0 L ∧ h = h0
set_option maxRecDepth 65536 in
set_option maxHeartbeats 40000000 in
theorem rm_ch1_1_0 (l : Launch) (Z : State) (a0 : Array Value) (hw : ∀ d ∈ tables_1, d.before a0 Z = true) (ws : List Jvm.Cond) (a1 : Addr) (a2 : Addr) (c0 : Int32) (gS : Int32) (fm : Value) (h0 : Heap) (n0 : Nat) (O_0 : Old Z n0 h0) (S_S : Sta Z Z.heap "java/lang/String" "COMPACT_STRINGS" "Z" (.int gS)) (hS : ¬ gS = 0) (S_A : Sta Z Z.heap "java/lang/StringUTF16" "$assertionsDisabled" "Z" (.int (1 : Int32))) (S_H : Sta Z Z.heap "java/lang/StringUTF16" "HI_BYTE_SHIFT" "I" (.int (0 : Int32))) (S_L : Sta Z Z.heap "java/lang/StringUTF16" "LO_BYTE_SHIFT" "I" (.int (8 : Int32))) (S_F : Sta Z Z.heap "jdk/internal/util/Preconditions" "SIOOBE_FORMATTER" "Ljava/util/function/BiFunction;" fm) (hfm : fm.isRef = true) (E_1 : Exa Z h0 a1 "java/lang/String") (F_c : Fld Z h0 a1 "java/lang/String" "coder" "B" (.int (1 : Int32))) (F_v : Fld Z h0 a1 "java/lang/String" "value" "[B" (.ref a2)) (A_2 : own_Ar Z h0 a2 .byte [(.int (lo8 c0)), (.int (hi8 c0))]) (hb0 : own_W c0) :
    own_Met l (⟨"java/lang/String", "charAt", "(I)C"⟩ : MethodName) jdk_42_method_56_code 2 (some .char) ws ({ frames := 4, cells := 0, slots := 0, locals := 53 } : Room) #[(.ref a1), (.int (0 : Int32))] Z h0 (Qrm_ch1_1_0 Z a1 a2 c0 gS fm h0 n0) := by
  refine own_body own_pn19 ?_
  intro p e s m below meth c T0 X0 hx hby hml hown hnm hret hlk hZ e0
  have N0 := Fr.nil n0
  refine own_st (fun t k => castTop (own_ef_rm_ch1_1_0 m a1) k) ?_
  show own_Go p.tables e below (T0.setTop (mkF m 0 #[.val (.ref a1), .val (.int (0 : Int32))] [])) _
  have Z0 := own_Z0 O_0
  refine own_aloadN X0 hx hby own_d19_0 (pc' := 1) rfl rfl rfl ?_
  refine own_callV X0 hx hZ (rm_il1 l Z a0 hw [] a1 gS h0 n0 (O_0) S_S hS (F_c)) hown (own_t hw 100 rfl) (own_t hw 101 rfl) (own_t hw 103 rfl) (own_t hw 102 rfl) (own_t hw 104 rfl) (own_t hw 4 rfl) (by decide) E_1 (W := 0) (by decide) (by decide) (by rw [hml]; rfl) (argsL := []) (rest := []) rfl (lenOf own_pd13 rfl) rfl (Nat.le_of_eq rfl) (hb hby own_d19_1) e0 (by decide) (by decide) ?_
  intro v207 T207 L207 X207 hQ207
  obtain ⟨hv207, N207q, e207⟩ := hQ207
  subst hv207
  have N207 := Fr.app N0 N207q
  show own_Go p.tables e below (T207.setTop (mkF m 4 #[.val (.ref a1), .val (.int (0 : Int32))] [(.int (0 : Int32))])) _
  refine own_ifYes X207 hx hby own_d19_4 (pc' := 16) (by decide) (by decide) ?_
  refine own_aloadN X207 hx hby own_d19_16 (pc' := 17) rfl rfl rfl ?_
  refine own_getF X207 hx hby own_d19_17 (pc' := 20) rfl hZ hown (host := "") (Or.inl (own_t hw 21 rfl)) Via.refl e207 F_v ?_
  intro T208 X208 e208
  refine own_iloadN X208 hx hby own_d19_20 (pc' := 21) rfl rfl ?_
  refine own_callS X208 hx hZ (rm_uc1_0 l Z a0 hw [] a2 c0 fm h0 n0 (O_0) S_A S_H S_L S_F hfm (A_2) hb0) hown (own_t hw 105 rfl) (own_t hw 106 rfl) (own_t hw 67 rfl) (own_t hw 107 rfl) (by decide) (W := 0) (by decide) (by decide) (by rw [hml]; rfl) (argsL := [(.ref a2), (.int (0 : Int32))]) (rest := []) rfl (lenOf own_pd5 rfl) rfl (Nat.le_of_eq rfl) (hb hby own_d19_21) e208 (by decide) (by decide) ?_
  intro v209 T209 L209 X209 hQ209
  obtain ⟨hv209, N209q, e209⟩ := hQ209
  subst hv209
  have N209 := Fr.app N207 N209q
  show own_Go p.tables e below (T209.setTop (mkF m 24 #[.val (.ref a1), .val (.int (0 : Int32))] [(.int c0)])) _
  exact own_retZ (t := .char) X209 hx hret (by simp) (hb hby own_d19_24) hlk (by decide) (by decide) ⟨congrArg (fun z => some (Value.int z)) (own_narW hb0), N209, e209⟩
theorem own_ef_rm_ul2 (m : MethodId) (a1 : Addr) : entryFrame m #[(.ref a1)] 1 = mkF m 0 #[.val (.ref a1)] [] := by first | (simp [entryFrame, mkF, argsToLocals, Value.category]; done) | rfl
def Qrm_ul2 (Z : State) (a1 : Addr) (c0 : Int32) (c1 : Int32) (h0 : Heap) (n0 : Nat) (v : Option Value) (h : Heap) (L : List Loc) : Prop := v = some (.int (2 : Int32)) ∧ Fr n0 L ∧ h = h0
set_option maxRecDepth 65536 in
set_option maxHeartbeats 40000000 in
theorem rm_ul2 (l : Launch) (Z : State) (a0 : Array Value) (hw : ∀ d ∈ tables_1, d.before a0 Z = true) (ws : List Jvm.Cond) (a1 : Addr) (c0 : Int32) (c1 : Int32) (h0 : Heap) (n0 : Nat) (O_0 : Old Z n0 h0) (A_1 : own_Ar Z h0 a1 .byte [(.int (lo8 c0)), (.int (hi8 c0)), (.int (lo8 c1)), (.int (hi8 c1))]) :
    own_Met l (⟨"java/lang/StringUTF16", "length", "([B)I"⟩ : MethodName) jdk_52_method_6_code 1 (some .int) ws ({ frames := 0, cells := 0, slots := 0, locals := 0 } : Room) #[(.ref a1)] Z h0 (Qrm_ul2 Z a1 c0 c1 h0 n0) := by
  refine own_body own_pn23 ?_
  intro p e s m below meth c T0 X0 hx hby hml hown hnm hret hlk hZ e0
  have N0 := Fr.nil n0
  refine own_st (fun t k => castTop (own_ef_rm_ul2 m a1) k) ?_
  show own_Go p.tables e below (T0.setTop (mkF m 0 #[.val (.ref a1)] [])) _
  have Z0 := own_Z0 O_0
  refine own_aloadN X0 hx hby own_d23_0 (pc' := 1) rfl rfl rfl ?_
  refine own_len X0 hx hby own_d23_1 (pc' := 2) rfl hZ e0 (A_1) (n := (4 : Int32)) (by rfl) ?_
  refine own_iconst X0 hx hby own_d23_2 (pc' := 3) rfl (z := (1 : Int32)) (by decide) ?_
  refine own_ishr X0 hx hby own_d23_3 (pc' := 4) rfl (z := (2 : Int32)) (by decide) ?_
  exact own_retI X0 hx hret (hb hby own_d23_4) hlk (by decide) (by decide) ⟨rfl, N0, e0⟩
theorem own_ef_rm_pi2_0 (m : MethodId) (fm : Value) (hfm : fm.isRef = true) : entryFrame m #[(.int (0 : Int32)), (.int (2 : Int32)), fm] 3 = mkF m 0 #[.val (.int (0 : Int32)), .val (.int (2 : Int32)), .val fm] [] := by first | (simp [entryFrame, mkF, argsToLocals, Value.category, own_cat hfm]; done) | rfl | (cases fm <;> first | rfl | exact absurd hfm (by simp [Value.isRef]))
def Qrm_pi2_0 (Z : State) (fm : Value) (h0 : Heap) (n0 : Nat) (v : Option Value) (h : Heap) (L : List Loc) : Prop := v = some (.int (0 : Int32)) ∧ Fr n0 L ∧ h = h0
set_option maxRecDepth 65536 in
set_option maxHeartbeats 40000000 in
theorem rm_pi2_0 (l : Launch) (Z : State) (a0 : Array Value) (hw : ∀ d ∈ tables_1, d.before a0 Z = true) (ws : List Jvm.Cond) (fm : Value) (h0 : Heap) (n0 : Nat) (O_0 : Old Z n0 h0) (hfm : fm.isRef = true) :
    own_Met l (⟨"jdk/internal/util/Preconditions", "checkIndex", "(IILjava/util/function/BiFunction;)I"⟩ : MethodName) jdk_41_method_11_code 3 (some .int) ws ({ frames := 0, cells := 0, slots := 0, locals := 0 } : Room) #[(.int (0 : Int32)), (.int (2 : Int32)), fm] Z h0 (Qrm_pi2_0 Z fm h0 n0) := by
  refine own_body own_pn25 ?_
  intro p e s m below meth c T0 X0 hx hby hml hown hnm hret hlk hZ e0
  have N0 := Fr.nil n0
  refine own_st (fun t k => castTop (own_ef_rm_pi2_0 m fm hfm) k) ?_
  show own_Go p.tables e below (T0.setTop (mkF m 0 #[.val (.int (0 : Int32)), .val (.int (2 : Int32)), .val fm] [])) _
  have Z0 := own_Z0 O_0
  refine own_iloadN X0 hx hby own_d25_0 (pc' := 1) rfl rfl ?_
  refine own_ifNo X0 hx hby own_d25_1 (pc' := 4) rfl (by decide) ?_
  refine own_iloadN X0 hx hby own_d25_4 (pc' := 5) rfl rfl ?_
  refine own_iloadN X0 hx hby own_d25_5 (pc' := 6) rfl rfl ?_
  refine own_icmpYes X0 hx hby own_d25_6 (pc' := 16) (by decide) (by decide) ?_
  refine own_iloadN X0 hx hby own_d25_16 (pc' := 17) rfl rfl ?_
  exact own_retI X0 hx hret (hb hby own_d25_17) hlk (by decide) (by decide) ⟨rfl, N0, e0⟩
theorem own_ef_rm_ci2_0 (m : MethodId)  : entryFrame m #[(.int (0 : Int32)), (.int (2 : Int32))] 2 = mkF m 0 #[.val (.int (0 : Int32)), .val (.int (2 : Int32))] [] := by first | (simp [entryFrame, mkF, argsToLocals, Value.category]; done) | rfl
def Qrm_ci2_0 (Z : State) (fm : Value) (h0 : Heap) (n0 : Nat) (v : Option Value) (h : Heap) (L : List Loc) : Prop := v = none ∧ Fr n0 L ∧ h = h0
set_option maxRecDepth 65536 in
set_option maxHeartbeats 40000000 in
theorem rm_ci2_0 (l : Launch) (Z : State) (a0 : Array Value) (hw : ∀ d ∈ tables_1, d.before a0 Z = true) (ws : List Jvm.Cond) (fm : Value) (h0 : Heap) (n0 : Nat) (O_0 : Old Z n0 h0) (S_F : Sta Z Z.heap "jdk/internal/util/Preconditions" "SIOOBE_FORMATTER" "Ljava/util/function/BiFunction;" fm) (hfm : fm.isRef = true) :
    own_Met l (⟨"java/lang/String", "checkIndex", "(II)V"⟩ : MethodName) jdk_42_method_155_code 2 none ws ({ frames := 1, cells := 0, slots := 0, locals := 14 } : Room) #[(.int (0 : Int32)), (.int (2 : Int32))] Z h0 (Qrm_ci2_0 Z fm h0 n0) := by
  refine own_body own_pn24 ?_
  intro p e s m below meth c T0 X0 hx hby hml hown hnm hret hlk hZ e0
  have N0 := Fr.nil n0
  refine own_st (fun t k => castTop (own_ef_rm_ci2_0 m ) k) ?_
  show own_Go p.tables e below (T0.setTop (mkF m 0 #[.val (.int (0 : Int32)), .val (.int (2 : Int32))] [])) _
  have Z0 := own_Z0 O_0
  refine own_iloadN X0 hx hby own_d24_0 (pc' := 1) rfl rfl ?_
  refine own_iloadN X0 hx hby own_d24_1 (pc' := 2) rfl rfl ?_
  refine own_getS X0 hx hby own_d24_2 (pc' := 5) rfl hZ hown (host := "") (Or.inl (own_t hw 117 rfl)) Via.refl e0 (S_F.ext (O_0).2) ?_
  intro T210 X210 e210
  refine own_callS X210 hx hZ (rm_pi2_0 l Z a0 hw [] fm h0 n0 (O_0) hfm) hown (own_t hw 119 rfl) (own_t hw 120 rfl) (own_t hw 118 rfl) (own_t hw 121 rfl) (by decide) (W := 0) (by decide) (by decide) (by rw [hml]; rfl) (argsL := [(.int (0 : Int32)), (.int (2 : Int32)), fm]) (rest := []) rfl (lenOf own_pd9 rfl) rfl (Nat.le_of_eq rfl) (hb hby own_d24_5) e210 (by decide) (by decide) ?_
  intro v211 T211 L211 X211 hQ211
  obtain ⟨hv211, N211q, e211⟩ := hQ211
  subst hv211
  have N211 := Fr.app N0 N211q
  show own_Go p.tables e below (T211.setTop (mkF m 8 #[.val (.int (0 : Int32)), .val (.int (2 : Int32))] [(.int (0 : Int32))])) _
  refine own_pop X211 hx hby own_d24_8 (pc' := 9) rfl rfl ?_
  exact own_retV X211 hx hret (hb hby own_d24_9) hlk (by decide) (by decide) ⟨rfl, N211, e211⟩
theorem own_ef_rm_lc2_0 (m : MethodId) (a1 : Addr) : entryFrame m #[(.ref a1), (.int (0 : Int32))] 2 = mkF m 0 #[.val (.ref a1), .val (.int (0 : Int32))] [] := by first | (simp [entryFrame, mkF, argsToLocals, Value.category]; done) | rfl
def Qrm_lc2_0 (Z : State) (a1 : Addr) (c0 : Int32) (c1 : Int32) (fm : Value) (h0 : Heap) (n0 : Nat) (v : Option Value) (h : Heap) (L : List Loc) : Prop := v = some (.int c0) ∧ Fr n0 L ∧ h = h0
set_option maxRecDepth 65536 in
set_option maxHeartbeats 40000000 in
theorem rm_lc2_0 (l : Launch) (Z : State) (a0 : Array Value) (hw : ∀ d ∈ tables_1, d.before a0 Z = true) (ws : List Jvm.Cond) (a1 : Addr) (c0 : Int32) (c1 : Int32) (fm : Value) (h0 : Heap) (n0 : Nat) (O_0 : Old Z n0 h0) (S_F : Sta Z Z.heap "jdk/internal/util/Preconditions" "SIOOBE_FORMATTER" "Ljava/util/function/BiFunction;" fm) (hfm : fm.isRef = true) (A_1 : own_Ar Z h0 a1 .byte [(.int (lo8 c0)), (.int (lo8 c1))]) (hb0 : own_W c0) (hk0 : ¬ (255 : Int32) < c0) :
    own_Met l (⟨"java/lang/StringLatin1", "charAt", "([BI)C"⟩ : MethodName) jdk_43_method_2_code 2 (some .char) ws ({ frames := 2, cells := 0, slots := 0, locals := 27 } : Room) #[(.ref a1), (.int (0 : Int32))] Z h0 (Qrm_lc2_0 Z a1 c0 c1 fm h0 n0) := by
  refine own_body own_pn26 ?_
  intro p e s m below meth c T0 X0 hx hby hml hown hnm hret hlk hZ e0
  have N0 := Fr.nil n0
  refine own_st (fun t k => castTop (own_ef_rm_lc2_0 m a1) k) ?_
  show own_Go p.tables e below (T0.setTop (mkF m 0 #[.val (.ref a1), .val (.int (0 : Int32))] [])) _
  have Z0 := own_Z0 O_0
  refine own_iloadN X0 hx hby own_d26_0 (pc' := 1) rfl rfl ?_
  refine own_aloadN X0 hx hby own_d26_1 (pc' := 2) rfl rfl rfl ?_
  refine own_len X0 hx hby own_d26_2 (pc' := 3) rfl hZ e0 (A_1) (n := (2 : Int32)) (by rfl) ?_
  refine own_callS X0 hx hZ (rm_ci2_0 l Z a0 hw [] fm h0 n0 (O_0) S_F hfm) hown (own_t hw 127 rfl) (own_t hw 115 rfl) (own_t hw 4 rfl) (own_t hw 116 rfl) (by decide) (W := 0) (by decide) (by decide) (by rw [hml]; rfl) (argsL := [(.int (0 : Int32)), (.int (2 : Int32))]) (rest := []) rfl (lenOf own_pd10 rfl) rfl (Nat.le_of_eq rfl) (hb hby own_d26_3) e0 (by decide) (by decide) ?_
  intro v212 T212 L212 X212 hQ212
  obtain ⟨hv212, N212q, e212⟩ := hQ212
  subst hv212
  have N212 := Fr.app N0 N212q
  show own_Go p.tables e below (T212.setTop (mkF m 6 #[.val (.ref a1), .val (.int (0 : Int32))] [])) _
  refine own_aloadN X212 hx hby own_d26_6 (pc' := 7) rfl rfl rfl ?_
  refine own_iloadN X212 hx hby own_d26_7 (pc' := 8) rfl rfl ?_
  refine own_baload X212 hx hby own_d26_8 (pc' := 9) rfl hZ e212 (A_1) (by decide) (v := (.int (lo8 c0))) rfl ?_
  refine own_sipush X212 hx hby own_d26_9 (pc' := 12) rfl (z := (255 : Int32)) (by decide) ?_
  refine own_iand X212 hx hby own_d26_12 (pc' := 13) rfl rfl ?_
  refine own_i2c X212 hx hby own_d26_13 (pc' := 14) rfl rfl ?_
  exact own_retZ (t := .char) X212 hx hret (by simp) (hb hby own_d26_14) hlk (by decide) (by decide) ⟨congrArg (fun z => some (Value.int z)) (own_one8 hb0 hk0), N212, e212⟩
theorem own_ef_rm_uk2_0 (m : MethodId) (a1 : Addr) : entryFrame m #[(.int (0 : Int32)), (.ref a1)] 2 = mkF m 0 #[.val (.int (0 : Int32)), .val (.ref a1)] [] := by first | (simp [entryFrame, mkF, argsToLocals, Value.category]; done) | rfl
def Qrm_uk2_0 (Z : State) (a1 : Addr) (c0 : Int32) (c1 : Int32) (fm : Value) (h0 : Heap) (n0 : Nat) (v : Option Value) (h : Heap) (L : List Loc) : Prop := v = none ∧ Fr n0 L ∧ h = h0
set_option maxRecDepth 65536 in
set_option maxHeartbeats 40000000 in
theorem rm_uk2_0 (l : Launch) (Z : State) (a0 : Array Value) (hw : ∀ d ∈ tables_1, d.before a0 Z = true) (ws : List Jvm.Cond) (a1 : Addr) (c0 : Int32) (c1 : Int32) (fm : Value) (h0 : Heap) (n0 : Nat) (O_0 : Old Z n0 h0) (S_F : Sta Z Z.heap "jdk/internal/util/Preconditions" "SIOOBE_FORMATTER" "Ljava/util/function/BiFunction;" fm) (hfm : fm.isRef = true) (A_1 : own_Ar Z h0 a1 .byte [(.int (lo8 c0)), (.int (hi8 c0)), (.int (lo8 c1)), (.int (hi8 c1))]) :
    own_Met l (⟨"java/lang/StringUTF16", "checkIndex", "(I[B)V"⟩ : MethodName) jdk_52_method_91_code 2 none ws ({ frames := 2, cells := 0, slots := 0, locals := 27 } : Room) #[(.int (0 : Int32)), (.ref a1)] Z h0 (Qrm_uk2_0 Z a1 c0 c1 fm h0 n0) := by
  refine own_body own_pn22 ?_
  intro p e s m below meth c T0 X0 hx hby hml hown hnm hret hlk hZ e0
  have N0 := Fr.nil n0
  refine own_st (fun t k => castTop (own_ef_rm_uk2_0 m a1) k) ?_
  show own_Go p.tables e below (T0.setTop (mkF m 0 #[.val (.int (0 : Int32)), .val (.ref a1)] [])) _
  have Z0 := own_Z0 O_0
  refine own_iloadN X0 hx hby own_d22_0 (pc' := 1) rfl rfl ?_
  refine own_aloadN X0 hx hby own_d22_1 (pc' := 2) rfl rfl rfl ?_
  refine own_callS X0 hx hZ (rm_ul2 l Z a0 hw [] a1 c0 c1 h0 n0 (O_0) (A_1)) hown (own_t hw 111 rfl) (own_t hw 112 rfl) (own_t hw 67 rfl) (own_t hw 113 rfl) (by decide) (W := 1) (by decide) (by decide) (by rw [hml]; rfl) (argsL := [(.ref a1)]) (rest := [(.int (0 : Int32))]) rfl (lenOf own_pd11 rfl) rfl (Nat.le_of_eq rfl) (hb hby own_d22_2) e0 (by decide) (by decide) ?_
  intro v213 T213 L213 X213 hQ213
  obtain ⟨hv213, N213q, e213⟩ := hQ213
  subst hv213
  have N213 := Fr.app N0 N213q
  show own_Go p.tables e below (T213.setTop (mkF m 5 #[.val (.int (0 : Int32)), .val (.ref a1)] [(.int (2 : Int32)), (.int (0 : Int32))])) _
  refine own_callS X213 hx hZ (rm_ci2_0 l Z a0 hw [] fm h0 n0 (O_0) S_F hfm) hown (own_t hw 114 rfl) (own_t hw 115 rfl) (own_t hw 4 rfl) (own_t hw 116 rfl) (by decide) (W := 0) (by decide) (by decide) (by rw [hml]; rfl) (argsL := [(.int (0 : Int32)), (.int (2 : Int32))]) (rest := []) rfl (lenOf own_pd10 rfl) rfl (Nat.le_of_eq rfl) (hb hby own_d22_5) e213 (by decide) (by decide) ?_
  intro v214 T214 L214 X214 hQ214
  obtain ⟨hv214, N214q, e214⟩ := hQ214
  subst hv214
  have N214 := Fr.app N213 N214q
  show own_Go p.tables e below (T214.setTop (mkF m 8 #[.val (.int (0 : Int32)), .val (.ref a1)] [])) _
  exact own_retV X214 hx hret (hb hby own_d22_8) hlk (by decide) (by decide) ⟨rfl, N214, e214⟩
theorem own_ef_rm_uc2_0 (m : MethodId) (a1 : Addr) : entryFrame m #[(.ref a1), (.int (0 : Int32))] 2 = mkF m 0 #[.val (.ref a1), .val (.int (0 : Int32))] [] := by first | (simp [entryFrame, mkF, argsToLocals, Value.category]; done) | rfl
def Qrm_uc2_0 (Z : State) (a1 : Addr) (c0 : Int32) (c1 : Int32) (fm : Value) (h0 : Heap) (n0 : Nat) (v : Option Value) (h : Heap) (L : List Loc) : Prop := v = some (.int c0) ∧ Fr n0 L ∧ h = h0
set_option maxRecDepth 65536 in
set_option maxHeartbeats 40000000 in
theorem rm_uc2_0 (l : Launch) (Z : State) (a0 : Array Value) (hw : ∀ d ∈ tables_1, d.before a0 Z = true) (ws : List Jvm.Cond) (a1 : Addr) (c0 : Int32) (c1 : Int32) (fm : Value) (h0 : Heap) (n0 : Nat) (O_0 : Old Z n0 h0) (S_A : Sta Z Z.heap "java/lang/StringUTF16" "$assertionsDisabled" "Z" (.int (1 : Int32))) (S_H : Sta Z Z.heap "java/lang/StringUTF16" "HI_BYTE_SHIFT" "I" (.int (0 : Int32))) (S_L : Sta Z Z.heap "java/lang/StringUTF16" "LO_BYTE_SHIFT" "I" (.int (8 : Int32))) (S_F : Sta Z Z.heap "jdk/internal/util/Preconditions" "SIOOBE_FORMATTER" "Ljava/util/function/BiFunction;" fm) (hfm : fm.isRef = true) (A_1 : own_Ar Z h0 a1 .byte [(.int (lo8 c0)), (.int (hi8 c0)), (.int (lo8 c1)), (.int (hi8 c1))]) (hb0 : own_W c0) :
    own_Met l (⟨"java/lang/StringUTF16", "charAt", "([BI)C"⟩ : MethodName) jdk_52_method_83_code 2 (some .char) ws ({ frames := 3, cells := 0, slots := 0, locals := 40 } : Room) #[(.ref a1), (.int (0 : Int32))] Z h0 (Qrm_uc2_0 Z a1 c0 c1 fm h0 n0) := by
  refine own_body own_pn21 ?_
  intro p e s m below meth c T0 X0 hx hby hml hown hnm hret hlk hZ e0
  have N0 := Fr.nil n0
  refine own_st (fun t k => castTop (own_ef_rm_uc2_0 m a1) k) ?_
  show own_Go p.tables e below (T0.setTop (mkF m 0 #[.val (.ref a1), .val (.int (0 : Int32))] [])) _
  have Z0 := own_Z0 O_0
  refine own_iloadN X0 hx hby own_d21_0 (pc' := 1) rfl rfl ?_
  refine own_aloadN X0 hx hby own_d21_1 (pc' := 2) rfl rfl rfl ?_
  refine own_callS X0 hx hZ (rm_uk2_0 l Z a0 hw [] a1 c0 c1 fm h0 n0 (O_0) S_F hfm (A_1)) hown (own_t hw 108 rfl) (own_t hw 109 rfl) (own_t hw 67 rfl) (own_t hw 110 rfl) (by decide) (W := 0) (by decide) (by decide) (by rw [hml]; rfl) (argsL := [(.int (0 : Int32)), (.ref a1)]) (rest := []) rfl (lenOf own_pd12 rfl) rfl (Nat.le_of_eq rfl) (hb hby own_d21_2) e0 (by decide) (by decide) ?_
  intro v215 T215 L215 X215 hQ215
  obtain ⟨hv215, N215q, e215⟩ := hQ215
  subst hv215
  have N215 := Fr.app N0 N215q
  show own_Go p.tables e below (T215.setTop (mkF m 5 #[.val (.ref a1), .val (.int (0 : Int32))] [])) _
  refine own_aloadN X215 hx hby own_d21_5 (pc' := 6) rfl rfl rfl ?_
  refine own_iloadN X215 hx hby own_d21_6 (pc' := 7) rfl rfl ?_
  refine own_callS X215 hx hZ (rm_gc2_0 l Z a0 hw [] a1 c0 c1 h0 n0 (O_0) S_A S_H S_L (A_1) hb0) hown (own_t hw 88 rfl) (own_t hw 89 rfl) (own_t hw 67 rfl) (own_t hw 90 rfl) (by decide) (W := 0) (by decide) (by decide) (by rw [hml]; rfl) (argsL := [(.ref a1), (.int (0 : Int32))]) (rest := []) rfl (lenOf own_pd5 rfl) rfl (Nat.le_of_eq rfl) (hb hby own_d21_7) e215 (by decide) (by decide) ?_
  intro v216 T216 L216 X216 hQ216
  obtain ⟨hv216, N216q, e216⟩ := hQ216
  subst hv216
  have N216 := Fr.app N215 N216q
  show own_Go p.tables e below (T216.setTop (mkF m 10 #[.val (.ref a1), .val (.int (0 : Int32))] [(.int c0)])) _
  exact own_retZ (t := .char) X216 hx hret (by simp) (hb hby own_d21_10) hlk (by decide) (by decide) ⟨congrArg (fun z => some (Value.int z)) (own_narW hb0), N216, e216⟩
theorem own_ef_rm_ch2_0_0 (m : MethodId) (a1 : Addr) : entryFrame m #[(.ref a1), (.int (0 : Int32))] 2 = mkF m 0 #[.val (.ref a1), .val (.int (0 : Int32))] [] := by first | (simp [entryFrame, mkF, argsToLocals, Value.category]; done) | rfl
def Qrm_ch2_0_0 (Z : State) (a1 : Addr) (a2 : Addr) (c0 : Int32) (c1 : Int32) (gS : Int32) (fm : Value) (h0 : Heap) (n0 : Nat) (v : Option Value) (h : Heap) (L : List Loc) : Prop := v = some (.int c0) ∧ Fr n0 L ∧ h = h0
set_option maxRecDepth 65536 in
set_option maxHeartbeats 40000000 in
theorem rm_ch2_0_0 (l : Launch) (Z : State) (a0 : Array Value) (hw : ∀ d ∈ tables_1, d.before a0 Z = true) (ws : List Jvm.Cond) (a1 : Addr) (a2 : Addr) (c0 : Int32) (c1 : Int32) (gS : Int32) (fm : Value) (h0 : Heap) (n0 : Nat) (O_0 : Old Z n0 h0) (S_S : Sta Z Z.heap "java/lang/String" "COMPACT_STRINGS" "Z" (.int gS)) (hS : ¬ gS = 0) (S_A : Sta Z Z.heap "java/lang/StringUTF16" "$assertionsDisabled" "Z" (.int (1 : Int32))) (S_H : Sta Z Z.heap "java/lang/StringUTF16" "HI_BYTE_SHIFT" "I" (.int (0 : Int32))) (S_L : Sta Z Z.heap "java/lang/StringUTF16" "LO_BYTE_SHIFT" "I" (.int (8 : Int32))) (S_F : Sta Z Z.heap "jdk/internal/util/Preconditions" "SIOOBE_FORMATTER" "Ljava/util/function/BiFunction;" fm) (hfm : fm.isRef = true) (E_1 : Exa Z h0 a1 "java/lang/String") (F_c : Fld Z h0 a1 "java/lang/String" "coder" "B" (.int (0 : Int32))) (F_v : Fld Z h0 a1 "java/lang/String" "value" "[B" (.ref a2)) (A_2 : own_Ar Z h0 a2 .byte [(.int (lo8 c0)), (.int (lo8 c1))]) (hb0 : own_W c0) (hk0 : ¬ (255 : Int32) < c0) :
    own_Met l (⟨"java/lang/String", "charAt", "(I)C"⟩ : MethodName) jdk_42_method_56_code 2 (some .char) ws ({ frames := 4, cells := 0, slots := 0, locals := 53 } : Room) #[(.ref a1), (.int (0 : Int32))] Z h0 (Qrm_ch2_0_0 Z a1 a2 c0 c1 gS fm h0 n0) := by
  refine own_body own_pn19 ?_
  intro p e s m below meth c T0 X0 hx hby hml hown hnm hret hlk hZ e0
  have N0 := Fr.nil n0
  refine own_st (fun t k => castTop (own_ef_rm_ch2_0_0 m a1) k) ?_
  show own_Go p.tables e below (T0.setTop (mkF m 0 #[.val (.ref a1), .val (.int (0 : Int32))] [])) _
  have Z0 := own_Z0 O_0
  refine own_aloadN X0 hx hby own_d19_0 (pc' := 1) rfl rfl rfl ?_
  refine own_callV X0 hx hZ (rm_il0 l Z a0 hw [] a1 gS h0 n0 (O_0) S_S hS (F_c)) hown (own_t hw 100 rfl) (own_t hw 101 rfl) (own_t hw 103 rfl) (own_t hw 102 rfl) (own_t hw 104 rfl) (own_t hw 4 rfl) (by decide) E_1 (W := 0) (by decide) (by decide) (by rw [hml]; rfl) (argsL := []) (rest := []) rfl (lenOf own_pd13 rfl) rfl (Nat.le_of_eq rfl) (hb hby own_d19_1) e0 (by decide) (by decide) ?_
  intro v217 T217 L217 X217 hQ217
  obtain ⟨hv217, N217q, e217⟩ := hQ217
  subst hv217
  have N217 := Fr.app N0 N217q
  show own_Go p.tables e below (T217.setTop (mkF m 4 #[.val (.ref a1), .val (.int (0 : Int32))] [(.int (1 : Int32))])) _
  refine own_ifNo X217 hx hby own_d19_4 (pc' := 7) rfl (by decide) ?_
  refine own_aloadN X217 hx hby own_d19_7 (pc' := 8) rfl rfl rfl ?_
  refine own_getF X217 hx hby own_d19_8 (pc' := 11) rfl hZ hown (host := "") (Or.inl (own_t hw 21 rfl)) Via.refl e217 F_v ?_
  intro T218 X218 e218
  refine own_iloadN X218 hx hby own_d19_11 (pc' := 12) rfl rfl ?_
  refine own_callS X218 hx hZ (rm_lc2_0 l Z a0 hw [] a2 c0 c1 fm h0 n0 (O_0) S_F hfm (A_2) hb0 hk0) hown (own_t hw 123 rfl) (own_t hw 124 rfl) (own_t hw 125 rfl) (own_t hw 126 rfl) (by decide) (W := 0) (by decide) (by decide) (by rw [hml]; rfl) (argsL := [(.ref a2), (.int (0 : Int32))]) (rest := []) rfl (lenOf own_pd5 rfl) rfl (Nat.le_of_eq rfl) (hb hby own_d19_12) e218 (by decide) (by decide) ?_
  intro v219 T219 L219 X219 hQ219
  obtain ⟨hv219, N219q, e219⟩ := hQ219
  subst hv219
  have N219 := Fr.app N217 N219q
  show own_Go p.tables e below (T219.setTop (mkF m 15 #[.val (.ref a1), .val (.int (0 : Int32))] [(.int c0)])) _
  exact own_retZ (t := .char) X219 hx hret (by simp) (hb hby own_d19_15) hlk (by decide) (by decide) ⟨congrArg (fun z => some (Value.int z)) (own_narW hb0), N219, e219⟩
theorem own_ef_rm_ch2_1_0 (m : MethodId) (a1 : Addr) : entryFrame m #[(.ref a1), (.int (0 : Int32))] 2 = mkF m 0 #[.val (.ref a1), .val (.int (0 : Int32))] [] := by first | (simp [entryFrame, mkF, argsToLocals, Value.category]; done) | rfl
def Qrm_ch2_1_0 (Z : State) (a1 : Addr) (a2 : Addr) (c0 : Int32) (c1 : Int32) (gS : Int32) (fm : Value) (h0 : Heap) (n0 : Nat) (v : Option Value) (h : Heap) (L : List Loc) : Prop := v = some (.int c0) ∧ Fr n0 L ∧ h = h0
set_option maxRecDepth 65536 in
set_option maxHeartbeats 40000000 in
theorem rm_ch2_1_0 (l : Launch) (Z : State) (a0 : Array Value) (hw : ∀ d ∈ tables_1, d.before a0 Z = true) (ws : List Jvm.Cond) (a1 : Addr) (a2 : Addr) (c0 : Int32) (c1 : Int32) (gS : Int32) (fm : Value) (h0 : Heap) (n0 : Nat) (O_0 : Old Z n0 h0) (S_S : Sta Z Z.heap "java/lang/String" "COMPACT_STRINGS" "Z" (.int gS)) (hS : ¬ gS = 0) (S_A : Sta Z Z.heap "java/lang/StringUTF16" "$assertionsDisabled" "Z" (.int (1 : Int32))) (S_H : Sta Z Z.heap "java/lang/StringUTF16" "HI_BYTE_SHIFT" "I" (.int (0 : Int32))) (S_L : Sta Z Z.heap "java/lang/StringUTF16" "LO_BYTE_SHIFT" "I" (.int (8 : Int32))) (S_F : Sta Z Z.heap "jdk/internal/util/Preconditions" "SIOOBE_FORMATTER" "Ljava/util/function/BiFunction;" fm) (hfm : fm.isRef = true) (E_1 : Exa Z h0 a1 "java/lang/String") (F_c : Fld Z h0 a1 "java/lang/String" "coder" "B" (.int (1 : Int32))) (F_v : Fld Z h0 a1 "java/lang/String" "value" "[B" (.ref a2)) (A_2 : own_Ar Z h0 a2 .byte [(.int (lo8 c0)), (.int (hi8 c0)), (.int (lo8 c1)), (.int (hi8 c1))]) (hb0 : own_W c0) :
    own_Met l (⟨"java/lang/String", "charAt", "(I)C"⟩ : MethodName) jdk_42_method_56_code 2 (some .char) ws ({ frames := 4, cells := 0, slots := 0, locals := 53 } : Room) #[(.ref a1), (.int (0 : Int32))] Z h0 (Qrm_ch2_1_0 Z a1 a2 c0 c1 gS fm h0 n0) := by
  refine own_body own_pn19 ?_
  intro p e s m below meth c T0 X0 hx hby hml hown hnm hret hlk hZ e0
  have N0 := Fr.nil n0
  refine own_st (fun t k => castTop (own_ef_rm_ch2_1_0 m a1) k) ?_
  show own_Go p.tables e below (T0.setTop (mkF m 0 #[.val (.ref a1), .val (.int (0 : Int32))] [])) _
  have Z0 := own_Z0 O_0
  refine own_aloadN X0 hx hby own_d19_0 (pc' := 1) rfl rfl rfl ?_
  refine own_callV X0 hx hZ (rm_il1 l Z a0 hw [] a1 gS h0 n0 (O_0) S_S hS (F_c)) hown (own_t hw 100 rfl) (own_t hw 101 rfl) (own_t hw 103 rfl) (own_t hw 102 rfl) (own_t hw 104 rfl) (own_t hw 4 rfl) (by decide) E_1 (W := 0) (by decide) (by decide) (by rw [hml]; rfl) (argsL := []) (rest := []) rfl (lenOf own_pd13 rfl) rfl (Nat.le_of_eq rfl) (hb hby own_d19_1) e0 (by decide) (by decide) ?_
  intro v220 T220 L220 X220 hQ220
  obtain ⟨hv220, N220q, e220⟩ := hQ220
  subst hv220
  have N220 := Fr.app N0 N220q
  show own_Go p.tables e below (T220.setTop (mkF m 4 #[.val (.ref a1), .val (.int (0 : Int32))] [(.int (0 : Int32))])) _
  refine own_ifYes X220 hx hby own_d19_4 (pc' := 16) (by decide) (by decide) ?_
  refine own_aloadN X220 hx hby own_d19_16 (pc' := 17) rfl rfl rfl ?_
  refine own_getF X220 hx hby own_d19_17 (pc' := 20) rfl hZ hown (host := "") (Or.inl (own_t hw 21 rfl)) Via.refl e220 F_v ?_
  intro T221 X221 e221
  refine own_iloadN X221 hx hby own_d19_20 (pc' := 21) rfl rfl ?_
  refine own_callS X221 hx hZ (rm_uc2_0 l Z a0 hw [] a2 c0 c1 fm h0 n0 (O_0) S_A S_H S_L S_F hfm (A_2) hb0) hown (own_t hw 105 rfl) (own_t hw 106 rfl) (own_t hw 67 rfl) (own_t hw 107 rfl) (by decide) (W := 0) (by decide) (by decide) (by rw [hml]; rfl) (argsL := [(.ref a2), (.int (0 : Int32))]) (rest := []) rfl (lenOf own_pd5 rfl) rfl (Nat.le_of_eq rfl) (hb hby own_d19_21) e221 (by decide) (by decide) ?_
  intro v222 T222 L222 X222 hQ222
  obtain ⟨hv222, N222q, e222⟩ := hQ222
  subst hv222
  have N222 := Fr.app N220 N222q
  show own_Go p.tables e below (T222.setTop (mkF m 24 #[.val (.ref a1), .val (.int (0 : Int32))] [(.int c0)])) _
  exact own_retZ (t := .char) X222 hx hret (by simp) (hb hby own_d19_24) hlk (by decide) (by decide) ⟨congrArg (fun z => some (Value.int z)) (own_narW hb0), N222, e222⟩
theorem own_ef_rm_pi2_1 (m : MethodId) (fm : Value) (hfm : fm.isRef = true) : entryFrame m #[(.int (1 : Int32)), (.int (2 : Int32)), fm] 3 = mkF m 0 #[.val (.int (1 : Int32)), .val (.int (2 : Int32)), .val fm] [] := by first | (simp [entryFrame, mkF, argsToLocals, Value.category, own_cat hfm]; done) | rfl | (cases fm <;> first | rfl | exact absurd hfm (by simp [Value.isRef]))
def Qrm_pi2_1 (Z : State) (fm : Value) (h0 : Heap) (n0 : Nat) (v : Option Value) (h : Heap) (L : List Loc) : Prop := v = some (.int (1 : Int32)) ∧ Fr n0 L ∧ h = h0
set_option maxRecDepth 65536 in
set_option maxHeartbeats 40000000 in
theorem rm_pi2_1 (l : Launch) (Z : State) (a0 : Array Value) (hw : ∀ d ∈ tables_1, d.before a0 Z = true) (ws : List Jvm.Cond) (fm : Value) (h0 : Heap) (n0 : Nat) (O_0 : Old Z n0 h0) (hfm : fm.isRef = true) :
    own_Met l (⟨"jdk/internal/util/Preconditions", "checkIndex", "(IILjava/util/function/BiFunction;)I"⟩ : MethodName) jdk_41_method_11_code 3 (some .int) ws ({ frames := 0, cells := 0, slots := 0, locals := 0 } : Room) #[(.int (1 : Int32)), (.int (2 : Int32)), fm] Z h0 (Qrm_pi2_1 Z fm h0 n0) := by
  refine own_body own_pn25 ?_
  intro p e s m below meth c T0 X0 hx hby hml hown hnm hret hlk hZ e0
  have N0 := Fr.nil n0
  refine own_st (fun t k => castTop (own_ef_rm_pi2_1 m fm hfm) k) ?_
  show own_Go p.tables e below (T0.setTop (mkF m 0 #[.val (.int (1 : Int32)), .val (.int (2 : Int32)), .val fm] [])) _
  have Z0 := own_Z0 O_0
  refine own_iloadN X0 hx hby own_d25_0 (pc' := 1) rfl rfl ?_
  refine own_ifNo X0 hx hby own_d25_1 (pc' := 4) rfl (by decide) ?_
  refine own_iloadN X0 hx hby own_d25_4 (pc' := 5) rfl rfl ?_
  refine own_iloadN X0 hx hby own_d25_5 (pc' := 6) rfl rfl ?_
  refine own_icmpYes X0 hx hby own_d25_6 (pc' := 16) (by decide) (by decide) ?_
  refine own_iloadN X0 hx hby own_d25_16 (pc' := 17) rfl rfl ?_
  exact own_retI X0 hx hret (hb hby own_d25_17) hlk (by decide) (by decide) ⟨rfl, N0, e0⟩
theorem own_ef_rm_ci2_1 (m : MethodId)  : entryFrame m #[(.int (1 : Int32)), (.int (2 : Int32))] 2 = mkF m 0 #[.val (.int (1 : Int32)), .val (.int (2 : Int32))] [] := by first | (simp [entryFrame, mkF, argsToLocals, Value.category]; done) | rfl
def Qrm_ci2_1 (Z : State) (fm : Value) (h0 : Heap) (n0 : Nat) (v : Option Value) (h : Heap) (L : List Loc) : Prop := v = none ∧ Fr n0 L ∧ h = h0
set_option maxRecDepth 65536 in
set_option maxHeartbeats 40000000 in
theorem rm_ci2_1 (l : Launch) (Z : State) (a0 : Array Value) (hw : ∀ d ∈ tables_1, d.before a0 Z = true) (ws : List Jvm.Cond) (fm : Value) (h0 : Heap) (n0 : Nat) (O_0 : Old Z n0 h0) (S_F : Sta Z Z.heap "jdk/internal/util/Preconditions" "SIOOBE_FORMATTER" "Ljava/util/function/BiFunction;" fm) (hfm : fm.isRef = true) :
    own_Met l (⟨"java/lang/String", "checkIndex", "(II)V"⟩ : MethodName) jdk_42_method_155_code 2 none ws ({ frames := 1, cells := 0, slots := 0, locals := 14 } : Room) #[(.int (1 : Int32)), (.int (2 : Int32))] Z h0 (Qrm_ci2_1 Z fm h0 n0) := by
  refine own_body own_pn24 ?_
  intro p e s m below meth c T0 X0 hx hby hml hown hnm hret hlk hZ e0
  have N0 := Fr.nil n0
  refine own_st (fun t k => castTop (own_ef_rm_ci2_1 m ) k) ?_
  show own_Go p.tables e below (T0.setTop (mkF m 0 #[.val (.int (1 : Int32)), .val (.int (2 : Int32))] [])) _
  have Z0 := own_Z0 O_0
  refine own_iloadN X0 hx hby own_d24_0 (pc' := 1) rfl rfl ?_
  refine own_iloadN X0 hx hby own_d24_1 (pc' := 2) rfl rfl ?_
  refine own_getS X0 hx hby own_d24_2 (pc' := 5) rfl hZ hown (host := "") (Or.inl (own_t hw 117 rfl)) Via.refl e0 (S_F.ext (O_0).2) ?_
  intro T223 X223 e223
  refine own_callS X223 hx hZ (rm_pi2_1 l Z a0 hw [] fm h0 n0 (O_0) hfm) hown (own_t hw 119 rfl) (own_t hw 120 rfl) (own_t hw 118 rfl) (own_t hw 121 rfl) (by decide) (W := 0) (by decide) (by decide) (by rw [hml]; rfl) (argsL := [(.int (1 : Int32)), (.int (2 : Int32)), fm]) (rest := []) rfl (lenOf own_pd9 rfl) rfl (Nat.le_of_eq rfl) (hb hby own_d24_5) e223 (by decide) (by decide) ?_
  intro v224 T224 L224 X224 hQ224
  obtain ⟨hv224, N224q, e224⟩ := hQ224
  subst hv224
  have N224 := Fr.app N0 N224q
  show own_Go p.tables e below (T224.setTop (mkF m 8 #[.val (.int (1 : Int32)), .val (.int (2 : Int32))] [(.int (1 : Int32))])) _
  refine own_pop X224 hx hby own_d24_8 (pc' := 9) rfl rfl ?_
  exact own_retV X224 hx hret (hb hby own_d24_9) hlk (by decide) (by decide) ⟨rfl, N224, e224⟩
theorem own_ef_rm_lc2_1 (m : MethodId) (a1 : Addr) : entryFrame m #[(.ref a1), (.int (1 : Int32))] 2 = mkF m 0 #[.val (.ref a1), .val (.int (1 : Int32))] [] := by first | (simp [entryFrame, mkF, argsToLocals, Value.category]; done) | rfl
def Qrm_lc2_1 (Z : State) (a1 : Addr) (c0 : Int32) (c1 : Int32) (fm : Value) (h0 : Heap) (n0 : Nat) (v : Option Value) (h : Heap) (L : List Loc) : Prop := v = some (.int c1) ∧ Fr n0 L ∧ h = h0
set_option maxRecDepth 65536 in
set_option maxHeartbeats 40000000 in
theorem rm_lc2_1 (l : Launch) (Z : State) (a0 : Array Value) (hw : ∀ d ∈ tables_1, d.before a0 Z = true) (ws : List Jvm.Cond) (a1 : Addr) (c0 : Int32) (c1 : Int32) (fm : Value) (h0 : Heap) (n0 : Nat) (O_0 : Old Z n0 h0) (S_F : Sta Z Z.heap "jdk/internal/util/Preconditions" "SIOOBE_FORMATTER" "Ljava/util/function/BiFunction;" fm) (hfm : fm.isRef = true) (A_1 : own_Ar Z h0 a1 .byte [(.int (lo8 c0)), (.int (lo8 c1))]) (hb1 : own_W c1) (hk1 : ¬ (255 : Int32) < c1) :
    own_Met l (⟨"java/lang/StringLatin1", "charAt", "([BI)C"⟩ : MethodName) jdk_43_method_2_code 2 (some .char) ws ({ frames := 2, cells := 0, slots := 0, locals := 27 } : Room) #[(.ref a1), (.int (1 : Int32))] Z h0 (Qrm_lc2_1 Z a1 c0 c1 fm h0 n0) := by
  refine own_body own_pn26 ?_
  intro p e s m below meth c T0 X0 hx hby hml hown hnm hret hlk hZ e0
  have N0 := Fr.nil n0
  refine own_st (fun t k => castTop (own_ef_rm_lc2_1 m a1) k) ?_
  show own_Go p.tables e below (T0.setTop (mkF m 0 #[.val (.ref a1), .val (.int (1 : Int32))] [])) _
  have Z0 := own_Z0 O_0
  refine own_iloadN X0 hx hby own_d26_0 (pc' := 1) rfl rfl ?_
  refine own_aloadN X0 hx hby own_d26_1 (pc' := 2) rfl rfl rfl ?_
  refine own_len X0 hx hby own_d26_2 (pc' := 3) rfl hZ e0 (A_1) (n := (2 : Int32)) (by rfl) ?_
  refine own_callS X0 hx hZ (rm_ci2_1 l Z a0 hw [] fm h0 n0 (O_0) S_F hfm) hown (own_t hw 127 rfl) (own_t hw 115 rfl) (own_t hw 4 rfl) (own_t hw 116 rfl) (by decide) (W := 0) (by decide) (by decide) (by rw [hml]; rfl) (argsL := [(.int (1 : Int32)), (.int (2 : Int32))]) (rest := []) rfl (lenOf own_pd10 rfl) rfl (Nat.le_of_eq rfl) (hb hby own_d26_3) e0 (by decide) (by decide) ?_
  intro v225 T225 L225 X225 hQ225
  obtain ⟨hv225, N225q, e225⟩ := hQ225
  subst hv225
  have N225 := Fr.app N0 N225q
  show own_Go p.tables e below (T225.setTop (mkF m 6 #[.val (.ref a1), .val (.int (1 : Int32))] [])) _
  refine own_aloadN X225 hx hby own_d26_6 (pc' := 7) rfl rfl rfl ?_
  refine own_iloadN X225 hx hby own_d26_7 (pc' := 8) rfl rfl ?_
  refine own_baload X225 hx hby own_d26_8 (pc' := 9) rfl hZ e225 (A_1) (by decide) (v := (.int (lo8 c1))) rfl ?_
  refine own_sipush X225 hx hby own_d26_9 (pc' := 12) rfl (z := (255 : Int32)) (by decide) ?_
  refine own_iand X225 hx hby own_d26_12 (pc' := 13) rfl rfl ?_
  refine own_i2c X225 hx hby own_d26_13 (pc' := 14) rfl rfl ?_
  exact own_retZ (t := .char) X225 hx hret (by simp) (hb hby own_d26_14) hlk (by decide) (by decide) ⟨congrArg (fun z => some (Value.int z)) (own_one8 hb1 hk1), N225, e225⟩
theorem own_ef_rm_uk2_1 (m : MethodId) (a1 : Addr) : entryFrame m #[(.int (1 : Int32)), (.ref a1)] 2 = mkF m 0 #[.val (.int (1 : Int32)), .val (.ref a1)] [] := by first | (simp [entryFrame, mkF, argsToLocals, Value.category]; done) | rfl
def Qrm_uk2_1 (Z : State) (a1 : Addr) (c0 : Int32) (c1 : Int32) (fm : Value) (h0 : Heap) (n0 : Nat) (v : Option Value) (h : Heap) (L : List Loc) : Prop := v = none ∧ Fr n0 L ∧ h = h0
set_option maxRecDepth 65536 in
set_option maxHeartbeats 40000000 in
theorem rm_uk2_1 (l : Launch) (Z : State) (a0 : Array Value) (hw : ∀ d ∈ tables_1, d.before a0 Z = true) (ws : List Jvm.Cond) (a1 : Addr) (c0 : Int32) (c1 : Int32) (fm : Value) (h0 : Heap) (n0 : Nat) (O_0 : Old Z n0 h0) (S_F : Sta Z Z.heap "jdk/internal/util/Preconditions" "SIOOBE_FORMATTER" "Ljava/util/function/BiFunction;" fm) (hfm : fm.isRef = true) (A_1 : own_Ar Z h0 a1 .byte [(.int (lo8 c0)), (.int (hi8 c0)), (.int (lo8 c1)), (.int (hi8 c1))]) :
    own_Met l (⟨"java/lang/StringUTF16", "checkIndex", "(I[B)V"⟩ : MethodName) jdk_52_method_91_code 2 none ws ({ frames := 2, cells := 0, slots := 0, locals := 27 } : Room) #[(.int (1 : Int32)), (.ref a1)] Z h0 (Qrm_uk2_1 Z a1 c0 c1 fm h0 n0) := by
  refine own_body own_pn22 ?_
  intro p e s m below meth c T0 X0 hx hby hml hown hnm hret hlk hZ e0
  have N0 := Fr.nil n0
  refine own_st (fun t k => castTop (own_ef_rm_uk2_1 m a1) k) ?_
  show own_Go p.tables e below (T0.setTop (mkF m 0 #[.val (.int (1 : Int32)), .val (.ref a1)] [])) _
  have Z0 := own_Z0 O_0
  refine own_iloadN X0 hx hby own_d22_0 (pc' := 1) rfl rfl ?_
  refine own_aloadN X0 hx hby own_d22_1 (pc' := 2) rfl rfl rfl ?_
  refine own_callS X0 hx hZ (rm_ul2 l Z a0 hw [] a1 c0 c1 h0 n0 (O_0) (A_1)) hown (own_t hw 111 rfl) (own_t hw 112 rfl) (own_t hw 67 rfl) (own_t hw 113 rfl) (by decide) (W := 1) (by decide) (by decide) (by rw [hml]; rfl) (argsL := [(.ref a1)]) (rest := [(.int (1 : Int32))]) rfl (lenOf own_pd11 rfl) rfl (Nat.le_of_eq rfl) (hb hby own_d22_2) e0 (by decide) (by decide) ?_
  intro v226 T226 L226 X226 hQ226
  obtain ⟨hv226, N226q, e226⟩ := hQ226
  subst hv226
  have N226 := Fr.app N0 N226q
  show own_Go p.tables e below (T226.setTop (mkF m 5 #[.val (.int (1 : Int32)), .val (.ref a1)] [(.int (2 : Int32)), (.int (1 : Int32))])) _
  refine own_callS X226 hx hZ (rm_ci2_1 l Z a0 hw [] fm h0 n0 (O_0) S_F hfm) hown (own_t hw 114 rfl) (own_t hw 115 rfl) (own_t hw 4 rfl) (own_t hw 116 rfl) (by decide) (W := 0) (by decide) (by decide) (by rw [hml]; rfl) (argsL := [(.int (1 : Int32)), (.int (2 : Int32))]) (rest := []) rfl (lenOf own_pd10 rfl) rfl (Nat.le_of_eq rfl) (hb hby own_d22_5) e226 (by decide) (by decide) ?_
  intro v227 T227 L227 X227 hQ227
  obtain ⟨hv227, N227q, e227⟩ := hQ227
  subst hv227
  have N227 := Fr.app N226 N227q
  show own_Go p.tables e below (T227.setTop (mkF m 8 #[.val (.int (1 : Int32)), .val (.ref a1)] [])) _
  exact own_retV X227 hx hret (hb hby own_d22_8) hlk (by decide) (by decide) ⟨rfl, N227, e227⟩
theorem own_ef_rm_uc2_1 (m : MethodId) (a1 : Addr) : entryFrame m #[(.ref a1), (.int (1 : Int32))] 2 = mkF m 0 #[.val (.ref a1), .val (.int (1 : Int32))] [] := by first | (simp [entryFrame, mkF, argsToLocals, Value.category]; done) | rfl
def Qrm_uc2_1 (Z : State) (a1 : Addr) (c0 : Int32) (c1 : Int32) (fm : Value) (h0 : Heap) (n0 : Nat) (v : Option Value) (h : Heap) (L : List Loc) : Prop := v = some (.int c1) ∧ Fr n0 L ∧ h = h0
set_option maxRecDepth 65536 in
set_option maxHeartbeats 40000000 in
theorem rm_uc2_1 (l : Launch) (Z : State) (a0 : Array Value) (hw : ∀ d ∈ tables_1, d.before a0 Z = true) (ws : List Jvm.Cond) (a1 : Addr) (c0 : Int32) (c1 : Int32) (fm : Value) (h0 : Heap) (n0 : Nat) (O_0 : Old Z n0 h0) (S_A : Sta Z Z.heap "java/lang/StringUTF16" "$assertionsDisabled" "Z" (.int (1 : Int32))) (S_H : Sta Z Z.heap "java/lang/StringUTF16" "HI_BYTE_SHIFT" "I" (.int (0 : Int32))) (S_L : Sta Z Z.heap "java/lang/StringUTF16" "LO_BYTE_SHIFT" "I" (.int (8 : Int32))) (S_F : Sta Z Z.heap "jdk/internal/util/Preconditions" "SIOOBE_FORMATTER" "Ljava/util/function/BiFunction;" fm) (hfm : fm.isRef = true) (A_1 : own_Ar Z h0 a1 .byte [(.int (lo8 c0)), (.int (hi8 c0)), (.int (lo8 c1)), (.int (hi8 c1))]) (hb1 : own_W c1) :
    own_Met l (⟨"java/lang/StringUTF16", "charAt", "([BI)C"⟩ : MethodName) jdk_52_method_83_code 2 (some .char) ws ({ frames := 3, cells := 0, slots := 0, locals := 40 } : Room) #[(.ref a1), (.int (1 : Int32))] Z h0 (Qrm_uc2_1 Z a1 c0 c1 fm h0 n0) := by
  refine own_body own_pn21 ?_
  intro p e s m below meth c T0 X0 hx hby hml hown hnm hret hlk hZ e0
  have N0 := Fr.nil n0
  refine own_st (fun t k => castTop (own_ef_rm_uc2_1 m a1) k) ?_
  show own_Go p.tables e below (T0.setTop (mkF m 0 #[.val (.ref a1), .val (.int (1 : Int32))] [])) _
  have Z0 := own_Z0 O_0
  refine own_iloadN X0 hx hby own_d21_0 (pc' := 1) rfl rfl ?_
  refine own_aloadN X0 hx hby own_d21_1 (pc' := 2) rfl rfl rfl ?_
  refine own_callS X0 hx hZ (rm_uk2_1 l Z a0 hw [] a1 c0 c1 fm h0 n0 (O_0) S_F hfm (A_1)) hown (own_t hw 108 rfl) (own_t hw 109 rfl) (own_t hw 67 rfl) (own_t hw 110 rfl) (by decide) (W := 0) (by decide) (by decide) (by rw [hml]; rfl) (argsL := [(.int (1 : Int32)), (.ref a1)]) (rest := []) rfl (lenOf own_pd12 rfl) rfl (Nat.le_of_eq rfl) (hb hby own_d21_2) e0 (by decide) (by decide) ?_
  intro v228 T228 L228 X228 hQ228
  obtain ⟨hv228, N228q, e228⟩ := hQ228
  subst hv228
  have N228 := Fr.app N0 N228q
  show own_Go p.tables e below (T228.setTop (mkF m 5 #[.val (.ref a1), .val (.int (1 : Int32))] [])) _
  refine own_aloadN X228 hx hby own_d21_5 (pc' := 6) rfl rfl rfl ?_
  refine own_iloadN X228 hx hby own_d21_6 (pc' := 7) rfl rfl ?_
  refine own_callS X228 hx hZ (rm_gc2_1 l Z a0 hw [] a1 c0 c1 h0 n0 (O_0) S_A S_H S_L (A_1) hb1) hown (own_t hw 88 rfl) (own_t hw 89 rfl) (own_t hw 67 rfl) (own_t hw 90 rfl) (by decide) (W := 0) (by decide) (by decide) (by rw [hml]; rfl) (argsL := [(.ref a1), (.int (1 : Int32))]) (rest := []) rfl (lenOf own_pd5 rfl) rfl (Nat.le_of_eq rfl) (hb hby own_d21_7) e228 (by decide) (by decide) ?_
  intro v229 T229 L229 X229 hQ229
  obtain ⟨hv229, N229q, e229⟩ := hQ229
  subst hv229
  have N229 := Fr.app N228 N229q
  show own_Go p.tables e below (T229.setTop (mkF m 10 #[.val (.ref a1), .val (.int (1 : Int32))] [(.int c1)])) _
  exact own_retZ (t := .char) X229 hx hret (by simp) (hb hby own_d21_10) hlk (by decide) (by decide) ⟨congrArg (fun z => some (Value.int z)) (own_narW hb1), N229, e229⟩
theorem own_ef_rm_ch2_0_1 (m : MethodId) (a1 : Addr) : entryFrame m #[(.ref a1), (.int (1 : Int32))] 2 = mkF m 0 #[.val (.ref a1), .val (.int (1 : Int32))] [] := by first | (simp [entryFrame, mkF, argsToLocals, Value.category]; done) | rfl
def Qrm_ch2_0_1 (Z : State) (a1 : Addr) (a2 : Addr) (c0 : Int32) (c1 : Int32) (gS : Int32) (fm : Value) (h0 : Heap) (n0 : Nat) (v : Option Value) (h : Heap) (L : List Loc) : Prop := v = some (.int c1) ∧ Fr n0 L ∧ h = h0
set_option maxRecDepth 65536 in
set_option maxHeartbeats 40000000 in
theorem rm_ch2_0_1 (l : Launch) (Z : State) (a0 : Array Value) (hw : ∀ d ∈ tables_1, d.before a0 Z = true) (ws : List Jvm.Cond) (a1 : Addr) (a2 : Addr) (c0 : Int32) (c1 : Int32) (gS : Int32) (fm : Value) (h0 : Heap) (n0 : Nat) (O_0 : Old Z n0 h0) (S_S : Sta Z Z.heap "java/lang/String" "COMPACT_STRINGS" "Z" (.int gS)) (hS : ¬ gS = 0) (S_A : Sta Z Z.heap "java/lang/StringUTF16" "$assertionsDisabled" "Z" (.int (1 : Int32))) (S_H : Sta Z Z.heap "java/lang/StringUTF16" "HI_BYTE_SHIFT" "I" (.int (0 : Int32))) (S_L : Sta Z Z.heap "java/lang/StringUTF16" "LO_BYTE_SHIFT" "I" (.int (8 : Int32))) (S_F : Sta Z Z.heap "jdk/internal/util/Preconditions" "SIOOBE_FORMATTER" "Ljava/util/function/BiFunction;" fm) (hfm : fm.isRef = true) (E_1 : Exa Z h0 a1 "java/lang/String") (F_c : Fld Z h0 a1 "java/lang/String" "coder" "B" (.int (0 : Int32))) (F_v : Fld Z h0 a1 "java/lang/String" "value" "[B" (.ref a2)) (A_2 : own_Ar Z h0 a2 .byte [(.int (lo8 c0)), (.int (lo8 c1))]) (hb1 : own_W c1) (hk1 : ¬ (255 : Int32) < c1) :
    own_Met l (⟨"java/lang/String", "charAt", "(I)C"⟩ : MethodName) jdk_42_method_56_code 2 (some .char) ws ({ frames := 4, cells := 0, slots := 0, locals := 53 } : Room) #[(.ref a1), (.int (1 : Int32))] Z h0 (Qrm_ch2_0_1 Z a1 a2 c0 c1 gS fm h0 n0) := by
  refine own_body own_pn19 ?_
  intro p e s m below meth c T0 X0 hx hby hml hown hnm hret hlk hZ e0
  have N0 := Fr.nil n0
  refine own_st (fun t k => castTop (own_ef_rm_ch2_0_1 m a1) k) ?_
  show own_Go p.tables e below (T0.setTop (mkF m 0 #[.val (.ref a1), .val (.int (1 : Int32))] [])) _
  have Z0 := own_Z0 O_0
  refine own_aloadN X0 hx hby own_d19_0 (pc' := 1) rfl rfl rfl ?_
  refine own_callV X0 hx hZ (rm_il0 l Z a0 hw [] a1 gS h0 n0 (O_0) S_S hS (F_c)) hown (own_t hw 100 rfl) (own_t hw 101 rfl) (own_t hw 103 rfl) (own_t hw 102 rfl) (own_t hw 104 rfl) (own_t hw 4 rfl) (by decide) E_1 (W := 0) (by decide) (by decide) (by rw [hml]; rfl) (argsL := []) (rest := []) rfl (lenOf own_pd13 rfl) rfl (Nat.le_of_eq rfl) (hb hby own_d19_1) e0 (by decide) (by decide) ?_
  intro v230 T230 L230 X230 hQ230
  obtain ⟨hv230, N230q, e230⟩ := hQ230
  subst hv230
  have N230 := Fr.app N0 N230q
  show own_Go p.tables e below (T230.setTop (mkF m 4 #[.val (.ref a1), .val (.int (1 : Int32))] [(.int (1 : Int32))])) _
  refine own_ifNo X230 hx hby own_d19_4 (pc' := 7) rfl (by decide) ?_
  refine own_aloadN X230 hx hby own_d19_7 (pc' := 8) rfl rfl rfl ?_
  refine own_getF X230 hx hby own_d19_8 (pc' := 11) rfl hZ hown (host := "") (Or.inl (own_t hw 21 rfl)) Via.refl e230 F_v ?_
  intro T231 X231 e231
  refine own_iloadN X231 hx hby own_d19_11 (pc' := 12) rfl rfl ?_
  refine own_callS X231 hx hZ (rm_lc2_1 l Z a0 hw [] a2 c0 c1 fm h0 n0 (O_0) S_F hfm (A_2) hb1 hk1) hown (own_t hw 123 rfl) (own_t hw 124 rfl) (own_t hw 125 rfl) (own_t hw 126 rfl) (by decide) (W := 0) (by decide) (by decide) (by rw [hml]; rfl) (argsL := [(.ref a2), (.int (1 : Int32))]) (rest := []) rfl (lenOf own_pd5 rfl) rfl (Nat.le_of_eq rfl) (hb hby own_d19_12) e231 (by decide) (by decide) ?_
  intro v232 T232 L232 X232 hQ232
  obtain ⟨hv232, N232q, e232⟩ := hQ232
  subst hv232
  have N232 := Fr.app N230 N232q
  show own_Go p.tables e below (T232.setTop (mkF m 15 #[.val (.ref a1), .val (.int (1 : Int32))] [(.int c1)])) _
  exact own_retZ (t := .char) X232 hx hret (by simp) (hb hby own_d19_15) hlk (by decide) (by decide) ⟨congrArg (fun z => some (Value.int z)) (own_narW hb1), N232, e232⟩
theorem own_ef_rm_ch2_1_1 (m : MethodId) (a1 : Addr) : entryFrame m #[(.ref a1), (.int (1 : Int32))] 2 = mkF m 0 #[.val (.ref a1), .val (.int (1 : Int32))] [] := by first | (simp [entryFrame, mkF, argsToLocals, Value.category]; done) | rfl
def Qrm_ch2_1_1 (Z : State) (a1 : Addr) (a2 : Addr) (c0 : Int32) (c1 : Int32) (gS : Int32) (fm : Value) (h0 : Heap) (n0 : Nat) (v : Option Value) (h : Heap) (L : List Loc) : Prop := v = some (.int c1) ∧ Fr n0 L ∧ h = h0
set_option maxRecDepth 65536 in
set_option maxHeartbeats 40000000 in
theorem rm_ch2_1_1 (l : Launch) (Z : State) (a0 : Array Value) (hw : ∀ d ∈ tables_1, d.before a0 Z = true) (ws : List Jvm.Cond) (a1 : Addr) (a2 : Addr) (c0 : Int32) (c1 : Int32) (gS : Int32) (fm : Value) (h0 : Heap) (n0 : Nat) (O_0 : Old Z n0 h0) (S_S : Sta Z Z.heap "java/lang/String" "COMPACT_STRINGS" "Z" (.int gS)) (hS : ¬ gS = 0) (S_A : Sta Z Z.heap "java/lang/StringUTF16" "$assertionsDisabled" "Z" (.int (1 : Int32))) (S_H : Sta Z Z.heap "java/lang/StringUTF16" "HI_BYTE_SHIFT" "I" (.int (0 : Int32))) (S_L : Sta Z Z.heap "java/lang/StringUTF16" "LO_BYTE_SHIFT" "I" (.int (8 : Int32))) (S_F : Sta Z Z.heap "jdk/internal/util/Preconditions" "SIOOBE_FORMATTER" "Ljava/util/function/BiFunction;" fm) (hfm : fm.isRef = true) (E_1 : Exa Z h0 a1 "java/lang/String") (F_c : Fld Z h0 a1 "java/lang/String" "coder" "B" (.int (1 : Int32))) (F_v : Fld Z h0 a1 "java/lang/String" "value" "[B" (.ref a2)) (A_2 : own_Ar Z h0 a2 .byte [(.int (lo8 c0)), (.int (hi8 c0)), (.int (lo8 c1)), (.int (hi8 c1))]) (hb1 : own_W c1) :
    own_Met l (⟨"java/lang/String", "charAt", "(I)C"⟩ : MethodName) jdk_42_method_56_code 2 (some .char) ws ({ frames := 4, cells := 0, slots := 0, locals := 53 } : Room) #[(.ref a1), (.int (1 : Int32))] Z h0 (Qrm_ch2_1_1 Z a1 a2 c0 c1 gS fm h0 n0) := by
  refine own_body own_pn19 ?_
  intro p e s m below meth c T0 X0 hx hby hml hown hnm hret hlk hZ e0
  have N0 := Fr.nil n0
  refine own_st (fun t k => castTop (own_ef_rm_ch2_1_1 m a1) k) ?_
  show own_Go p.tables e below (T0.setTop (mkF m 0 #[.val (.ref a1), .val (.int (1 : Int32))] [])) _
  have Z0 := own_Z0 O_0
  refine own_aloadN X0 hx hby own_d19_0 (pc' := 1) rfl rfl rfl ?_
  refine own_callV X0 hx hZ (rm_il1 l Z a0 hw [] a1 gS h0 n0 (O_0) S_S hS (F_c)) hown (own_t hw 100 rfl) (own_t hw 101 rfl) (own_t hw 103 rfl) (own_t hw 102 rfl) (own_t hw 104 rfl) (own_t hw 4 rfl) (by decide) E_1 (W := 0) (by decide) (by decide) (by rw [hml]; rfl) (argsL := []) (rest := []) rfl (lenOf own_pd13 rfl) rfl (Nat.le_of_eq rfl) (hb hby own_d19_1) e0 (by decide) (by decide) ?_
  intro v233 T233 L233 X233 hQ233
  obtain ⟨hv233, N233q, e233⟩ := hQ233
  subst hv233
  have N233 := Fr.app N0 N233q
  show own_Go p.tables e below (T233.setTop (mkF m 4 #[.val (.ref a1), .val (.int (1 : Int32))] [(.int (0 : Int32))])) _
  refine own_ifYes X233 hx hby own_d19_4 (pc' := 16) (by decide) (by decide) ?_
  refine own_aloadN X233 hx hby own_d19_16 (pc' := 17) rfl rfl rfl ?_
  refine own_getF X233 hx hby own_d19_17 (pc' := 20) rfl hZ hown (host := "") (Or.inl (own_t hw 21 rfl)) Via.refl e233 F_v ?_
  intro T234 X234 e234
  refine own_iloadN X234 hx hby own_d19_20 (pc' := 21) rfl rfl ?_
  refine own_callS X234 hx hZ (rm_uc2_1 l Z a0 hw [] a2 c0 c1 fm h0 n0 (O_0) S_A S_H S_L S_F hfm (A_2) hb1) hown (own_t hw 105 rfl) (own_t hw 106 rfl) (own_t hw 67 rfl) (own_t hw 107 rfl) (by decide) (W := 0) (by decide) (by decide) (by rw [hml]; rfl) (argsL := [(.ref a2), (.int (1 : Int32))]) (rest := []) rfl (lenOf own_pd5 rfl) rfl (Nat.le_of_eq rfl) (hb hby own_d19_21) e234 (by decide) (by decide) ?_
  intro v235 T235 L235 X235 hQ235
  obtain ⟨hv235, N235q, e235⟩ := hQ235
  subst hv235
  have N235 := Fr.app N233 N235q
  show own_Go p.tables e below (T235.setTop (mkF m 24 #[.val (.ref a1), .val (.int (1 : Int32))] [(.int c1)])) _
  exact own_retZ (t := .char) X235 hx hret (by simp) (hb hby own_d19_24) hlk (by decide) (by decide) ⟨congrArg (fun z => some (Value.int z)) (own_narW hb1), N235, e235⟩
theorem own_ef_rm_ul3 (m : MethodId) (a1 : Addr) : entryFrame m #[(.ref a1)] 1 = mkF m 0 #[.val (.ref a1)] [] := by first | (simp [entryFrame, mkF, argsToLocals, Value.category]; done) | rfl
def Qrm_ul3 (Z : State) (a1 : Addr) (c0 : Int32) (c1 : Int32) (c2 : Int32) (h0 : Heap) (n0 : Nat) (v : Option Value) (h : Heap) (L : List Loc) : Prop := v = some (.int (3 : Int32)) ∧ Fr n0 L ∧ h = h0
set_option maxRecDepth 65536 in
set_option maxHeartbeats 40000000 in
theorem rm_ul3 (l : Launch) (Z : State) (a0 : Array Value) (hw : ∀ d ∈ tables_1, d.before a0 Z = true) (ws : List Jvm.Cond) (a1 : Addr) (c0 : Int32) (c1 : Int32) (c2 : Int32) (h0 : Heap) (n0 : Nat) (O_0 : Old Z n0 h0) (A_1 : own_Ar Z h0 a1 .byte [(.int (lo8 c0)), (.int (hi8 c0)), (.int (lo8 c1)), (.int (hi8 c1)), (.int (lo8 c2)), (.int (hi8 c2))]) :
    own_Met l (⟨"java/lang/StringUTF16", "length", "([B)I"⟩ : MethodName) jdk_52_method_6_code 1 (some .int) ws ({ frames := 0, cells := 0, slots := 0, locals := 0 } : Room) #[(.ref a1)] Z h0 (Qrm_ul3 Z a1 c0 c1 c2 h0 n0) := by
  refine own_body own_pn23 ?_
  intro p e s m below meth c T0 X0 hx hby hml hown hnm hret hlk hZ e0
  have N0 := Fr.nil n0
  refine own_st (fun t k => castTop (own_ef_rm_ul3 m a1) k) ?_
  show own_Go p.tables e below (T0.setTop (mkF m 0 #[.val (.ref a1)] [])) _
  have Z0 := own_Z0 O_0
  refine own_aloadN X0 hx hby own_d23_0 (pc' := 1) rfl rfl rfl ?_
  refine own_len X0 hx hby own_d23_1 (pc' := 2) rfl hZ e0 (A_1) (n := (6 : Int32)) (by rfl) ?_
  refine own_iconst X0 hx hby own_d23_2 (pc' := 3) rfl (z := (1 : Int32)) (by decide) ?_
  refine own_ishr X0 hx hby own_d23_3 (pc' := 4) rfl (z := (3 : Int32)) (by decide) ?_
  exact own_retI X0 hx hret (hb hby own_d23_4) hlk (by decide) (by decide) ⟨rfl, N0, e0⟩
theorem own_ef_rm_pi3_0 (m : MethodId) (fm : Value) (hfm : fm.isRef = true) : entryFrame m #[(.int (0 : Int32)), (.int (3 : Int32)), fm] 3 = mkF m 0 #[.val (.int (0 : Int32)), .val (.int (3 : Int32)), .val fm] [] := by first | (simp [entryFrame, mkF, argsToLocals, Value.category, own_cat hfm]; done) | rfl | (cases fm <;> first | rfl | exact absurd hfm (by simp [Value.isRef]))
def Qrm_pi3_0 (Z : State) (fm : Value) (h0 : Heap) (n0 : Nat) (v : Option Value) (h : Heap) (L : List Loc) : Prop := v = some (.int (0 : Int32)) ∧ Fr n0 L ∧ h = h0
set_option maxRecDepth 65536 in
set_option maxHeartbeats 40000000 in
theorem rm_pi3_0 (l : Launch) (Z : State) (a0 : Array Value) (hw : ∀ d ∈ tables_1, d.before a0 Z = true) (ws : List Jvm.Cond) (fm : Value) (h0 : Heap) (n0 : Nat) (O_0 : Old Z n0 h0) (hfm : fm.isRef = true) :
    own_Met l (⟨"jdk/internal/util/Preconditions", "checkIndex", "(IILjava/util/function/BiFunction;)I"⟩ : MethodName) jdk_41_method_11_code 3 (some .int) ws ({ frames := 0, cells := 0, slots := 0, locals := 0 } : Room) #[(.int (0 : Int32)), (.int (3 : Int32)), fm] Z h0 (Qrm_pi3_0 Z fm h0 n0) := by
  refine own_body own_pn25 ?_
  intro p e s m below meth c T0 X0 hx hby hml hown hnm hret hlk hZ e0
  have N0 := Fr.nil n0
  refine own_st (fun t k => castTop (own_ef_rm_pi3_0 m fm hfm) k) ?_
  show own_Go p.tables e below (T0.setTop (mkF m 0 #[.val (.int (0 : Int32)), .val (.int (3 : Int32)), .val fm] [])) _
  have Z0 := own_Z0 O_0
  refine own_iloadN X0 hx hby own_d25_0 (pc' := 1) rfl rfl ?_
  refine own_ifNo X0 hx hby own_d25_1 (pc' := 4) rfl (by decide) ?_
  refine own_iloadN X0 hx hby own_d25_4 (pc' := 5) rfl rfl ?_
  refine own_iloadN X0 hx hby own_d25_5 (pc' := 6) rfl rfl ?_
  refine own_icmpYes X0 hx hby own_d25_6 (pc' := 16) (by decide) (by decide) ?_
  refine own_iloadN X0 hx hby own_d25_16 (pc' := 17) rfl rfl ?_
  exact own_retI X0 hx hret (hb hby own_d25_17) hlk (by decide) (by decide) ⟨rfl, N0, e0⟩
theorem own_ef_rm_ci3_0 (m : MethodId)  : entryFrame m #[(.int (0 : Int32)), (.int (3 : Int32))] 2 = mkF m 0 #[.val (.int (0 : Int32)), .val (.int (3 : Int32))] [] := by first | (simp [entryFrame, mkF, argsToLocals, Value.category]; done) | rfl
def Qrm_ci3_0 (Z : State) (fm : Value) (h0 : Heap) (n0 : Nat) (v : Option Value) (h : Heap) (L : List Loc) : Prop := v = none ∧ Fr n0 L ∧ h = h0
set_option maxRecDepth 65536 in
set_option maxHeartbeats 40000000 in
theorem rm_ci3_0 (l : Launch) (Z : State) (a0 : Array Value) (hw : ∀ d ∈ tables_1, d.before a0 Z = true) (ws : List Jvm.Cond) (fm : Value) (h0 : Heap) (n0 : Nat) (O_0 : Old Z n0 h0) (S_F : Sta Z Z.heap "jdk/internal/util/Preconditions" "SIOOBE_FORMATTER" "Ljava/util/function/BiFunction;" fm) (hfm : fm.isRef = true) :
    own_Met l (⟨"java/lang/String", "checkIndex", "(II)V"⟩ : MethodName) jdk_42_method_155_code 2 none ws ({ frames := 1, cells := 0, slots := 0, locals := 14 } : Room) #[(.int (0 : Int32)), (.int (3 : Int32))] Z h0 (Qrm_ci3_0 Z fm h0 n0) := by
  refine own_body own_pn24 ?_
  intro p e s m below meth c T0 X0 hx hby hml hown hnm hret hlk hZ e0
  have N0 := Fr.nil n0
  refine own_st (fun t k => castTop (own_ef_rm_ci3_0 m ) k) ?_
  show own_Go p.tables e below (T0.setTop (mkF m 0 #[.val (.int (0 : Int32)), .val (.int (3 : Int32))] [])) _
  have Z0 := own_Z0 O_0
  refine own_iloadN X0 hx hby own_d24_0 (pc' := 1) rfl rfl ?_
  refine own_iloadN X0 hx hby own_d24_1 (pc' := 2) rfl rfl ?_
  refine own_getS X0 hx hby own_d24_2 (pc' := 5) rfl hZ hown (host := "") (Or.inl (own_t hw 117 rfl)) Via.refl e0 (S_F.ext (O_0).2) ?_
  intro T236 X236 e236
  refine own_callS X236 hx hZ (rm_pi3_0 l Z a0 hw [] fm h0 n0 (O_0) hfm) hown (own_t hw 119 rfl) (own_t hw 120 rfl) (own_t hw 118 rfl) (own_t hw 121 rfl) (by decide) (W := 0) (by decide) (by decide) (by rw [hml]; rfl) (argsL := [(.int (0 : Int32)), (.int (3 : Int32)), fm]) (rest := []) rfl (lenOf own_pd9 rfl) rfl (Nat.le_of_eq rfl) (hb hby own_d24_5) e236 (by decide) (by decide) ?_
  intro v237 T237 L237 X237 hQ237
  obtain ⟨hv237, N237q, e237⟩ := hQ237
  subst hv237
  have N237 := Fr.app N0 N237q
  show own_Go p.tables e below (T237.setTop (mkF m 8 #[.val (.int (0 : Int32)), .val (.int (3 : Int32))] [(.int (0 : Int32))])) _
  refine own_pop X237 hx hby own_d24_8 (pc' := 9) rfl rfl ?_
  exact own_retV X237 hx hret (hb hby own_d24_9) hlk (by decide) (by decide) ⟨rfl, N237, e237⟩
theorem own_ef_rm_lc3_0 (m : MethodId) (a1 : Addr) : entryFrame m #[(.ref a1), (.int (0 : Int32))] 2 = mkF m 0 #[.val (.ref a1), .val (.int (0 : Int32))] [] := by first | (simp [entryFrame, mkF, argsToLocals, Value.category]; done) | rfl
def Qrm_lc3_0 (Z : State) (a1 : Addr) (c0 : Int32) (c1 : Int32) (c2 : Int32) (fm : Value) (h0 : Heap) (n0 : Nat) (v : Option Value) (h : Heap) (L : List Loc) : Prop := v = some (.int c0) ∧ Fr n0 L ∧ h = h0
set_option maxRecDepth 65536 in
set_option maxHeartbeats 40000000 in
theorem rm_lc3_0 (l : Launch) (Z : State) (a0 : Array Value) (hw : ∀ d ∈ tables_1, d.before a0 Z = true) (ws : List Jvm.Cond) (a1 : Addr) (c0 : Int32) (c1 : Int32) (c2 : Int32) (fm : Value) (h0 : Heap) (n0 : Nat) (O_0 : Old Z n0 h0) (S_F : Sta Z Z.heap "jdk/internal/util/Preconditions" "SIOOBE_FORMATTER" "Ljava/util/function/BiFunction;" fm) (hfm : fm.isRef = true) (A_1 : own_Ar Z h0 a1 .byte [(.int (lo8 c0)), (.int (lo8 c1)), (.int (lo8 c2))]) (hb0 : own_W c0) (hk0 : ¬ (255 : Int32) < c0) :
    own_Met l (⟨"java/lang/StringLatin1", "charAt", "([BI)C"⟩ : MethodName) jdk_43_method_2_code 2 (some .char) ws ({ frames := 2, cells := 0, slots := 0, locals := 27 } : Room) #[(.ref a1), (.int (0 : Int32))] Z h0 (Qrm_lc3_0 Z a1 c0 c1 c2 fm h0 n0) := by
  refine own_body own_pn26 ?_
  intro p e s m below meth c T0 X0 hx hby hml hown hnm hret hlk hZ e0
  have N0 := Fr.nil n0
  refine own_st (fun t k => castTop (own_ef_rm_lc3_0 m a1) k) ?_
  show own_Go p.tables e below (T0.setTop (mkF m 0 #[.val (.ref a1), .val (.int (0 : Int32))] [])) _
  have Z0 := own_Z0 O_0
  refine own_iloadN X0 hx hby own_d26_0 (pc' := 1) rfl rfl ?_
  refine own_aloadN X0 hx hby own_d26_1 (pc' := 2) rfl rfl rfl ?_
  refine own_len X0 hx hby own_d26_2 (pc' := 3) rfl hZ e0 (A_1) (n := (3 : Int32)) (by rfl) ?_
  refine own_callS X0 hx hZ (rm_ci3_0 l Z a0 hw [] fm h0 n0 (O_0) S_F hfm) hown (own_t hw 127 rfl) (own_t hw 115 rfl) (own_t hw 4 rfl) (own_t hw 116 rfl) (by decide) (W := 0) (by decide) (by decide) (by rw [hml]; rfl) (argsL := [(.int (0 : Int32)), (.int (3 : Int32))]) (rest := []) rfl (lenOf own_pd10 rfl) rfl (Nat.le_of_eq rfl) (hb hby own_d26_3) e0 (by decide) (by decide) ?_
  intro v238 T238 L238 X238 hQ238
  obtain ⟨hv238, N238q, e238⟩ := hQ238
  subst hv238
  have N238 := Fr.app N0 N238q
  show own_Go p.tables e below (T238.setTop (mkF m 6 #[.val (.ref a1), .val (.int (0 : Int32))] [])) _
  refine own_aloadN X238 hx hby own_d26_6 (pc' := 7) rfl rfl rfl ?_
  refine own_iloadN X238 hx hby own_d26_7 (pc' := 8) rfl rfl ?_
  refine own_baload X238 hx hby own_d26_8 (pc' := 9) rfl hZ e238 (A_1) (by decide) (v := (.int (lo8 c0))) rfl ?_
  refine own_sipush X238 hx hby own_d26_9 (pc' := 12) rfl (z := (255 : Int32)) (by decide) ?_
  refine own_iand X238 hx hby own_d26_12 (pc' := 13) rfl rfl ?_
  refine own_i2c X238 hx hby own_d26_13 (pc' := 14) rfl rfl ?_
  exact own_retZ (t := .char) X238 hx hret (by simp) (hb hby own_d26_14) hlk (by decide) (by decide) ⟨congrArg (fun z => some (Value.int z)) (own_one8 hb0 hk0), N238, e238⟩
theorem own_ef_rm_uk3_0 (m : MethodId) (a1 : Addr) : entryFrame m #[(.int (0 : Int32)), (.ref a1)] 2 = mkF m 0 #[.val (.int (0 : Int32)), .val (.ref a1)] [] := by first | (simp [entryFrame, mkF, argsToLocals, Value.category]; done) | rfl
def Qrm_uk3_0 (Z : State) (a1 : Addr) (c0 : Int32) (c1 : Int32) (c2 : Int32) (fm : Value) (h0 : Heap) (n0 : Nat) (v : Option Value) (h : Heap) (L : List Loc) : Prop := v = none ∧ Fr n0 L ∧ h = h0
set_option maxRecDepth 65536 in
set_option maxHeartbeats 40000000 in
theorem rm_uk3_0 (l : Launch) (Z : State) (a0 : Array Value) (hw : ∀ d ∈ tables_1, d.before a0 Z = true) (ws : List Jvm.Cond) (a1 : Addr) (c0 : Int32) (c1 : Int32) (c2 : Int32) (fm : Value) (h0 : Heap) (n0 : Nat) (O_0 : Old Z n0 h0) (S_F : Sta Z Z.heap "jdk/internal/util/Preconditions" "SIOOBE_FORMATTER" "Ljava/util/function/BiFunction;" fm) (hfm : fm.isRef = true) (A_1 : own_Ar Z h0 a1 .byte [(.int (lo8 c0)), (.int (hi8 c0)), (.int (lo8 c1)), (.int (hi8 c1)), (.int (lo8 c2)), (.int (hi8 c2))]) :
    own_Met l (⟨"java/lang/StringUTF16", "checkIndex", "(I[B)V"⟩ : MethodName) jdk_52_method_91_code 2 none ws ({ frames := 2, cells := 0, slots := 0, locals := 27 } : Room) #[(.int (0 : Int32)), (.ref a1)] Z h0 (Qrm_uk3_0 Z a1 c0 c1 c2 fm h0 n0) := by
  refine own_body own_pn22 ?_
  intro p e s m below meth c T0 X0 hx hby hml hown hnm hret hlk hZ e0
  have N0 := Fr.nil n0
  refine own_st (fun t k => castTop (own_ef_rm_uk3_0 m a1) k) ?_
  show own_Go p.tables e below (T0.setTop (mkF m 0 #[.val (.int (0 : Int32)), .val (.ref a1)] [])) _
  have Z0 := own_Z0 O_0
  refine own_iloadN X0 hx hby own_d22_0 (pc' := 1) rfl rfl ?_
  refine own_aloadN X0 hx hby own_d22_1 (pc' := 2) rfl rfl rfl ?_
  refine own_callS X0 hx hZ (rm_ul3 l Z a0 hw [] a1 c0 c1 c2 h0 n0 (O_0) (A_1)) hown (own_t hw 111 rfl) (own_t hw 112 rfl) (own_t hw 67 rfl) (own_t hw 113 rfl) (by decide) (W := 1) (by decide) (by decide) (by rw [hml]; rfl) (argsL := [(.ref a1)]) (rest := [(.int (0 : Int32))]) rfl (lenOf own_pd11 rfl) rfl (Nat.le_of_eq rfl) (hb hby own_d22_2) e0 (by decide) (by decide) ?_
  intro v239 T239 L239 X239 hQ239
  obtain ⟨hv239, N239q, e239⟩ := hQ239
  subst hv239
  have N239 := Fr.app N0 N239q
  show own_Go p.tables e below (T239.setTop (mkF m 5 #[.val (.int (0 : Int32)), .val (.ref a1)] [(.int (3 : Int32)), (.int (0 : Int32))])) _
  refine own_callS X239 hx hZ (rm_ci3_0 l Z a0 hw [] fm h0 n0 (O_0) S_F hfm) hown (own_t hw 114 rfl) (own_t hw 115 rfl) (own_t hw 4 rfl) (own_t hw 116 rfl) (by decide) (W := 0) (by decide) (by decide) (by rw [hml]; rfl) (argsL := [(.int (0 : Int32)), (.int (3 : Int32))]) (rest := []) rfl (lenOf own_pd10 rfl) rfl (Nat.le_of_eq rfl) (hb hby own_d22_5) e239 (by decide) (by decide) ?_
  intro v240 T240 L240 X240 hQ240
  obtain ⟨hv240, N240q, e240⟩ := hQ240
  subst hv240
  have N240 := Fr.app N239 N240q
  show own_Go p.tables e below (T240.setTop (mkF m 8 #[.val (.int (0 : Int32)), .val (.ref a1)] [])) _
  exact own_retV X240 hx hret (hb hby own_d22_8) hlk (by decide) (by decide) ⟨rfl, N240, e240⟩
theorem own_ef_rm_uc3_0 (m : MethodId) (a1 : Addr) : entryFrame m #[(.ref a1), (.int (0 : Int32))] 2 = mkF m 0 #[.val (.ref a1), .val (.int (0 : Int32))] [] := by first | (simp [entryFrame, mkF, argsToLocals, Value.category]; done) | rfl
def Qrm_uc3_0 (Z : State) (a1 : Addr) (c0 : Int32) (c1 : Int32) (c2 : Int32) (fm : Value) (h0 : Heap) (n0 : Nat) (v : Option Value) (h : Heap) (L : List Loc) : Prop := v = some (.int c0) ∧ Fr n0 L ∧ h = h0
set_option maxRecDepth 65536 in
set_option maxHeartbeats 40000000 in
theorem rm_uc3_0 (l : Launch) (Z : State) (a0 : Array Value) (hw : ∀ d ∈ tables_1, d.before a0 Z = true) (ws : List Jvm.Cond) (a1 : Addr) (c0 : Int32) (c1 : Int32) (c2 : Int32) (fm : Value) (h0 : Heap) (n0 : Nat) (O_0 : Old Z n0 h0) (S_A : Sta Z Z.heap "java/lang/StringUTF16" "$assertionsDisabled" "Z" (.int (1 : Int32))) (S_H : Sta Z Z.heap "java/lang/StringUTF16" "HI_BYTE_SHIFT" "I" (.int (0 : Int32))) (S_L : Sta Z Z.heap "java/lang/StringUTF16" "LO_BYTE_SHIFT" "I" (.int (8 : Int32))) (S_F : Sta Z Z.heap "jdk/internal/util/Preconditions" "SIOOBE_FORMATTER" "Ljava/util/function/BiFunction;" fm) (hfm : fm.isRef = true) (A_1 : own_Ar Z h0 a1 .byte [(.int (lo8 c0)), (.int (hi8 c0)), (.int (lo8 c1)), (.int (hi8 c1)), (.int (lo8 c2)), (.int (hi8 c2))]) (hb0 : own_W c0) :
    own_Met l (⟨"java/lang/StringUTF16", "charAt", "([BI)C"⟩ : MethodName) jdk_52_method_83_code 2 (some .char) ws ({ frames := 3, cells := 0, slots := 0, locals := 40 } : Room) #[(.ref a1), (.int (0 : Int32))] Z h0 (Qrm_uc3_0 Z a1 c0 c1 c2 fm h0 n0) := by
  refine own_body own_pn21 ?_
  intro p e s m below meth c T0 X0 hx hby hml hown hnm hret hlk hZ e0
  have N0 := Fr.nil n0
  refine own_st (fun t k => castTop (own_ef_rm_uc3_0 m a1) k) ?_
  show own_Go p.tables e below (T0.setTop (mkF m 0 #[.val (.ref a1), .val (.int (0 : Int32))] [])) _
  have Z0 := own_Z0 O_0
  refine own_iloadN X0 hx hby own_d21_0 (pc' := 1) rfl rfl ?_
  refine own_aloadN X0 hx hby own_d21_1 (pc' := 2) rfl rfl rfl ?_
  refine own_callS X0 hx hZ (rm_uk3_0 l Z a0 hw [] a1 c0 c1 c2 fm h0 n0 (O_0) S_F hfm (A_1)) hown (own_t hw 108 rfl) (own_t hw 109 rfl) (own_t hw 67 rfl) (own_t hw 110 rfl) (by decide) (W := 0) (by decide) (by decide) (by rw [hml]; rfl) (argsL := [(.int (0 : Int32)), (.ref a1)]) (rest := []) rfl (lenOf own_pd12 rfl) rfl (Nat.le_of_eq rfl) (hb hby own_d21_2) e0 (by decide) (by decide) ?_
  intro v241 T241 L241 X241 hQ241
  obtain ⟨hv241, N241q, e241⟩ := hQ241
  subst hv241
  have N241 := Fr.app N0 N241q
  show own_Go p.tables e below (T241.setTop (mkF m 5 #[.val (.ref a1), .val (.int (0 : Int32))] [])) _
  refine own_aloadN X241 hx hby own_d21_5 (pc' := 6) rfl rfl rfl ?_
  refine own_iloadN X241 hx hby own_d21_6 (pc' := 7) rfl rfl ?_
  refine own_callS X241 hx hZ (rm_gc3_0 l Z a0 hw [] a1 c0 c1 c2 h0 n0 (O_0) S_A S_H S_L (A_1) hb0) hown (own_t hw 88 rfl) (own_t hw 89 rfl) (own_t hw 67 rfl) (own_t hw 90 rfl) (by decide) (W := 0) (by decide) (by decide) (by rw [hml]; rfl) (argsL := [(.ref a1), (.int (0 : Int32))]) (rest := []) rfl (lenOf own_pd5 rfl) rfl (Nat.le_of_eq rfl) (hb hby own_d21_7) e241 (by decide) (by decide) ?_
  intro v242 T242 L242 X242 hQ242
  obtain ⟨hv242, N242q, e242⟩ := hQ242
  subst hv242
  have N242 := Fr.app N241 N242q
  show own_Go p.tables e below (T242.setTop (mkF m 10 #[.val (.ref a1), .val (.int (0 : Int32))] [(.int c0)])) _
  exact own_retZ (t := .char) X242 hx hret (by simp) (hb hby own_d21_10) hlk (by decide) (by decide) ⟨congrArg (fun z => some (Value.int z)) (own_narW hb0), N242, e242⟩
theorem own_ef_rm_ch3_0_0 (m : MethodId) (a1 : Addr) : entryFrame m #[(.ref a1), (.int (0 : Int32))] 2 = mkF m 0 #[.val (.ref a1), .val (.int (0 : Int32))] [] := by first | (simp [entryFrame, mkF, argsToLocals, Value.category]; done) | rfl
def Qrm_ch3_0_0 (Z : State) (a1 : Addr) (a2 : Addr) (c0 : Int32) (c1 : Int32) (c2 : Int32) (gS : Int32) (fm : Value) (h0 : Heap) (n0 : Nat) (v : Option Value) (h : Heap) (L : List Loc) : Prop := v = some (.int c0) ∧ Fr n0 L ∧ h = h0
set_option maxRecDepth 65536 in
set_option maxHeartbeats 40000000 in
theorem rm_ch3_0_0 (l : Launch) (Z : State) (a0 : Array Value) (hw : ∀ d ∈ tables_1, d.before a0 Z = true) (ws : List Jvm.Cond) (a1 : Addr) (a2 : Addr) (c0 : Int32) (c1 : Int32) (c2 : Int32) (gS : Int32) (fm : Value) (h0 : Heap) (n0 : Nat) (O_0 : Old Z n0 h0) (S_S : Sta Z Z.heap "java/lang/String" "COMPACT_STRINGS" "Z" (.int gS)) (hS : ¬ gS = 0) (S_A : Sta Z Z.heap "java/lang/StringUTF16" "$assertionsDisabled" "Z" (.int (1 : Int32))) (S_H : Sta Z Z.heap "java/lang/StringUTF16" "HI_BYTE_SHIFT" "I" (.int (0 : Int32))) (S_L : Sta Z Z.heap "java/lang/StringUTF16" "LO_BYTE_SHIFT" "I" (.int (8 : Int32))) (S_F : Sta Z Z.heap "jdk/internal/util/Preconditions" "SIOOBE_FORMATTER" "Ljava/util/function/BiFunction;" fm) (hfm : fm.isRef = true) (E_1 : Exa Z h0 a1 "java/lang/String") (F_c : Fld Z h0 a1 "java/lang/String" "coder" "B" (.int (0 : Int32))) (F_v : Fld Z h0 a1 "java/lang/String" "value" "[B" (.ref a2)) (A_2 : own_Ar Z h0 a2 .byte [(.int (lo8 c0)), (.int (lo8 c1)), (.int (lo8 c2))]) (hb0 : own_W c0) (hk0 : ¬ (255 : Int32) < c0) :
    own_Met l (⟨"java/lang/String", "charAt", "(I)C"⟩ : MethodName) jdk_42_method_56_code 2 (some .char) ws ({ frames := 4, cells := 0, slots := 0, locals := 53 } : Room) #[(.ref a1), (.int (0 : Int32))] Z h0 (Qrm_ch3_0_0 Z a1 a2 c0 c1 c2 gS fm h0 n0) := by
  refine own_body own_pn19 ?_
  intro p e s m below meth c T0 X0 hx hby hml hown hnm hret hlk hZ e0
  have N0 := Fr.nil n0
  refine own_st (fun t k => castTop (own_ef_rm_ch3_0_0 m a1) k) ?_
  show own_Go p.tables e below (T0.setTop (mkF m 0 #[.val (.ref a1), .val (.int (0 : Int32))] [])) _
  have Z0 := own_Z0 O_0
  refine own_aloadN X0 hx hby own_d19_0 (pc' := 1) rfl rfl rfl ?_
  refine own_callV X0 hx hZ (rm_il0 l Z a0 hw [] a1 gS h0 n0 (O_0) S_S hS (F_c)) hown (own_t hw 100 rfl) (own_t hw 101 rfl) (own_t hw 103 rfl) (own_t hw 102 rfl) (own_t hw 104 rfl) (own_t hw 4 rfl) (by decide) E_1 (W := 0) (by decide) (by decide) (by rw [hml]; rfl) (argsL := []) (rest := []) rfl (lenOf own_pd13 rfl) rfl (Nat.le_of_eq rfl) (hb hby own_d19_1) e0 (by decide) (by decide) ?_
  intro v243 T243 L243 X243 hQ243
  obtain ⟨hv243, N243q, e243⟩ := hQ243
  subst hv243
  have N243 := Fr.app N0 N243q
  show own_Go p.tables e below (T243.setTop (mkF m 4 #[.val (.ref a1), .val (.int (0 : Int32))] [(.int (1 : Int32))])) _
  refine own_ifNo X243 hx hby own_d19_4 (pc' := 7) rfl (by decide) ?_
  refine own_aloadN X243 hx hby own_d19_7 (pc' := 8) rfl rfl rfl ?_
  refine own_getF X243 hx hby own_d19_8 (pc' := 11) rfl hZ hown (host := "") (Or.inl (own_t hw 21 rfl)) Via.refl e243 F_v ?_
  intro T244 X244 e244
  refine own_iloadN X244 hx hby own_d19_11 (pc' := 12) rfl rfl ?_
  refine own_callS X244 hx hZ (rm_lc3_0 l Z a0 hw [] a2 c0 c1 c2 fm h0 n0 (O_0) S_F hfm (A_2) hb0 hk0) hown (own_t hw 123 rfl) (own_t hw 124 rfl) (own_t hw 125 rfl) (own_t hw 126 rfl) (by decide) (W := 0) (by decide) (by decide) (by rw [hml]; rfl) (argsL := [(.ref a2), (.int (0 : Int32))]) (rest := []) rfl (lenOf own_pd5 rfl) rfl (Nat.le_of_eq rfl) (hb hby own_d19_12) e244 (by decide) (by decide) ?_
  intro v245 T245 L245 X245 hQ245
  obtain ⟨hv245, N245q, e245⟩ := hQ245
  subst hv245
  have N245 := Fr.app N243 N245q
  show own_Go p.tables e below (T245.setTop (mkF m 15 #[.val (.ref a1), .val (.int (0 : Int32))] [(.int c0)])) _
  exact own_retZ (t := .char) X245 hx hret (by simp) (hb hby own_d19_15) hlk (by decide) (by decide) ⟨congrArg (fun z => some (Value.int z)) (own_narW hb0), N245, e245⟩
theorem own_ef_rm_ch3_1_0 (m : MethodId) (a1 : Addr) : entryFrame m #[(.ref a1), (.int (0 : Int32))] 2 = mkF m 0 #[.val (.ref a1), .val (.int (0 : Int32))] [] := by first | (simp [entryFrame, mkF, argsToLocals, Value.category]; done) | rfl
def Qrm_ch3_1_0 (Z : State) (a1 : Addr) (a2 : Addr) (c0 : Int32) (c1 : Int32) (c2 : Int32) (gS : Int32) (fm : Value) (h0 : Heap) (n0 : Nat) (v : Option Value) (h : Heap) (L : List Loc) : Prop := v = some (.int c0) ∧ Fr n0 L ∧ h = h0
set_option maxRecDepth 65536 in
set_option maxHeartbeats 40000000 in
theorem rm_ch3_1_0 (l : Launch) (Z : State) (a0 : Array Value) (hw : ∀ d ∈ tables_1, d.before a0 Z = true) (ws : List Jvm.Cond) (a1 : Addr) (a2 : Addr) (c0 : Int32) (c1 : Int32) (c2 : Int32) (gS : Int32) (fm : Value) (h0 : Heap) (n0 : Nat) (O_0 : Old Z n0 h0) (S_S : Sta Z Z.heap "java/lang/String" "COMPACT_STRINGS" "Z" (.int gS)) (hS : ¬ gS = 0) (S_A : Sta Z Z.heap "java/lang/StringUTF16" "$assertionsDisabled" "Z" (.int (1 : Int32))) (S_H : Sta Z Z.heap "java/lang/StringUTF16" "HI_BYTE_SHIFT" "I" (.int (0 : Int32))) (S_L : Sta Z Z.heap "java/lang/StringUTF16" "LO_BYTE_SHIFT" "I" (.int (8 : Int32))) (S_F : Sta Z Z.heap "jdk/internal/util/Preconditions" "SIOOBE_FORMATTER" "Ljava/util/function/BiFunction;" fm) (hfm : fm.isRef = true) (E_1 : Exa Z h0 a1 "java/lang/String") (F_c : Fld Z h0 a1 "java/lang/String" "coder" "B" (.int (1 : Int32))) (F_v : Fld Z h0 a1 "java/lang/String" "value" "[B" (.ref a2)) (A_2 : own_Ar Z h0 a2 .byte [(.int (lo8 c0)), (.int (hi8 c0)), (.int (lo8 c1)), (.int (hi8 c1)), (.int (lo8 c2)), (.int (hi8 c2))]) (hb0 : own_W c0) :
    own_Met l (⟨"java/lang/String", "charAt", "(I)C"⟩ : MethodName) jdk_42_method_56_code 2 (some .char) ws ({ frames := 4, cells := 0, slots := 0, locals := 53 } : Room) #[(.ref a1), (.int (0 : Int32))] Z h0 (Qrm_ch3_1_0 Z a1 a2 c0 c1 c2 gS fm h0 n0) := by
  refine own_body own_pn19 ?_
  intro p e s m below meth c T0 X0 hx hby hml hown hnm hret hlk hZ e0
  have N0 := Fr.nil n0
  refine own_st (fun t k => castTop (own_ef_rm_ch3_1_0 m a1) k) ?_
  show own_Go p.tables e below (T0.setTop (mkF m 0 #[.val (.ref a1), .val (.int (0 : Int32))] [])) _
  have Z0 := own_Z0 O_0
  refine own_aloadN X0 hx hby own_d19_0 (pc' := 1) rfl rfl rfl ?_
  refine own_callV X0 hx hZ (rm_il1 l Z a0 hw [] a1 gS h0 n0 (O_0) S_S hS (F_c)) hown (own_t hw 100 rfl) (own_t hw 101 rfl) (own_t hw 103 rfl) (own_t hw 102 rfl) (own_t hw 104 rfl) (own_t hw 4 rfl) (by decide) E_1 (W := 0) (by decide) (by decide) (by rw [hml]; rfl) (argsL := []) (rest := []) rfl (lenOf own_pd13 rfl) rfl (Nat.le_of_eq rfl) (hb hby own_d19_1) e0 (by decide) (by decide) ?_
  intro v246 T246 L246 X246 hQ246
  obtain ⟨hv246, N246q, e246⟩ := hQ246
  subst hv246
  have N246 := Fr.app N0 N246q
  show own_Go p.tables e below (T246.setTop (mkF m 4 #[.val (.ref a1), .val (.int (0 : Int32))] [(.int (0 : Int32))])) _
  refine own_ifYes X246 hx hby own_d19_4 (pc' := 16) (by decide) (by decide) ?_
  refine own_aloadN X246 hx hby own_d19_16 (pc' := 17) rfl rfl rfl ?_
  refine own_getF X246 hx hby own_d19_17 (pc' := 20) rfl hZ hown (host := "") (Or.inl (own_t hw 21 rfl)) Via.refl e246 F_v ?_
  intro T247 X247 e247
  refine own_iloadN X247 hx hby own_d19_20 (pc' := 21) rfl rfl ?_
  refine own_callS X247 hx hZ (rm_uc3_0 l Z a0 hw [] a2 c0 c1 c2 fm h0 n0 (O_0) S_A S_H S_L S_F hfm (A_2) hb0) hown (own_t hw 105 rfl) (own_t hw 106 rfl) (own_t hw 67 rfl) (own_t hw 107 rfl) (by decide) (W := 0) (by decide) (by decide) (by rw [hml]; rfl) (argsL := [(.ref a2), (.int (0 : Int32))]) (rest := []) rfl (lenOf own_pd5 rfl) rfl (Nat.le_of_eq rfl) (hb hby own_d19_21) e247 (by decide) (by decide) ?_
  intro v248 T248 L248 X248 hQ248
  obtain ⟨hv248, N248q, e248⟩ := hQ248
  subst hv248
  have N248 := Fr.app N246 N248q
  show own_Go p.tables e below (T248.setTop (mkF m 24 #[.val (.ref a1), .val (.int (0 : Int32))] [(.int c0)])) _
  exact own_retZ (t := .char) X248 hx hret (by simp) (hb hby own_d19_24) hlk (by decide) (by decide) ⟨congrArg (fun z => some (Value.int z)) (own_narW hb0), N248, e248⟩
theorem own_ef_rm_pi3_1 (m : MethodId) (fm : Value) (hfm : fm.isRef = true) : entryFrame m #[(.int (1 : Int32)), (.int (3 : Int32)), fm] 3 = mkF m 0 #[.val (.int (1 : Int32)), .val (.int (3 : Int32)), .val fm] [] := by first | (simp [entryFrame, mkF, argsToLocals, Value.category, own_cat hfm]; done) | rfl | (cases fm <;> first | rfl | exact absurd hfm (by simp [Value.isRef]))
def Qrm_pi3_1 (Z : State) (fm : Value) (h0 : Heap) (n0 : Nat) (v : Option Value) (h : Heap) (L : List Loc) : Prop := v = some (.int (1 : Int32)) ∧ Fr n0 L ∧ h = h0
set_option maxRecDepth 65536 in
set_option maxHeartbeats 40000000 in
theorem rm_pi3_1 (l : Launch) (Z : State) (a0 : Array Value) (hw : ∀ d ∈ tables_1, d.before a0 Z = true) (ws : List Jvm.Cond) (fm : Value) (h0 : Heap) (n0 : Nat) (O_0 : Old Z n0 h0) (hfm : fm.isRef = true) :
    own_Met l (⟨"jdk/internal/util/Preconditions", "checkIndex", "(IILjava/util/function/BiFunction;)I"⟩ : MethodName) jdk_41_method_11_code 3 (some .int) ws ({ frames := 0, cells := 0, slots := 0, locals := 0 } : Room) #[(.int (1 : Int32)), (.int (3 : Int32)), fm] Z h0 (Qrm_pi3_1 Z fm h0 n0) := by
  refine own_body own_pn25 ?_
  intro p e s m below meth c T0 X0 hx hby hml hown hnm hret hlk hZ e0
  have N0 := Fr.nil n0
  refine own_st (fun t k => castTop (own_ef_rm_pi3_1 m fm hfm) k) ?_
  show own_Go p.tables e below (T0.setTop (mkF m 0 #[.val (.int (1 : Int32)), .val (.int (3 : Int32)), .val fm] [])) _
  have Z0 := own_Z0 O_0
  refine own_iloadN X0 hx hby own_d25_0 (pc' := 1) rfl rfl ?_
  refine own_ifNo X0 hx hby own_d25_1 (pc' := 4) rfl (by decide) ?_
  refine own_iloadN X0 hx hby own_d25_4 (pc' := 5) rfl rfl ?_
  refine own_iloadN X0 hx hby own_d25_5 (pc' := 6) rfl rfl ?_
  refine own_icmpYes X0 hx hby own_d25_6 (pc' := 16) (by decide) (by decide) ?_
  refine own_iloadN X0 hx hby own_d25_16 (pc' := 17) rfl rfl ?_
  exact own_retI X0 hx hret (hb hby own_d25_17) hlk (by decide) (by decide) ⟨rfl, N0, e0⟩
theorem own_ef_rm_ci3_1 (m : MethodId)  : entryFrame m #[(.int (1 : Int32)), (.int (3 : Int32))] 2 = mkF m 0 #[.val (.int (1 : Int32)), .val (.int (3 : Int32))] [] := by first | (simp [entryFrame, mkF, argsToLocals, Value.category]; done) | rfl
def Qrm_ci3_1 (Z : State) (fm : Value) (h0 : Heap) (n0 : Nat) (v : Option Value) (h : Heap) (L : List Loc) : Prop := v = none ∧ Fr n0 L ∧ h = h0
set_option maxRecDepth 65536 in
set_option maxHeartbeats 40000000 in
theorem rm_ci3_1 (l : Launch) (Z : State) (a0 : Array Value) (hw : ∀ d ∈ tables_1, d.before a0 Z = true) (ws : List Jvm.Cond) (fm : Value) (h0 : Heap) (n0 : Nat) (O_0 : Old Z n0 h0) (S_F : Sta Z Z.heap "jdk/internal/util/Preconditions" "SIOOBE_FORMATTER" "Ljava/util/function/BiFunction;" fm) (hfm : fm.isRef = true) :
    own_Met l (⟨"java/lang/String", "checkIndex", "(II)V"⟩ : MethodName) jdk_42_method_155_code 2 none ws ({ frames := 1, cells := 0, slots := 0, locals := 14 } : Room) #[(.int (1 : Int32)), (.int (3 : Int32))] Z h0 (Qrm_ci3_1 Z fm h0 n0) := by
  refine own_body own_pn24 ?_
  intro p e s m below meth c T0 X0 hx hby hml hown hnm hret hlk hZ e0
  have N0 := Fr.nil n0
  refine own_st (fun t k => castTop (own_ef_rm_ci3_1 m ) k) ?_
  show own_Go p.tables e below (T0.setTop (mkF m 0 #[.val (.int (1 : Int32)), .val (.int (3 : Int32))] [])) _
  have Z0 := own_Z0 O_0
  refine own_iloadN X0 hx hby own_d24_0 (pc' := 1) rfl rfl ?_
  refine own_iloadN X0 hx hby own_d24_1 (pc' := 2) rfl rfl ?_
  refine own_getS X0 hx hby own_d24_2 (pc' := 5) rfl hZ hown (host := "") (Or.inl (own_t hw 117 rfl)) Via.refl e0 (S_F.ext (O_0).2) ?_
  intro T249 X249 e249
  refine own_callS X249 hx hZ (rm_pi3_1 l Z a0 hw [] fm h0 n0 (O_0) hfm) hown (own_t hw 119 rfl) (own_t hw 120 rfl) (own_t hw 118 rfl) (own_t hw 121 rfl) (by decide) (W := 0) (by decide) (by decide) (by rw [hml]; rfl) (argsL := [(.int (1 : Int32)), (.int (3 : Int32)), fm]) (rest := []) rfl (lenOf own_pd9 rfl) rfl (Nat.le_of_eq rfl) (hb hby own_d24_5) e249 (by decide) (by decide) ?_
  intro v250 T250 L250 X250 hQ250
  obtain ⟨hv250, N250q, e250⟩ := hQ250
  subst hv250
  have N250 := Fr.app N0 N250q
  show own_Go p.tables e below (T250.setTop (mkF m 8 #[.val (.int (1 : Int32)), .val (.int (3 : Int32))] [(.int (1 : Int32))])) _
  refine own_pop X250 hx hby own_d24_8 (pc' := 9) rfl rfl ?_
  exact own_retV X250 hx hret (hb hby own_d24_9) hlk (by decide) (by decide) ⟨rfl, N250, e250⟩
theorem own_ef_rm_lc3_1 (m : MethodId) (a1 : Addr) : entryFrame m #[(.ref a1), (.int (1 : Int32))] 2 = mkF m 0 #[.val (.ref a1), .val (.int (1 : Int32))] [] := by first | (simp [entryFrame, mkF, argsToLocals, Value.category]; done) | rfl
def Qrm_lc3_1 (Z : State) (a1 : Addr) (c0 : Int32) (c1 : Int32) (c2 : Int32) (fm : Value) (h0 : Heap) (n0 : Nat) (v : Option Value) (h : Heap) (L : List Loc) : Prop := v = some (.int c1) ∧ Fr n0 L ∧ h = h0
set_option maxRecDepth 65536 in
set_option maxHeartbeats 40000000 in
theorem rm_lc3_1 (l : Launch) (Z : State) (a0 : Array Value) (hw : ∀ d ∈ tables_1, d.before a0 Z = true) (ws : List Jvm.Cond) (a1 : Addr) (c0 : Int32) (c1 : Int32) (c2 : Int32) (fm : Value) (h0 : Heap) (n0 : Nat) (O_0 : Old Z n0 h0) (S_F : Sta Z Z.heap "jdk/internal/util/Preconditions" "SIOOBE_FORMATTER" "Ljava/util/function/BiFunction;" fm) (hfm : fm.isRef = true) (A_1 : own_Ar Z h0 a1 .byte [(.int (lo8 c0)), (.int (lo8 c1)), (.int (lo8 c2))]) (hb1 : own_W c1) (hk1 : ¬ (255 : Int32) < c1) :
    own_Met l (⟨"java/lang/StringLatin1", "charAt", "([BI)C"⟩ : MethodName) jdk_43_method_2_code 2 (some .char) ws ({ frames := 2, cells := 0, slots := 0, locals := 27 } : Room) #[(.ref a1), (.int (1 : Int32))] Z h0 (Qrm_lc3_1 Z a1 c0 c1 c2 fm h0 n0) := by
  refine own_body own_pn26 ?_
  intro p e s m below meth c T0 X0 hx hby hml hown hnm hret hlk hZ e0
  have N0 := Fr.nil n0
  refine own_st (fun t k => castTop (own_ef_rm_lc3_1 m a1) k) ?_
  show own_Go p.tables e below (T0.setTop (mkF m 0 #[.val (.ref a1), .val (.int (1 : Int32))] [])) _
  have Z0 := own_Z0 O_0
  refine own_iloadN X0 hx hby own_d26_0 (pc' := 1) rfl rfl ?_
  refine own_aloadN X0 hx hby own_d26_1 (pc' := 2) rfl rfl rfl ?_
  refine own_len X0 hx hby own_d26_2 (pc' := 3) rfl hZ e0 (A_1) (n := (3 : Int32)) (by rfl) ?_
  refine own_callS X0 hx hZ (rm_ci3_1 l Z a0 hw [] fm h0 n0 (O_0) S_F hfm) hown (own_t hw 127 rfl) (own_t hw 115 rfl) (own_t hw 4 rfl) (own_t hw 116 rfl) (by decide) (W := 0) (by decide) (by decide) (by rw [hml]; rfl) (argsL := [(.int (1 : Int32)), (.int (3 : Int32))]) (rest := []) rfl (lenOf own_pd10 rfl) rfl (Nat.le_of_eq rfl) (hb hby own_d26_3) e0 (by decide) (by decide) ?_
  intro v251 T251 L251 X251 hQ251
  obtain ⟨hv251, N251q, e251⟩ := hQ251
  subst hv251
  have N251 := Fr.app N0 N251q
  show own_Go p.tables e below (T251.setTop (mkF m 6 #[.val (.ref a1), .val (.int (1 : Int32))] [])) _
  refine own_aloadN X251 hx hby own_d26_6 (pc' := 7) rfl rfl rfl ?_
  refine own_iloadN X251 hx hby own_d26_7 (pc' := 8) rfl rfl ?_
  refine own_baload X251 hx hby own_d26_8 (pc' := 9) rfl hZ e251 (A_1) (by decide) (v := (.int (lo8 c1))) rfl ?_
  refine own_sipush X251 hx hby own_d26_9 (pc' := 12) rfl (z := (255 : Int32)) (by decide) ?_
  refine own_iand X251 hx hby own_d26_12 (pc' := 13) rfl rfl ?_
  refine own_i2c X251 hx hby own_d26_13 (pc' := 14) rfl rfl ?_
  exact own_retZ (t := .char) X251 hx hret (by simp) (hb hby own_d26_14) hlk (by decide) (by decide) ⟨congrArg (fun z => some (Value.int z)) (own_one8 hb1 hk1), N251, e251⟩
theorem own_ef_rm_uk3_1 (m : MethodId) (a1 : Addr) : entryFrame m #[(.int (1 : Int32)), (.ref a1)] 2 = mkF m 0 #[.val (.int (1 : Int32)), .val (.ref a1)] [] := by first | (simp [entryFrame, mkF, argsToLocals, Value.category]; done) | rfl
def Qrm_uk3_1 (Z : State) (a1 : Addr) (c0 : Int32) (c1 : Int32) (c2 : Int32) (fm : Value) (h0 : Heap) (n0 : Nat) (v : Option Value) (h : Heap) (L : List Loc) : Prop := v = none ∧ Fr n0 L ∧ h = h0
set_option maxRecDepth 65536 in
set_option maxHeartbeats 40000000 in
theorem rm_uk3_1 (l : Launch) (Z : State) (a0 : Array Value) (hw : ∀ d ∈ tables_1, d.before a0 Z = true) (ws : List Jvm.Cond) (a1 : Addr) (c0 : Int32) (c1 : Int32) (c2 : Int32) (fm : Value) (h0 : Heap) (n0 : Nat) (O_0 : Old Z n0 h0) (S_F : Sta Z Z.heap "jdk/internal/util/Preconditions" "SIOOBE_FORMATTER" "Ljava/util/function/BiFunction;" fm) (hfm : fm.isRef = true) (A_1 : own_Ar Z h0 a1 .byte [(.int (lo8 c0)), (.int (hi8 c0)), (.int (lo8 c1)), (.int (hi8 c1)), (.int (lo8 c2)), (.int (hi8 c2))]) :
    own_Met l (⟨"java/lang/StringUTF16", "checkIndex", "(I[B)V"⟩ : MethodName) jdk_52_method_91_code 2 none ws ({ frames := 2, cells := 0, slots := 0, locals := 27 } : Room) #[(.int (1 : Int32)), (.ref a1)] Z h0 (Qrm_uk3_1 Z a1 c0 c1 c2 fm h0 n0) := by
  refine own_body own_pn22 ?_
  intro p e s m below meth c T0 X0 hx hby hml hown hnm hret hlk hZ e0
  have N0 := Fr.nil n0
  refine own_st (fun t k => castTop (own_ef_rm_uk3_1 m a1) k) ?_
  show own_Go p.tables e below (T0.setTop (mkF m 0 #[.val (.int (1 : Int32)), .val (.ref a1)] [])) _
  have Z0 := own_Z0 O_0
  refine own_iloadN X0 hx hby own_d22_0 (pc' := 1) rfl rfl ?_
  refine own_aloadN X0 hx hby own_d22_1 (pc' := 2) rfl rfl rfl ?_
  refine own_callS X0 hx hZ (rm_ul3 l Z a0 hw [] a1 c0 c1 c2 h0 n0 (O_0) (A_1)) hown (own_t hw 111 rfl) (own_t hw 112 rfl) (own_t hw 67 rfl) (own_t hw 113 rfl) (by decide) (W := 1) (by decide) (by decide) (by rw [hml]; rfl) (argsL := [(.ref a1)]) (rest := [(.int (1 : Int32))]) rfl (lenOf own_pd11 rfl) rfl (Nat.le_of_eq rfl) (hb hby own_d22_2) e0 (by decide) (by decide) ?_
  intro v252 T252 L252 X252 hQ252
  obtain ⟨hv252, N252q, e252⟩ := hQ252
  subst hv252
  have N252 := Fr.app N0 N252q
  show own_Go p.tables e below (T252.setTop (mkF m 5 #[.val (.int (1 : Int32)), .val (.ref a1)] [(.int (3 : Int32)), (.int (1 : Int32))])) _
  refine own_callS X252 hx hZ (rm_ci3_1 l Z a0 hw [] fm h0 n0 (O_0) S_F hfm) hown (own_t hw 114 rfl) (own_t hw 115 rfl) (own_t hw 4 rfl) (own_t hw 116 rfl) (by decide) (W := 0) (by decide) (by decide) (by rw [hml]; rfl) (argsL := [(.int (1 : Int32)), (.int (3 : Int32))]) (rest := []) rfl (lenOf own_pd10 rfl) rfl (Nat.le_of_eq rfl) (hb hby own_d22_5) e252 (by decide) (by decide) ?_
  intro v253 T253 L253 X253 hQ253
  obtain ⟨hv253, N253q, e253⟩ := hQ253
  subst hv253
  have N253 := Fr.app N252 N253q
  show own_Go p.tables e below (T253.setTop (mkF m 8 #[.val (.int (1 : Int32)), .val (.ref a1)] [])) _
  exact own_retV X253 hx hret (hb hby own_d22_8) hlk (by decide) (by decide) ⟨rfl, N253, e253⟩
theorem own_ef_rm_uc3_1 (m : MethodId) (a1 : Addr) : entryFrame m #[(.ref a1), (.int (1 : Int32))] 2 = mkF m 0 #[.val (.ref a1), .val (.int (1 : Int32))] [] := by first | (simp [entryFrame, mkF, argsToLocals, Value.category]; done) | rfl
def Qrm_uc3_1 (Z : State) (a1 : Addr) (c0 : Int32) (c1 : Int32) (c2 : Int32) (fm : Value) (h0 : Heap) (n0 : Nat) (v : Option Value) (h : Heap) (L : List Loc) : Prop := v = some (.int c1) ∧ Fr n0 L ∧ h = h0
set_option maxRecDepth 65536 in
set_option maxHeartbeats 40000000 in
theorem rm_uc3_1 (l : Launch) (Z : State) (a0 : Array Value) (hw : ∀ d ∈ tables_1, d.before a0 Z = true) (ws : List Jvm.Cond) (a1 : Addr) (c0 : Int32) (c1 : Int32) (c2 : Int32) (fm : Value) (h0 : Heap) (n0 : Nat) (O_0 : Old Z n0 h0) (S_A : Sta Z Z.heap "java/lang/StringUTF16" "$assertionsDisabled" "Z" (.int (1 : Int32))) (S_H : Sta Z Z.heap "java/lang/StringUTF16" "HI_BYTE_SHIFT" "I" (.int (0 : Int32))) (S_L : Sta Z Z.heap "java/lang/StringUTF16" "LO_BYTE_SHIFT" "I" (.int (8 : Int32))) (S_F : Sta Z Z.heap "jdk/internal/util/Preconditions" "SIOOBE_FORMATTER" "Ljava/util/function/BiFunction;" fm) (hfm : fm.isRef = true) (A_1 : own_Ar Z h0 a1 .byte [(.int (lo8 c0)), (.int (hi8 c0)), (.int (lo8 c1)), (.int (hi8 c1)), (.int (lo8 c2)), (.int (hi8 c2))]) (hb1 : own_W c1) :
    own_Met l (⟨"java/lang/StringUTF16", "charAt", "([BI)C"⟩ : MethodName) jdk_52_method_83_code 2 (some .char) ws ({ frames := 3, cells := 0, slots := 0, locals := 40 } : Room) #[(.ref a1), (.int (1 : Int32))] Z h0 (Qrm_uc3_1 Z a1 c0 c1 c2 fm h0 n0) := by
  refine own_body own_pn21 ?_
  intro p e s m below meth c T0 X0 hx hby hml hown hnm hret hlk hZ e0
  have N0 := Fr.nil n0
  refine own_st (fun t k => castTop (own_ef_rm_uc3_1 m a1) k) ?_
  show own_Go p.tables e below (T0.setTop (mkF m 0 #[.val (.ref a1), .val (.int (1 : Int32))] [])) _
  have Z0 := own_Z0 O_0
  refine own_iloadN X0 hx hby own_d21_0 (pc' := 1) rfl rfl ?_
  refine own_aloadN X0 hx hby own_d21_1 (pc' := 2) rfl rfl rfl ?_
  refine own_callS X0 hx hZ (rm_uk3_1 l Z a0 hw [] a1 c0 c1 c2 fm h0 n0 (O_0) S_F hfm (A_1)) hown (own_t hw 108 rfl) (own_t hw 109 rfl) (own_t hw 67 rfl) (own_t hw 110 rfl) (by decide) (W := 0) (by decide) (by decide) (by rw [hml]; rfl) (argsL := [(.int (1 : Int32)), (.ref a1)]) (rest := []) rfl (lenOf own_pd12 rfl) rfl (Nat.le_of_eq rfl) (hb hby own_d21_2) e0 (by decide) (by decide) ?_
  intro v254 T254 L254 X254 hQ254
  obtain ⟨hv254, N254q, e254⟩ := hQ254
  subst hv254
  have N254 := Fr.app N0 N254q
  show own_Go p.tables e below (T254.setTop (mkF m 5 #[.val (.ref a1), .val (.int (1 : Int32))] [])) _
  refine own_aloadN X254 hx hby own_d21_5 (pc' := 6) rfl rfl rfl ?_
  refine own_iloadN X254 hx hby own_d21_6 (pc' := 7) rfl rfl ?_
  refine own_callS X254 hx hZ (rm_gc3_1 l Z a0 hw [] a1 c0 c1 c2 h0 n0 (O_0) S_A S_H S_L (A_1) hb1) hown (own_t hw 88 rfl) (own_t hw 89 rfl) (own_t hw 67 rfl) (own_t hw 90 rfl) (by decide) (W := 0) (by decide) (by decide) (by rw [hml]; rfl) (argsL := [(.ref a1), (.int (1 : Int32))]) (rest := []) rfl (lenOf own_pd5 rfl) rfl (Nat.le_of_eq rfl) (hb hby own_d21_7) e254 (by decide) (by decide) ?_
  intro v255 T255 L255 X255 hQ255
  obtain ⟨hv255, N255q, e255⟩ := hQ255
  subst hv255
  have N255 := Fr.app N254 N255q
  show own_Go p.tables e below (T255.setTop (mkF m 10 #[.val (.ref a1), .val (.int (1 : Int32))] [(.int c1)])) _
  exact own_retZ (t := .char) X255 hx hret (by simp) (hb hby own_d21_10) hlk (by decide) (by decide) ⟨congrArg (fun z => some (Value.int z)) (own_narW hb1), N255, e255⟩
theorem own_ef_rm_ch3_0_1 (m : MethodId) (a1 : Addr) : entryFrame m #[(.ref a1), (.int (1 : Int32))] 2 = mkF m 0 #[.val (.ref a1), .val (.int (1 : Int32))] [] := by first | (simp [entryFrame, mkF, argsToLocals, Value.category]; done) | rfl
def Qrm_ch3_0_1 (Z : State) (a1 : Addr) (a2 : Addr) (c0 : Int32) (c1 : Int32) (c2 : Int32) (gS : Int32) (fm : Value) (h0 : Heap) (n0 : Nat) (v : Option Value) (h : Heap) (L : List Loc) : Prop := v = some (.int c1) ∧ Fr n0 L ∧ h = h0
set_option maxRecDepth 65536 in
set_option maxHeartbeats 40000000 in
theorem rm_ch3_0_1 (l : Launch) (Z : State) (a0 : Array Value) (hw : ∀ d ∈ tables_1, d.before a0 Z = true) (ws : List Jvm.Cond) (a1 : Addr) (a2 : Addr) (c0 : Int32) (c1 : Int32) (c2 : Int32) (gS : Int32) (fm : Value) (h0 : Heap) (n0 : Nat) (O_0 : Old Z n0 h0) (S_S : Sta Z Z.heap "java/lang/String" "COMPACT_STRINGS" "Z" (.int gS)) (hS : ¬ gS = 0) (S_A : Sta Z Z.heap "java/lang/StringUTF16" "$assertionsDisabled" "Z" (.int (1 : Int32))) (S_H : Sta Z Z.heap "java/lang/StringUTF16" "HI_BYTE_SHIFT" "I" (.int (0 : Int32))) (S_L : Sta Z Z.heap "java/lang/StringUTF16" "LO_BYTE_SHIFT" "I" (.int (8 : Int32))) (S_F : Sta Z Z.heap "jdk/internal/util/Preconditions" "SIOOBE_FORMATTER" "Ljava/util/function/BiFunction;" fm) (hfm : fm.isRef = true) (E_1 : Exa Z h0 a1 "java/lang/String") (F_c : Fld Z h0 a1 "java/lang/String" "coder" "B" (.int (0 : Int32))) (F_v : Fld Z h0 a1 "java/lang/String" "value" "[B" (.ref a2)) (A_2 : own_Ar Z h0 a2 .byte [(.int (lo8 c0)), (.int (lo8 c1)), (.int (lo8 c2))]) (hb1 : own_W c1) (hk1 : ¬ (255 : Int32) < c1) :
    own_Met l (⟨"java/lang/String", "charAt", "(I)C"⟩ : MethodName) jdk_42_method_56_code 2 (some .char) ws ({ frames := 4, cells := 0, slots := 0, locals := 53 } : Room) #[(.ref a1), (.int (1 : Int32))] Z h0 (Qrm_ch3_0_1 Z a1 a2 c0 c1 c2 gS fm h0 n0) := by
  refine own_body own_pn19 ?_
  intro p e s m below meth c T0 X0 hx hby hml hown hnm hret hlk hZ e0
  have N0 := Fr.nil n0
  refine own_st (fun t k => castTop (own_ef_rm_ch3_0_1 m a1) k) ?_
  show own_Go p.tables e below (T0.setTop (mkF m 0 #[.val (.ref a1), .val (.int (1 : Int32))] [])) _
  have Z0 := own_Z0 O_0
  refine own_aloadN X0 hx hby own_d19_0 (pc' := 1) rfl rfl rfl ?_
  refine own_callV X0 hx hZ (rm_il0 l Z a0 hw [] a1 gS h0 n0 (O_0) S_S hS (F_c)) hown (own_t hw 100 rfl) (own_t hw 101 rfl) (own_t hw 103 rfl) (own_t hw 102 rfl) (own_t hw 104 rfl) (own_t hw 4 rfl) (by decide) E_1 (W := 0) (by decide) (by decide) (by rw [hml]; rfl) (argsL := []) (rest := []) rfl (lenOf own_pd13 rfl) rfl (Nat.le_of_eq rfl) (hb hby own_d19_1) e0 (by decide) (by decide) ?_
  intro v256 T256 L256 X256 hQ256
  obtain ⟨hv256, N256q, e256⟩ := hQ256
  subst hv256
  have N256 := Fr.app N0 N256q
  show own_Go p.tables e below (T256.setTop (mkF m 4 #[.val (.ref a1), .val (.int (1 : Int32))] [(.int (1 : Int32))])) _
  refine own_ifNo X256 hx hby own_d19_4 (pc' := 7) rfl (by decide) ?_
  refine own_aloadN X256 hx hby own_d19_7 (pc' := 8) rfl rfl rfl ?_
  refine own_getF X256 hx hby own_d19_8 (pc' := 11) rfl hZ hown (host := "") (Or.inl (own_t hw 21 rfl)) Via.refl e256 F_v ?_
  intro T257 X257 e257
  refine own_iloadN X257 hx hby own_d19_11 (pc' := 12) rfl rfl ?_
  refine own_callS X257 hx hZ (rm_lc3_1 l Z a0 hw [] a2 c0 c1 c2 fm h0 n0 (O_0) S_F hfm (A_2) hb1 hk1) hown (own_t hw 123 rfl) (own_t hw 124 rfl) (own_t hw 125 rfl) (own_t hw 126 rfl) (by decide) (W := 0) (by decide) (by decide) (by rw [hml]; rfl) (argsL := [(.ref a2), (.int (1 : Int32))]) (rest := []) rfl (lenOf own_pd5 rfl) rfl (Nat.le_of_eq rfl) (hb hby own_d19_12) e257 (by decide) (by decide) ?_
  intro v258 T258 L258 X258 hQ258
  obtain ⟨hv258, N258q, e258⟩ := hQ258
  subst hv258
  have N258 := Fr.app N256 N258q
  show own_Go p.tables e below (T258.setTop (mkF m 15 #[.val (.ref a1), .val (.int (1 : Int32))] [(.int c1)])) _
  exact own_retZ (t := .char) X258 hx hret (by simp) (hb hby own_d19_15) hlk (by decide) (by decide) ⟨congrArg (fun z => some (Value.int z)) (own_narW hb1), N258, e258⟩
theorem own_ef_rm_ch3_1_1 (m : MethodId) (a1 : Addr) : entryFrame m #[(.ref a1), (.int (1 : Int32))] 2 = mkF m 0 #[.val (.ref a1), .val (.int (1 : Int32))] [] := by first | (simp [entryFrame, mkF, argsToLocals, Value.category]; done) | rfl
def Qrm_ch3_1_1 (Z : State) (a1 : Addr) (a2 : Addr) (c0 : Int32) (c1 : Int32) (c2 : Int32) (gS : Int32) (fm : Value) (h0 : Heap) (n0 : Nat) (v : Option Value) (h : Heap) (L : List Loc) : Prop := v = some (.int c1) ∧ Fr n0 L ∧ h = h0
set_option maxRecDepth 65536 in
set_option maxHeartbeats 40000000 in
theorem rm_ch3_1_1 (l : Launch) (Z : State) (a0 : Array Value) (hw : ∀ d ∈ tables_1, d.before a0 Z = true) (ws : List Jvm.Cond) (a1 : Addr) (a2 : Addr) (c0 : Int32) (c1 : Int32) (c2 : Int32) (gS : Int32) (fm : Value) (h0 : Heap) (n0 : Nat) (O_0 : Old Z n0 h0) (S_S : Sta Z Z.heap "java/lang/String" "COMPACT_STRINGS" "Z" (.int gS)) (hS : ¬ gS = 0) (S_A : Sta Z Z.heap "java/lang/StringUTF16" "$assertionsDisabled" "Z" (.int (1 : Int32))) (S_H : Sta Z Z.heap "java/lang/StringUTF16" "HI_BYTE_SHIFT" "I" (.int (0 : Int32))) (S_L : Sta Z Z.heap "java/lang/StringUTF16" "LO_BYTE_SHIFT" "I" (.int (8 : Int32))) (S_F : Sta Z Z.heap "jdk/internal/util/Preconditions" "SIOOBE_FORMATTER" "Ljava/util/function/BiFunction;" fm) (hfm : fm.isRef = true) (E_1 : Exa Z h0 a1 "java/lang/String") (F_c : Fld Z h0 a1 "java/lang/String" "coder" "B" (.int (1 : Int32))) (F_v : Fld Z h0 a1 "java/lang/String" "value" "[B" (.ref a2)) (A_2 : own_Ar Z h0 a2 .byte [(.int (lo8 c0)), (.int (hi8 c0)), (.int (lo8 c1)), (.int (hi8 c1)), (.int (lo8 c2)), (.int (hi8 c2))]) (hb1 : own_W c1) :
    own_Met l (⟨"java/lang/String", "charAt", "(I)C"⟩ : MethodName) jdk_42_method_56_code 2 (some .char) ws ({ frames := 4, cells := 0, slots := 0, locals := 53 } : Room) #[(.ref a1), (.int (1 : Int32))] Z h0 (Qrm_ch3_1_1 Z a1 a2 c0 c1 c2 gS fm h0 n0) := by
  refine own_body own_pn19 ?_
  intro p e s m below meth c T0 X0 hx hby hml hown hnm hret hlk hZ e0
  have N0 := Fr.nil n0
  refine own_st (fun t k => castTop (own_ef_rm_ch3_1_1 m a1) k) ?_
  show own_Go p.tables e below (T0.setTop (mkF m 0 #[.val (.ref a1), .val (.int (1 : Int32))] [])) _
  have Z0 := own_Z0 O_0
  refine own_aloadN X0 hx hby own_d19_0 (pc' := 1) rfl rfl rfl ?_
  refine own_callV X0 hx hZ (rm_il1 l Z a0 hw [] a1 gS h0 n0 (O_0) S_S hS (F_c)) hown (own_t hw 100 rfl) (own_t hw 101 rfl) (own_t hw 103 rfl) (own_t hw 102 rfl) (own_t hw 104 rfl) (own_t hw 4 rfl) (by decide) E_1 (W := 0) (by decide) (by decide) (by rw [hml]; rfl) (argsL := []) (rest := []) rfl (lenOf own_pd13 rfl) rfl (Nat.le_of_eq rfl) (hb hby own_d19_1) e0 (by decide) (by decide) ?_
  intro v259 T259 L259 X259 hQ259
  obtain ⟨hv259, N259q, e259⟩ := hQ259
  subst hv259
  have N259 := Fr.app N0 N259q
  show own_Go p.tables e below (T259.setTop (mkF m 4 #[.val (.ref a1), .val (.int (1 : Int32))] [(.int (0 : Int32))])) _
  refine own_ifYes X259 hx hby own_d19_4 (pc' := 16) (by decide) (by decide) ?_
  refine own_aloadN X259 hx hby own_d19_16 (pc' := 17) rfl rfl rfl ?_
  refine own_getF X259 hx hby own_d19_17 (pc' := 20) rfl hZ hown (host := "") (Or.inl (own_t hw 21 rfl)) Via.refl e259 F_v ?_
  intro T260 X260 e260
  refine own_iloadN X260 hx hby own_d19_20 (pc' := 21) rfl rfl ?_
  refine own_callS X260 hx hZ (rm_uc3_1 l Z a0 hw [] a2 c0 c1 c2 fm h0 n0 (O_0) S_A S_H S_L S_F hfm (A_2) hb1) hown (own_t hw 105 rfl) (own_t hw 106 rfl) (own_t hw 67 rfl) (own_t hw 107 rfl) (by decide) (W := 0) (by decide) (by decide) (by rw [hml]; rfl) (argsL := [(.ref a2), (.int (1 : Int32))]) (rest := []) rfl (lenOf own_pd5 rfl) rfl (Nat.le_of_eq rfl) (hb hby own_d19_21) e260 (by decide) (by decide) ?_
  intro v261 T261 L261 X261 hQ261
  obtain ⟨hv261, N261q, e261⟩ := hQ261
  subst hv261
  have N261 := Fr.app N259 N261q
  show own_Go p.tables e below (T261.setTop (mkF m 24 #[.val (.ref a1), .val (.int (1 : Int32))] [(.int c1)])) _
  exact own_retZ (t := .char) X261 hx hret (by simp) (hb hby own_d19_24) hlk (by decide) (by decide) ⟨congrArg (fun z => some (Value.int z)) (own_narW hb1), N261, e261⟩
theorem own_ef_rm_pi3_2 (m : MethodId) (fm : Value) (hfm : fm.isRef = true) : entryFrame m #[(.int (2 : Int32)), (.int (3 : Int32)), fm] 3 = mkF m 0 #[.val (.int (2 : Int32)), .val (.int (3 : Int32)), .val fm] [] := by first | (simp [entryFrame, mkF, argsToLocals, Value.category, own_cat hfm]; done) | rfl | (cases fm <;> first | rfl | exact absurd hfm (by simp [Value.isRef]))
def Qrm_pi3_2 (Z : State) (fm : Value) (h0 : Heap) (n0 : Nat) (v : Option Value) (h : Heap) (L : List Loc) : Prop := v = some (.int (2 : Int32)) ∧ Fr n0 L ∧ h = h0
set_option maxRecDepth 65536 in
set_option maxHeartbeats 40000000 in
theorem rm_pi3_2 (l : Launch) (Z : State) (a0 : Array Value) (hw : ∀ d ∈ tables_1, d.before a0 Z = true) (ws : List Jvm.Cond) (fm : Value) (h0 : Heap) (n0 : Nat) (O_0 : Old Z n0 h0) (hfm : fm.isRef = true) :
    own_Met l (⟨"jdk/internal/util/Preconditions", "checkIndex", "(IILjava/util/function/BiFunction;)I"⟩ : MethodName) jdk_41_method_11_code 3 (some .int) ws ({ frames := 0, cells := 0, slots := 0, locals := 0 } : Room) #[(.int (2 : Int32)), (.int (3 : Int32)), fm] Z h0 (Qrm_pi3_2 Z fm h0 n0) := by
  refine own_body own_pn25 ?_
  intro p e s m below meth c T0 X0 hx hby hml hown hnm hret hlk hZ e0
  have N0 := Fr.nil n0
  refine own_st (fun t k => castTop (own_ef_rm_pi3_2 m fm hfm) k) ?_
  show own_Go p.tables e below (T0.setTop (mkF m 0 #[.val (.int (2 : Int32)), .val (.int (3 : Int32)), .val fm] [])) _
  have Z0 := own_Z0 O_0
  refine own_iloadN X0 hx hby own_d25_0 (pc' := 1) rfl rfl ?_
  refine own_ifNo X0 hx hby own_d25_1 (pc' := 4) rfl (by decide) ?_
  refine own_iloadN X0 hx hby own_d25_4 (pc' := 5) rfl rfl ?_
  refine own_iloadN X0 hx hby own_d25_5 (pc' := 6) rfl rfl ?_
  refine own_icmpYes X0 hx hby own_d25_6 (pc' := 16) (by decide) (by decide) ?_
  refine own_iloadN X0 hx hby own_d25_16 (pc' := 17) rfl rfl ?_
  exact own_retI X0 hx hret (hb hby own_d25_17) hlk (by decide) (by decide) ⟨rfl, N0, e0⟩
theorem own_ef_rm_ci3_2 (m : MethodId)  : entryFrame m #[(.int (2 : Int32)), (.int (3 : Int32))] 2 = mkF m 0 #[.val (.int (2 : Int32)), .val (.int (3 : Int32))] [] := by first | (simp [entryFrame, mkF, argsToLocals, Value.category]; done) | rfl
def Qrm_ci3_2 (Z : State) (fm : Value) (h0 : Heap) (n0 : Nat) (v : Option Value) (h : Heap) (L : List Loc) : Prop := v = none ∧ Fr n0 L ∧ h = h0
set_option maxRecDepth 65536 in
set_option maxHeartbeats 40000000 in
theorem rm_ci3_2 (l : Launch) (Z : State) (a0 : Array Value) (hw : ∀ d ∈ tables_1, d.before a0 Z = true) (ws : List Jvm.Cond) (fm : Value) (h0 : Heap) (n0 : Nat) (O_0 : Old Z n0 h0) (S_F : Sta Z Z.heap "jdk/internal/util/Preconditions" "SIOOBE_FORMATTER" "Ljava/util/function/BiFunction;" fm) (hfm : fm.isRef = true) :
    own_Met l (⟨"java/lang/String", "checkIndex", "(II)V"⟩ : MethodName) jdk_42_method_155_code 2 none ws ({ frames := 1, cells := 0, slots := 0, locals := 14 } : Room) #[(.int (2 : Int32)), (.int (3 : Int32))] Z h0 (Qrm_ci3_2 Z fm h0 n0) := by
  refine own_body own_pn24 ?_
  intro p e s m below meth c T0 X0 hx hby hml hown hnm hret hlk hZ e0
  have N0 := Fr.nil n0
  refine own_st (fun t k => castTop (own_ef_rm_ci3_2 m ) k) ?_
  show own_Go p.tables e below (T0.setTop (mkF m 0 #[.val (.int (2 : Int32)), .val (.int (3 : Int32))] [])) _
  have Z0 := own_Z0 O_0
  refine own_iloadN X0 hx hby own_d24_0 (pc' := 1) rfl rfl ?_
  refine own_iloadN X0 hx hby own_d24_1 (pc' := 2) rfl rfl ?_
  refine own_getS X0 hx hby own_d24_2 (pc' := 5) rfl hZ hown (host := "") (Or.inl (own_t hw 117 rfl)) Via.refl e0 (S_F.ext (O_0).2) ?_
  intro T262 X262 e262
  refine own_callS X262 hx hZ (rm_pi3_2 l Z a0 hw [] fm h0 n0 (O_0) hfm) hown (own_t hw 119 rfl) (own_t hw 120 rfl) (own_t hw 118 rfl) (own_t hw 121 rfl) (by decide) (W := 0) (by decide) (by decide) (by rw [hml]; rfl) (argsL := [(.int (2 : Int32)), (.int (3 : Int32)), fm]) (rest := []) rfl (lenOf own_pd9 rfl) rfl (Nat.le_of_eq rfl) (hb hby own_d24_5) e262 (by decide) (by decide) ?_
  intro v263 T263 L263 X263 hQ263
  obtain ⟨hv263, N263q, e263⟩ := hQ263
  subst hv263
  have N263 := Fr.app N0 N263q
  show own_Go p.tables e below (T263.setTop (mkF m 8 #[.val (.int (2 : Int32)), .val (.int (3 : Int32))] [(.int (2 : Int32))])) _
  refine own_pop X263 hx hby own_d24_8 (pc' := 9) rfl rfl ?_
  exact own_retV X263 hx hret (hb hby own_d24_9) hlk (by decide) (by decide) ⟨rfl, N263, e263⟩
theorem own_ef_rm_lc3_2 (m : MethodId) (a1 : Addr) : entryFrame m #[(.ref a1), (.int (2 : Int32))] 2 = mkF m 0 #[.val (.ref a1), .val (.int (2 : Int32))] [] := by first | (simp [entryFrame, mkF, argsToLocals, Value.category]; done) | rfl
def Qrm_lc3_2 (Z : State) (a1 : Addr) (c0 : Int32) (c1 : Int32) (c2 : Int32) (fm : Value) (h0 : Heap) (n0 : Nat) (v : Option Value) (h : Heap) (L : List Loc) : Prop := v = some (.int c2) ∧ Fr n0 L ∧ h = h0
set_option maxRecDepth 65536 in
set_option maxHeartbeats 40000000 in
theorem rm_lc3_2 (l : Launch) (Z : State) (a0 : Array Value) (hw : ∀ d ∈ tables_1, d.before a0 Z = true) (ws : List Jvm.Cond) (a1 : Addr) (c0 : Int32) (c1 : Int32) (c2 : Int32) (fm : Value) (h0 : Heap) (n0 : Nat) (O_0 : Old Z n0 h0) (S_F : Sta Z Z.heap "jdk/internal/util/Preconditions" "SIOOBE_FORMATTER" "Ljava/util/function/BiFunction;" fm) (hfm : fm.isRef = true) (A_1 : own_Ar Z h0 a1 .byte [(.int (lo8 c0)), (.int (lo8 c1)), (.int (lo8 c2))]) (hb2 : own_W c2) (hk2 : ¬ (255 : Int32) < c2) :
    own_Met l (⟨"java/lang/StringLatin1", "charAt", "([BI)C"⟩ : MethodName) jdk_43_method_2_code 2 (some .char) ws ({ frames := 2, cells := 0, slots := 0, locals := 27 } : Room) #[(.ref a1), (.int (2 : Int32))] Z h0 (Qrm_lc3_2 Z a1 c0 c1 c2 fm h0 n0) := by
  refine own_body own_pn26 ?_
  intro p e s m below meth c T0 X0 hx hby hml hown hnm hret hlk hZ e0
  have N0 := Fr.nil n0
  refine own_st (fun t k => castTop (own_ef_rm_lc3_2 m a1) k) ?_
  show own_Go p.tables e below (T0.setTop (mkF m 0 #[.val (.ref a1), .val (.int (2 : Int32))] [])) _
  have Z0 := own_Z0 O_0
  refine own_iloadN X0 hx hby own_d26_0 (pc' := 1) rfl rfl ?_
  refine own_aloadN X0 hx hby own_d26_1 (pc' := 2) rfl rfl rfl ?_
  refine own_len X0 hx hby own_d26_2 (pc' := 3) rfl hZ e0 (A_1) (n := (3 : Int32)) (by rfl) ?_
  refine own_callS X0 hx hZ (rm_ci3_2 l Z a0 hw [] fm h0 n0 (O_0) S_F hfm) hown (own_t hw 127 rfl) (own_t hw 115 rfl) (own_t hw 4 rfl) (own_t hw 116 rfl) (by decide) (W := 0) (by decide) (by decide) (by rw [hml]; rfl) (argsL := [(.int (2 : Int32)), (.int (3 : Int32))]) (rest := []) rfl (lenOf own_pd10 rfl) rfl (Nat.le_of_eq rfl) (hb hby own_d26_3) e0 (by decide) (by decide) ?_
  intro v264 T264 L264 X264 hQ264
  obtain ⟨hv264, N264q, e264⟩ := hQ264
  subst hv264
  have N264 := Fr.app N0 N264q
  show own_Go p.tables e below (T264.setTop (mkF m 6 #[.val (.ref a1), .val (.int (2 : Int32))] [])) _
  refine own_aloadN X264 hx hby own_d26_6 (pc' := 7) rfl rfl rfl ?_
  refine own_iloadN X264 hx hby own_d26_7 (pc' := 8) rfl rfl ?_
  refine own_baload X264 hx hby own_d26_8 (pc' := 9) rfl hZ e264 (A_1) (by decide) (v := (.int (lo8 c2))) rfl ?_
  refine own_sipush X264 hx hby own_d26_9 (pc' := 12) rfl (z := (255 : Int32)) (by decide) ?_
  refine own_iand X264 hx hby own_d26_12 (pc' := 13) rfl rfl ?_
  refine own_i2c X264 hx hby own_d26_13 (pc' := 14) rfl rfl ?_
  exact own_retZ (t := .char) X264 hx hret (by simp) (hb hby own_d26_14) hlk (by decide) (by decide) ⟨congrArg (fun z => some (Value.int z)) (own_one8 hb2 hk2), N264, e264⟩
theorem own_ef_rm_uk3_2 (m : MethodId) (a1 : Addr) : entryFrame m #[(.int (2 : Int32)), (.ref a1)] 2 = mkF m 0 #[.val (.int (2 : Int32)), .val (.ref a1)] [] := by first | (simp [entryFrame, mkF, argsToLocals, Value.category]; done) | rfl
def Qrm_uk3_2 (Z : State) (a1 : Addr) (c0 : Int32) (c1 : Int32) (c2 : Int32) (fm : Value) (h0 : Heap) (n0 : Nat) (v : Option Value) (h : Heap) (L : List Loc) : Prop := v = none ∧ Fr n0 L ∧ h = h0
set_option maxRecDepth 65536 in
set_option maxHeartbeats 40000000 in
theorem rm_uk3_2 (l : Launch) (Z : State) (a0 : Array Value) (hw : ∀ d ∈ tables_1, d.before a0 Z = true) (ws : List Jvm.Cond) (a1 : Addr) (c0 : Int32) (c1 : Int32) (c2 : Int32) (fm : Value) (h0 : Heap) (n0 : Nat) (O_0 : Old Z n0 h0) (S_F : Sta Z Z.heap "jdk/internal/util/Preconditions" "SIOOBE_FORMATTER" "Ljava/util/function/BiFunction;" fm) (hfm : fm.isRef = true) (A_1 : own_Ar Z h0 a1 .byte [(.int (lo8 c0)), (.int (hi8 c0)), (.int (lo8 c1)), (.int (hi8 c1)), (.int (lo8 c2)), (.int (hi8 c2))]) :
    own_Met l (⟨"java/lang/StringUTF16", "checkIndex", "(I[B)V"⟩ : MethodName) jdk_52_method_91_code 2 none ws ({ frames := 2, cells := 0, slots := 0, locals := 27 } : Room) #[(.int (2 : Int32)), (.ref a1)] Z h0 (Qrm_uk3_2 Z a1 c0 c1 c2 fm h0 n0) := by
  refine own_body own_pn22 ?_
  intro p e s m below meth c T0 X0 hx hby hml hown hnm hret hlk hZ e0
  have N0 := Fr.nil n0
  refine own_st (fun t k => castTop (own_ef_rm_uk3_2 m a1) k) ?_
  show own_Go p.tables e below (T0.setTop (mkF m 0 #[.val (.int (2 : Int32)), .val (.ref a1)] [])) _
  have Z0 := own_Z0 O_0
  refine own_iloadN X0 hx hby own_d22_0 (pc' := 1) rfl rfl ?_
  refine own_aloadN X0 hx hby own_d22_1 (pc' := 2) rfl rfl rfl ?_
  refine own_callS X0 hx hZ (rm_ul3 l Z a0 hw [] a1 c0 c1 c2 h0 n0 (O_0) (A_1)) hown (own_t hw 111 rfl) (own_t hw 112 rfl) (own_t hw 67 rfl) (own_t hw 113 rfl) (by decide) (W := 1) (by decide) (by decide) (by rw [hml]; rfl) (argsL := [(.ref a1)]) (rest := [(.int (2 : Int32))]) rfl (lenOf own_pd11 rfl) rfl (Nat.le_of_eq rfl) (hb hby own_d22_2) e0 (by decide) (by decide) ?_
  intro v265 T265 L265 X265 hQ265
  obtain ⟨hv265, N265q, e265⟩ := hQ265
  subst hv265
  have N265 := Fr.app N0 N265q
  show own_Go p.tables e below (T265.setTop (mkF m 5 #[.val (.int (2 : Int32)), .val (.ref a1)] [(.int (3 : Int32)), (.int (2 : Int32))])) _
  refine own_callS X265 hx hZ (rm_ci3_2 l Z a0 hw [] fm h0 n0 (O_0) S_F hfm) hown (own_t hw 114 rfl) (own_t hw 115 rfl) (own_t hw 4 rfl) (own_t hw 116 rfl) (by decide) (W := 0) (by decide) (by decide) (by rw [hml]; rfl) (argsL := [(.int (2 : Int32)), (.int (3 : Int32))]) (rest := []) rfl (lenOf own_pd10 rfl) rfl (Nat.le_of_eq rfl) (hb hby own_d22_5) e265 (by decide) (by decide) ?_
  intro v266 T266 L266 X266 hQ266
  obtain ⟨hv266, N266q, e266⟩ := hQ266
  subst hv266
  have N266 := Fr.app N265 N266q
  show own_Go p.tables e below (T266.setTop (mkF m 8 #[.val (.int (2 : Int32)), .val (.ref a1)] [])) _
  exact own_retV X266 hx hret (hb hby own_d22_8) hlk (by decide) (by decide) ⟨rfl, N266, e266⟩
theorem own_ef_rm_uc3_2 (m : MethodId) (a1 : Addr) : entryFrame m #[(.ref a1), (.int (2 : Int32))] 2 = mkF m 0 #[.val (.ref a1), .val (.int (2 : Int32))] [] := by first | (simp [entryFrame, mkF, argsToLocals, Value.category]; done) | rfl
def Qrm_uc3_2 (Z : State) (a1 : Addr) (c0 : Int32) (c1 : Int32) (c2 : Int32) (fm : Value) (h0 : Heap) (n0 : Nat) (v : Option Value) (h : Heap) (L : List Loc) : Prop := v = some (.int c2) ∧ Fr n0 L ∧ h = h0
set_option maxRecDepth 65536 in
set_option maxHeartbeats 40000000 in
theorem rm_uc3_2 (l : Launch) (Z : State) (a0 : Array Value) (hw : ∀ d ∈ tables_1, d.before a0 Z = true) (ws : List Jvm.Cond) (a1 : Addr) (c0 : Int32) (c1 : Int32) (c2 : Int32) (fm : Value) (h0 : Heap) (n0 : Nat) (O_0 : Old Z n0 h0) (S_A : Sta Z Z.heap "java/lang/StringUTF16" "$assertionsDisabled" "Z" (.int (1 : Int32))) (S_H : Sta Z Z.heap "java/lang/StringUTF16" "HI_BYTE_SHIFT" "I" (.int (0 : Int32))) (S_L : Sta Z Z.heap "java/lang/StringUTF16" "LO_BYTE_SHIFT" "I" (.int (8 : Int32))) (S_F : Sta Z Z.heap "jdk/internal/util/Preconditions" "SIOOBE_FORMATTER" "Ljava/util/function/BiFunction;" fm) (hfm : fm.isRef = true) (A_1 : own_Ar Z h0 a1 .byte [(.int (lo8 c0)), (.int (hi8 c0)), (.int (lo8 c1)), (.int (hi8 c1)), (.int (lo8 c2)), (.int (hi8 c2))]) (hb2 : own_W c2) :
    own_Met l (⟨"java/lang/StringUTF16", "charAt", "([BI)C"⟩ : MethodName) jdk_52_method_83_code 2 (some .char) ws ({ frames := 3, cells := 0, slots := 0, locals := 40 } : Room) #[(.ref a1), (.int (2 : Int32))] Z h0 (Qrm_uc3_2 Z a1 c0 c1 c2 fm h0 n0) := by
  refine own_body own_pn21 ?_
  intro p e s m below meth c T0 X0 hx hby hml hown hnm hret hlk hZ e0
  have N0 := Fr.nil n0
  refine own_st (fun t k => castTop (own_ef_rm_uc3_2 m a1) k) ?_
  show own_Go p.tables e below (T0.setTop (mkF m 0 #[.val (.ref a1), .val (.int (2 : Int32))] [])) _
  have Z0 := own_Z0 O_0
  refine own_iloadN X0 hx hby own_d21_0 (pc' := 1) rfl rfl ?_
  refine own_aloadN X0 hx hby own_d21_1 (pc' := 2) rfl rfl rfl ?_
  refine own_callS X0 hx hZ (rm_uk3_2 l Z a0 hw [] a1 c0 c1 c2 fm h0 n0 (O_0) S_F hfm (A_1)) hown (own_t hw 108 rfl) (own_t hw 109 rfl) (own_t hw 67 rfl) (own_t hw 110 rfl) (by decide) (W := 0) (by decide) (by decide) (by rw [hml]; rfl) (argsL := [(.int (2 : Int32)), (.ref a1)]) (rest := []) rfl (lenOf own_pd12 rfl) rfl (Nat.le_of_eq rfl) (hb hby own_d21_2) e0 (by decide) (by decide) ?_
  intro v267 T267 L267 X267 hQ267
  obtain ⟨hv267, N267q, e267⟩ := hQ267
  subst hv267
  have N267 := Fr.app N0 N267q
  show own_Go p.tables e below (T267.setTop (mkF m 5 #[.val (.ref a1), .val (.int (2 : Int32))] [])) _
  refine own_aloadN X267 hx hby own_d21_5 (pc' := 6) rfl rfl rfl ?_
  refine own_iloadN X267 hx hby own_d21_6 (pc' := 7) rfl rfl ?_
  refine own_callS X267 hx hZ (rm_gc3_2 l Z a0 hw [] a1 c0 c1 c2 h0 n0 (O_0) S_A S_H S_L (A_1) hb2) hown (own_t hw 88 rfl) (own_t hw 89 rfl) (own_t hw 67 rfl) (own_t hw 90 rfl) (by decide) (W := 0) (by decide) (by decide) (by rw [hml]; rfl) (argsL := [(.ref a1), (.int (2 : Int32))]) (rest := []) rfl (lenOf own_pd5 rfl) rfl (Nat.le_of_eq rfl) (hb hby own_d21_7) e267 (by decide) (by decide) ?_
  intro v268 T268 L268 X268 hQ268
  obtain ⟨hv268, N268q, e268⟩ := hQ268
  subst hv268
  have N268 := Fr.app N267 N268q
  show own_Go p.tables e below (T268.setTop (mkF m 10 #[.val (.ref a1), .val (.int (2 : Int32))] [(.int c2)])) _
  exact own_retZ (t := .char) X268 hx hret (by simp) (hb hby own_d21_10) hlk (by decide) (by decide) ⟨congrArg (fun z => some (Value.int z)) (own_narW hb2), N268, e268⟩
theorem own_ef_rm_ch3_0_2 (m : MethodId) (a1 : Addr) : entryFrame m #[(.ref a1), (.int (2 : Int32))] 2 = mkF m 0 #[.val (.ref a1), .val (.int (2 : Int32))] [] := by first | (simp [entryFrame, mkF, argsToLocals, Value.category]; done) | rfl
def Qrm_ch3_0_2 (Z : State) (a1 : Addr) (a2 : Addr) (c0 : Int32) (c1 : Int32) (c2 : Int32) (gS : Int32) (fm : Value) (h0 : Heap) (n0 : Nat) (v : Option Value) (h : Heap) (L : List Loc) : Prop := v = some (.int c2) ∧ Fr n0 L ∧ h = h0
set_option maxRecDepth 65536 in
set_option maxHeartbeats 40000000 in
theorem rm_ch3_0_2 (l : Launch) (Z : State) (a0 : Array Value) (hw : ∀ d ∈ tables_1, d.before a0 Z = true) (ws : List Jvm.Cond) (a1 : Addr) (a2 : Addr) (c0 : Int32) (c1 : Int32) (c2 : Int32) (gS : Int32) (fm : Value) (h0 : Heap) (n0 : Nat) (O_0 : Old Z n0 h0) (S_S : Sta Z Z.heap "java/lang/String" "COMPACT_STRINGS" "Z" (.int gS)) (hS : ¬ gS = 0) (S_A : Sta Z Z.heap "java/lang/StringUTF16" "$assertionsDisabled" "Z" (.int (1 : Int32))) (S_H : Sta Z Z.heap "java/lang/StringUTF16" "HI_BYTE_SHIFT" "I" (.int (0 : Int32))) (S_L : Sta Z Z.heap "java/lang/StringUTF16" "LO_BYTE_SHIFT" "I" (.int (8 : Int32))) (S_F : Sta Z Z.heap "jdk/internal/util/Preconditions" "SIOOBE_FORMATTER" "Ljava/util/function/BiFunction;" fm) (hfm : fm.isRef = true) (E_1 : Exa Z h0 a1 "java/lang/String") (F_c : Fld Z h0 a1 "java/lang/String" "coder" "B" (.int (0 : Int32))) (F_v : Fld Z h0 a1 "java/lang/String" "value" "[B" (.ref a2)) (A_2 : own_Ar Z h0 a2 .byte [(.int (lo8 c0)), (.int (lo8 c1)), (.int (lo8 c2))]) (hb2 : own_W c2) (hk2 : ¬ (255 : Int32) < c2) :
    own_Met l (⟨"java/lang/String", "charAt", "(I)C"⟩ : MethodName) jdk_42_method_56_code 2 (some .char) ws ({ frames := 4, cells := 0, slots := 0, locals := 53 } : Room) #[(.ref a1), (.int (2 : Int32))] Z h0 (Qrm_ch3_0_2 Z a1 a2 c0 c1 c2 gS fm h0 n0) := by
  refine own_body own_pn19 ?_
  intro p e s m below meth c T0 X0 hx hby hml hown hnm hret hlk hZ e0
  have N0 := Fr.nil n0
  refine own_st (fun t k => castTop (own_ef_rm_ch3_0_2 m a1) k) ?_
  show own_Go p.tables e below (T0.setTop (mkF m 0 #[.val (.ref a1), .val (.int (2 : Int32))] [])) _
  have Z0 := own_Z0 O_0
  refine own_aloadN X0 hx hby own_d19_0 (pc' := 1) rfl rfl rfl ?_
  refine own_callV X0 hx hZ (rm_il0 l Z a0 hw [] a1 gS h0 n0 (O_0) S_S hS (F_c)) hown (own_t hw 100 rfl) (own_t hw 101 rfl) (own_t hw 103 rfl) (own_t hw 102 rfl) (own_t hw 104 rfl) (own_t hw 4 rfl) (by decide) E_1 (W := 0) (by decide) (by decide) (by rw [hml]; rfl) (argsL := []) (rest := []) rfl (lenOf own_pd13 rfl) rfl (Nat.le_of_eq rfl) (hb hby own_d19_1) e0 (by decide) (by decide) ?_
  intro v269 T269 L269 X269 hQ269
  obtain ⟨hv269, N269q, e269⟩ := hQ269
  subst hv269
  have N269 := Fr.app N0 N269q
  show own_Go p.tables e below (T269.setTop (mkF m 4 #[.val (.ref a1), .val (.int (2 : Int32))] [(.int (1 : Int32))])) _
  refine own_ifNo X269 hx hby own_d19_4 (pc' := 7) rfl (by decide) ?_
  refine own_aloadN X269 hx hby own_d19_7 (pc' := 8) rfl rfl rfl ?_
  refine own_getF X269 hx hby own_d19_8 (pc' := 11) rfl hZ hown (host := "") (Or.inl (own_t hw 21 rfl)) Via.refl e269 F_v ?_
  intro T270 X270 e270
  refine own_iloadN X270 hx hby own_d19_11 (pc' := 12) rfl rfl ?_
  refine own_callS X270 hx hZ (rm_lc3_2 l Z a0 hw [] a2 c0 c1 c2 fm h0 n0 (O_0) S_F hfm (A_2) hb2 hk2) hown (own_t hw 123 rfl) (own_t hw 124 rfl) (own_t hw 125 rfl) (own_t hw 126 rfl) (by decide) (W := 0) (by decide) (by decide) (by rw [hml]; rfl) (argsL := [(.ref a2), (.int (2 : Int32))]) (rest := []) rfl (lenOf own_pd5 rfl) rfl (Nat.le_of_eq rfl) (hb hby own_d19_12) e270 (by decide) (by decide) ?_
  intro v271 T271 L271 X271 hQ271
  obtain ⟨hv271, N271q, e271⟩ := hQ271
  subst hv271
  have N271 := Fr.app N269 N271q
  show own_Go p.tables e below (T271.setTop (mkF m 15 #[.val (.ref a1), .val (.int (2 : Int32))] [(.int c2)])) _
  exact own_retZ (t := .char) X271 hx hret (by simp) (hb hby own_d19_15) hlk (by decide) (by decide) ⟨congrArg (fun z => some (Value.int z)) (own_narW hb2), N271, e271⟩
theorem own_ef_rm_ch3_1_2 (m : MethodId) (a1 : Addr) : entryFrame m #[(.ref a1), (.int (2 : Int32))] 2 = mkF m 0 #[.val (.ref a1), .val (.int (2 : Int32))] [] := by first | (simp [entryFrame, mkF, argsToLocals, Value.category]; done) | rfl
def Qrm_ch3_1_2 (Z : State) (a1 : Addr) (a2 : Addr) (c0 : Int32) (c1 : Int32) (c2 : Int32) (gS : Int32) (fm : Value) (h0 : Heap) (n0 : Nat) (v : Option Value) (h : Heap) (L : List Loc) : Prop := v = some (.int c2) ∧ Fr n0 L ∧ h = h0
set_option maxRecDepth 65536 in
set_option maxHeartbeats 40000000 in
theorem rm_ch3_1_2 (l : Launch) (Z : State) (a0 : Array Value) (hw : ∀ d ∈ tables_1, d.before a0 Z = true) (ws : List Jvm.Cond) (a1 : Addr) (a2 : Addr) (c0 : Int32) (c1 : Int32) (c2 : Int32) (gS : Int32) (fm : Value) (h0 : Heap) (n0 : Nat) (O_0 : Old Z n0 h0) (S_S : Sta Z Z.heap "java/lang/String" "COMPACT_STRINGS" "Z" (.int gS)) (hS : ¬ gS = 0) (S_A : Sta Z Z.heap "java/lang/StringUTF16" "$assertionsDisabled" "Z" (.int (1 : Int32))) (S_H : Sta Z Z.heap "java/lang/StringUTF16" "HI_BYTE_SHIFT" "I" (.int (0 : Int32))) (S_L : Sta Z Z.heap "java/lang/StringUTF16" "LO_BYTE_SHIFT" "I" (.int (8 : Int32))) (S_F : Sta Z Z.heap "jdk/internal/util/Preconditions" "SIOOBE_FORMATTER" "Ljava/util/function/BiFunction;" fm) (hfm : fm.isRef = true) (E_1 : Exa Z h0 a1 "java/lang/String") (F_c : Fld Z h0 a1 "java/lang/String" "coder" "B" (.int (1 : Int32))) (F_v : Fld Z h0 a1 "java/lang/String" "value" "[B" (.ref a2)) (A_2 : own_Ar Z h0 a2 .byte [(.int (lo8 c0)), (.int (hi8 c0)), (.int (lo8 c1)), (.int (hi8 c1)), (.int (lo8 c2)), (.int (hi8 c2))]) (hb2 : own_W c2) :
    own_Met l (⟨"java/lang/String", "charAt", "(I)C"⟩ : MethodName) jdk_42_method_56_code 2 (some .char) ws ({ frames := 4, cells := 0, slots := 0, locals := 53 } : Room) #[(.ref a1), (.int (2 : Int32))] Z h0 (Qrm_ch3_1_2 Z a1 a2 c0 c1 c2 gS fm h0 n0) := by
  refine own_body own_pn19 ?_
  intro p e s m below meth c T0 X0 hx hby hml hown hnm hret hlk hZ e0
  have N0 := Fr.nil n0
  refine own_st (fun t k => castTop (own_ef_rm_ch3_1_2 m a1) k) ?_
  show own_Go p.tables e below (T0.setTop (mkF m 0 #[.val (.ref a1), .val (.int (2 : Int32))] [])) _
  have Z0 := own_Z0 O_0
  refine own_aloadN X0 hx hby own_d19_0 (pc' := 1) rfl rfl rfl ?_
  refine own_callV X0 hx hZ (rm_il1 l Z a0 hw [] a1 gS h0 n0 (O_0) S_S hS (F_c)) hown (own_t hw 100 rfl) (own_t hw 101 rfl) (own_t hw 103 rfl) (own_t hw 102 rfl) (own_t hw 104 rfl) (own_t hw 4 rfl) (by decide) E_1 (W := 0) (by decide) (by decide) (by rw [hml]; rfl) (argsL := []) (rest := []) rfl (lenOf own_pd13 rfl) rfl (Nat.le_of_eq rfl) (hb hby own_d19_1) e0 (by decide) (by decide) ?_
  intro v272 T272 L272 X272 hQ272
  obtain ⟨hv272, N272q, e272⟩ := hQ272
  subst hv272
  have N272 := Fr.app N0 N272q
  show own_Go p.tables e below (T272.setTop (mkF m 4 #[.val (.ref a1), .val (.int (2 : Int32))] [(.int (0 : Int32))])) _
  refine own_ifYes X272 hx hby own_d19_4 (pc' := 16) (by decide) (by decide) ?_
  refine own_aloadN X272 hx hby own_d19_16 (pc' := 17) rfl rfl rfl ?_
  refine own_getF X272 hx hby own_d19_17 (pc' := 20) rfl hZ hown (host := "") (Or.inl (own_t hw 21 rfl)) Via.refl e272 F_v ?_
  intro T273 X273 e273
  refine own_iloadN X273 hx hby own_d19_20 (pc' := 21) rfl rfl ?_
  refine own_callS X273 hx hZ (rm_uc3_2 l Z a0 hw [] a2 c0 c1 c2 fm h0 n0 (O_0) S_A S_H S_L S_F hfm (A_2) hb2) hown (own_t hw 105 rfl) (own_t hw 106 rfl) (own_t hw 67 rfl) (own_t hw 107 rfl) (by decide) (W := 0) (by decide) (by decide) (by rw [hml]; rfl) (argsL := [(.ref a2), (.int (2 : Int32))]) (rest := []) rfl (lenOf own_pd5 rfl) rfl (Nat.le_of_eq rfl) (hb hby own_d19_21) e273 (by decide) (by decide) ?_
  intro v274 T274 L274 X274 hQ274
  obtain ⟨hv274, N274q, e274⟩ := hQ274
  subst hv274
  have N274 := Fr.app N272 N274q
  show own_Go p.tables e below (T274.setTop (mkF m 24 #[.val (.ref a1), .val (.int (2 : Int32))] [(.int c2)])) _
  exact own_retZ (t := .char) X274 hx hret (by simp) (hb hby own_d19_24) hlk (by decide) (by decide) ⟨congrArg (fun z => some (Value.int z)) (own_narW hb2), N274, e274⟩
theorem own_d9_0 : decode prog_45_method_1_code 0 = .ok (.aload_n 0, 1) := by decide +kernel
theorem own_d9_1 : decode prog_45_method_1_code 1 = .ok (.invokespecial 1, 3) := by decide +kernel
theorem own_d9_4 : decode prog_45_method_1_code 4 = .ok (.aload_n 0, 1) := by decide +kernel
theorem own_d9_5 : decode prog_45_method_1_code 5 = .ok (.lload_n 1, 1) := by decide +kernel
theorem own_d9_6 : decode prog_45_method_1_code 6 = .ok (.putfield 7, 3) := by decide +kernel
theorem own_d9_9 : decode prog_45_method_1_code 9 = .ok (.return_, 1) := by decide +kernel
theorem own_ef_rm_sr (m : MethodId) (a1 : Addr) (p1 : Int64) : entryFrame m #[(.ref a1), (.long p1)] 3 = mkF m 0 #[.val (.ref a1), .val (.long p1), .second] [] := by first | (simp [entryFrame, mkF, argsToLocals, Value.category]; done) | rfl
def Qrm_sr (Z : State) (a1 : Addr) (p1 : Int64) (h0 : Heap) (n0 : Nat) (v : Option Value) (h : Heap) (L : List Loc) : Prop := v = none ∧ Fr n0 L ∧ Keep h0 h [a1] ∧ Exa Z h a1 "com/example/orbitwatch/orbitwatch/game/SeededRandom" ∧ Fld Z h a1 "com/example/orbitwatch/orbitwatch/game/SeededRandom" "state" "J" (.long p1)
set_option maxRecDepth 65536 in
set_option maxHeartbeats 40000000 in
theorem rm_sr (l : Launch) (Z : State) (a0 : Array Value) (hw : ∀ d ∈ tables_1, d.before a0 Z = true) (ws : List Jvm.Cond) (a1 : Addr) (p1 : Int64) (h0 : Heap) (n0 : Nat) (O_0 : Old Z n0 h0) (E_1 : Exa Z h0 a1 "com/example/orbitwatch/orbitwatch/game/SeededRandom") (F_1 : Fld Z h0 a1 "com/example/orbitwatch/orbitwatch/game/SeededRandom" "state" "J" (.long (0 : Int64))) (G_1 : n0 ≤ a1) :
    own_Met l (⟨"com/example/orbitwatch/orbitwatch/game/SeededRandom", "<init>", "(J)V"⟩ : MethodName) prog_45_method_1_code 3 none ws ({ frames := 1, cells := 0, slots := 0, locals := 12 } : Room) #[(.ref a1), (.long p1)] Z h0 (Qrm_sr Z a1 p1 h0 n0) := by
  refine own_body own_pn9 ?_
  intro p e s m below meth c T0 X0 hx hby hml hown hnm hret hlk hZ e0
  have N0 := Fr.nil n0
  refine own_st (fun t k => castTop (own_ef_rm_sr m a1 p1) k) ?_
  show own_Go p.tables e below (T0.setTop (mkF m 0 #[.val (.ref a1), .val (.long p1), .second] [])) _
  have Z0 := own_Z0 O_0
  refine own_aloadN X0 hx hby own_d9_0 (pc' := 1) rfl rfl rfl ?_
  refine own_initO X0 hx hby own_d9_1 (pc' := 4) rfl hZ hown (own_t hw 56 rfl) (own_t hw 13 rfl) (own_t hw 14 rfl) e0 (by rw [hml]; rfl) (by decide) (W := 0) (Nat.le_of_eq rfl) (by decide) ?_
  intro T275 X275 e275
  show own_Go p.tables e below (T275.setTop (mkF m 4 #[.val (.ref a1), .val (.long p1), .second] [])) _
  refine own_aloadN X275 hx hby own_d9_4 (pc' := 5) rfl rfl rfl ?_
  refine own_lloadN X275 hx hby own_d9_5 (pc' := 6) rfl rfl ?_
  refine own_put X275 hx hby own_d9_6 (pc' := 9) rfl hZ hown (host := "") (Or.inl (own_t hw 57 rfl)) Via.refl e275 F_1 E_1 (Or.inl (own_t hw 58 rfl)) (own_t hw 46 rfl) (ty := .long) (by decide) rfl rfl ?_
  intro T276 h276 X276 e276 W276
  have F276 := (F_1).same W276
  have N276 := Fr.snoc X276 N0 G_1
  exact own_retV X276 hx hret (hb hby own_d9_9) hlk (by decide) (by decide) ⟨rfl, N276, by rw [e276]; exact ⟨((Keep.refl h0 [a1]).wr W276 (Or.inl (List.mem_of_getElem? (i := 0) rfl))), (E_1.wr W276), F276⟩⟩
theorem own_pd14 : parseMethodDescriptor "(J)J" = some ⟨[.long], some .long⟩ := by decide +kernel
theorem own_d10_0 : decode prog_45_method_3_code 0 = .ok (.aload_n 0, 1) := by decide +kernel
theorem own_d10_1 : decode prog_45_method_3_code 1 = .ok (.dup, 1) := by decide +kernel
theorem own_d10_2 : decode prog_45_method_3_code 2 = .ok (.getfield 7, 3) := by decide +kernel
theorem own_d10_5 : decode prog_45_method_3_code 5 = .ok (.ldc2_w 29, 3) := by decide +kernel
theorem own_d10_8 : decode prog_45_method_3_code 8 = .ok (.ladd, 1) := by decide +kernel
theorem own_d10_9 : decode prog_45_method_3_code 9 = .ok (.putfield 7, 3) := by decide +kernel
theorem own_d10_12 : decode prog_45_method_3_code 12 = .ok (.aload_n 0, 1) := by decide +kernel
theorem own_d10_13 : decode prog_45_method_3_code 13 = .ok (.getfield 7, 3) := by decide +kernel
theorem own_d10_16 : decode prog_45_method_3_code 16 = .ok (.invokestatic 25, 3) := by decide +kernel
theorem own_d10_19 : decode prog_45_method_3_code 19 = .ok (.lreturn, 1) := by decide +kernel
theorem own_ef_rm_nx (m : MethodId) (a1 : Addr) : entryFrame m #[(.ref a1)] 1 = mkF m 0 #[.val (.ref a1)] [] := by first | (simp [entryFrame, mkF, argsToLocals, Value.category]; done) | rfl
def Qrm_nx (Z : State) (a1 : Addr) (x1 : Int64) (h0 : Heap) (n0 : Nat) (v : Option Value) (h : Heap) (L : List Loc) : Prop := v = some (.long (own_mx (x1 + (-7046029254386353131 : Int64)))) ∧ Fr n0 L ∧ Keep h0 h [a1] ∧ Exa Z h a1 "com/example/orbitwatch/orbitwatch/game/SeededRandom" ∧ Fld Z h a1 "com/example/orbitwatch/orbitwatch/game/SeededRandom" "state" "J" (.long (x1 + (-7046029254386353131 : Int64)))
set_option maxRecDepth 65536 in
set_option maxHeartbeats 40000000 in
theorem rm_nx (l : Launch) (Z : State) (a0 : Array Value) (hw : ∀ d ∈ tables_1, d.before a0 Z = true) (ws : List Jvm.Cond) (a1 : Addr) (x1 : Int64) (h0 : Heap) (n0 : Nat) (O_0 : Old Z n0 h0) (E_1 : Exa Z h0 a1 "com/example/orbitwatch/orbitwatch/game/SeededRandom") (F_1 : Fld Z h0 a1 "com/example/orbitwatch/orbitwatch/game/SeededRandom" "state" "J" (.long x1)) (G_1 : n0 ≤ a1) :
    own_Met l (⟨"com/example/orbitwatch/orbitwatch/game/SeededRandom", "nextLong", "()J"⟩ : MethodName) prog_45_method_3_code 1 (some .long) ws ({ frames := 1, cells := 0, slots := 0, locals := 13 } : Room) #[(.ref a1)] Z h0 (Qrm_nx Z a1 x1 h0 n0) := by
  refine own_body own_pn10 ?_
  intro p e s m below meth c T0 X0 hx hby hml hown hnm hret hlk hZ e0
  have N0 := Fr.nil n0
  refine own_st (fun t k => castTop (own_ef_rm_nx m a1) k) ?_
  show own_Go p.tables e below (T0.setTop (mkF m 0 #[.val (.ref a1)] [])) _
  have Z0 := own_Z0 O_0
  refine own_aloadN X0 hx hby own_d10_0 (pc' := 1) rfl rfl rfl ?_
  refine own_dup X0 hx hby own_d10_1 (pc' := 2) rfl rfl ?_
  refine own_getF X0 hx hby own_d10_2 (pc' := 5) rfl hZ hown (host := "") (Or.inl (own_t hw 57 rfl)) Via.refl e0 F_1 ?_
  intro T277 X277 e277
  refine own_ldc2 X277 hx hby own_d10_5 (pc' := 8) rfl hZ hown (own_t hw 52 rfl) ?_
  refine own_ladd X277 hx hby own_d10_8 (pc' := 9) rfl rfl ?_
  refine own_put X277 hx hby own_d10_9 (pc' := 12) rfl hZ hown (host := "") (Or.inl (own_t hw 57 rfl)) Via.refl e277 F_1 E_1 (Or.inl (own_t hw 58 rfl)) (own_t hw 46 rfl) (ty := .long) (by decide) rfl rfl ?_
  intro T278 h278 X278 e278 W278
  have F278 := (F_1).same W278
  have N278 := Fr.snoc X278 N0 G_1
  refine own_aloadN X278 hx hby own_d10_12 (pc' := 13) rfl rfl rfl ?_
  refine own_getF X278 hx hby own_d10_13 (pc' := 16) rfl hZ hown (host := "") (Or.inl (own_t hw 57 rfl)) Via.refl e278 F278 ?_
  intro T279 X279 e279
  refine own_callS X279 hx hZ (rm_mix l Z a0 hw [] (x1 + (-7046029254386353131 : Int64)) h278 n0) hown (own_t hw 47 rfl) (own_t hw 48 rfl) (own_t hw 32 rfl) (own_t hw 49 rfl) (by decide) (W := 0) (by decide) (by decide) (by rw [hml]; rfl) (argsL := [(.long (x1 + (-7046029254386353131 : Int64)))]) (rest := []) rfl (lenOf own_pd14 rfl) rfl (Nat.le_of_eq rfl) (hb hby own_d10_16) e279 (by decide) (by decide) ?_
  intro v280 T280 L280 X280 hQ280
  obtain ⟨hv280, N280q, e280⟩ := hQ280
  subst hv280
  have N280 := Fr.app N278 N280q
  show own_Go p.tables e below (T280.setTop (mkF m 19 #[.val (.ref a1)] [(.long (own_mx (x1 + (-7046029254386353131 : Int64))))])) _
  exact own_retJ X280 hx hret (hb hby own_d10_19) hlk (by decide) (by decide) ⟨rfl, N280, by rw [show T280.heap = _ from e280]; exact ⟨((Keep.refl h0 [a1]).wr W278 (Or.inl (List.mem_of_getElem? (i := 0) rfl))), (E_1.wr W278), F278⟩⟩
theorem own_pd15 : parseMethodDescriptor "()I" = some ⟨[], some .int⟩ := by decide +kernel
theorem own_pd16 : parseMethodDescriptor "(J)V" = some ⟨[.long], none⟩ := by decide +kernel
theorem own_d5_0 : decode prog_45_method_2_code 0 = .ok (.lconst 0, 1) := by decide +kernel
theorem own_d5_1 : decode prog_45_method_2_code 1 = .ok (.lstore_n 3, 1) := by decide +kernel
theorem own_d5_2 : decode prog_45_method_2_code 2 = .ok (.iconst 0, 1) := by decide +kernel
theorem own_d5_3 : decode prog_45_method_2_code 3 = .ok (.istore 5, 2) := by decide +kernel
theorem own_d5_5 : decode prog_45_method_2_code 5 = .ok (.iload 5, 2) := by decide +kernel
theorem own_d5_7 : decode prog_45_method_2_code 7 = .ok (.aload_n 2, 1) := by decide +kernel
theorem own_d5_8 : decode prog_45_method_2_code 8 = .ok (.invokevirtual 13, 3) := by decide +kernel
theorem own_d5_11 : decode prog_45_method_2_code 11 = .ok (.if_icmp .ge 23, 3) := by decide +kernel
theorem own_d5_34 : decode prog_45_method_2_code 34 = .ok (.new 8, 3) := by decide +kernel
theorem own_d5_37 : decode prog_45_method_2_code 37 = .ok (.dup, 1) := by decide +kernel
theorem own_d5_38 : decode prog_45_method_2_code 38 = .ok (.lload_n 0, 1) := by decide +kernel
theorem own_d5_39 : decode prog_45_method_2_code 39 = .ok (.invokestatic 25, 3) := by decide +kernel
theorem own_d5_42 : decode prog_45_method_2_code 42 = .ok (.lload_n 3, 1) := by decide +kernel
theorem own_d5_43 : decode prog_45_method_2_code 43 = .ok (.ldc2_w 29, 3) := by decide +kernel
theorem own_d5_46 : decode prog_45_method_2_code 46 = .ok (.ladd, 1) := by decide +kernel
theorem own_d5_47 : decode prog_45_method_2_code 47 = .ok (.invokestatic 25, 3) := by decide +kernel
theorem own_d5_50 : decode prog_45_method_2_code 50 = .ok (.lxor, 1) := by decide +kernel
theorem own_d5_51 : decode prog_45_method_2_code 51 = .ok (.invokespecial 31, 3) := by decide +kernel
theorem own_d5_54 : decode prog_45_method_2_code 54 = .ok (.areturn, 1) := by decide +kernel
theorem own_ef_rm_of0_0 (m : MethodId) (p1 : Int64) (a1 : Addr) : entryFrame m #[(.long p1), (.ref a1)] 6 = mkF m 0 #[.val (.long p1), .second, .val (.ref a1), .unset, .unset, .unset] [] := by first | (simp [entryFrame, mkF, argsToLocals, Value.category]; done) | rfl
def Qrm_of0_0 (Z : State) (p1 : Int64) (a1 : Addr) (a2 : Addr) (gS : Int32) (fm : Value) (h0 : Heap) (n0 : Nat) (v : Option Value) (h : Heap) (L : List Loc) : Prop := ∃ b, v = some (.ref b) ∧ Fr n0 L ∧ Keep h0 h [] ∧ h0.size ≤ b ∧ Exa Z h b "com/example/orbitwatch/orbitwatch/game/SeededRandom" ∧ Fld Z h b "com/example/orbitwatch/orbitwatch/game/SeededRandom" "state" "J" (.long ((own_mx p1) ^^^ (own_mx (-7046029254386353131 : Int64))))
set_option maxRecDepth 65536 in
set_option maxHeartbeats 40000000 in
theorem rm_of0_0 (l : Launch) (Z : State) (a0 : Array Value) (hw : ∀ d ∈ tables_1, d.before a0 Z = true) (ws : List Jvm.Cond) (p1 : Int64) (a1 : Addr) (a2 : Addr) (gS : Int32) (fm : Value) (h0 : Heap) (n0 : Nat) (O_0 : Old Z n0 h0) (S_S : Sta Z Z.heap "java/lang/String" "COMPACT_STRINGS" "Z" (.int gS)) (hS : ¬ gS = 0) (S_A : Sta Z Z.heap "java/lang/StringUTF16" "$assertionsDisabled" "Z" (.int (1 : Int32))) (S_H : Sta Z Z.heap "java/lang/StringUTF16" "HI_BYTE_SHIFT" "I" (.int (0 : Int32))) (S_L : Sta Z Z.heap "java/lang/StringUTF16" "LO_BYTE_SHIFT" "I" (.int (8 : Int32))) (S_F : Sta Z Z.heap "jdk/internal/util/Preconditions" "SIOOBE_FORMATTER" "Ljava/util/function/BiFunction;" fm) (hfm : fm.isRef = true) (E_1 : Exa Z h0 a1 "java/lang/String") (F_c : Fld Z h0 a1 "java/lang/String" "coder" "B" (.int (0 : Int32))) (F_v : Fld Z h0 a1 "java/lang/String" "value" "[B" (.ref a2)) (A_2 : own_Ar Z h0 a2 .byte []) :
    own_Met l (⟨"com/example/orbitwatch/orbitwatch/game/SeededRandom", "of", "(JLjava/lang/String;)Lcom/example/orbitwatch/orbitwatch/game/SeededRandom;"⟩ : MethodName) prog_45_method_2_code 6 (some (.object "com/example/orbitwatch/orbitwatch/game/SeededRandom")) ws ({ frames := 5, cells := 1, slots := 1, locals := 70 } : Room) #[(.long p1), (.ref a1)] Z h0 (Qrm_of0_0 Z p1 a1 a2 gS fm h0 n0) := by
  refine own_body own_pn5 ?_
  intro p e s m below meth c T0 X0 hx hby hml hown hnm hret hlk hZ e0
  have N0 := Fr.nil n0
  refine own_st (fun t k => castTop (own_ef_rm_of0_0 m p1 a1) k) ?_
  show own_Go p.tables e below (T0.setTop (mkF m 0 #[.val (.long p1), .second, .val (.ref a1), .unset, .unset, .unset] [])) _
  have Z0 := own_Z0 O_0
  refine own_lconst X0 hx hby own_d5_0 (pc' := 1) rfl (z := (0 : Int64)) (by decide) ?_
  refine own_lstoreN X0 hx hby own_d5_1 (pc' := 2) rfl (Ls' := #[.val (.long p1), .second, .val (.ref a1), .val (.long (0 : Int64)), .second, .unset]) rfl ?_
  refine own_iconst X0 hx hby own_d5_2 (pc' := 3) rfl (z := (0 : Int32)) (by decide) ?_
  refine own_istore X0 hx hby own_d5_3 (pc' := 5) rfl (Ls' := #[.val (.long p1), .second, .val (.ref a1), .val (.long (0 : Int64)), .second, .val (.int (0 : Int32))]) rfl ?_
  refine own_iload X0 hx hby own_d5_5 (pc' := 7) rfl rfl ?_
  refine own_aloadN X0 hx hby own_d5_7 (pc' := 8) rfl rfl rfl ?_
  refine own_callV X0 hx hZ (rm_ln0_0 l Z a0 hw [] a1 a2  gS h0 n0 (O_0) S_S hS E_1 F_c F_v A_2) hown (own_t hw 34 rfl) (own_t hw 35 rfl) (own_t hw 37 rfl) (own_t hw 36 rfl) (own_t hw 38 rfl) (own_t hw 4 rfl) (by decide) E_1 (W := 1) (by decide) (by decide) (by rw [hml]; rfl) (argsL := []) (rest := [(.int (0 : Int32))]) rfl (lenOf own_pd15 rfl) rfl (Nat.le_of_eq rfl) (hb hby own_d5_8) e0 (by decide) (by decide) ?_
  intro v281 T281 L281 X281 hQ281
  obtain ⟨hv281, N281q, e281⟩ := hQ281
  subst hv281
  have N281 := Fr.app N0 N281q
  show own_Go p.tables e below (T281.setTop (mkF m 11 #[.val (.long p1), .second, .val (.ref a1), .val (.long (0 : Int64)), .second, .val (.int (0 : Int32))] [(.int (0 : Int32)), (.int (0 : Int32))])) _
  refine own_icmpYes X281 hx hby own_d5_11 (pc' := 34) (by decide) (by decide) ?_
  refine own_new X281 hx hby own_d5_34 (pc' := 37) rfl hZ hown (own_t hw 45 rfl) (own_t hw 46 rfl) (own_t hw 32 rfl) e281 (by decide) (by decide) ?_
  intro T282 h282 b282 X282 e282 g282 E282 A282 D282
  have F282_state : Fld Z h282 b282 "com/example/orbitwatch/orbitwatch/game/SeededRandom" "state" "J" (.long (0 : Int64)) := D282 (Or.inl (own_t hw 58 rfl)) (ty := .long) (by decide)
  have l282 : n0 ≤ b282 := (Nat.le_trans Z0 (Nat.le_trans (Nat.le_refl _) (Nat.le_of_eq g282.symm)))
  refine own_dup X282 hx hby own_d5_37 (pc' := 38) rfl rfl ?_
  refine own_lloadN X282 hx hby own_d5_38 (pc' := 39) rfl rfl ?_
  refine own_callS X282 hx hZ (rm_mix l Z a0 hw [] p1 h282 n0) hown (own_t hw 47 rfl) (own_t hw 48 rfl) (own_t hw 32 rfl) (own_t hw 49 rfl) (by decide) (W := 2) (by decide) (by decide) (by rw [hml]; rfl) (argsL := [(.long p1)]) (rest := [(.ref b282), (.ref b282)]) rfl (lenOf own_pd14 rfl) rfl (Nat.le_of_eq rfl) (hb hby own_d5_39) e282 (by decide) (by decide) ?_
  intro v283 T283 L283 X283 hQ283
  obtain ⟨hv283, N283q, e283⟩ := hQ283
  subst hv283
  have N283 := Fr.app N281 N283q
  show own_Go p.tables e below (T283.setTop (mkF m 42 #[.val (.long p1), .second, .val (.ref a1), .val (.long (0 : Int64)), .second, .val (.int (0 : Int32))] [(.long (own_mx p1)), (.ref b282), (.ref b282)])) _
  refine own_lloadN X283 hx hby own_d5_42 (pc' := 43) rfl rfl ?_
  refine own_ldc2 X283 hx hby own_d5_43 (pc' := 46) rfl hZ hown (own_t hw 52 rfl) ?_
  refine own_ladd X283 hx hby own_d5_46 (pc' := 47) rfl (z := (-7046029254386353131 : Int64)) (by decide) ?_
  refine own_callS X283 hx hZ (rm_mix l Z a0 hw [] (-7046029254386353131 : Int64) h282 n0) hown (own_t hw 47 rfl) (own_t hw 48 rfl) (own_t hw 32 rfl) (own_t hw 49 rfl) (by decide) (W := 4) (by decide) (by decide) (by rw [hml]; rfl) (argsL := [(.long (-7046029254386353131 : Int64))]) (rest := [(.long (own_mx p1)), (.ref b282), (.ref b282)]) rfl (lenOf own_pd14 rfl) rfl (Nat.le_of_eq rfl) (hb hby own_d5_47) e283 (by decide) (by decide) ?_
  intro v284 T284 L284 X284 hQ284
  obtain ⟨hv284, N284q, e284⟩ := hQ284
  subst hv284
  have N284 := Fr.app N283 N284q
  show own_Go p.tables e below (T284.setTop (mkF m 50 #[.val (.long p1), .second, .val (.ref a1), .val (.long (0 : Int64)), .second, .val (.int (0 : Int32))] [(.long (own_mx (-7046029254386353131 : Int64))), (.long (own_mx p1)), (.ref b282), (.ref b282)])) _
  refine own_lxor X284 hx hby own_d5_50 (pc' := 51) rfl rfl ?_
  refine own_callSp X284 hx hZ (rm_sr l Z a0 hw [] b282 ((own_mx p1) ^^^ (own_mx (-7046029254386353131 : Int64))) h282 n0 ((O_0.ext E282)) (A282) (F282_state) l282) rfl hown (own_t hw 53 rfl) (own_t hw 54 rfl) (own_t hw 55 rfl) (own_t hw 32 rfl) (by decide) (W := 1) (by decide) (by decide) (by rw [hml]; rfl) (argsL := [(.long ((own_mx p1) ^^^ (own_mx (-7046029254386353131 : Int64))))]) (rest := [(.ref b282)]) rfl (lenOf own_pd16 rfl) rfl (Nat.le_of_eq rfl) (hb hby own_d5_51) e284 (by decide) (by decide) ?_
  intro v285 T285 L285 X285 hQ285
  obtain ⟨hv285, N285q, K285, E285, F285⟩ := hQ285
  subst hv285
  have N285 := Fr.app N284 N285q
  show own_Go p.tables e below (T285.setTop (mkF m 54 #[.val (.long p1), .second, .val (.ref a1), .val (.long (0 : Int64)), .second, .val (.int (0 : Int32))] [(.ref b282)])) _
  exact own_retA X285 hx hret rfl rfl (hb hby own_d5_54) hlk (by decide) (by decide) ⟨b282, rfl, N285, (((Keep.refl h0 []).ext E282).trans K285 (allS (Or.inr (Nat.le_trans (Nat.le_refl _) (Nat.le_of_eq g282.symm))) all0)), (Nat.le_trans (Nat.le_refl _) (Nat.le_of_eq g282.symm)), E285, F285⟩
theorem own_pd17 : parseMethodDescriptor "(I)C" = some ⟨[.int], some .char⟩ := by decide +kernel
theorem own_d5_14 : decode prog_45_method_2_code 14 = .ok (.lload_n 3, 1) := by decide +kernel
theorem own_d5_15 : decode prog_45_method_2_code 15 = .ok (.ldc2_w 19, 3) := by decide +kernel
theorem own_d5_18 : decode prog_45_method_2_code 18 = .ok (.lmul, 1) := by decide +kernel
theorem own_d5_19 : decode prog_45_method_2_code 19 = .ok (.aload_n 2, 1) := by decide +kernel
theorem own_d5_20 : decode prog_45_method_2_code 20 = .ok (.iload 5, 2) := by decide +kernel
theorem own_d5_22 : decode prog_45_method_2_code 22 = .ok (.invokevirtual 21, 3) := by decide +kernel
theorem own_d5_25 : decode prog_45_method_2_code 25 = .ok (.i2l, 1) := by decide +kernel
theorem own_d5_26 : decode prog_45_method_2_code 26 = .ok (.ladd, 1) := by decide +kernel
theorem own_d5_27 : decode prog_45_method_2_code 27 = .ok (.lstore_n 3, 1) := by decide +kernel
theorem own_d5_28 : decode prog_45_method_2_code 28 = .ok (.iinc 5 1, 3) := by decide +kernel
theorem own_d5_31 : decode prog_45_method_2_code 31 = .ok (.goto (-26), 3) := by decide +kernel
theorem own_ef_rm_of1_0 (m : MethodId) (p1 : Int64) (a1 : Addr) : entryFrame m #[(.long p1), (.ref a1)] 6 = mkF m 0 #[.val (.long p1), .second, .val (.ref a1), .unset, .unset, .unset] [] := by first | (simp [entryFrame, mkF, argsToLocals, Value.category]; done) | rfl
def Qrm_of1_0 (Z : State) (p1 : Int64) (a1 : Addr) (a2 : Addr) (c0 : Int32) (gS : Int32) (fm : Value) (h0 : Heap) (n0 : Nat) (v : Option Value) (h : Heap) (L : List Loc) : Prop := ∃ b, v = some (.ref b) ∧ Fr n0 L ∧ Keep h0 h [] ∧ h0.size ≤ b ∧ Exa Z h b "com/example/orbitwatch/orbitwatch/game/SeededRandom" ∧ Fld Z h b "com/example/orbitwatch/orbitwatch/game/SeededRandom" "state" "J" (.long ((own_mx p1) ^^^ (own_mx ((c0.toInt64) + (-7046029254386353131 : Int64)))))
set_option maxRecDepth 65536 in
set_option maxHeartbeats 40000000 in
theorem rm_of1_0 (l : Launch) (Z : State) (a0 : Array Value) (hw : ∀ d ∈ tables_1, d.before a0 Z = true) (ws : List Jvm.Cond) (p1 : Int64) (a1 : Addr) (a2 : Addr) (c0 : Int32) (gS : Int32) (fm : Value) (h0 : Heap) (n0 : Nat) (O_0 : Old Z n0 h0) (S_S : Sta Z Z.heap "java/lang/String" "COMPACT_STRINGS" "Z" (.int gS)) (hS : ¬ gS = 0) (S_A : Sta Z Z.heap "java/lang/StringUTF16" "$assertionsDisabled" "Z" (.int (1 : Int32))) (S_H : Sta Z Z.heap "java/lang/StringUTF16" "HI_BYTE_SHIFT" "I" (.int (0 : Int32))) (S_L : Sta Z Z.heap "java/lang/StringUTF16" "LO_BYTE_SHIFT" "I" (.int (8 : Int32))) (S_F : Sta Z Z.heap "jdk/internal/util/Preconditions" "SIOOBE_FORMATTER" "Ljava/util/function/BiFunction;" fm) (hfm : fm.isRef = true) (E_1 : Exa Z h0 a1 "java/lang/String") (F_c : Fld Z h0 a1 "java/lang/String" "coder" "B" (.int (0 : Int32))) (F_v : Fld Z h0 a1 "java/lang/String" "value" "[B" (.ref a2)) (A_2 : own_Ar Z h0 a2 .byte [(.int (lo8 c0))]) (hb0 : own_W c0) (hk0 : ¬ (255 : Int32) < c0) :
    own_Met l (⟨"com/example/orbitwatch/orbitwatch/game/SeededRandom", "of", "(JLjava/lang/String;)Lcom/example/orbitwatch/orbitwatch/game/SeededRandom;"⟩ : MethodName) prog_45_method_2_code 6 (some (.object "com/example/orbitwatch/orbitwatch/game/SeededRandom")) ws ({ frames := 5, cells := 1, slots := 1, locals := 70 } : Room) #[(.long p1), (.ref a1)] Z h0 (Qrm_of1_0 Z p1 a1 a2 c0 gS fm h0 n0) := by
  refine own_body own_pn5 ?_
  intro p e s m below meth c T0 X0 hx hby hml hown hnm hret hlk hZ e0
  have N0 := Fr.nil n0
  refine own_st (fun t k => castTop (own_ef_rm_of1_0 m p1 a1) k) ?_
  show own_Go p.tables e below (T0.setTop (mkF m 0 #[.val (.long p1), .second, .val (.ref a1), .unset, .unset, .unset] [])) _
  have Z0 := own_Z0 O_0
  refine own_lconst X0 hx hby own_d5_0 (pc' := 1) rfl (z := (0 : Int64)) (by decide) ?_
  refine own_lstoreN X0 hx hby own_d5_1 (pc' := 2) rfl (Ls' := #[.val (.long p1), .second, .val (.ref a1), .val (.long (0 : Int64)), .second, .unset]) rfl ?_
  refine own_iconst X0 hx hby own_d5_2 (pc' := 3) rfl (z := (0 : Int32)) (by decide) ?_
  refine own_istore X0 hx hby own_d5_3 (pc' := 5) rfl (Ls' := #[.val (.long p1), .second, .val (.ref a1), .val (.long (0 : Int64)), .second, .val (.int (0 : Int32))]) rfl ?_
  refine own_iload X0 hx hby own_d5_5 (pc' := 7) rfl rfl ?_
  refine own_aloadN X0 hx hby own_d5_7 (pc' := 8) rfl rfl rfl ?_
  refine own_callV X0 hx hZ (rm_ln1_0 l Z a0 hw [] a1 a2 c0 gS h0 n0 (O_0) S_S hS E_1 F_c F_v A_2) hown (own_t hw 34 rfl) (own_t hw 35 rfl) (own_t hw 37 rfl) (own_t hw 36 rfl) (own_t hw 38 rfl) (own_t hw 4 rfl) (by decide) E_1 (W := 1) (by decide) (by decide) (by rw [hml]; rfl) (argsL := []) (rest := [(.int (0 : Int32))]) rfl (lenOf own_pd15 rfl) rfl (Nat.le_of_eq rfl) (hb hby own_d5_8) e0 (by decide) (by decide) ?_
  intro v286 T286 L286 X286 hQ286
  obtain ⟨hv286, N286q, e286⟩ := hQ286
  subst hv286
  have N286 := Fr.app N0 N286q
  show own_Go p.tables e below (T286.setTop (mkF m 11 #[.val (.long p1), .second, .val (.ref a1), .val (.long (0 : Int64)), .second, .val (.int (0 : Int32))] [(.int (1 : Int32)), (.int (0 : Int32))])) _
  refine own_icmpNo X286 hx hby own_d5_11 (pc' := 14) rfl (by decide) ?_
  refine own_lloadN X286 hx hby own_d5_14 (pc' := 15) rfl rfl ?_
  refine own_ldc2 X286 hx hby own_d5_15 (pc' := 18) rfl hZ hown (own_t hw 94 rfl) ?_
  refine own_lmul X286 hx hby own_d5_18 (pc' := 19) rfl (z := (0 : Int64)) (by decide) ?_
  refine own_aloadN X286 hx hby own_d5_19 (pc' := 20) rfl rfl rfl ?_
  refine own_iload X286 hx hby own_d5_20 (pc' := 22) rfl rfl ?_
  refine own_callV X286 hx hZ (rm_ch1_0_0 l Z a0 hw [] a1 a2 c0 gS fm h0 n0 (O_0) S_S hS S_A S_H S_L S_F hfm E_1 F_c F_v A_2 hb0 hk0) hown (own_t hw 95 rfl) (own_t hw 96 rfl) (own_t hw 98 rfl) (own_t hw 97 rfl) (own_t hw 99 rfl) (own_t hw 4 rfl) (by decide) E_1 (W := 2) (by decide) (by decide) (by rw [hml]; rfl) (argsL := [(.int (0 : Int32))]) (rest := [(.long (0 : Int64))]) rfl (lenOf own_pd17 rfl) rfl (Nat.le_of_eq rfl) (hb hby own_d5_22) e286 (by decide) (by decide) ?_
  intro v287 T287 L287 X287 hQ287
  obtain ⟨hv287, N287q, e287⟩ := hQ287
  subst hv287
  have N287 := Fr.app N286 N287q
  show own_Go p.tables e below (T287.setTop (mkF m 25 #[.val (.long p1), .second, .val (.ref a1), .val (.long (0 : Int64)), .second, .val (.int (0 : Int32))] [(.int c0), (.long (0 : Int64))])) _
  refine own_i2l X287 hx hby own_d5_25 (pc' := 26) rfl rfl ?_
  refine own_ladd X287 hx hby own_d5_26 (pc' := 27) rfl rfl ?_
  refine own_lstoreN X287 hx hby own_d5_27 (pc' := 28) rfl (Ls' := #[.val (.long p1), .second, .val (.ref a1), .val (.long ((0 : Int64) + (c0.toInt64))), .second, .val (.int (0 : Int32))]) rfl ?_
  refine own_iinc X287 hx hby own_d5_28 (pc' := 31) rfl rfl (z := (1 : Int32)) (by decide) (Ls' := #[.val (.long p1), .second, .val (.ref a1), .val (.long ((0 : Int64) + (c0.toInt64))), .second, .val (.int (1 : Int32))]) rfl ?_
  refine own_goto X287 hx hby own_d5_31 (pc' := 5) (by decide) ?_
  refine own_iload X287 hx hby own_d5_5 (pc' := 7) rfl rfl ?_
  refine own_aloadN X287 hx hby own_d5_7 (pc' := 8) rfl rfl rfl ?_
  refine own_callV X287 hx hZ (rm_ln1_0 l Z a0 hw [] a1 a2 c0 gS h0 n0 (O_0) S_S hS E_1 F_c F_v A_2) hown (own_t hw 34 rfl) (own_t hw 35 rfl) (own_t hw 37 rfl) (own_t hw 36 rfl) (own_t hw 38 rfl) (own_t hw 4 rfl) (by decide) E_1 (W := 1) (by decide) (by decide) (by rw [hml]; rfl) (argsL := []) (rest := [(.int (1 : Int32))]) rfl (lenOf own_pd15 rfl) rfl (Nat.le_of_eq rfl) (hb hby own_d5_8) e287 (by decide) (by decide) ?_
  intro v288 T288 L288 X288 hQ288
  obtain ⟨hv288, N288q, e288⟩ := hQ288
  subst hv288
  have N288 := Fr.app N287 N288q
  show own_Go p.tables e below (T288.setTop (mkF m 11 #[.val (.long p1), .second, .val (.ref a1), .val (.long ((0 : Int64) + (c0.toInt64))), .second, .val (.int (1 : Int32))] [(.int (1 : Int32)), (.int (1 : Int32))])) _
  refine own_icmpYes X288 hx hby own_d5_11 (pc' := 34) (by decide) (by decide) ?_
  refine own_new X288 hx hby own_d5_34 (pc' := 37) rfl hZ hown (own_t hw 45 rfl) (own_t hw 46 rfl) (own_t hw 32 rfl) e288 (by decide) (by decide) ?_
  intro T289 h289 b289 X289 e289 g289 E289 A289 D289
  have F289_state : Fld Z h289 b289 "com/example/orbitwatch/orbitwatch/game/SeededRandom" "state" "J" (.long (0 : Int64)) := D289 (Or.inl (own_t hw 58 rfl)) (ty := .long) (by decide)
  have l289 : n0 ≤ b289 := (Nat.le_trans Z0 (Nat.le_trans (Nat.le_refl _) (Nat.le_of_eq g289.symm)))
  refine own_dup X289 hx hby own_d5_37 (pc' := 38) rfl rfl ?_
  refine own_lloadN X289 hx hby own_d5_38 (pc' := 39) rfl rfl ?_
  refine own_callS X289 hx hZ (rm_mix l Z a0 hw [] p1 h289 n0) hown (own_t hw 47 rfl) (own_t hw 48 rfl) (own_t hw 32 rfl) (own_t hw 49 rfl) (by decide) (W := 2) (by decide) (by decide) (by rw [hml]; rfl) (argsL := [(.long p1)]) (rest := [(.ref b289), (.ref b289)]) rfl (lenOf own_pd14 rfl) rfl (Nat.le_of_eq rfl) (hb hby own_d5_39) e289 (by decide) (by decide) ?_
  intro v290 T290 L290 X290 hQ290
  obtain ⟨hv290, N290q, e290⟩ := hQ290
  subst hv290
  have N290 := Fr.app N288 N290q
  show own_Go p.tables e below (T290.setTop (mkF m 42 #[.val (.long p1), .second, .val (.ref a1), .val (.long ((0 : Int64) + (c0.toInt64))), .second, .val (.int (1 : Int32))] [(.long (own_mx p1)), (.ref b289), (.ref b289)])) _
  refine own_lloadN X290 hx hby own_d5_42 (pc' := 43) rfl rfl ?_
  refine own_ldc2 X290 hx hby own_d5_43 (pc' := 46) rfl hZ hown (own_t hw 52 rfl) ?_
  refine own_ladd X290 hx hby own_d5_46 (pc' := 47) rfl rfl ?_
  refine own_callS X290 hx hZ (rm_mix l Z a0 hw [] (((0 : Int64) + (c0.toInt64)) + (-7046029254386353131 : Int64)) h289 n0) hown (own_t hw 47 rfl) (own_t hw 48 rfl) (own_t hw 32 rfl) (own_t hw 49 rfl) (by decide) (W := 4) (by decide) (by decide) (by rw [hml]; rfl) (argsL := [(.long (((0 : Int64) + (c0.toInt64)) + (-7046029254386353131 : Int64)))]) (rest := [(.long (own_mx p1)), (.ref b289), (.ref b289)]) rfl (lenOf own_pd14 rfl) rfl (Nat.le_of_eq rfl) (hb hby own_d5_47) e290 (by decide) (by decide) ?_
  intro v291 T291 L291 X291 hQ291
  obtain ⟨hv291, N291q, e291⟩ := hQ291
  subst hv291
  have N291 := Fr.app N290 N291q
  show own_Go p.tables e below (T291.setTop (mkF m 50 #[.val (.long p1), .second, .val (.ref a1), .val (.long ((0 : Int64) + (c0.toInt64))), .second, .val (.int (1 : Int32))] [(.long (own_mx (((0 : Int64) + (c0.toInt64)) + (-7046029254386353131 : Int64)))), (.long (own_mx p1)), (.ref b289), (.ref b289)])) _
  refine own_lxor X291 hx hby own_d5_50 (pc' := 51) rfl rfl ?_
  refine own_callSp X291 hx hZ (rm_sr l Z a0 hw [] b289 ((own_mx p1) ^^^ (own_mx (((0 : Int64) + (c0.toInt64)) + (-7046029254386353131 : Int64)))) h289 n0 ((O_0.ext E289)) (A289) (F289_state) l289) rfl hown (own_t hw 53 rfl) (own_t hw 54 rfl) (own_t hw 55 rfl) (own_t hw 32 rfl) (by decide) (W := 1) (by decide) (by decide) (by rw [hml]; rfl) (argsL := [(.long ((own_mx p1) ^^^ (own_mx (((0 : Int64) + (c0.toInt64)) + (-7046029254386353131 : Int64)))))]) (rest := [(.ref b289)]) rfl (lenOf own_pd16 rfl) rfl (Nat.le_of_eq rfl) (hb hby own_d5_51) e291 (by decide) (by decide) ?_
  intro v292 T292 L292 X292 hQ292
  obtain ⟨hv292, N292q, K292, E292, F292⟩ := hQ292
  subst hv292
  have N292 := Fr.app N291 N292q
  show own_Go p.tables e below (T292.setTop (mkF m 54 #[.val (.long p1), .second, .val (.ref a1), .val (.long ((0 : Int64) + (c0.toInt64))), .second, .val (.int (1 : Int32))] [(.ref b289)])) _
  exact own_retA X292 hx hret rfl rfl (hb hby own_d5_54) hlk (by decide) (by decide) ⟨b289, rfl, N292, (((Keep.refl h0 []).ext E289).trans K292 (allS (Or.inr (Nat.le_trans (Nat.le_refl _) (Nat.le_of_eq g289.symm))) all0)), (Nat.le_trans (Nat.le_refl _) (Nat.le_of_eq g289.symm)), E292, (by have q := F292; rw [own_nm1] at q; exact q)⟩
theorem own_ef_rm_of1_1 (m : MethodId) (p1 : Int64) (a1 : Addr) : entryFrame m #[(.long p1), (.ref a1)] 6 = mkF m 0 #[.val (.long p1), .second, .val (.ref a1), .unset, .unset, .unset] [] := by first | (simp [entryFrame, mkF, argsToLocals, Value.category]; done) | rfl
def Qrm_of1_1 (Z : State) (p1 : Int64) (a1 : Addr) (a2 : Addr) (c0 : Int32) (gS : Int32) (fm : Value) (h0 : Heap) (n0 : Nat) (v : Option Value) (h : Heap) (L : List Loc) : Prop := ∃ b, v = some (.ref b) ∧ Fr n0 L ∧ Keep h0 h [] ∧ h0.size ≤ b ∧ Exa Z h b "com/example/orbitwatch/orbitwatch/game/SeededRandom" ∧ Fld Z h b "com/example/orbitwatch/orbitwatch/game/SeededRandom" "state" "J" (.long ((own_mx p1) ^^^ (own_mx ((c0.toInt64) + (-7046029254386353131 : Int64)))))
set_option maxRecDepth 65536 in
set_option maxHeartbeats 40000000 in
theorem rm_of1_1 (l : Launch) (Z : State) (a0 : Array Value) (hw : ∀ d ∈ tables_1, d.before a0 Z = true) (ws : List Jvm.Cond) (p1 : Int64) (a1 : Addr) (a2 : Addr) (c0 : Int32) (gS : Int32) (fm : Value) (h0 : Heap) (n0 : Nat) (O_0 : Old Z n0 h0) (S_S : Sta Z Z.heap "java/lang/String" "COMPACT_STRINGS" "Z" (.int gS)) (hS : ¬ gS = 0) (S_A : Sta Z Z.heap "java/lang/StringUTF16" "$assertionsDisabled" "Z" (.int (1 : Int32))) (S_H : Sta Z Z.heap "java/lang/StringUTF16" "HI_BYTE_SHIFT" "I" (.int (0 : Int32))) (S_L : Sta Z Z.heap "java/lang/StringUTF16" "LO_BYTE_SHIFT" "I" (.int (8 : Int32))) (S_F : Sta Z Z.heap "jdk/internal/util/Preconditions" "SIOOBE_FORMATTER" "Ljava/util/function/BiFunction;" fm) (hfm : fm.isRef = true) (E_1 : Exa Z h0 a1 "java/lang/String") (F_c : Fld Z h0 a1 "java/lang/String" "coder" "B" (.int (1 : Int32))) (F_v : Fld Z h0 a1 "java/lang/String" "value" "[B" (.ref a2)) (A_2 : own_Ar Z h0 a2 .byte [(.int (lo8 c0)), (.int (hi8 c0))]) (hb0 : own_W c0) :
    own_Met l (⟨"com/example/orbitwatch/orbitwatch/game/SeededRandom", "of", "(JLjava/lang/String;)Lcom/example/orbitwatch/orbitwatch/game/SeededRandom;"⟩ : MethodName) prog_45_method_2_code 6 (some (.object "com/example/orbitwatch/orbitwatch/game/SeededRandom")) ws ({ frames := 5, cells := 1, slots := 1, locals := 70 } : Room) #[(.long p1), (.ref a1)] Z h0 (Qrm_of1_1 Z p1 a1 a2 c0 gS fm h0 n0) := by
  refine own_body own_pn5 ?_
  intro p e s m below meth c T0 X0 hx hby hml hown hnm hret hlk hZ e0
  have N0 := Fr.nil n0
  refine own_st (fun t k => castTop (own_ef_rm_of1_1 m p1 a1) k) ?_
  show own_Go p.tables e below (T0.setTop (mkF m 0 #[.val (.long p1), .second, .val (.ref a1), .unset, .unset, .unset] [])) _
  have Z0 := own_Z0 O_0
  refine own_lconst X0 hx hby own_d5_0 (pc' := 1) rfl (z := (0 : Int64)) (by decide) ?_
  refine own_lstoreN X0 hx hby own_d5_1 (pc' := 2) rfl (Ls' := #[.val (.long p1), .second, .val (.ref a1), .val (.long (0 : Int64)), .second, .unset]) rfl ?_
  refine own_iconst X0 hx hby own_d5_2 (pc' := 3) rfl (z := (0 : Int32)) (by decide) ?_
  refine own_istore X0 hx hby own_d5_3 (pc' := 5) rfl (Ls' := #[.val (.long p1), .second, .val (.ref a1), .val (.long (0 : Int64)), .second, .val (.int (0 : Int32))]) rfl ?_
  refine own_iload X0 hx hby own_d5_5 (pc' := 7) rfl rfl ?_
  refine own_aloadN X0 hx hby own_d5_7 (pc' := 8) rfl rfl rfl ?_
  refine own_callV X0 hx hZ (rm_ln1_1 l Z a0 hw [] a1 a2 c0 gS h0 n0 (O_0) S_S hS E_1 F_c F_v A_2) hown (own_t hw 34 rfl) (own_t hw 35 rfl) (own_t hw 37 rfl) (own_t hw 36 rfl) (own_t hw 38 rfl) (own_t hw 4 rfl) (by decide) E_1 (W := 1) (by decide) (by decide) (by rw [hml]; rfl) (argsL := []) (rest := [(.int (0 : Int32))]) rfl (lenOf own_pd15 rfl) rfl (Nat.le_of_eq rfl) (hb hby own_d5_8) e0 (by decide) (by decide) ?_
  intro v293 T293 L293 X293 hQ293
  obtain ⟨hv293, N293q, e293⟩ := hQ293
  subst hv293
  have N293 := Fr.app N0 N293q
  show own_Go p.tables e below (T293.setTop (mkF m 11 #[.val (.long p1), .second, .val (.ref a1), .val (.long (0 : Int64)), .second, .val (.int (0 : Int32))] [(.int (1 : Int32)), (.int (0 : Int32))])) _
  refine own_icmpNo X293 hx hby own_d5_11 (pc' := 14) rfl (by decide) ?_
  refine own_lloadN X293 hx hby own_d5_14 (pc' := 15) rfl rfl ?_
  refine own_ldc2 X293 hx hby own_d5_15 (pc' := 18) rfl hZ hown (own_t hw 94 rfl) ?_
  refine own_lmul X293 hx hby own_d5_18 (pc' := 19) rfl (z := (0 : Int64)) (by decide) ?_
  refine own_aloadN X293 hx hby own_d5_19 (pc' := 20) rfl rfl rfl ?_
  refine own_iload X293 hx hby own_d5_20 (pc' := 22) rfl rfl ?_
  refine own_callV X293 hx hZ (rm_ch1_1_0 l Z a0 hw [] a1 a2 c0 gS fm h0 n0 (O_0) S_S hS S_A S_H S_L S_F hfm E_1 F_c F_v A_2 hb0) hown (own_t hw 95 rfl) (own_t hw 96 rfl) (own_t hw 98 rfl) (own_t hw 97 rfl) (own_t hw 99 rfl) (own_t hw 4 rfl) (by decide) E_1 (W := 2) (by decide) (by decide) (by rw [hml]; rfl) (argsL := [(.int (0 : Int32))]) (rest := [(.long (0 : Int64))]) rfl (lenOf own_pd17 rfl) rfl (Nat.le_of_eq rfl) (hb hby own_d5_22) e293 (by decide) (by decide) ?_
  intro v294 T294 L294 X294 hQ294
  obtain ⟨hv294, N294q, e294⟩ := hQ294
  subst hv294
  have N294 := Fr.app N293 N294q
  show own_Go p.tables e below (T294.setTop (mkF m 25 #[.val (.long p1), .second, .val (.ref a1), .val (.long (0 : Int64)), .second, .val (.int (0 : Int32))] [(.int c0), (.long (0 : Int64))])) _
  refine own_i2l X294 hx hby own_d5_25 (pc' := 26) rfl rfl ?_
  refine own_ladd X294 hx hby own_d5_26 (pc' := 27) rfl rfl ?_
  refine own_lstoreN X294 hx hby own_d5_27 (pc' := 28) rfl (Ls' := #[.val (.long p1), .second, .val (.ref a1), .val (.long ((0 : Int64) + (c0.toInt64))), .second, .val (.int (0 : Int32))]) rfl ?_
  refine own_iinc X294 hx hby own_d5_28 (pc' := 31) rfl rfl (z := (1 : Int32)) (by decide) (Ls' := #[.val (.long p1), .second, .val (.ref a1), .val (.long ((0 : Int64) + (c0.toInt64))), .second, .val (.int (1 : Int32))]) rfl ?_
  refine own_goto X294 hx hby own_d5_31 (pc' := 5) (by decide) ?_
  refine own_iload X294 hx hby own_d5_5 (pc' := 7) rfl rfl ?_
  refine own_aloadN X294 hx hby own_d5_7 (pc' := 8) rfl rfl rfl ?_
  refine own_callV X294 hx hZ (rm_ln1_1 l Z a0 hw [] a1 a2 c0 gS h0 n0 (O_0) S_S hS E_1 F_c F_v A_2) hown (own_t hw 34 rfl) (own_t hw 35 rfl) (own_t hw 37 rfl) (own_t hw 36 rfl) (own_t hw 38 rfl) (own_t hw 4 rfl) (by decide) E_1 (W := 1) (by decide) (by decide) (by rw [hml]; rfl) (argsL := []) (rest := [(.int (1 : Int32))]) rfl (lenOf own_pd15 rfl) rfl (Nat.le_of_eq rfl) (hb hby own_d5_8) e294 (by decide) (by decide) ?_
  intro v295 T295 L295 X295 hQ295
  obtain ⟨hv295, N295q, e295⟩ := hQ295
  subst hv295
  have N295 := Fr.app N294 N295q
  show own_Go p.tables e below (T295.setTop (mkF m 11 #[.val (.long p1), .second, .val (.ref a1), .val (.long ((0 : Int64) + (c0.toInt64))), .second, .val (.int (1 : Int32))] [(.int (1 : Int32)), (.int (1 : Int32))])) _
  refine own_icmpYes X295 hx hby own_d5_11 (pc' := 34) (by decide) (by decide) ?_
  refine own_new X295 hx hby own_d5_34 (pc' := 37) rfl hZ hown (own_t hw 45 rfl) (own_t hw 46 rfl) (own_t hw 32 rfl) e295 (by decide) (by decide) ?_
  intro T296 h296 b296 X296 e296 g296 E296 A296 D296
  have F296_state : Fld Z h296 b296 "com/example/orbitwatch/orbitwatch/game/SeededRandom" "state" "J" (.long (0 : Int64)) := D296 (Or.inl (own_t hw 58 rfl)) (ty := .long) (by decide)
  have l296 : n0 ≤ b296 := (Nat.le_trans Z0 (Nat.le_trans (Nat.le_refl _) (Nat.le_of_eq g296.symm)))
  refine own_dup X296 hx hby own_d5_37 (pc' := 38) rfl rfl ?_
  refine own_lloadN X296 hx hby own_d5_38 (pc' := 39) rfl rfl ?_
  refine own_callS X296 hx hZ (rm_mix l Z a0 hw [] p1 h296 n0) hown (own_t hw 47 rfl) (own_t hw 48 rfl) (own_t hw 32 rfl) (own_t hw 49 rfl) (by decide) (W := 2) (by decide) (by decide) (by rw [hml]; rfl) (argsL := [(.long p1)]) (rest := [(.ref b296), (.ref b296)]) rfl (lenOf own_pd14 rfl) rfl (Nat.le_of_eq rfl) (hb hby own_d5_39) e296 (by decide) (by decide) ?_
  intro v297 T297 L297 X297 hQ297
  obtain ⟨hv297, N297q, e297⟩ := hQ297
  subst hv297
  have N297 := Fr.app N295 N297q
  show own_Go p.tables e below (T297.setTop (mkF m 42 #[.val (.long p1), .second, .val (.ref a1), .val (.long ((0 : Int64) + (c0.toInt64))), .second, .val (.int (1 : Int32))] [(.long (own_mx p1)), (.ref b296), (.ref b296)])) _
  refine own_lloadN X297 hx hby own_d5_42 (pc' := 43) rfl rfl ?_
  refine own_ldc2 X297 hx hby own_d5_43 (pc' := 46) rfl hZ hown (own_t hw 52 rfl) ?_
  refine own_ladd X297 hx hby own_d5_46 (pc' := 47) rfl rfl ?_
  refine own_callS X297 hx hZ (rm_mix l Z a0 hw [] (((0 : Int64) + (c0.toInt64)) + (-7046029254386353131 : Int64)) h296 n0) hown (own_t hw 47 rfl) (own_t hw 48 rfl) (own_t hw 32 rfl) (own_t hw 49 rfl) (by decide) (W := 4) (by decide) (by decide) (by rw [hml]; rfl) (argsL := [(.long (((0 : Int64) + (c0.toInt64)) + (-7046029254386353131 : Int64)))]) (rest := [(.long (own_mx p1)), (.ref b296), (.ref b296)]) rfl (lenOf own_pd14 rfl) rfl (Nat.le_of_eq rfl) (hb hby own_d5_47) e297 (by decide) (by decide) ?_
  intro v298 T298 L298 X298 hQ298
  obtain ⟨hv298, N298q, e298⟩ := hQ298
  subst hv298
  have N298 := Fr.app N297 N298q
  show own_Go p.tables e below (T298.setTop (mkF m 50 #[.val (.long p1), .second, .val (.ref a1), .val (.long ((0 : Int64) + (c0.toInt64))), .second, .val (.int (1 : Int32))] [(.long (own_mx (((0 : Int64) + (c0.toInt64)) + (-7046029254386353131 : Int64)))), (.long (own_mx p1)), (.ref b296), (.ref b296)])) _
  refine own_lxor X298 hx hby own_d5_50 (pc' := 51) rfl rfl ?_
  refine own_callSp X298 hx hZ (rm_sr l Z a0 hw [] b296 ((own_mx p1) ^^^ (own_mx (((0 : Int64) + (c0.toInt64)) + (-7046029254386353131 : Int64)))) h296 n0 ((O_0.ext E296)) (A296) (F296_state) l296) rfl hown (own_t hw 53 rfl) (own_t hw 54 rfl) (own_t hw 55 rfl) (own_t hw 32 rfl) (by decide) (W := 1) (by decide) (by decide) (by rw [hml]; rfl) (argsL := [(.long ((own_mx p1) ^^^ (own_mx (((0 : Int64) + (c0.toInt64)) + (-7046029254386353131 : Int64)))))]) (rest := [(.ref b296)]) rfl (lenOf own_pd16 rfl) rfl (Nat.le_of_eq rfl) (hb hby own_d5_51) e298 (by decide) (by decide) ?_
  intro v299 T299 L299 X299 hQ299
  obtain ⟨hv299, N299q, K299, E299, F299⟩ := hQ299
  subst hv299
  have N299 := Fr.app N298 N299q
  show own_Go p.tables e below (T299.setTop (mkF m 54 #[.val (.long p1), .second, .val (.ref a1), .val (.long ((0 : Int64) + (c0.toInt64))), .second, .val (.int (1 : Int32))] [(.ref b296)])) _
  exact own_retA X299 hx hret rfl rfl (hb hby own_d5_54) hlk (by decide) (by decide) ⟨b296, rfl, N299, (((Keep.refl h0 []).ext E296).trans K299 (allS (Or.inr (Nat.le_trans (Nat.le_refl _) (Nat.le_of_eq g296.symm))) all0)), (Nat.le_trans (Nat.le_refl _) (Nat.le_of_eq g296.symm)), E299, (by have q := F299; rw [own_nm1] at q; exact q)⟩
theorem own_ef_rm_of2_0 (m : MethodId) (p1 : Int64) (a1 : Addr) : entryFrame m #[(.long p1), (.ref a1)] 6 = mkF m 0 #[.val (.long p1), .second, .val (.ref a1), .unset, .unset, .unset] [] := by first | (simp [entryFrame, mkF, argsToLocals, Value.category]; done) | rfl
def Qrm_of2_0 (Z : State) (p1 : Int64) (a1 : Addr) (a2 : Addr) (c0 : Int32) (c1 : Int32) (gS : Int32) (fm : Value) (h0 : Heap) (n0 : Nat) (v : Option Value) (h : Heap) (L : List Loc) : Prop := ∃ b, v = some (.ref b) ∧ Fr n0 L ∧ Keep h0 h [] ∧ h0.size ≤ b ∧ Exa Z h b "com/example/orbitwatch/orbitwatch/game/SeededRandom" ∧ Fld Z h b "com/example/orbitwatch/orbitwatch/game/SeededRandom" "state" "J" (.long ((own_mx p1) ^^^ (own_mx ((((31 : Int64) * (c0.toInt64)) + (c1.toInt64)) + (-7046029254386353131 : Int64)))))
set_option maxRecDepth 65536 in
set_option maxHeartbeats 40000000 in
theorem rm_of2_0 (l : Launch) (Z : State) (a0 : Array Value) (hw : ∀ d ∈ tables_1, d.before a0 Z = true) (ws : List Jvm.Cond) (p1 : Int64) (a1 : Addr) (a2 : Addr) (c0 : Int32) (c1 : Int32) (gS : Int32) (fm : Value) (h0 : Heap) (n0 : Nat) (O_0 : Old Z n0 h0) (S_S : Sta Z Z.heap "java/lang/String" "COMPACT_STRINGS" "Z" (.int gS)) (hS : ¬ gS = 0) (S_A : Sta Z Z.heap "java/lang/StringUTF16" "$assertionsDisabled" "Z" (.int (1 : Int32))) (S_H : Sta Z Z.heap "java/lang/StringUTF16" "HI_BYTE_SHIFT" "I" (.int (0 : Int32))) (S_L : Sta Z Z.heap "java/lang/StringUTF16" "LO_BYTE_SHIFT" "I" (.int (8 : Int32))) (S_F : Sta Z Z.heap "jdk/internal/util/Preconditions" "SIOOBE_FORMATTER" "Ljava/util/function/BiFunction;" fm) (hfm : fm.isRef = true) (E_1 : Exa Z h0 a1 "java/lang/String") (F_c : Fld Z h0 a1 "java/lang/String" "coder" "B" (.int (0 : Int32))) (F_v : Fld Z h0 a1 "java/lang/String" "value" "[B" (.ref a2)) (A_2 : own_Ar Z h0 a2 .byte [(.int (lo8 c0)), (.int (lo8 c1))]) (hb0 : own_W c0) (hb1 : own_W c1) (hk0 : ¬ (255 : Int32) < c0) (hk1 : ¬ (255 : Int32) < c1) :
    own_Met l (⟨"com/example/orbitwatch/orbitwatch/game/SeededRandom", "of", "(JLjava/lang/String;)Lcom/example/orbitwatch/orbitwatch/game/SeededRandom;"⟩ : MethodName) prog_45_method_2_code 6 (some (.object "com/example/orbitwatch/orbitwatch/game/SeededRandom")) ws ({ frames := 5, cells := 1, slots := 1, locals := 70 } : Room) #[(.long p1), (.ref a1)] Z h0 (Qrm_of2_0 Z p1 a1 a2 c0 c1 gS fm h0 n0) := by
  refine own_body own_pn5 ?_
  intro p e s m below meth c T0 X0 hx hby hml hown hnm hret hlk hZ e0
  have N0 := Fr.nil n0
  refine own_st (fun t k => castTop (own_ef_rm_of2_0 m p1 a1) k) ?_
  show own_Go p.tables e below (T0.setTop (mkF m 0 #[.val (.long p1), .second, .val (.ref a1), .unset, .unset, .unset] [])) _
  have Z0 := own_Z0 O_0
  refine own_lconst X0 hx hby own_d5_0 (pc' := 1) rfl (z := (0 : Int64)) (by decide) ?_
  refine own_lstoreN X0 hx hby own_d5_1 (pc' := 2) rfl (Ls' := #[.val (.long p1), .second, .val (.ref a1), .val (.long (0 : Int64)), .second, .unset]) rfl ?_
  refine own_iconst X0 hx hby own_d5_2 (pc' := 3) rfl (z := (0 : Int32)) (by decide) ?_
  refine own_istore X0 hx hby own_d5_3 (pc' := 5) rfl (Ls' := #[.val (.long p1), .second, .val (.ref a1), .val (.long (0 : Int64)), .second, .val (.int (0 : Int32))]) rfl ?_
  refine own_iload X0 hx hby own_d5_5 (pc' := 7) rfl rfl ?_
  refine own_aloadN X0 hx hby own_d5_7 (pc' := 8) rfl rfl rfl ?_
  refine own_callV X0 hx hZ (rm_ln2_0 l Z a0 hw [] a1 a2 c0 c1 gS h0 n0 (O_0) S_S hS E_1 F_c F_v A_2) hown (own_t hw 34 rfl) (own_t hw 35 rfl) (own_t hw 37 rfl) (own_t hw 36 rfl) (own_t hw 38 rfl) (own_t hw 4 rfl) (by decide) E_1 (W := 1) (by decide) (by decide) (by rw [hml]; rfl) (argsL := []) (rest := [(.int (0 : Int32))]) rfl (lenOf own_pd15 rfl) rfl (Nat.le_of_eq rfl) (hb hby own_d5_8) e0 (by decide) (by decide) ?_
  intro v300 T300 L300 X300 hQ300
  obtain ⟨hv300, N300q, e300⟩ := hQ300
  subst hv300
  have N300 := Fr.app N0 N300q
  show own_Go p.tables e below (T300.setTop (mkF m 11 #[.val (.long p1), .second, .val (.ref a1), .val (.long (0 : Int64)), .second, .val (.int (0 : Int32))] [(.int (2 : Int32)), (.int (0 : Int32))])) _
  refine own_icmpNo X300 hx hby own_d5_11 (pc' := 14) rfl (by decide) ?_
  refine own_lloadN X300 hx hby own_d5_14 (pc' := 15) rfl rfl ?_
  refine own_ldc2 X300 hx hby own_d5_15 (pc' := 18) rfl hZ hown (own_t hw 94 rfl) ?_
  refine own_lmul X300 hx hby own_d5_18 (pc' := 19) rfl (z := (0 : Int64)) (by decide) ?_
  refine own_aloadN X300 hx hby own_d5_19 (pc' := 20) rfl rfl rfl ?_
  refine own_iload X300 hx hby own_d5_20 (pc' := 22) rfl rfl ?_
  refine own_callV X300 hx hZ (rm_ch2_0_0 l Z a0 hw [] a1 a2 c0 c1 gS fm h0 n0 (O_0) S_S hS S_A S_H S_L S_F hfm E_1 F_c F_v A_2 hb0 hk0) hown (own_t hw 95 rfl) (own_t hw 96 rfl) (own_t hw 98 rfl) (own_t hw 97 rfl) (own_t hw 99 rfl) (own_t hw 4 rfl) (by decide) E_1 (W := 2) (by decide) (by decide) (by rw [hml]; rfl) (argsL := [(.int (0 : Int32))]) (rest := [(.long (0 : Int64))]) rfl (lenOf own_pd17 rfl) rfl (Nat.le_of_eq rfl) (hb hby own_d5_22) e300 (by decide) (by decide) ?_
  intro v301 T301 L301 X301 hQ301
  obtain ⟨hv301, N301q, e301⟩ := hQ301
  subst hv301
  have N301 := Fr.app N300 N301q
  show own_Go p.tables e below (T301.setTop (mkF m 25 #[.val (.long p1), .second, .val (.ref a1), .val (.long (0 : Int64)), .second, .val (.int (0 : Int32))] [(.int c0), (.long (0 : Int64))])) _
  refine own_i2l X301 hx hby own_d5_25 (pc' := 26) rfl rfl ?_
  refine own_ladd X301 hx hby own_d5_26 (pc' := 27) rfl rfl ?_
  refine own_lstoreN X301 hx hby own_d5_27 (pc' := 28) rfl (Ls' := #[.val (.long p1), .second, .val (.ref a1), .val (.long ((0 : Int64) + (c0.toInt64))), .second, .val (.int (0 : Int32))]) rfl ?_
  refine own_iinc X301 hx hby own_d5_28 (pc' := 31) rfl rfl (z := (1 : Int32)) (by decide) (Ls' := #[.val (.long p1), .second, .val (.ref a1), .val (.long ((0 : Int64) + (c0.toInt64))), .second, .val (.int (1 : Int32))]) rfl ?_
  refine own_goto X301 hx hby own_d5_31 (pc' := 5) (by decide) ?_
  refine own_iload X301 hx hby own_d5_5 (pc' := 7) rfl rfl ?_
  refine own_aloadN X301 hx hby own_d5_7 (pc' := 8) rfl rfl rfl ?_
  refine own_callV X301 hx hZ (rm_ln2_0 l Z a0 hw [] a1 a2 c0 c1 gS h0 n0 (O_0) S_S hS E_1 F_c F_v A_2) hown (own_t hw 34 rfl) (own_t hw 35 rfl) (own_t hw 37 rfl) (own_t hw 36 rfl) (own_t hw 38 rfl) (own_t hw 4 rfl) (by decide) E_1 (W := 1) (by decide) (by decide) (by rw [hml]; rfl) (argsL := []) (rest := [(.int (1 : Int32))]) rfl (lenOf own_pd15 rfl) rfl (Nat.le_of_eq rfl) (hb hby own_d5_8) e301 (by decide) (by decide) ?_
  intro v302 T302 L302 X302 hQ302
  obtain ⟨hv302, N302q, e302⟩ := hQ302
  subst hv302
  have N302 := Fr.app N301 N302q
  show own_Go p.tables e below (T302.setTop (mkF m 11 #[.val (.long p1), .second, .val (.ref a1), .val (.long ((0 : Int64) + (c0.toInt64))), .second, .val (.int (1 : Int32))] [(.int (2 : Int32)), (.int (1 : Int32))])) _
  refine own_icmpNo X302 hx hby own_d5_11 (pc' := 14) rfl (by decide) ?_
  refine own_lloadN X302 hx hby own_d5_14 (pc' := 15) rfl rfl ?_
  refine own_ldc2 X302 hx hby own_d5_15 (pc' := 18) rfl hZ hown (own_t hw 94 rfl) ?_
  refine own_lmul X302 hx hby own_d5_18 (pc' := 19) rfl rfl ?_
  refine own_aloadN X302 hx hby own_d5_19 (pc' := 20) rfl rfl rfl ?_
  refine own_iload X302 hx hby own_d5_20 (pc' := 22) rfl rfl ?_
  refine own_callV X302 hx hZ (rm_ch2_0_1 l Z a0 hw [] a1 a2 c0 c1 gS fm h0 n0 (O_0) S_S hS S_A S_H S_L S_F hfm E_1 F_c F_v A_2 hb1 hk1) hown (own_t hw 95 rfl) (own_t hw 96 rfl) (own_t hw 98 rfl) (own_t hw 97 rfl) (own_t hw 99 rfl) (own_t hw 4 rfl) (by decide) E_1 (W := 2) (by decide) (by decide) (by rw [hml]; rfl) (argsL := [(.int (1 : Int32))]) (rest := [(.long (((0 : Int64) + (c0.toInt64)) * (31 : Int64)))]) rfl (lenOf own_pd17 rfl) rfl (Nat.le_of_eq rfl) (hb hby own_d5_22) e302 (by decide) (by decide) ?_
  intro v303 T303 L303 X303 hQ303
  obtain ⟨hv303, N303q, e303⟩ := hQ303
  subst hv303
  have N303 := Fr.app N302 N303q
  show own_Go p.tables e below (T303.setTop (mkF m 25 #[.val (.long p1), .second, .val (.ref a1), .val (.long ((0 : Int64) + (c0.toInt64))), .second, .val (.int (1 : Int32))] [(.int c1), (.long (((0 : Int64) + (c0.toInt64)) * (31 : Int64)))])) _
  refine own_i2l X303 hx hby own_d5_25 (pc' := 26) rfl rfl ?_
  refine own_ladd X303 hx hby own_d5_26 (pc' := 27) rfl rfl ?_
  refine own_lstoreN X303 hx hby own_d5_27 (pc' := 28) rfl (Ls' := #[.val (.long p1), .second, .val (.ref a1), .val (.long ((((0 : Int64) + (c0.toInt64)) * (31 : Int64)) + (c1.toInt64))), .second, .val (.int (1 : Int32))]) rfl ?_
  refine own_iinc X303 hx hby own_d5_28 (pc' := 31) rfl rfl (z := (2 : Int32)) (by decide) (Ls' := #[.val (.long p1), .second, .val (.ref a1), .val (.long ((((0 : Int64) + (c0.toInt64)) * (31 : Int64)) + (c1.toInt64))), .second, .val (.int (2 : Int32))]) rfl ?_
  refine own_goto X303 hx hby own_d5_31 (pc' := 5) (by decide) ?_
  refine own_iload X303 hx hby own_d5_5 (pc' := 7) rfl rfl ?_
  refine own_aloadN X303 hx hby own_d5_7 (pc' := 8) rfl rfl rfl ?_
  refine own_callV X303 hx hZ (rm_ln2_0 l Z a0 hw [] a1 a2 c0 c1 gS h0 n0 (O_0) S_S hS E_1 F_c F_v A_2) hown (own_t hw 34 rfl) (own_t hw 35 rfl) (own_t hw 37 rfl) (own_t hw 36 rfl) (own_t hw 38 rfl) (own_t hw 4 rfl) (by decide) E_1 (W := 1) (by decide) (by decide) (by rw [hml]; rfl) (argsL := []) (rest := [(.int (2 : Int32))]) rfl (lenOf own_pd15 rfl) rfl (Nat.le_of_eq rfl) (hb hby own_d5_8) e303 (by decide) (by decide) ?_
  intro v304 T304 L304 X304 hQ304
  obtain ⟨hv304, N304q, e304⟩ := hQ304
  subst hv304
  have N304 := Fr.app N303 N304q
  show own_Go p.tables e below (T304.setTop (mkF m 11 #[.val (.long p1), .second, .val (.ref a1), .val (.long ((((0 : Int64) + (c0.toInt64)) * (31 : Int64)) + (c1.toInt64))), .second, .val (.int (2 : Int32))] [(.int (2 : Int32)), (.int (2 : Int32))])) _
  refine own_icmpYes X304 hx hby own_d5_11 (pc' := 34) (by decide) (by decide) ?_
  refine own_new X304 hx hby own_d5_34 (pc' := 37) rfl hZ hown (own_t hw 45 rfl) (own_t hw 46 rfl) (own_t hw 32 rfl) e304 (by decide) (by decide) ?_
  intro T305 h305 b305 X305 e305 g305 E305 A305 D305
  have F305_state : Fld Z h305 b305 "com/example/orbitwatch/orbitwatch/game/SeededRandom" "state" "J" (.long (0 : Int64)) := D305 (Or.inl (own_t hw 58 rfl)) (ty := .long) (by decide)
  have l305 : n0 ≤ b305 := (Nat.le_trans Z0 (Nat.le_trans (Nat.le_refl _) (Nat.le_of_eq g305.symm)))
  refine own_dup X305 hx hby own_d5_37 (pc' := 38) rfl rfl ?_
  refine own_lloadN X305 hx hby own_d5_38 (pc' := 39) rfl rfl ?_
  refine own_callS X305 hx hZ (rm_mix l Z a0 hw [] p1 h305 n0) hown (own_t hw 47 rfl) (own_t hw 48 rfl) (own_t hw 32 rfl) (own_t hw 49 rfl) (by decide) (W := 2) (by decide) (by decide) (by rw [hml]; rfl) (argsL := [(.long p1)]) (rest := [(.ref b305), (.ref b305)]) rfl (lenOf own_pd14 rfl) rfl (Nat.le_of_eq rfl) (hb hby own_d5_39) e305 (by decide) (by decide) ?_
  intro v306 T306 L306 X306 hQ306
  obtain ⟨hv306, N306q, e306⟩ := hQ306
  subst hv306
  have N306 := Fr.app N304 N306q
  show own_Go p.tables e below (T306.setTop (mkF m 42 #[.val (.long p1), .second, .val (.ref a1), .val (.long ((((0 : Int64) + (c0.toInt64)) * (31 : Int64)) + (c1.toInt64))), .second, .val (.int (2 : Int32))] [(.long (own_mx p1)), (.ref b305), (.ref b305)])) _
  refine own_lloadN X306 hx hby own_d5_42 (pc' := 43) rfl rfl ?_
  refine own_ldc2 X306 hx hby own_d5_43 (pc' := 46) rfl hZ hown (own_t hw 52 rfl) ?_
  refine own_ladd X306 hx hby own_d5_46 (pc' := 47) rfl rfl ?_
  refine own_callS X306 hx hZ (rm_mix l Z a0 hw [] (((((0 : Int64) + (c0.toInt64)) * (31 : Int64)) + (c1.toInt64)) + (-7046029254386353131 : Int64)) h305 n0) hown (own_t hw 47 rfl) (own_t hw 48 rfl) (own_t hw 32 rfl) (own_t hw 49 rfl) (by decide) (W := 4) (by decide) (by decide) (by rw [hml]; rfl) (argsL := [(.long (((((0 : Int64) + (c0.toInt64)) * (31 : Int64)) + (c1.toInt64)) + (-7046029254386353131 : Int64)))]) (rest := [(.long (own_mx p1)), (.ref b305), (.ref b305)]) rfl (lenOf own_pd14 rfl) rfl (Nat.le_of_eq rfl) (hb hby own_d5_47) e306 (by decide) (by decide) ?_
  intro v307 T307 L307 X307 hQ307
  obtain ⟨hv307, N307q, e307⟩ := hQ307
  subst hv307
  have N307 := Fr.app N306 N307q
  show own_Go p.tables e below (T307.setTop (mkF m 50 #[.val (.long p1), .second, .val (.ref a1), .val (.long ((((0 : Int64) + (c0.toInt64)) * (31 : Int64)) + (c1.toInt64))), .second, .val (.int (2 : Int32))] [(.long (own_mx (((((0 : Int64) + (c0.toInt64)) * (31 : Int64)) + (c1.toInt64)) + (-7046029254386353131 : Int64)))), (.long (own_mx p1)), (.ref b305), (.ref b305)])) _
  refine own_lxor X307 hx hby own_d5_50 (pc' := 51) rfl rfl ?_
  refine own_callSp X307 hx hZ (rm_sr l Z a0 hw [] b305 ((own_mx p1) ^^^ (own_mx (((((0 : Int64) + (c0.toInt64)) * (31 : Int64)) + (c1.toInt64)) + (-7046029254386353131 : Int64)))) h305 n0 ((O_0.ext E305)) (A305) (F305_state) l305) rfl hown (own_t hw 53 rfl) (own_t hw 54 rfl) (own_t hw 55 rfl) (own_t hw 32 rfl) (by decide) (W := 1) (by decide) (by decide) (by rw [hml]; rfl) (argsL := [(.long ((own_mx p1) ^^^ (own_mx (((((0 : Int64) + (c0.toInt64)) * (31 : Int64)) + (c1.toInt64)) + (-7046029254386353131 : Int64)))))]) (rest := [(.ref b305)]) rfl (lenOf own_pd16 rfl) rfl (Nat.le_of_eq rfl) (hb hby own_d5_51) e307 (by decide) (by decide) ?_
  intro v308 T308 L308 X308 hQ308
  obtain ⟨hv308, N308q, K308, E308, F308⟩ := hQ308
  subst hv308
  have N308 := Fr.app N307 N308q
  show own_Go p.tables e below (T308.setTop (mkF m 54 #[.val (.long p1), .second, .val (.ref a1), .val (.long ((((0 : Int64) + (c0.toInt64)) * (31 : Int64)) + (c1.toInt64))), .second, .val (.int (2 : Int32))] [(.ref b305)])) _
  exact own_retA X308 hx hret rfl rfl (hb hby own_d5_54) hlk (by decide) (by decide) ⟨b305, rfl, N308, (((Keep.refl h0 []).ext E305).trans K308 (allS (Or.inr (Nat.le_trans (Nat.le_refl _) (Nat.le_of_eq g305.symm))) all0)), (Nat.le_trans (Nat.le_refl _) (Nat.le_of_eq g305.symm)), E308, (by have q := F308; rw [own_nm2] at q; exact q)⟩
theorem own_ef_rm_of2_1 (m : MethodId) (p1 : Int64) (a1 : Addr) : entryFrame m #[(.long p1), (.ref a1)] 6 = mkF m 0 #[.val (.long p1), .second, .val (.ref a1), .unset, .unset, .unset] [] := by first | (simp [entryFrame, mkF, argsToLocals, Value.category]; done) | rfl
def Qrm_of2_1 (Z : State) (p1 : Int64) (a1 : Addr) (a2 : Addr) (c0 : Int32) (c1 : Int32) (gS : Int32) (fm : Value) (h0 : Heap) (n0 : Nat) (v : Option Value) (h : Heap) (L : List Loc) : Prop := ∃ b, v = some (.ref b) ∧ Fr n0 L ∧ Keep h0 h [] ∧ h0.size ≤ b ∧ Exa Z h b "com/example/orbitwatch/orbitwatch/game/SeededRandom" ∧ Fld Z h b "com/example/orbitwatch/orbitwatch/game/SeededRandom" "state" "J" (.long ((own_mx p1) ^^^ (own_mx ((((31 : Int64) * (c0.toInt64)) + (c1.toInt64)) + (-7046029254386353131 : Int64)))))
set_option maxRecDepth 65536 in
set_option maxHeartbeats 40000000 in
theorem rm_of2_1 (l : Launch) (Z : State) (a0 : Array Value) (hw : ∀ d ∈ tables_1, d.before a0 Z = true) (ws : List Jvm.Cond) (p1 : Int64) (a1 : Addr) (a2 : Addr) (c0 : Int32) (c1 : Int32) (gS : Int32) (fm : Value) (h0 : Heap) (n0 : Nat) (O_0 : Old Z n0 h0) (S_S : Sta Z Z.heap "java/lang/String" "COMPACT_STRINGS" "Z" (.int gS)) (hS : ¬ gS = 0) (S_A : Sta Z Z.heap "java/lang/StringUTF16" "$assertionsDisabled" "Z" (.int (1 : Int32))) (S_H : Sta Z Z.heap "java/lang/StringUTF16" "HI_BYTE_SHIFT" "I" (.int (0 : Int32))) (S_L : Sta Z Z.heap "java/lang/StringUTF16" "LO_BYTE_SHIFT" "I" (.int (8 : Int32))) (S_F : Sta Z Z.heap "jdk/internal/util/Preconditions" "SIOOBE_FORMATTER" "Ljava/util/function/BiFunction;" fm) (hfm : fm.isRef = true) (E_1 : Exa Z h0 a1 "java/lang/String") (F_c : Fld Z h0 a1 "java/lang/String" "coder" "B" (.int (1 : Int32))) (F_v : Fld Z h0 a1 "java/lang/String" "value" "[B" (.ref a2)) (A_2 : own_Ar Z h0 a2 .byte [(.int (lo8 c0)), (.int (hi8 c0)), (.int (lo8 c1)), (.int (hi8 c1))]) (hb0 : own_W c0) (hb1 : own_W c1) :
    own_Met l (⟨"com/example/orbitwatch/orbitwatch/game/SeededRandom", "of", "(JLjava/lang/String;)Lcom/example/orbitwatch/orbitwatch/game/SeededRandom;"⟩ : MethodName) prog_45_method_2_code 6 (some (.object "com/example/orbitwatch/orbitwatch/game/SeededRandom")) ws ({ frames := 5, cells := 1, slots := 1, locals := 70 } : Room) #[(.long p1), (.ref a1)] Z h0 (Qrm_of2_1 Z p1 a1 a2 c0 c1 gS fm h0 n0) := by
  refine own_body own_pn5 ?_
  intro p e s m below meth c T0 X0 hx hby hml hown hnm hret hlk hZ e0
  have N0 := Fr.nil n0
  refine own_st (fun t k => castTop (own_ef_rm_of2_1 m p1 a1) k) ?_
  show own_Go p.tables e below (T0.setTop (mkF m 0 #[.val (.long p1), .second, .val (.ref a1), .unset, .unset, .unset] [])) _
  have Z0 := own_Z0 O_0
  refine own_lconst X0 hx hby own_d5_0 (pc' := 1) rfl (z := (0 : Int64)) (by decide) ?_
  refine own_lstoreN X0 hx hby own_d5_1 (pc' := 2) rfl (Ls' := #[.val (.long p1), .second, .val (.ref a1), .val (.long (0 : Int64)), .second, .unset]) rfl ?_
  refine own_iconst X0 hx hby own_d5_2 (pc' := 3) rfl (z := (0 : Int32)) (by decide) ?_
  refine own_istore X0 hx hby own_d5_3 (pc' := 5) rfl (Ls' := #[.val (.long p1), .second, .val (.ref a1), .val (.long (0 : Int64)), .second, .val (.int (0 : Int32))]) rfl ?_
  refine own_iload X0 hx hby own_d5_5 (pc' := 7) rfl rfl ?_
  refine own_aloadN X0 hx hby own_d5_7 (pc' := 8) rfl rfl rfl ?_
  refine own_callV X0 hx hZ (rm_ln2_1 l Z a0 hw [] a1 a2 c0 c1 gS h0 n0 (O_0) S_S hS E_1 F_c F_v A_2) hown (own_t hw 34 rfl) (own_t hw 35 rfl) (own_t hw 37 rfl) (own_t hw 36 rfl) (own_t hw 38 rfl) (own_t hw 4 rfl) (by decide) E_1 (W := 1) (by decide) (by decide) (by rw [hml]; rfl) (argsL := []) (rest := [(.int (0 : Int32))]) rfl (lenOf own_pd15 rfl) rfl (Nat.le_of_eq rfl) (hb hby own_d5_8) e0 (by decide) (by decide) ?_
  intro v309 T309 L309 X309 hQ309
  obtain ⟨hv309, N309q, e309⟩ := hQ309
  subst hv309
  have N309 := Fr.app N0 N309q
  show own_Go p.tables e below (T309.setTop (mkF m 11 #[.val (.long p1), .second, .val (.ref a1), .val (.long (0 : Int64)), .second, .val (.int (0 : Int32))] [(.int (2 : Int32)), (.int (0 : Int32))])) _
  refine own_icmpNo X309 hx hby own_d5_11 (pc' := 14) rfl (by decide) ?_
  refine own_lloadN X309 hx hby own_d5_14 (pc' := 15) rfl rfl ?_
  refine own_ldc2 X309 hx hby own_d5_15 (pc' := 18) rfl hZ hown (own_t hw 94 rfl) ?_
  refine own_lmul X309 hx hby own_d5_18 (pc' := 19) rfl (z := (0 : Int64)) (by decide) ?_
  refine own_aloadN X309 hx hby own_d5_19 (pc' := 20) rfl rfl rfl ?_
  refine own_iload X309 hx hby own_d5_20 (pc' := 22) rfl rfl ?_
  refine own_callV X309 hx hZ (rm_ch2_1_0 l Z a0 hw [] a1 a2 c0 c1 gS fm h0 n0 (O_0) S_S hS S_A S_H S_L S_F hfm E_1 F_c F_v A_2 hb0) hown (own_t hw 95 rfl) (own_t hw 96 rfl) (own_t hw 98 rfl) (own_t hw 97 rfl) (own_t hw 99 rfl) (own_t hw 4 rfl) (by decide) E_1 (W := 2) (by decide) (by decide) (by rw [hml]; rfl) (argsL := [(.int (0 : Int32))]) (rest := [(.long (0 : Int64))]) rfl (lenOf own_pd17 rfl) rfl (Nat.le_of_eq rfl) (hb hby own_d5_22) e309 (by decide) (by decide) ?_
  intro v310 T310 L310 X310 hQ310
  obtain ⟨hv310, N310q, e310⟩ := hQ310
  subst hv310
  have N310 := Fr.app N309 N310q
  show own_Go p.tables e below (T310.setTop (mkF m 25 #[.val (.long p1), .second, .val (.ref a1), .val (.long (0 : Int64)), .second, .val (.int (0 : Int32))] [(.int c0), (.long (0 : Int64))])) _
  refine own_i2l X310 hx hby own_d5_25 (pc' := 26) rfl rfl ?_
  refine own_ladd X310 hx hby own_d5_26 (pc' := 27) rfl rfl ?_
  refine own_lstoreN X310 hx hby own_d5_27 (pc' := 28) rfl (Ls' := #[.val (.long p1), .second, .val (.ref a1), .val (.long ((0 : Int64) + (c0.toInt64))), .second, .val (.int (0 : Int32))]) rfl ?_
  refine own_iinc X310 hx hby own_d5_28 (pc' := 31) rfl rfl (z := (1 : Int32)) (by decide) (Ls' := #[.val (.long p1), .second, .val (.ref a1), .val (.long ((0 : Int64) + (c0.toInt64))), .second, .val (.int (1 : Int32))]) rfl ?_
  refine own_goto X310 hx hby own_d5_31 (pc' := 5) (by decide) ?_
  refine own_iload X310 hx hby own_d5_5 (pc' := 7) rfl rfl ?_
  refine own_aloadN X310 hx hby own_d5_7 (pc' := 8) rfl rfl rfl ?_
  refine own_callV X310 hx hZ (rm_ln2_1 l Z a0 hw [] a1 a2 c0 c1 gS h0 n0 (O_0) S_S hS E_1 F_c F_v A_2) hown (own_t hw 34 rfl) (own_t hw 35 rfl) (own_t hw 37 rfl) (own_t hw 36 rfl) (own_t hw 38 rfl) (own_t hw 4 rfl) (by decide) E_1 (W := 1) (by decide) (by decide) (by rw [hml]; rfl) (argsL := []) (rest := [(.int (1 : Int32))]) rfl (lenOf own_pd15 rfl) rfl (Nat.le_of_eq rfl) (hb hby own_d5_8) e310 (by decide) (by decide) ?_
  intro v311 T311 L311 X311 hQ311
  obtain ⟨hv311, N311q, e311⟩ := hQ311
  subst hv311
  have N311 := Fr.app N310 N311q
  show own_Go p.tables e below (T311.setTop (mkF m 11 #[.val (.long p1), .second, .val (.ref a1), .val (.long ((0 : Int64) + (c0.toInt64))), .second, .val (.int (1 : Int32))] [(.int (2 : Int32)), (.int (1 : Int32))])) _
  refine own_icmpNo X311 hx hby own_d5_11 (pc' := 14) rfl (by decide) ?_
  refine own_lloadN X311 hx hby own_d5_14 (pc' := 15) rfl rfl ?_
  refine own_ldc2 X311 hx hby own_d5_15 (pc' := 18) rfl hZ hown (own_t hw 94 rfl) ?_
  refine own_lmul X311 hx hby own_d5_18 (pc' := 19) rfl rfl ?_
  refine own_aloadN X311 hx hby own_d5_19 (pc' := 20) rfl rfl rfl ?_
  refine own_iload X311 hx hby own_d5_20 (pc' := 22) rfl rfl ?_
  refine own_callV X311 hx hZ (rm_ch2_1_1 l Z a0 hw [] a1 a2 c0 c1 gS fm h0 n0 (O_0) S_S hS S_A S_H S_L S_F hfm E_1 F_c F_v A_2 hb1) hown (own_t hw 95 rfl) (own_t hw 96 rfl) (own_t hw 98 rfl) (own_t hw 97 rfl) (own_t hw 99 rfl) (own_t hw 4 rfl) (by decide) E_1 (W := 2) (by decide) (by decide) (by rw [hml]; rfl) (argsL := [(.int (1 : Int32))]) (rest := [(.long (((0 : Int64) + (c0.toInt64)) * (31 : Int64)))]) rfl (lenOf own_pd17 rfl) rfl (Nat.le_of_eq rfl) (hb hby own_d5_22) e311 (by decide) (by decide) ?_
  intro v312 T312 L312 X312 hQ312
  obtain ⟨hv312, N312q, e312⟩ := hQ312
  subst hv312
  have N312 := Fr.app N311 N312q
  show own_Go p.tables e below (T312.setTop (mkF m 25 #[.val (.long p1), .second, .val (.ref a1), .val (.long ((0 : Int64) + (c0.toInt64))), .second, .val (.int (1 : Int32))] [(.int c1), (.long (((0 : Int64) + (c0.toInt64)) * (31 : Int64)))])) _
  refine own_i2l X312 hx hby own_d5_25 (pc' := 26) rfl rfl ?_
  refine own_ladd X312 hx hby own_d5_26 (pc' := 27) rfl rfl ?_
  refine own_lstoreN X312 hx hby own_d5_27 (pc' := 28) rfl (Ls' := #[.val (.long p1), .second, .val (.ref a1), .val (.long ((((0 : Int64) + (c0.toInt64)) * (31 : Int64)) + (c1.toInt64))), .second, .val (.int (1 : Int32))]) rfl ?_
  refine own_iinc X312 hx hby own_d5_28 (pc' := 31) rfl rfl (z := (2 : Int32)) (by decide) (Ls' := #[.val (.long p1), .second, .val (.ref a1), .val (.long ((((0 : Int64) + (c0.toInt64)) * (31 : Int64)) + (c1.toInt64))), .second, .val (.int (2 : Int32))]) rfl ?_
  refine own_goto X312 hx hby own_d5_31 (pc' := 5) (by decide) ?_
  refine own_iload X312 hx hby own_d5_5 (pc' := 7) rfl rfl ?_
  refine own_aloadN X312 hx hby own_d5_7 (pc' := 8) rfl rfl rfl ?_
  refine own_callV X312 hx hZ (rm_ln2_1 l Z a0 hw [] a1 a2 c0 c1 gS h0 n0 (O_0) S_S hS E_1 F_c F_v A_2) hown (own_t hw 34 rfl) (own_t hw 35 rfl) (own_t hw 37 rfl) (own_t hw 36 rfl) (own_t hw 38 rfl) (own_t hw 4 rfl) (by decide) E_1 (W := 1) (by decide) (by decide) (by rw [hml]; rfl) (argsL := []) (rest := [(.int (2 : Int32))]) rfl (lenOf own_pd15 rfl) rfl (Nat.le_of_eq rfl) (hb hby own_d5_8) e312 (by decide) (by decide) ?_
  intro v313 T313 L313 X313 hQ313
  obtain ⟨hv313, N313q, e313⟩ := hQ313
  subst hv313
  have N313 := Fr.app N312 N313q
  show own_Go p.tables e below (T313.setTop (mkF m 11 #[.val (.long p1), .second, .val (.ref a1), .val (.long ((((0 : Int64) + (c0.toInt64)) * (31 : Int64)) + (c1.toInt64))), .second, .val (.int (2 : Int32))] [(.int (2 : Int32)), (.int (2 : Int32))])) _
  refine own_icmpYes X313 hx hby own_d5_11 (pc' := 34) (by decide) (by decide) ?_
  refine own_new X313 hx hby own_d5_34 (pc' := 37) rfl hZ hown (own_t hw 45 rfl) (own_t hw 46 rfl) (own_t hw 32 rfl) e313 (by decide) (by decide) ?_
  intro T314 h314 b314 X314 e314 g314 E314 A314 D314
  have F314_state : Fld Z h314 b314 "com/example/orbitwatch/orbitwatch/game/SeededRandom" "state" "J" (.long (0 : Int64)) := D314 (Or.inl (own_t hw 58 rfl)) (ty := .long) (by decide)
  have l314 : n0 ≤ b314 := (Nat.le_trans Z0 (Nat.le_trans (Nat.le_refl _) (Nat.le_of_eq g314.symm)))
  refine own_dup X314 hx hby own_d5_37 (pc' := 38) rfl rfl ?_
  refine own_lloadN X314 hx hby own_d5_38 (pc' := 39) rfl rfl ?_
  refine own_callS X314 hx hZ (rm_mix l Z a0 hw [] p1 h314 n0) hown (own_t hw 47 rfl) (own_t hw 48 rfl) (own_t hw 32 rfl) (own_t hw 49 rfl) (by decide) (W := 2) (by decide) (by decide) (by rw [hml]; rfl) (argsL := [(.long p1)]) (rest := [(.ref b314), (.ref b314)]) rfl (lenOf own_pd14 rfl) rfl (Nat.le_of_eq rfl) (hb hby own_d5_39) e314 (by decide) (by decide) ?_
  intro v315 T315 L315 X315 hQ315
  obtain ⟨hv315, N315q, e315⟩ := hQ315
  subst hv315
  have N315 := Fr.app N313 N315q
  show own_Go p.tables e below (T315.setTop (mkF m 42 #[.val (.long p1), .second, .val (.ref a1), .val (.long ((((0 : Int64) + (c0.toInt64)) * (31 : Int64)) + (c1.toInt64))), .second, .val (.int (2 : Int32))] [(.long (own_mx p1)), (.ref b314), (.ref b314)])) _
  refine own_lloadN X315 hx hby own_d5_42 (pc' := 43) rfl rfl ?_
  refine own_ldc2 X315 hx hby own_d5_43 (pc' := 46) rfl hZ hown (own_t hw 52 rfl) ?_
  refine own_ladd X315 hx hby own_d5_46 (pc' := 47) rfl rfl ?_
  refine own_callS X315 hx hZ (rm_mix l Z a0 hw [] (((((0 : Int64) + (c0.toInt64)) * (31 : Int64)) + (c1.toInt64)) + (-7046029254386353131 : Int64)) h314 n0) hown (own_t hw 47 rfl) (own_t hw 48 rfl) (own_t hw 32 rfl) (own_t hw 49 rfl) (by decide) (W := 4) (by decide) (by decide) (by rw [hml]; rfl) (argsL := [(.long (((((0 : Int64) + (c0.toInt64)) * (31 : Int64)) + (c1.toInt64)) + (-7046029254386353131 : Int64)))]) (rest := [(.long (own_mx p1)), (.ref b314), (.ref b314)]) rfl (lenOf own_pd14 rfl) rfl (Nat.le_of_eq rfl) (hb hby own_d5_47) e315 (by decide) (by decide) ?_
  intro v316 T316 L316 X316 hQ316
  obtain ⟨hv316, N316q, e316⟩ := hQ316
  subst hv316
  have N316 := Fr.app N315 N316q
  show own_Go p.tables e below (T316.setTop (mkF m 50 #[.val (.long p1), .second, .val (.ref a1), .val (.long ((((0 : Int64) + (c0.toInt64)) * (31 : Int64)) + (c1.toInt64))), .second, .val (.int (2 : Int32))] [(.long (own_mx (((((0 : Int64) + (c0.toInt64)) * (31 : Int64)) + (c1.toInt64)) + (-7046029254386353131 : Int64)))), (.long (own_mx p1)), (.ref b314), (.ref b314)])) _
  refine own_lxor X316 hx hby own_d5_50 (pc' := 51) rfl rfl ?_
  refine own_callSp X316 hx hZ (rm_sr l Z a0 hw [] b314 ((own_mx p1) ^^^ (own_mx (((((0 : Int64) + (c0.toInt64)) * (31 : Int64)) + (c1.toInt64)) + (-7046029254386353131 : Int64)))) h314 n0 ((O_0.ext E314)) (A314) (F314_state) l314) rfl hown (own_t hw 53 rfl) (own_t hw 54 rfl) (own_t hw 55 rfl) (own_t hw 32 rfl) (by decide) (W := 1) (by decide) (by decide) (by rw [hml]; rfl) (argsL := [(.long ((own_mx p1) ^^^ (own_mx (((((0 : Int64) + (c0.toInt64)) * (31 : Int64)) + (c1.toInt64)) + (-7046029254386353131 : Int64)))))]) (rest := [(.ref b314)]) rfl (lenOf own_pd16 rfl) rfl (Nat.le_of_eq rfl) (hb hby own_d5_51) e316 (by decide) (by decide) ?_
  intro v317 T317 L317 X317 hQ317
  obtain ⟨hv317, N317q, K317, E317, F317⟩ := hQ317
  subst hv317
  have N317 := Fr.app N316 N317q
  show own_Go p.tables e below (T317.setTop (mkF m 54 #[.val (.long p1), .second, .val (.ref a1), .val (.long ((((0 : Int64) + (c0.toInt64)) * (31 : Int64)) + (c1.toInt64))), .second, .val (.int (2 : Int32))] [(.ref b314)])) _
  exact own_retA X317 hx hret rfl rfl (hb hby own_d5_54) hlk (by decide) (by decide) ⟨b314, rfl, N317, (((Keep.refl h0 []).ext E314).trans K317 (allS (Or.inr (Nat.le_trans (Nat.le_refl _) (Nat.le_of_eq g314.symm))) all0)), (Nat.le_trans (Nat.le_refl _) (Nat.le_of_eq g314.symm)), E317, (by have q := F317; rw [own_nm2] at q; exact q)⟩
theorem own_ef_rm_of3_0 (m : MethodId) (p1 : Int64) (a1 : Addr) : entryFrame m #[(.long p1), (.ref a1)] 6 = mkF m 0 #[.val (.long p1), .second, .val (.ref a1), .unset, .unset, .unset] [] := by first | (simp [entryFrame, mkF, argsToLocals, Value.category]; done) | rfl
def Qrm_of3_0 (Z : State) (p1 : Int64) (a1 : Addr) (a2 : Addr) (c0 : Int32) (c1 : Int32) (c2 : Int32) (gS : Int32) (fm : Value) (h0 : Heap) (n0 : Nat) (v : Option Value) (h : Heap) (L : List Loc) : Prop := ∃ b, v = some (.ref b) ∧ Fr n0 L ∧ Keep h0 h [] ∧ h0.size ≤ b ∧ Exa Z h b "com/example/orbitwatch/orbitwatch/game/SeededRandom" ∧ Fld Z h b "com/example/orbitwatch/orbitwatch/game/SeededRandom" "state" "J" (.long ((own_mx p1) ^^^ (own_mx (((((961 : Int64) * (c0.toInt64)) + ((31 : Int64) * (c1.toInt64))) + (c2.toInt64)) + (-7046029254386353131 : Int64)))))
set_option maxRecDepth 65536 in
set_option maxHeartbeats 40000000 in
theorem rm_of3_0 (l : Launch) (Z : State) (a0 : Array Value) (hw : ∀ d ∈ tables_1, d.before a0 Z = true) (ws : List Jvm.Cond) (p1 : Int64) (a1 : Addr) (a2 : Addr) (c0 : Int32) (c1 : Int32) (c2 : Int32) (gS : Int32) (fm : Value) (h0 : Heap) (n0 : Nat) (O_0 : Old Z n0 h0) (S_S : Sta Z Z.heap "java/lang/String" "COMPACT_STRINGS" "Z" (.int gS)) (hS : ¬ gS = 0) (S_A : Sta Z Z.heap "java/lang/StringUTF16" "$assertionsDisabled" "Z" (.int (1 : Int32))) (S_H : Sta Z Z.heap "java/lang/StringUTF16" "HI_BYTE_SHIFT" "I" (.int (0 : Int32))) (S_L : Sta Z Z.heap "java/lang/StringUTF16" "LO_BYTE_SHIFT" "I" (.int (8 : Int32))) (S_F : Sta Z Z.heap "jdk/internal/util/Preconditions" "SIOOBE_FORMATTER" "Ljava/util/function/BiFunction;" fm) (hfm : fm.isRef = true) (E_1 : Exa Z h0 a1 "java/lang/String") (F_c : Fld Z h0 a1 "java/lang/String" "coder" "B" (.int (0 : Int32))) (F_v : Fld Z h0 a1 "java/lang/String" "value" "[B" (.ref a2)) (A_2 : own_Ar Z h0 a2 .byte [(.int (lo8 c0)), (.int (lo8 c1)), (.int (lo8 c2))]) (hb0 : own_W c0) (hb1 : own_W c1) (hb2 : own_W c2) (hk0 : ¬ (255 : Int32) < c0) (hk1 : ¬ (255 : Int32) < c1) (hk2 : ¬ (255 : Int32) < c2) :
    own_Met l (⟨"com/example/orbitwatch/orbitwatch/game/SeededRandom", "of", "(JLjava/lang/String;)Lcom/example/orbitwatch/orbitwatch/game/SeededRandom;"⟩ : MethodName) prog_45_method_2_code 6 (some (.object "com/example/orbitwatch/orbitwatch/game/SeededRandom")) ws ({ frames := 5, cells := 1, slots := 1, locals := 70 } : Room) #[(.long p1), (.ref a1)] Z h0 (Qrm_of3_0 Z p1 a1 a2 c0 c1 c2 gS fm h0 n0) := by
  refine own_body own_pn5 ?_
  intro p e s m below meth c T0 X0 hx hby hml hown hnm hret hlk hZ e0
  have N0 := Fr.nil n0
  refine own_st (fun t k => castTop (own_ef_rm_of3_0 m p1 a1) k) ?_
  show own_Go p.tables e below (T0.setTop (mkF m 0 #[.val (.long p1), .second, .val (.ref a1), .unset, .unset, .unset] [])) _
  have Z0 := own_Z0 O_0
  refine own_lconst X0 hx hby own_d5_0 (pc' := 1) rfl (z := (0 : Int64)) (by decide) ?_
  refine own_lstoreN X0 hx hby own_d5_1 (pc' := 2) rfl (Ls' := #[.val (.long p1), .second, .val (.ref a1), .val (.long (0 : Int64)), .second, .unset]) rfl ?_
  refine own_iconst X0 hx hby own_d5_2 (pc' := 3) rfl (z := (0 : Int32)) (by decide) ?_
  refine own_istore X0 hx hby own_d5_3 (pc' := 5) rfl (Ls' := #[.val (.long p1), .second, .val (.ref a1), .val (.long (0 : Int64)), .second, .val (.int (0 : Int32))]) rfl ?_
  refine own_iload X0 hx hby own_d5_5 (pc' := 7) rfl rfl ?_
  refine own_aloadN X0 hx hby own_d5_7 (pc' := 8) rfl rfl rfl ?_
  refine own_callV X0 hx hZ (rm_ln3_0 l Z a0 hw [] a1 a2 c0 c1 c2 gS h0 n0 (O_0) S_S hS E_1 F_c F_v A_2) hown (own_t hw 34 rfl) (own_t hw 35 rfl) (own_t hw 37 rfl) (own_t hw 36 rfl) (own_t hw 38 rfl) (own_t hw 4 rfl) (by decide) E_1 (W := 1) (by decide) (by decide) (by rw [hml]; rfl) (argsL := []) (rest := [(.int (0 : Int32))]) rfl (lenOf own_pd15 rfl) rfl (Nat.le_of_eq rfl) (hb hby own_d5_8) e0 (by decide) (by decide) ?_
  intro v318 T318 L318 X318 hQ318
  obtain ⟨hv318, N318q, e318⟩ := hQ318
  subst hv318
  have N318 := Fr.app N0 N318q
  show own_Go p.tables e below (T318.setTop (mkF m 11 #[.val (.long p1), .second, .val (.ref a1), .val (.long (0 : Int64)), .second, .val (.int (0 : Int32))] [(.int (3 : Int32)), (.int (0 : Int32))])) _
  refine own_icmpNo X318 hx hby own_d5_11 (pc' := 14) rfl (by decide) ?_
  refine own_lloadN X318 hx hby own_d5_14 (pc' := 15) rfl rfl ?_
  refine own_ldc2 X318 hx hby own_d5_15 (pc' := 18) rfl hZ hown (own_t hw 94 rfl) ?_
  refine own_lmul X318 hx hby own_d5_18 (pc' := 19) rfl (z := (0 : Int64)) (by decide) ?_
  refine own_aloadN X318 hx hby own_d5_19 (pc' := 20) rfl rfl rfl ?_
  refine own_iload X318 hx hby own_d5_20 (pc' := 22) rfl rfl ?_
  refine own_callV X318 hx hZ (rm_ch3_0_0 l Z a0 hw [] a1 a2 c0 c1 c2 gS fm h0 n0 (O_0) S_S hS S_A S_H S_L S_F hfm E_1 F_c F_v A_2 hb0 hk0) hown (own_t hw 95 rfl) (own_t hw 96 rfl) (own_t hw 98 rfl) (own_t hw 97 rfl) (own_t hw 99 rfl) (own_t hw 4 rfl) (by decide) E_1 (W := 2) (by decide) (by decide) (by rw [hml]; rfl) (argsL := [(.int (0 : Int32))]) (rest := [(.long (0 : Int64))]) rfl (lenOf own_pd17 rfl) rfl (Nat.le_of_eq rfl) (hb hby own_d5_22) e318 (by decide) (by decide) ?_
  intro v319 T319 L319 X319 hQ319
  obtain ⟨hv319, N319q, e319⟩ := hQ319
  subst hv319
  have N319 := Fr.app N318 N319q
  show own_Go p.tables e below (T319.setTop (mkF m 25 #[.val (.long p1), .second, .val (.ref a1), .val (.long (0 : Int64)), .second, .val (.int (0 : Int32))] [(.int c0), (.long (0 : Int64))])) _
  refine own_i2l X319 hx hby own_d5_25 (pc' := 26) rfl rfl ?_
  refine own_ladd X319 hx hby own_d5_26 (pc' := 27) rfl rfl ?_
  refine own_lstoreN X319 hx hby own_d5_27 (pc' := 28) rfl (Ls' := #[.val (.long p1), .second, .val (.ref a1), .val (.long ((0 : Int64) + (c0.toInt64))), .second, .val (.int (0 : Int32))]) rfl ?_
  refine own_iinc X319 hx hby own_d5_28 (pc' := 31) rfl rfl (z := (1 : Int32)) (by decide) (Ls' := #[.val (.long p1), .second, .val (.ref a1), .val (.long ((0 : Int64) + (c0.toInt64))), .second, .val (.int (1 : Int32))]) rfl ?_
  refine own_goto X319 hx hby own_d5_31 (pc' := 5) (by decide) ?_
  refine own_iload X319 hx hby own_d5_5 (pc' := 7) rfl rfl ?_
  refine own_aloadN X319 hx hby own_d5_7 (pc' := 8) rfl rfl rfl ?_
  refine own_callV X319 hx hZ (rm_ln3_0 l Z a0 hw [] a1 a2 c0 c1 c2 gS h0 n0 (O_0) S_S hS E_1 F_c F_v A_2) hown (own_t hw 34 rfl) (own_t hw 35 rfl) (own_t hw 37 rfl) (own_t hw 36 rfl) (own_t hw 38 rfl) (own_t hw 4 rfl) (by decide) E_1 (W := 1) (by decide) (by decide) (by rw [hml]; rfl) (argsL := []) (rest := [(.int (1 : Int32))]) rfl (lenOf own_pd15 rfl) rfl (Nat.le_of_eq rfl) (hb hby own_d5_8) e319 (by decide) (by decide) ?_
  intro v320 T320 L320 X320 hQ320
  obtain ⟨hv320, N320q, e320⟩ := hQ320
  subst hv320
  have N320 := Fr.app N319 N320q
  show own_Go p.tables e below (T320.setTop (mkF m 11 #[.val (.long p1), .second, .val (.ref a1), .val (.long ((0 : Int64) + (c0.toInt64))), .second, .val (.int (1 : Int32))] [(.int (3 : Int32)), (.int (1 : Int32))])) _
  refine own_icmpNo X320 hx hby own_d5_11 (pc' := 14) rfl (by decide) ?_
  refine own_lloadN X320 hx hby own_d5_14 (pc' := 15) rfl rfl ?_
  refine own_ldc2 X320 hx hby own_d5_15 (pc' := 18) rfl hZ hown (own_t hw 94 rfl) ?_
  refine own_lmul X320 hx hby own_d5_18 (pc' := 19) rfl rfl ?_
  refine own_aloadN X320 hx hby own_d5_19 (pc' := 20) rfl rfl rfl ?_
  refine own_iload X320 hx hby own_d5_20 (pc' := 22) rfl rfl ?_
  refine own_callV X320 hx hZ (rm_ch3_0_1 l Z a0 hw [] a1 a2 c0 c1 c2 gS fm h0 n0 (O_0) S_S hS S_A S_H S_L S_F hfm E_1 F_c F_v A_2 hb1 hk1) hown (own_t hw 95 rfl) (own_t hw 96 rfl) (own_t hw 98 rfl) (own_t hw 97 rfl) (own_t hw 99 rfl) (own_t hw 4 rfl) (by decide) E_1 (W := 2) (by decide) (by decide) (by rw [hml]; rfl) (argsL := [(.int (1 : Int32))]) (rest := [(.long (((0 : Int64) + (c0.toInt64)) * (31 : Int64)))]) rfl (lenOf own_pd17 rfl) rfl (Nat.le_of_eq rfl) (hb hby own_d5_22) e320 (by decide) (by decide) ?_
  intro v321 T321 L321 X321 hQ321
  obtain ⟨hv321, N321q, e321⟩ := hQ321
  subst hv321
  have N321 := Fr.app N320 N321q
  show own_Go p.tables e below (T321.setTop (mkF m 25 #[.val (.long p1), .second, .val (.ref a1), .val (.long ((0 : Int64) + (c0.toInt64))), .second, .val (.int (1 : Int32))] [(.int c1), (.long (((0 : Int64) + (c0.toInt64)) * (31 : Int64)))])) _
  refine own_i2l X321 hx hby own_d5_25 (pc' := 26) rfl rfl ?_
  refine own_ladd X321 hx hby own_d5_26 (pc' := 27) rfl rfl ?_
  refine own_lstoreN X321 hx hby own_d5_27 (pc' := 28) rfl (Ls' := #[.val (.long p1), .second, .val (.ref a1), .val (.long ((((0 : Int64) + (c0.toInt64)) * (31 : Int64)) + (c1.toInt64))), .second, .val (.int (1 : Int32))]) rfl ?_
  refine own_iinc X321 hx hby own_d5_28 (pc' := 31) rfl rfl (z := (2 : Int32)) (by decide) (Ls' := #[.val (.long p1), .second, .val (.ref a1), .val (.long ((((0 : Int64) + (c0.toInt64)) * (31 : Int64)) + (c1.toInt64))), .second, .val (.int (2 : Int32))]) rfl ?_
  refine own_goto X321 hx hby own_d5_31 (pc' := 5) (by decide) ?_
  refine own_iload X321 hx hby own_d5_5 (pc' := 7) rfl rfl ?_
  refine own_aloadN X321 hx hby own_d5_7 (pc' := 8) rfl rfl rfl ?_
  refine own_callV X321 hx hZ (rm_ln3_0 l Z a0 hw [] a1 a2 c0 c1 c2 gS h0 n0 (O_0) S_S hS E_1 F_c F_v A_2) hown (own_t hw 34 rfl) (own_t hw 35 rfl) (own_t hw 37 rfl) (own_t hw 36 rfl) (own_t hw 38 rfl) (own_t hw 4 rfl) (by decide) E_1 (W := 1) (by decide) (by decide) (by rw [hml]; rfl) (argsL := []) (rest := [(.int (2 : Int32))]) rfl (lenOf own_pd15 rfl) rfl (Nat.le_of_eq rfl) (hb hby own_d5_8) e321 (by decide) (by decide) ?_
  intro v322 T322 L322 X322 hQ322
  obtain ⟨hv322, N322q, e322⟩ := hQ322
  subst hv322
  have N322 := Fr.app N321 N322q
  show own_Go p.tables e below (T322.setTop (mkF m 11 #[.val (.long p1), .second, .val (.ref a1), .val (.long ((((0 : Int64) + (c0.toInt64)) * (31 : Int64)) + (c1.toInt64))), .second, .val (.int (2 : Int32))] [(.int (3 : Int32)), (.int (2 : Int32))])) _
  refine own_icmpNo X322 hx hby own_d5_11 (pc' := 14) rfl (by decide) ?_
  refine own_lloadN X322 hx hby own_d5_14 (pc' := 15) rfl rfl ?_
  refine own_ldc2 X322 hx hby own_d5_15 (pc' := 18) rfl hZ hown (own_t hw 94 rfl) ?_
  refine own_lmul X322 hx hby own_d5_18 (pc' := 19) rfl rfl ?_
  refine own_aloadN X322 hx hby own_d5_19 (pc' := 20) rfl rfl rfl ?_
  refine own_iload X322 hx hby own_d5_20 (pc' := 22) rfl rfl ?_
  refine own_callV X322 hx hZ (rm_ch3_0_2 l Z a0 hw [] a1 a2 c0 c1 c2 gS fm h0 n0 (O_0) S_S hS S_A S_H S_L S_F hfm E_1 F_c F_v A_2 hb2 hk2) hown (own_t hw 95 rfl) (own_t hw 96 rfl) (own_t hw 98 rfl) (own_t hw 97 rfl) (own_t hw 99 rfl) (own_t hw 4 rfl) (by decide) E_1 (W := 2) (by decide) (by decide) (by rw [hml]; rfl) (argsL := [(.int (2 : Int32))]) (rest := [(.long (((((0 : Int64) + (c0.toInt64)) * (31 : Int64)) + (c1.toInt64)) * (31 : Int64)))]) rfl (lenOf own_pd17 rfl) rfl (Nat.le_of_eq rfl) (hb hby own_d5_22) e322 (by decide) (by decide) ?_
  intro v323 T323 L323 X323 hQ323
  obtain ⟨hv323, N323q, e323⟩ := hQ323
  subst hv323
  have N323 := Fr.app N322 N323q
  show own_Go p.tables e below (T323.setTop (mkF m 25 #[.val (.long p1), .second, .val (.ref a1), .val (.long ((((0 : Int64) + (c0.toInt64)) * (31 : Int64)) + (c1.toInt64))), .second, .val (.int (2 : Int32))] [(.int c2), (.long (((((0 : Int64) + (c0.toInt64)) * (31 : Int64)) + (c1.toInt64)) * (31 : Int64)))])) _
  refine own_i2l X323 hx hby own_d5_25 (pc' := 26) rfl rfl ?_
  refine own_ladd X323 hx hby own_d5_26 (pc' := 27) rfl rfl ?_
  refine own_lstoreN X323 hx hby own_d5_27 (pc' := 28) rfl (Ls' := #[.val (.long p1), .second, .val (.ref a1), .val (.long ((((((0 : Int64) + (c0.toInt64)) * (31 : Int64)) + (c1.toInt64)) * (31 : Int64)) + (c2.toInt64))), .second, .val (.int (2 : Int32))]) rfl ?_
  refine own_iinc X323 hx hby own_d5_28 (pc' := 31) rfl rfl (z := (3 : Int32)) (by decide) (Ls' := #[.val (.long p1), .second, .val (.ref a1), .val (.long ((((((0 : Int64) + (c0.toInt64)) * (31 : Int64)) + (c1.toInt64)) * (31 : Int64)) + (c2.toInt64))), .second, .val (.int (3 : Int32))]) rfl ?_
  refine own_goto X323 hx hby own_d5_31 (pc' := 5) (by decide) ?_
  refine own_iload X323 hx hby own_d5_5 (pc' := 7) rfl rfl ?_
  refine own_aloadN X323 hx hby own_d5_7 (pc' := 8) rfl rfl rfl ?_
  refine own_callV X323 hx hZ (rm_ln3_0 l Z a0 hw [] a1 a2 c0 c1 c2 gS h0 n0 (O_0) S_S hS E_1 F_c F_v A_2) hown (own_t hw 34 rfl) (own_t hw 35 rfl) (own_t hw 37 rfl) (own_t hw 36 rfl) (own_t hw 38 rfl) (own_t hw 4 rfl) (by decide) E_1 (W := 1) (by decide) (by decide) (by rw [hml]; rfl) (argsL := []) (rest := [(.int (3 : Int32))]) rfl (lenOf own_pd15 rfl) rfl (Nat.le_of_eq rfl) (hb hby own_d5_8) e323 (by decide) (by decide) ?_
  intro v324 T324 L324 X324 hQ324
  obtain ⟨hv324, N324q, e324⟩ := hQ324
  subst hv324
  have N324 := Fr.app N323 N324q
  show own_Go p.tables e below (T324.setTop (mkF m 11 #[.val (.long p1), .second, .val (.ref a1), .val (.long ((((((0 : Int64) + (c0.toInt64)) * (31 : Int64)) + (c1.toInt64)) * (31 : Int64)) + (c2.toInt64))), .second, .val (.int (3 : Int32))] [(.int (3 : Int32)), (.int (3 : Int32))])) _
  refine own_icmpYes X324 hx hby own_d5_11 (pc' := 34) (by decide) (by decide) ?_
  refine own_new X324 hx hby own_d5_34 (pc' := 37) rfl hZ hown (own_t hw 45 rfl) (own_t hw 46 rfl) (own_t hw 32 rfl) e324 (by decide) (by decide) ?_
  intro T325 h325 b325 X325 e325 g325 E325 A325 D325
  have F325_state : Fld Z h325 b325 "com/example/orbitwatch/orbitwatch/game/SeededRandom" "state" "J" (.long (0 : Int64)) := D325 (Or.inl (own_t hw 58 rfl)) (ty := .long) (by decide)
  have l325 : n0 ≤ b325 := (Nat.le_trans Z0 (Nat.le_trans (Nat.le_refl _) (Nat.le_of_eq g325.symm)))
  refine own_dup X325 hx hby own_d5_37 (pc' := 38) rfl rfl ?_
  refine own_lloadN X325 hx hby own_d5_38 (pc' := 39) rfl rfl ?_
  refine own_callS X325 hx hZ (rm_mix l Z a0 hw [] p1 h325 n0) hown (own_t hw 47 rfl) (own_t hw 48 rfl) (own_t hw 32 rfl) (own_t hw 49 rfl) (by decide) (W := 2) (by decide) (by decide) (by rw [hml]; rfl) (argsL := [(.long p1)]) (rest := [(.ref b325), (.ref b325)]) rfl (lenOf own_pd14 rfl) rfl (Nat.le_of_eq rfl) (hb hby own_d5_39) e325 (by decide) (by decide) ?_
  intro v326 T326 L326 X326 hQ326
  obtain ⟨hv326, N326q, e326⟩ := hQ326
  subst hv326
  have N326 := Fr.app N324 N326q
  show own_Go p.tables e below (T326.setTop (mkF m 42 #[.val (.long p1), .second, .val (.ref a1), .val (.long ((((((0 : Int64) + (c0.toInt64)) * (31 : Int64)) + (c1.toInt64)) * (31 : Int64)) + (c2.toInt64))), .second, .val (.int (3 : Int32))] [(.long (own_mx p1)), (.ref b325), (.ref b325)])) _
  refine own_lloadN X326 hx hby own_d5_42 (pc' := 43) rfl rfl ?_
  refine own_ldc2 X326 hx hby own_d5_43 (pc' := 46) rfl hZ hown (own_t hw 52 rfl) ?_
  refine own_ladd X326 hx hby own_d5_46 (pc' := 47) rfl rfl ?_
  refine own_callS X326 hx hZ (rm_mix l Z a0 hw [] (((((((0 : Int64) + (c0.toInt64)) * (31 : Int64)) + (c1.toInt64)) * (31 : Int64)) + (c2.toInt64)) + (-7046029254386353131 : Int64)) h325 n0) hown (own_t hw 47 rfl) (own_t hw 48 rfl) (own_t hw 32 rfl) (own_t hw 49 rfl) (by decide) (W := 4) (by decide) (by decide) (by rw [hml]; rfl) (argsL := [(.long (((((((0 : Int64) + (c0.toInt64)) * (31 : Int64)) + (c1.toInt64)) * (31 : Int64)) + (c2.toInt64)) + (-7046029254386353131 : Int64)))]) (rest := [(.long (own_mx p1)), (.ref b325), (.ref b325)]) rfl (lenOf own_pd14 rfl) rfl (Nat.le_of_eq rfl) (hb hby own_d5_47) e326 (by decide) (by decide) ?_
  intro v327 T327 L327 X327 hQ327
  obtain ⟨hv327, N327q, e327⟩ := hQ327
  subst hv327
  have N327 := Fr.app N326 N327q
  show own_Go p.tables e below (T327.setTop (mkF m 50 #[.val (.long p1), .second, .val (.ref a1), .val (.long ((((((0 : Int64) + (c0.toInt64)) * (31 : Int64)) + (c1.toInt64)) * (31 : Int64)) + (c2.toInt64))), .second, .val (.int (3 : Int32))] [(.long (own_mx (((((((0 : Int64) + (c0.toInt64)) * (31 : Int64)) + (c1.toInt64)) * (31 : Int64)) + (c2.toInt64)) + (-7046029254386353131 : Int64)))), (.long (own_mx p1)), (.ref b325), (.ref b325)])) _
  refine own_lxor X327 hx hby own_d5_50 (pc' := 51) rfl rfl ?_
  refine own_callSp X327 hx hZ (rm_sr l Z a0 hw [] b325 ((own_mx p1) ^^^ (own_mx (((((((0 : Int64) + (c0.toInt64)) * (31 : Int64)) + (c1.toInt64)) * (31 : Int64)) + (c2.toInt64)) + (-7046029254386353131 : Int64)))) h325 n0 ((O_0.ext E325)) (A325) (F325_state) l325) rfl hown (own_t hw 53 rfl) (own_t hw 54 rfl) (own_t hw 55 rfl) (own_t hw 32 rfl) (by decide) (W := 1) (by decide) (by decide) (by rw [hml]; rfl) (argsL := [(.long ((own_mx p1) ^^^ (own_mx (((((((0 : Int64) + (c0.toInt64)) * (31 : Int64)) + (c1.toInt64)) * (31 : Int64)) + (c2.toInt64)) + (-7046029254386353131 : Int64)))))]) (rest := [(.ref b325)]) rfl (lenOf own_pd16 rfl) rfl (Nat.le_of_eq rfl) (hb hby own_d5_51) e327 (by decide) (by decide) ?_
  intro v328 T328 L328 X328 hQ328
  obtain ⟨hv328, N328q, K328, E328, F328⟩ := hQ328
  subst hv328
  have N328 := Fr.app N327 N328q
  show own_Go p.tables e below (T328.setTop (mkF m 54 #[.val (.long p1), .second, .val (.ref a1), .val (.long ((((((0 : Int64) + (c0.toInt64)) * (31 : Int64)) + (c1.toInt64)) * (31 : Int64)) + (c2.toInt64))), .second, .val (.int (3 : Int32))] [(.ref b325)])) _
  exact own_retA X328 hx hret rfl rfl (hb hby own_d5_54) hlk (by decide) (by decide) ⟨b325, rfl, N328, (((Keep.refl h0 []).ext E325).trans K328 (allS (Or.inr (Nat.le_trans (Nat.le_refl _) (Nat.le_of_eq g325.symm))) all0)), (Nat.le_trans (Nat.le_refl _) (Nat.le_of_eq g325.symm)), E328, (by have q := F328; rw [own_nm3] at q; exact q)⟩
theorem own_ef_rm_of3_1 (m : MethodId) (p1 : Int64) (a1 : Addr) : entryFrame m #[(.long p1), (.ref a1)] 6 = mkF m 0 #[.val (.long p1), .second, .val (.ref a1), .unset, .unset, .unset] [] := by first | (simp [entryFrame, mkF, argsToLocals, Value.category]; done) | rfl
def Qrm_of3_1 (Z : State) (p1 : Int64) (a1 : Addr) (a2 : Addr) (c0 : Int32) (c1 : Int32) (c2 : Int32) (gS : Int32) (fm : Value) (h0 : Heap) (n0 : Nat) (v : Option Value) (h : Heap) (L : List Loc) : Prop := ∃ b, v = some (.ref b) ∧ Fr n0 L ∧ Keep h0 h [] ∧ h0.size ≤ b ∧ Exa Z h b "com/example/orbitwatch/orbitwatch/game/SeededRandom" ∧ Fld Z h b "com/example/orbitwatch/orbitwatch/game/SeededRandom" "state" "J" (.long ((own_mx p1) ^^^ (own_mx (((((961 : Int64) * (c0.toInt64)) + ((31 : Int64) * (c1.toInt64))) + (c2.toInt64)) + (-7046029254386353131 : Int64)))))
set_option maxRecDepth 65536 in
set_option maxHeartbeats 40000000 in
theorem rm_of3_1 (l : Launch) (Z : State) (a0 : Array Value) (hw : ∀ d ∈ tables_1, d.before a0 Z = true) (ws : List Jvm.Cond) (p1 : Int64) (a1 : Addr) (a2 : Addr) (c0 : Int32) (c1 : Int32) (c2 : Int32) (gS : Int32) (fm : Value) (h0 : Heap) (n0 : Nat) (O_0 : Old Z n0 h0) (S_S : Sta Z Z.heap "java/lang/String" "COMPACT_STRINGS" "Z" (.int gS)) (hS : ¬ gS = 0) (S_A : Sta Z Z.heap "java/lang/StringUTF16" "$assertionsDisabled" "Z" (.int (1 : Int32))) (S_H : Sta Z Z.heap "java/lang/StringUTF16" "HI_BYTE_SHIFT" "I" (.int (0 : Int32))) (S_L : Sta Z Z.heap "java/lang/StringUTF16" "LO_BYTE_SHIFT" "I" (.int (8 : Int32))) (S_F : Sta Z Z.heap "jdk/internal/util/Preconditions" "SIOOBE_FORMATTER" "Ljava/util/function/BiFunction;" fm) (hfm : fm.isRef = true) (E_1 : Exa Z h0 a1 "java/lang/String") (F_c : Fld Z h0 a1 "java/lang/String" "coder" "B" (.int (1 : Int32))) (F_v : Fld Z h0 a1 "java/lang/String" "value" "[B" (.ref a2)) (A_2 : own_Ar Z h0 a2 .byte [(.int (lo8 c0)), (.int (hi8 c0)), (.int (lo8 c1)), (.int (hi8 c1)), (.int (lo8 c2)), (.int (hi8 c2))]) (hb0 : own_W c0) (hb1 : own_W c1) (hb2 : own_W c2) :
    own_Met l (⟨"com/example/orbitwatch/orbitwatch/game/SeededRandom", "of", "(JLjava/lang/String;)Lcom/example/orbitwatch/orbitwatch/game/SeededRandom;"⟩ : MethodName) prog_45_method_2_code 6 (some (.object "com/example/orbitwatch/orbitwatch/game/SeededRandom")) ws ({ frames := 5, cells := 1, slots := 1, locals := 70 } : Room) #[(.long p1), (.ref a1)] Z h0 (Qrm_of3_1 Z p1 a1 a2 c0 c1 c2 gS fm h0 n0) := by
  refine own_body own_pn5 ?_
  intro p e s m below meth c T0 X0 hx hby hml hown hnm hret hlk hZ e0
  have N0 := Fr.nil n0
  refine own_st (fun t k => castTop (own_ef_rm_of3_1 m p1 a1) k) ?_
  show own_Go p.tables e below (T0.setTop (mkF m 0 #[.val (.long p1), .second, .val (.ref a1), .unset, .unset, .unset] [])) _
  have Z0 := own_Z0 O_0
  refine own_lconst X0 hx hby own_d5_0 (pc' := 1) rfl (z := (0 : Int64)) (by decide) ?_
  refine own_lstoreN X0 hx hby own_d5_1 (pc' := 2) rfl (Ls' := #[.val (.long p1), .second, .val (.ref a1), .val (.long (0 : Int64)), .second, .unset]) rfl ?_
  refine own_iconst X0 hx hby own_d5_2 (pc' := 3) rfl (z := (0 : Int32)) (by decide) ?_
  refine own_istore X0 hx hby own_d5_3 (pc' := 5) rfl (Ls' := #[.val (.long p1), .second, .val (.ref a1), .val (.long (0 : Int64)), .second, .val (.int (0 : Int32))]) rfl ?_
  refine own_iload X0 hx hby own_d5_5 (pc' := 7) rfl rfl ?_
  refine own_aloadN X0 hx hby own_d5_7 (pc' := 8) rfl rfl rfl ?_
  refine own_callV X0 hx hZ (rm_ln3_1 l Z a0 hw [] a1 a2 c0 c1 c2 gS h0 n0 (O_0) S_S hS E_1 F_c F_v A_2) hown (own_t hw 34 rfl) (own_t hw 35 rfl) (own_t hw 37 rfl) (own_t hw 36 rfl) (own_t hw 38 rfl) (own_t hw 4 rfl) (by decide) E_1 (W := 1) (by decide) (by decide) (by rw [hml]; rfl) (argsL := []) (rest := [(.int (0 : Int32))]) rfl (lenOf own_pd15 rfl) rfl (Nat.le_of_eq rfl) (hb hby own_d5_8) e0 (by decide) (by decide) ?_
  intro v329 T329 L329 X329 hQ329
  obtain ⟨hv329, N329q, e329⟩ := hQ329
  subst hv329
  have N329 := Fr.app N0 N329q
  show own_Go p.tables e below (T329.setTop (mkF m 11 #[.val (.long p1), .second, .val (.ref a1), .val (.long (0 : Int64)), .second, .val (.int (0 : Int32))] [(.int (3 : Int32)), (.int (0 : Int32))])) _
  refine own_icmpNo X329 hx hby own_d5_11 (pc' := 14) rfl (by decide) ?_
  refine own_lloadN X329 hx hby own_d5_14 (pc' := 15) rfl rfl ?_
  refine own_ldc2 X329 hx hby own_d5_15 (pc' := 18) rfl hZ hown (own_t hw 94 rfl) ?_
  refine own_lmul X329 hx hby own_d5_18 (pc' := 19) rfl (z := (0 : Int64)) (by decide) ?_
  refine own_aloadN X329 hx hby own_d5_19 (pc' := 20) rfl rfl rfl ?_
  refine own_iload X329 hx hby own_d5_20 (pc' := 22) rfl rfl ?_
  refine own_callV X329 hx hZ (rm_ch3_1_0 l Z a0 hw [] a1 a2 c0 c1 c2 gS fm h0 n0 (O_0) S_S hS S_A S_H S_L S_F hfm E_1 F_c F_v A_2 hb0) hown (own_t hw 95 rfl) (own_t hw 96 rfl) (own_t hw 98 rfl) (own_t hw 97 rfl) (own_t hw 99 rfl) (own_t hw 4 rfl) (by decide) E_1 (W := 2) (by decide) (by decide) (by rw [hml]; rfl) (argsL := [(.int (0 : Int32))]) (rest := [(.long (0 : Int64))]) rfl (lenOf own_pd17 rfl) rfl (Nat.le_of_eq rfl) (hb hby own_d5_22) e329 (by decide) (by decide) ?_
  intro v330 T330 L330 X330 hQ330
  obtain ⟨hv330, N330q, e330⟩ := hQ330
  subst hv330
  have N330 := Fr.app N329 N330q
  show own_Go p.tables e below (T330.setTop (mkF m 25 #[.val (.long p1), .second, .val (.ref a1), .val (.long (0 : Int64)), .second, .val (.int (0 : Int32))] [(.int c0), (.long (0 : Int64))])) _
  refine own_i2l X330 hx hby own_d5_25 (pc' := 26) rfl rfl ?_
  refine own_ladd X330 hx hby own_d5_26 (pc' := 27) rfl rfl ?_
  refine own_lstoreN X330 hx hby own_d5_27 (pc' := 28) rfl (Ls' := #[.val (.long p1), .second, .val (.ref a1), .val (.long ((0 : Int64) + (c0.toInt64))), .second, .val (.int (0 : Int32))]) rfl ?_
  refine own_iinc X330 hx hby own_d5_28 (pc' := 31) rfl rfl (z := (1 : Int32)) (by decide) (Ls' := #[.val (.long p1), .second, .val (.ref a1), .val (.long ((0 : Int64) + (c0.toInt64))), .second, .val (.int (1 : Int32))]) rfl ?_
  refine own_goto X330 hx hby own_d5_31 (pc' := 5) (by decide) ?_
  refine own_iload X330 hx hby own_d5_5 (pc' := 7) rfl rfl ?_
  refine own_aloadN X330 hx hby own_d5_7 (pc' := 8) rfl rfl rfl ?_
  refine own_callV X330 hx hZ (rm_ln3_1 l Z a0 hw [] a1 a2 c0 c1 c2 gS h0 n0 (O_0) S_S hS E_1 F_c F_v A_2) hown (own_t hw 34 rfl) (own_t hw 35 rfl) (own_t hw 37 rfl) (own_t hw 36 rfl) (own_t hw 38 rfl) (own_t hw 4 rfl) (by decide) E_1 (W := 1) (by decide) (by decide) (by rw [hml]; rfl) (argsL := []) (rest := [(.int (1 : Int32))]) rfl (lenOf own_pd15 rfl) rfl (Nat.le_of_eq rfl) (hb hby own_d5_8) e330 (by decide) (by decide) ?_
  intro v331 T331 L331 X331 hQ331
  obtain ⟨hv331, N331q, e331⟩ := hQ331
  subst hv331
  have N331 := Fr.app N330 N331q
  show own_Go p.tables e below (T331.setTop (mkF m 11 #[.val (.long p1), .second, .val (.ref a1), .val (.long ((0 : Int64) + (c0.toInt64))), .second, .val (.int (1 : Int32))] [(.int (3 : Int32)), (.int (1 : Int32))])) _
  refine own_icmpNo X331 hx hby own_d5_11 (pc' := 14) rfl (by decide) ?_
  refine own_lloadN X331 hx hby own_d5_14 (pc' := 15) rfl rfl ?_
  refine own_ldc2 X331 hx hby own_d5_15 (pc' := 18) rfl hZ hown (own_t hw 94 rfl) ?_
  refine own_lmul X331 hx hby own_d5_18 (pc' := 19) rfl rfl ?_
  refine own_aloadN X331 hx hby own_d5_19 (pc' := 20) rfl rfl rfl ?_
  refine own_iload X331 hx hby own_d5_20 (pc' := 22) rfl rfl ?_
  refine own_callV X331 hx hZ (rm_ch3_1_1 l Z a0 hw [] a1 a2 c0 c1 c2 gS fm h0 n0 (O_0) S_S hS S_A S_H S_L S_F hfm E_1 F_c F_v A_2 hb1) hown (own_t hw 95 rfl) (own_t hw 96 rfl) (own_t hw 98 rfl) (own_t hw 97 rfl) (own_t hw 99 rfl) (own_t hw 4 rfl) (by decide) E_1 (W := 2) (by decide) (by decide) (by rw [hml]; rfl) (argsL := [(.int (1 : Int32))]) (rest := [(.long (((0 : Int64) + (c0.toInt64)) * (31 : Int64)))]) rfl (lenOf own_pd17 rfl) rfl (Nat.le_of_eq rfl) (hb hby own_d5_22) e331 (by decide) (by decide) ?_
  intro v332 T332 L332 X332 hQ332
  obtain ⟨hv332, N332q, e332⟩ := hQ332
  subst hv332
  have N332 := Fr.app N331 N332q
  show own_Go p.tables e below (T332.setTop (mkF m 25 #[.val (.long p1), .second, .val (.ref a1), .val (.long ((0 : Int64) + (c0.toInt64))), .second, .val (.int (1 : Int32))] [(.int c1), (.long (((0 : Int64) + (c0.toInt64)) * (31 : Int64)))])) _
  refine own_i2l X332 hx hby own_d5_25 (pc' := 26) rfl rfl ?_
  refine own_ladd X332 hx hby own_d5_26 (pc' := 27) rfl rfl ?_
  refine own_lstoreN X332 hx hby own_d5_27 (pc' := 28) rfl (Ls' := #[.val (.long p1), .second, .val (.ref a1), .val (.long ((((0 : Int64) + (c0.toInt64)) * (31 : Int64)) + (c1.toInt64))), .second, .val (.int (1 : Int32))]) rfl ?_
  refine own_iinc X332 hx hby own_d5_28 (pc' := 31) rfl rfl (z := (2 : Int32)) (by decide) (Ls' := #[.val (.long p1), .second, .val (.ref a1), .val (.long ((((0 : Int64) + (c0.toInt64)) * (31 : Int64)) + (c1.toInt64))), .second, .val (.int (2 : Int32))]) rfl ?_
  refine own_goto X332 hx hby own_d5_31 (pc' := 5) (by decide) ?_
  refine own_iload X332 hx hby own_d5_5 (pc' := 7) rfl rfl ?_
  refine own_aloadN X332 hx hby own_d5_7 (pc' := 8) rfl rfl rfl ?_
  refine own_callV X332 hx hZ (rm_ln3_1 l Z a0 hw [] a1 a2 c0 c1 c2 gS h0 n0 (O_0) S_S hS E_1 F_c F_v A_2) hown (own_t hw 34 rfl) (own_t hw 35 rfl) (own_t hw 37 rfl) (own_t hw 36 rfl) (own_t hw 38 rfl) (own_t hw 4 rfl) (by decide) E_1 (W := 1) (by decide) (by decide) (by rw [hml]; rfl) (argsL := []) (rest := [(.int (2 : Int32))]) rfl (lenOf own_pd15 rfl) rfl (Nat.le_of_eq rfl) (hb hby own_d5_8) e332 (by decide) (by decide) ?_
  intro v333 T333 L333 X333 hQ333
  obtain ⟨hv333, N333q, e333⟩ := hQ333
  subst hv333
  have N333 := Fr.app N332 N333q
  show own_Go p.tables e below (T333.setTop (mkF m 11 #[.val (.long p1), .second, .val (.ref a1), .val (.long ((((0 : Int64) + (c0.toInt64)) * (31 : Int64)) + (c1.toInt64))), .second, .val (.int (2 : Int32))] [(.int (3 : Int32)), (.int (2 : Int32))])) _
  refine own_icmpNo X333 hx hby own_d5_11 (pc' := 14) rfl (by decide) ?_
  refine own_lloadN X333 hx hby own_d5_14 (pc' := 15) rfl rfl ?_
  refine own_ldc2 X333 hx hby own_d5_15 (pc' := 18) rfl hZ hown (own_t hw 94 rfl) ?_
  refine own_lmul X333 hx hby own_d5_18 (pc' := 19) rfl rfl ?_
  refine own_aloadN X333 hx hby own_d5_19 (pc' := 20) rfl rfl rfl ?_
  refine own_iload X333 hx hby own_d5_20 (pc' := 22) rfl rfl ?_
  refine own_callV X333 hx hZ (rm_ch3_1_2 l Z a0 hw [] a1 a2 c0 c1 c2 gS fm h0 n0 (O_0) S_S hS S_A S_H S_L S_F hfm E_1 F_c F_v A_2 hb2) hown (own_t hw 95 rfl) (own_t hw 96 rfl) (own_t hw 98 rfl) (own_t hw 97 rfl) (own_t hw 99 rfl) (own_t hw 4 rfl) (by decide) E_1 (W := 2) (by decide) (by decide) (by rw [hml]; rfl) (argsL := [(.int (2 : Int32))]) (rest := [(.long (((((0 : Int64) + (c0.toInt64)) * (31 : Int64)) + (c1.toInt64)) * (31 : Int64)))]) rfl (lenOf own_pd17 rfl) rfl (Nat.le_of_eq rfl) (hb hby own_d5_22) e333 (by decide) (by decide) ?_
  intro v334 T334 L334 X334 hQ334
  obtain ⟨hv334, N334q, e334⟩ := hQ334
  subst hv334
  have N334 := Fr.app N333 N334q
  show own_Go p.tables e below (T334.setTop (mkF m 25 #[.val (.long p1), .second, .val (.ref a1), .val (.long ((((0 : Int64) + (c0.toInt64)) * (31 : Int64)) + (c1.toInt64))), .second, .val (.int (2 : Int32))] [(.int c2), (.long (((((0 : Int64) + (c0.toInt64)) * (31 : Int64)) + (c1.toInt64)) * (31 : Int64)))])) _
  refine own_i2l X334 hx hby own_d5_25 (pc' := 26) rfl rfl ?_
  refine own_ladd X334 hx hby own_d5_26 (pc' := 27) rfl rfl ?_
  refine own_lstoreN X334 hx hby own_d5_27 (pc' := 28) rfl (Ls' := #[.val (.long p1), .second, .val (.ref a1), .val (.long ((((((0 : Int64) + (c0.toInt64)) * (31 : Int64)) + (c1.toInt64)) * (31 : Int64)) + (c2.toInt64))), .second, .val (.int (2 : Int32))]) rfl ?_
  refine own_iinc X334 hx hby own_d5_28 (pc' := 31) rfl rfl (z := (3 : Int32)) (by decide) (Ls' := #[.val (.long p1), .second, .val (.ref a1), .val (.long ((((((0 : Int64) + (c0.toInt64)) * (31 : Int64)) + (c1.toInt64)) * (31 : Int64)) + (c2.toInt64))), .second, .val (.int (3 : Int32))]) rfl ?_
  refine own_goto X334 hx hby own_d5_31 (pc' := 5) (by decide) ?_
  refine own_iload X334 hx hby own_d5_5 (pc' := 7) rfl rfl ?_
  refine own_aloadN X334 hx hby own_d5_7 (pc' := 8) rfl rfl rfl ?_
  refine own_callV X334 hx hZ (rm_ln3_1 l Z a0 hw [] a1 a2 c0 c1 c2 gS h0 n0 (O_0) S_S hS E_1 F_c F_v A_2) hown (own_t hw 34 rfl) (own_t hw 35 rfl) (own_t hw 37 rfl) (own_t hw 36 rfl) (own_t hw 38 rfl) (own_t hw 4 rfl) (by decide) E_1 (W := 1) (by decide) (by decide) (by rw [hml]; rfl) (argsL := []) (rest := [(.int (3 : Int32))]) rfl (lenOf own_pd15 rfl) rfl (Nat.le_of_eq rfl) (hb hby own_d5_8) e334 (by decide) (by decide) ?_
  intro v335 T335 L335 X335 hQ335
  obtain ⟨hv335, N335q, e335⟩ := hQ335
  subst hv335
  have N335 := Fr.app N334 N335q
  show own_Go p.tables e below (T335.setTop (mkF m 11 #[.val (.long p1), .second, .val (.ref a1), .val (.long ((((((0 : Int64) + (c0.toInt64)) * (31 : Int64)) + (c1.toInt64)) * (31 : Int64)) + (c2.toInt64))), .second, .val (.int (3 : Int32))] [(.int (3 : Int32)), (.int (3 : Int32))])) _
  refine own_icmpYes X335 hx hby own_d5_11 (pc' := 34) (by decide) (by decide) ?_
  refine own_new X335 hx hby own_d5_34 (pc' := 37) rfl hZ hown (own_t hw 45 rfl) (own_t hw 46 rfl) (own_t hw 32 rfl) e335 (by decide) (by decide) ?_
  intro T336 h336 b336 X336 e336 g336 E336 A336 D336
  have F336_state : Fld Z h336 b336 "com/example/orbitwatch/orbitwatch/game/SeededRandom" "state" "J" (.long (0 : Int64)) := D336 (Or.inl (own_t hw 58 rfl)) (ty := .long) (by decide)
  have l336 : n0 ≤ b336 := (Nat.le_trans Z0 (Nat.le_trans (Nat.le_refl _) (Nat.le_of_eq g336.symm)))
  refine own_dup X336 hx hby own_d5_37 (pc' := 38) rfl rfl ?_
  refine own_lloadN X336 hx hby own_d5_38 (pc' := 39) rfl rfl ?_
  refine own_callS X336 hx hZ (rm_mix l Z a0 hw [] p1 h336 n0) hown (own_t hw 47 rfl) (own_t hw 48 rfl) (own_t hw 32 rfl) (own_t hw 49 rfl) (by decide) (W := 2) (by decide) (by decide) (by rw [hml]; rfl) (argsL := [(.long p1)]) (rest := [(.ref b336), (.ref b336)]) rfl (lenOf own_pd14 rfl) rfl (Nat.le_of_eq rfl) (hb hby own_d5_39) e336 (by decide) (by decide) ?_
  intro v337 T337 L337 X337 hQ337
  obtain ⟨hv337, N337q, e337⟩ := hQ337
  subst hv337
  have N337 := Fr.app N335 N337q
  show own_Go p.tables e below (T337.setTop (mkF m 42 #[.val (.long p1), .second, .val (.ref a1), .val (.long ((((((0 : Int64) + (c0.toInt64)) * (31 : Int64)) + (c1.toInt64)) * (31 : Int64)) + (c2.toInt64))), .second, .val (.int (3 : Int32))] [(.long (own_mx p1)), (.ref b336), (.ref b336)])) _
  refine own_lloadN X337 hx hby own_d5_42 (pc' := 43) rfl rfl ?_
  refine own_ldc2 X337 hx hby own_d5_43 (pc' := 46) rfl hZ hown (own_t hw 52 rfl) ?_
  refine own_ladd X337 hx hby own_d5_46 (pc' := 47) rfl rfl ?_
  refine own_callS X337 hx hZ (rm_mix l Z a0 hw [] (((((((0 : Int64) + (c0.toInt64)) * (31 : Int64)) + (c1.toInt64)) * (31 : Int64)) + (c2.toInt64)) + (-7046029254386353131 : Int64)) h336 n0) hown (own_t hw 47 rfl) (own_t hw 48 rfl) (own_t hw 32 rfl) (own_t hw 49 rfl) (by decide) (W := 4) (by decide) (by decide) (by rw [hml]; rfl) (argsL := [(.long (((((((0 : Int64) + (c0.toInt64)) * (31 : Int64)) + (c1.toInt64)) * (31 : Int64)) + (c2.toInt64)) + (-7046029254386353131 : Int64)))]) (rest := [(.long (own_mx p1)), (.ref b336), (.ref b336)]) rfl (lenOf own_pd14 rfl) rfl (Nat.le_of_eq rfl) (hb hby own_d5_47) e337 (by decide) (by decide) ?_
  intro v338 T338 L338 X338 hQ338
  obtain ⟨hv338, N338q, e338⟩ := hQ338
  subst hv338
  have N338 := Fr.app N337 N338q
  show own_Go p.tables e below (T338.setTop (mkF m 50 #[.val (.long p1), .second, .val (.ref a1), .val (.long ((((((0 : Int64) + (c0.toInt64)) * (31 : Int64)) + (c1.toInt64)) * (31 : Int64)) + (c2.toInt64))), .second, .val (.int (3 : Int32))] [(.long (own_mx (((((((0 : Int64) + (c0.toInt64)) * (31 : Int64)) + (c1.toInt64)) * (31 : Int64)) + (c2.toInt64)) + (-7046029254386353131 : Int64)))), (.long (own_mx p1)), (.ref b336), (.ref b336)])) _
  refine own_lxor X338 hx hby own_d5_50 (pc' := 51) rfl rfl ?_
  refine own_callSp X338 hx hZ (rm_sr l Z a0 hw [] b336 ((own_mx p1) ^^^ (own_mx (((((((0 : Int64) + (c0.toInt64)) * (31 : Int64)) + (c1.toInt64)) * (31 : Int64)) + (c2.toInt64)) + (-7046029254386353131 : Int64)))) h336 n0 ((O_0.ext E336)) (A336) (F336_state) l336) rfl hown (own_t hw 53 rfl) (own_t hw 54 rfl) (own_t hw 55 rfl) (own_t hw 32 rfl) (by decide) (W := 1) (by decide) (by decide) (by rw [hml]; rfl) (argsL := [(.long ((own_mx p1) ^^^ (own_mx (((((((0 : Int64) + (c0.toInt64)) * (31 : Int64)) + (c1.toInt64)) * (31 : Int64)) + (c2.toInt64)) + (-7046029254386353131 : Int64)))))]) (rest := [(.ref b336)]) rfl (lenOf own_pd16 rfl) rfl (Nat.le_of_eq rfl) (hb hby own_d5_51) e338 (by decide) (by decide) ?_
  intro v339 T339 L339 X339 hQ339
  obtain ⟨hv339, N339q, K339, E339, F339⟩ := hQ339
  subst hv339
  have N339 := Fr.app N338 N339q
  show own_Go p.tables e below (T339.setTop (mkF m 54 #[.val (.long p1), .second, .val (.ref a1), .val (.long ((((((0 : Int64) + (c0.toInt64)) * (31 : Int64)) + (c1.toInt64)) * (31 : Int64)) + (c2.toInt64))), .second, .val (.int (3 : Int32))] [(.ref b336)])) _
  exact own_retA X339 hx hret rfl rfl (hb hby own_d5_54) hlk (by decide) (by decide) ⟨b336, rfl, N339, (((Keep.refl h0 []).ext E336).trans K339 (allS (Or.inr (Nat.le_trans (Nat.le_refl _) (Nat.le_of_eq g336.symm))) all0)), (Nat.le_trans (Nat.le_refl _) (Nat.le_of_eq g336.symm)), E339, (by have q := F339; rw [own_nm3] at q; exact q)⟩
theorem own_pd18 : parseMethodDescriptor "([C)V" = some ⟨[(.array .char)], none⟩ := by decide +kernel
theorem own_pd19 : parseMethodDescriptor "(JLjava/lang/String;)Lcom/example/orbitwatch/orbitwatch/game/SeededRandom;" = some ⟨[.long, (.object "java/lang/String")], some (.object "com/example/orbitwatch/orbitwatch/game/SeededRandom")⟩ := by decide +kernel
theorem own_pd20 : parseMethodDescriptor "()J" = some ⟨[], some .long⟩ := by decide +kernel
theorem own_ef_rm0 (m : MethodId) (p1 : Int64) (p2 : Int32) (p3 : Int32) : entryFrame m #[(.long p1), (.int p2), (.int p3)] maxLocals = mkF m 0 #[.val (.long p1), .second, .val (.int p2), .val (.int p3), .unset, .unset, .unset, .unset, .unset, .unset, .unset, .unset, .unset, .unset, .unset, .unset, .unset, .unset, .unset, .unset, .unset, .unset, .unset] [] := by first | (simp [entryFrame, mkF, argsToLocals, Value.category, maxLocals]; done) | rfl
def Qrm0 (Z : State) (p1 : Int64) (p2 : Int32) (p3 : Int32) (gS : Int32) (fm : Value) (h0 : Heap) (n0 : Nat) (v : Option Value) (h : Heap) (L : List Loc) : Prop := v = some (.int (1 : Int32)) ∧ Fr n0 L
set_option maxRecDepth 65536 in
set_option maxHeartbeats 40000000 in
theorem rm0 (l : Launch) (Z : State) (a0 : Array Value) (hw : ∀ d ∈ tables_1, d.before a0 Z = true) (ws : List Jvm.Cond) (p1 : Int64) (p2 : Int32) (p3 : Int32) (gS : Int32) (fm : Value) (h0 : Heap) (n0 : Nat) (hEL : EW Z a0 own_EL) (O_0 : Old Z n0 h0) (S_S : Sta Z Z.heap "java/lang/String" "COMPACT_STRINGS" "Z" (.int gS)) (hS : ¬ gS = 0) (S_A : Sta Z Z.heap "java/lang/StringUTF16" "$assertionsDisabled" "Z" (.int (1 : Int32))) (S_H : Sta Z Z.heap "java/lang/StringUTF16" "HI_BYTE_SHIFT" "I" (.int (0 : Int32))) (S_L : Sta Z Z.heap "java/lang/StringUTF16" "LO_BYTE_SHIFT" "I" (.int (8 : Int32))) (S_F : Sta Z Z.heap "jdk/internal/util/Preconditions" "SIOOBE_FORMATTER" "Ljava/util/function/BiFunction;" fm) (hfm : fm.isRef = true) :
    own_MetW l x code maxLocals ret ws room_1 #[(.long p1), (.int p2), (.int p3)] Z own_EL h0 (Qrm0 Z p1 p2 p3 gS fm h0 n0) := by
  refine own_bodyW own_pn0 ?_
  intro p e s m below meth c T0 X0 hx hby hml hnm hret hlk W0 e0
  have hZ := W0.1
  have hown := W0.2.1
  have N0 := Fr.nil n0
  refine own_st (fun t k => castTop (own_ef_rm0 m p1 p2 p3) k) ?_
  show own_Go p.tables e below (T0.setTop (mkF m 0 #[.val (.long p1), .second, .val (.int p2), .val (.int p3), .unset, .unset, .unset, .unset, .unset, .unset, .unset, .unset, .unset, .unset, .unset, .unset, .unset, .unset, .unset, .unset, .unset, .unset, .unset] [])) _
  have Z0 := own_Z0 O_0
  refine own_iloadN X0 hx hby at_0 (pc' := 1) rfl rfl ?_
  refine own_ldc X0 hx hby at_1 (pc' := 3) rfl hZ hown (own_t hw 0 rfl) ?_
  refine own_iand X0 hx hby at_3 (pc' := 4) rfl rfl ?_
  refine own_i2c X0 hx hby at_4 (pc' := 5) rfl rfl ?_
  refine own_istore X0 hx hby at_5 (pc' := 7) rfl (Ls' := #[.val (.long p1), .second, .val (.int p2), .val (.int p3), .val (.int ((p2 &&& (65535 : Int32)).toUInt32.toUInt16.toUInt32.toInt32)), .unset, .unset, .unset, .unset, .unset, .unset, .unset, .unset, .unset, .unset, .unset, .unset, .unset, .unset, .unset, .unset, .unset, .unset]) rfl ?_
  refine own_iloadN X0 hx hby at_7 (pc' := 8) rfl rfl ?_
  refine own_bipush X0 hx hby at_8 (pc' := 10) rfl (z := (16 : Int32)) (by decide) ?_
  refine own_iushr X0 hx hby at_10 (pc' := 11) rfl rfl ?_
  refine own_ldc X0 hx hby at_11 (pc' := 13) rfl hZ hown (own_t hw 0 rfl) ?_
  refine own_iand X0 hx hby at_13 (pc' := 14) rfl rfl ?_
  refine own_i2c X0 hx hby at_14 (pc' := 15) rfl rfl ?_
  refine own_istore X0 hx hby at_15 (pc' := 17) rfl (Ls' := #[.val (.long p1), .second, .val (.int p2), .val (.int p3), .val (.int ((p2 &&& (65535 : Int32)).toUInt32.toUInt16.toUInt32.toInt32)), .val (.int ((((p2.toUInt32 >>> ((16 : Int32) &&& 31).toUInt32).toInt32) &&& (65535 : Int32)).toUInt32.toUInt16.toUInt32.toInt32)), .unset, .unset, .unset, .unset, .unset, .unset, .unset, .unset, .unset, .unset, .unset, .unset, .unset, .unset, .unset, .unset, .unset]) rfl ?_
  refine own_iloadN X0 hx hby at_17 (pc' := 18) rfl rfl ?_
  refine own_ldc X0 hx hby at_18 (pc' := 20) rfl hZ hown (own_t hw 0 rfl) ?_
  refine own_iand X0 hx hby at_20 (pc' := 21) rfl rfl ?_
  refine own_i2c X0 hx hby at_21 (pc' := 22) rfl rfl ?_
  refine own_istore X0 hx hby at_22 (pc' := 24) rfl (Ls' := #[.val (.long p1), .second, .val (.int p2), .val (.int p3), .val (.int ((p2 &&& (65535 : Int32)).toUInt32.toUInt16.toUInt32.toInt32)), .val (.int ((((p2.toUInt32 >>> ((16 : Int32) &&& 31).toUInt32).toInt32) &&& (65535 : Int32)).toUInt32.toUInt16.toUInt32.toInt32)), .val (.int ((p3 &&& (65535 : Int32)).toUInt32.toUInt16.toUInt32.toInt32)), .unset, .unset, .unset, .unset, .unset, .unset, .unset, .unset, .unset, .unset, .unset, .unset, .unset, .unset, .unset, .unset]) rfl ?_
  show own_Go p.tables e below (T0.setTop (mkF m 24 #[.val (.long p1), .second, .val (.int p2), .val (.int p3), .val (.int ((p2 &&& (65535 : Int32)).toUInt32.toUInt16.toUInt32.toInt32)), .val (.int ((((p2.toUInt32 >>> ((16 : Int32) &&& 31).toUInt32).toInt32) &&& (65535 : Int32)).toUInt32.toUInt16.toUInt32.toInt32)), .val (.int ((p3 &&& (65535 : Int32)).toUInt32.toUInt16.toUInt32.toInt32)), .unset, .unset, .unset, .unset, .unset, .unset, .unset, .unset, .unset, .unset, .unset, .unset, .unset, .unset, .unset, .unset] [])) _
  generalize hX0 : ((p2 &&& (65535 : Int32)).toUInt32.toUInt16.toUInt32.toInt32) = c0
  generalize hX1 : ((((p2.toUInt32 >>> ((16 : Int32) &&& 31).toUInt32).toInt32) &&& (65535 : Int32)).toUInt32.toUInt16.toUInt32.toInt32) = c1
  generalize hX2 : ((p3 &&& (65535 : Int32)).toUInt32.toUInt16.toUInt32.toInt32) = c2
  have hb0 := own_u16 hX0
  have hb1 := own_u16 hX1
  have hb2 := own_u16 hX2
  show own_Go p.tables e below (T0.setTop (mkF m 24 #[.val (.long p1), .second, .val (.int p2), .val (.int p3), .val (.int c0), .val (.int c1), .val (.int c2), .unset, .unset, .unset, .unset, .unset, .unset, .unset, .unset, .unset, .unset, .unset, .unset, .unset, .unset, .unset, .unset] [])) _
  refine own_iloadN X0 hx hby at_24 (pc' := 25) rfl rfl ?_
  refine own_bipush X0 hx hby at_25 (pc' := 27) rfl (z := (16 : Int32)) (by decide) ?_
  refine own_iushr X0 hx hby at_27 (pc' := 28) rfl rfl ?_
  refine own_iconst X0 hx hby at_28 (pc' := 29) rfl (z := (3 : Int32)) (by decide) ?_
  refine own_iand X0 hx hby at_29 (pc' := 30) rfl rfl ?_
  refine own_istore X0 hx hby at_30 (pc' := 32) rfl (Ls' := #[.val (.long p1), .second, .val (.int p2), .val (.int p3), .val (.int c0), .val (.int c1), .val (.int c2), .val (.int (((p3.toUInt32 >>> ((16 : Int32) &&& 31).toUInt32).toInt32) &&& (3 : Int32))), .unset, .unset, .unset, .unset, .unset, .unset, .unset, .unset, .unset, .unset, .unset, .unset, .unset, .unset, .unset]) rfl ?_
  refine own_iload X0 hx hby at_32 (pc' := 34) rfl rfl ?_
  by_cases hc34 : (((p3.toUInt32 >>> ((16 : Int32) &&& 31).toUInt32).toInt32) &&& (3 : Int32)) = (0 : Int32)
  · skip
    refine own_ifNo X0 hx hby at_34 (pc' := 37) rfl (teq hc34).2 ?_
    refine own_iconst X0 hx hby at_37 (pc' := 38) rfl (z := (0 : Int32)) (by decide) ?_
    refine own_newA X0 hx hby at_38 (pc' := 40) rfl hZ (own_t hw 1 rfl) e0 (by decide) (cap := 0) (by decide) (by decide) (by decide) (by decide) (vs := []) (by rfl) ?_
    intro T340 h340 b340 X340 e340 g340 E340 A340
    have l340 : n0 ≤ b340 := (Nat.le_trans Z0 (Nat.le_trans (Nat.le_refl _) (Nat.le_of_eq g340.symm)))
    refine own_astore X340 hx hby at_40 (pc' := 42) rfl rfl (Ls' := #[.val (.long p1), .second, .val (.int p2), .val (.int p3), .val (.int c0), .val (.int c1), .val (.int c2), .val (.int (((p3.toUInt32 >>> ((16 : Int32) &&& 31).toUInt32).toInt32) &&& (3 : Int32))), .val (.ref b340), .unset, .unset, .unset, .unset, .unset, .unset, .unset, .unset, .unset, .unset, .unset, .unset, .unset, .unset]) rfl ?_
    refine own_lconst X340 hx hby at_42 (pc' := 43) rfl (z := (0 : Int64)) (by decide) ?_
    refine own_lstore X340 hx hby at_43 (pc' := 45) rfl (Ls' := #[.val (.long p1), .second, .val (.int p2), .val (.int p3), .val (.int c0), .val (.int c1), .val (.int c2), .val (.int (((p3.toUInt32 >>> ((16 : Int32) &&& 31).toUInt32).toInt32) &&& (3 : Int32))), .val (.ref b340), .val (.long (0 : Int64)), .second, .unset, .unset, .unset, .unset, .unset, .unset, .unset, .unset, .unset, .unset, .unset, .unset]) rfl ?_
    refine own_goto X340 hx hby at_45 (pc' := 150) (by decide) ?_
    refine own_new X340 hx hby at_150 (pc' := 153) rfl hZ hown (own_t hw 2 rfl) (own_t hw 3 rfl) (own_t hw 4 rfl) e340 (by decide) (by decide) ?_
    intro T341 h341 b341 X341 e341 g341 E341 A341 D341
    have F341_value : Fld Z h341 b341 "java/lang/String" "value" "[B" .null := D341 (Or.inr (own_t hw 17 rfl)) (ty := (.array .byte)) (by decide)
    have F341_coder : Fld Z h341 b341 "java/lang/String" "coder" "B" (.int (0 : Int32)) := D341 (Or.inr (own_t hw 18 rfl)) (ty := .byte) (by decide)
    have l341 : n0 ≤ b341 := (Nat.le_trans Z0 (Nat.le_trans (Nat.le_trans (Nat.le_refl _) E340.1) (Nat.le_of_eq g341.symm)))
    refine own_dup X341 hx hby at_153 (pc' := 154) rfl rfl ?_
    refine own_aload X341 hx hby at_154 (pc' := 156) rfl rfl rfl ?_
    refine own_callSpW X341 hx hEL (((W0.ext E340).ext E341)) (rm_e1 l Z a0 hw [] b341 b340 h341 n0 hEL (A341) (F341_value) (F341_coder) l341 ((A340.ext E341))) rfl (own_t hw 5 rfl) (own_t hw 6 rfl) (own_t hw 7 rfl) (own_t hw 4 rfl) (by decide) (W := 1) (by decide) (by decide) (by rw [hml]; rfl) (argsL := [(.ref b340)]) (rest := [(.ref b341)]) rfl (lenOf own_pd18 rfl) rfl (Nat.le_of_eq rfl) (hb hby at_156) e341 (by decide) (by decide) ?_
    intro v342 T342 L342 vm342 X342 hQ342 W342 C342
    obtain ⟨hv342, N342q, K342, E342, C342, t342, V342, A342⟩ := hQ342
    subst hv342
    have N342 := Fr.app N0 N342q
    have hZ := W342.1
    have hown := W342.2.1
    have c343 := (((O_0.ext E340).ext E341).keep K342 (allS l341 all0))
    show own_Go p.tables e below (T342.setTop (mkF m 159 #[.val (.long p1), .second, .val (.int p2), .val (.int p3), .val (.int c0), .val (.int c1), .val (.int c2), .val (.int (((p3.toUInt32 >>> ((16 : Int32) &&& 31).toUInt32).toInt32) &&& (3 : Int32))), .val (.ref b340), .val (.long (0 : Int64)), .second, .unset, .unset, .unset, .unset, .unset, .unset, .unset, .unset, .unset, .unset, .unset, .unset] [(.ref b341)])) _
    refine own_astore X342 hx hby at_159 (pc' := 161) rfl rfl (Ls' := #[.val (.long p1), .second, .val (.int p2), .val (.int p3), .val (.int c0), .val (.int c1), .val (.int c2), .val (.int (((p3.toUInt32 >>> ((16 : Int32) &&& 31).toUInt32).toInt32) &&& (3 : Int32))), .val (.ref b340), .val (.long (0 : Int64)), .second, .val (.ref b341), .unset, .unset, .unset, .unset, .unset, .unset, .unset, .unset, .unset, .unset, .unset]) rfl ?_
    refine own_lloadN X342 hx hby at_161 (pc' := 162) rfl rfl ?_
    refine own_callS X342 hx hZ (rm_fin l Z a0 hw [] p1 T342.heap n0) hown (own_t hw 23 rfl) (own_t hw 24 rfl) (own_t hw 25 rfl) (own_t hw 26 rfl) (by decide) (W := 0) (by decide) (by decide) (by rw [hml]; rfl) (argsL := [(.long p1)]) (rest := []) rfl (lenOf own_pd14 rfl) rfl (Nat.le_of_eq rfl) (hb hby at_162) rfl (by decide) (by decide) ?_
    intro v344 T344 L344 X344 hQ344
    obtain ⟨hv344, N344q, e344⟩ := hQ344
    subst hv344
    have N344 := Fr.app N342 N344q
    show own_Go p.tables e below (T344.setTop (mkF m 165 #[.val (.long p1), .second, .val (.int p2), .val (.int p3), .val (.int c0), .val (.int c1), .val (.int c2), .val (.int (((p3.toUInt32 >>> ((16 : Int32) &&& 31).toUInt32).toInt32) &&& (3 : Int32))), .val (.ref b340), .val (.long (0 : Int64)), .second, .val (.ref b341), .unset, .unset, .unset, .unset, .unset, .unset, .unset, .unset, .unset, .unset, .unset] [(.long (own_mx p1))])) _
    refine own_lload X344 hx hby at_165 (pc' := 167) rfl rfl ?_
    refine own_ldc2 X344 hx hby at_167 (pc' := 170) rfl hZ hown (own_t hw 29 rfl) ?_
    refine own_ladd X344 hx hby at_170 (pc' := 171) rfl (z := (-7046029254386353131 : Int64)) (by decide) ?_
    refine own_callS X344 hx hZ (rm_fin l Z a0 hw [] (-7046029254386353131 : Int64) T342.heap n0) hown (own_t hw 23 rfl) (own_t hw 24 rfl) (own_t hw 25 rfl) (own_t hw 26 rfl) (by decide) (W := 2) (by decide) (by decide) (by rw [hml]; rfl) (argsL := [(.long (-7046029254386353131 : Int64))]) (rest := [(.long (own_mx p1))]) rfl (lenOf own_pd14 rfl) rfl (Nat.le_of_eq rfl) (hb hby at_171) e344 (by decide) (by decide) ?_
    intro v345 T345 L345 X345 hQ345
    obtain ⟨hv345, N345q, e345⟩ := hQ345
    subst hv345
    have N345 := Fr.app N344 N345q
    show own_Go p.tables e below (T345.setTop (mkF m 174 #[.val (.long p1), .second, .val (.int p2), .val (.int p3), .val (.int c0), .val (.int c1), .val (.int c2), .val (.int (((p3.toUInt32 >>> ((16 : Int32) &&& 31).toUInt32).toInt32) &&& (3 : Int32))), .val (.ref b340), .val (.long (0 : Int64)), .second, .val (.ref b341), .unset, .unset, .unset, .unset, .unset, .unset, .unset, .unset, .unset, .unset, .unset] [(.long (own_mx (-7046029254386353131 : Int64))), (.long (own_mx p1))])) _
    refine own_lxor X345 hx hby at_174 (pc' := 175) rfl rfl ?_
    refine own_lstore X345 hx hby at_175 (pc' := 177) rfl (Ls' := #[.val (.long p1), .second, .val (.int p2), .val (.int p3), .val (.int c0), .val (.int c1), .val (.int c2), .val (.int (((p3.toUInt32 >>> ((16 : Int32) &&& 31).toUInt32).toInt32) &&& (3 : Int32))), .val (.ref b340), .val (.long (0 : Int64)), .second, .val (.ref b341), .val (.long ((own_mx p1) ^^^ (own_mx (-7046029254386353131 : Int64)))), .second, .unset, .unset, .unset, .unset, .unset, .unset, .unset, .unset, .unset]) rfl ?_
    show own_Go p.tables e below (T345.setTop (mkF m 177 #[.val (.long p1), .second, .val (.int p2), .val (.int p3), .val (.int c0), .val (.int c1), .val (.int c2), .val (.int (((p3.toUInt32 >>> ((16 : Int32) &&& 31).toUInt32).toInt32) &&& (3 : Int32))), .val (.ref b340), .val (.long (0 : Int64)), .second, .val (.ref b341), .val (.long ((own_mx p1) ^^^ (own_mx (-7046029254386353131 : Int64)))), .second, .unset, .unset, .unset, .unset, .unset, .unset, .unset, .unset, .unset] [])) _
    generalize hsg : ((own_mx p1) ^^^ (own_mx (-7046029254386353131 : Int64))) = sg
    show own_Go p.tables e below (T345.setTop (mkF m 177 #[.val (.long p1), .second, .val (.int p2), .val (.int p3), .val (.int c0), .val (.int c1), .val (.int c2), .val (.int (((p3.toUInt32 >>> ((16 : Int32) &&& 31).toUInt32).toInt32) &&& (3 : Int32))), .val (.ref b340), .val (.long (0 : Int64)), .second, .val (.ref b341), .val (.long sg), .second, .unset, .unset, .unset, .unset, .unset, .unset, .unset, .unset, .unset] [])) _
    refine own_lload X345 hx hby at_177 (pc' := 179) rfl rfl ?_
    refine own_ldc2 X345 hx hby at_179 (pc' := 182) rfl hZ hown (own_t hw 29 rfl) ?_
    refine own_ladd X345 hx hby at_182 (pc' := 183) rfl rfl ?_
    refine own_callS X345 hx hZ (rm_fin l Z a0 hw [] (sg + (-7046029254386353131 : Int64)) T342.heap n0) hown (own_t hw 23 rfl) (own_t hw 24 rfl) (own_t hw 25 rfl) (own_t hw 26 rfl) (by decide) (W := 0) (by decide) (by decide) (by rw [hml]; rfl) (argsL := [(.long (sg + (-7046029254386353131 : Int64)))]) (rest := []) rfl (lenOf own_pd14 rfl) rfl (Nat.le_of_eq rfl) (hb hby at_183) e345 (by decide) (by decide) ?_
    intro v346 T346 L346 X346 hQ346
    obtain ⟨hv346, N346q, e346⟩ := hQ346
    subst hv346
    have N346 := Fr.app N345 N346q
    show own_Go p.tables e below (T346.setTop (mkF m 186 #[.val (.long p1), .second, .val (.int p2), .val (.int p3), .val (.int c0), .val (.int c1), .val (.int c2), .val (.int (((p3.toUInt32 >>> ((16 : Int32) &&& 31).toUInt32).toInt32) &&& (3 : Int32))), .val (.ref b340), .val (.long (0 : Int64)), .second, .val (.ref b341), .val (.long sg), .second, .unset, .unset, .unset, .unset, .unset, .unset, .unset, .unset, .unset] [(.long (own_mx (sg + (-7046029254386353131 : Int64))))])) _
    refine own_lstore X346 hx hby at_186 (pc' := 188) rfl (Ls' := #[.val (.long p1), .second, .val (.int p2), .val (.int p3), .val (.int c0), .val (.int c1), .val (.int c2), .val (.int (((p3.toUInt32 >>> ((16 : Int32) &&& 31).toUInt32).toInt32) &&& (3 : Int32))), .val (.ref b340), .val (.long (0 : Int64)), .second, .val (.ref b341), .val (.long sg), .second, .val (.long (own_mx (sg + (-7046029254386353131 : Int64)))), .second, .unset, .unset, .unset, .unset, .unset, .unset, .unset]) rfl ?_
    refine own_lload X346 hx hby at_188 (pc' := 190) rfl rfl ?_
    refine own_ldc2 X346 hx hby at_190 (pc' := 193) rfl hZ hown (own_t hw 29 rfl) ?_
    refine own_ladd X346 hx hby at_193 (pc' := 194) rfl rfl ?_
    refine own_ldc2 X346 hx hby at_194 (pc' := 197) rfl hZ hown (own_t hw 29 rfl) ?_
    refine own_ladd X346 hx hby at_197 (pc' := 198) rfl rfl ?_
    refine own_callS X346 hx hZ (rm_fin l Z a0 hw [] ((sg + (-7046029254386353131 : Int64)) + (-7046029254386353131 : Int64)) T342.heap n0) hown (own_t hw 23 rfl) (own_t hw 24 rfl) (own_t hw 25 rfl) (own_t hw 26 rfl) (by decide) (W := 0) (by decide) (by decide) (by rw [hml]; rfl) (argsL := [(.long ((sg + (-7046029254386353131 : Int64)) + (-7046029254386353131 : Int64)))]) (rest := []) rfl (lenOf own_pd14 rfl) rfl (Nat.le_of_eq rfl) (hb hby at_198) e346 (by decide) (by decide) ?_
    intro v347 T347 L347 X347 hQ347
    obtain ⟨hv347, N347q, e347⟩ := hQ347
    subst hv347
    have N347 := Fr.app N346 N347q
    show own_Go p.tables e below (T347.setTop (mkF m 201 #[.val (.long p1), .second, .val (.int p2), .val (.int p3), .val (.int c0), .val (.int c1), .val (.int c2), .val (.int (((p3.toUInt32 >>> ((16 : Int32) &&& 31).toUInt32).toInt32) &&& (3 : Int32))), .val (.ref b340), .val (.long (0 : Int64)), .second, .val (.ref b341), .val (.long sg), .second, .val (.long (own_mx (sg + (-7046029254386353131 : Int64)))), .second, .unset, .unset, .unset, .unset, .unset, .unset, .unset] [(.long (own_mx ((sg + (-7046029254386353131 : Int64)) + (-7046029254386353131 : Int64))))])) _
    refine own_lstore X347 hx hby at_201 (pc' := 203) rfl (Ls' := #[.val (.long p1), .second, .val (.int p2), .val (.int p3), .val (.int c0), .val (.int c1), .val (.int c2), .val (.int (((p3.toUInt32 >>> ((16 : Int32) &&& 31).toUInt32).toInt32) &&& (3 : Int32))), .val (.ref b340), .val (.long (0 : Int64)), .second, .val (.ref b341), .val (.long sg), .second, .val (.long (own_mx (sg + (-7046029254386353131 : Int64)))), .second, .val (.long (own_mx ((sg + (-7046029254386353131 : Int64)) + (-7046029254386353131 : Int64)))), .second, .unset, .unset, .unset, .unset, .unset]) rfl ?_
    refine own_lloadN X347 hx hby at_203 (pc' := 204) rfl rfl ?_
    refine own_aload X347 hx hby at_204 (pc' := 206) rfl rfl rfl ?_
    refine own_callS X347 hx hZ (rm_of0_0 l Z a0 hw [] p1 b341 t342  gS fm T342.heap n0 (c343) S_S hS S_A S_H S_L S_F hfm (E342) (C342) (V342) (A342)  ) hown (own_t hw 30 rfl) (own_t hw 31 rfl) (own_t hw 32 rfl) (own_t hw 33 rfl) (by decide) (W := 0) (by decide) (by decide) (by rw [hml]; rfl) (argsL := [(.long p1), (.ref b341)]) (rest := []) rfl (lenOf own_pd19 rfl) rfl (Nat.le_of_eq rfl) (hb hby at_206) e347 (by decide) (by decide) ?_
    intro v348 T348 L348 X348 hQ348
    obtain ⟨b348, hv348, N348q, K348, g348, E348, F348⟩ := hQ348
    rw [hsg] at F348
    subst hv348
    have N348 := Fr.app N347 N348q
    have l348 : n0 ≤ b348 := (Nat.le_trans Z0 (Nat.le_trans (Nat.le_trans (Nat.le_trans (Nat.le_trans (Nat.le_refl _) E340.1) E341.1) K342.1) g348))
    have c349 := (W342.keep K348 all0)
    have c350 := (c343.keep K348 all0)
    show own_Go p.tables e below (T348.setTop (mkF m 209 #[.val (.long p1), .second, .val (.int p2), .val (.int p3), .val (.int c0), .val (.int c1), .val (.int c2), .val (.int (((p3.toUInt32 >>> ((16 : Int32) &&& 31).toUInt32).toInt32) &&& (3 : Int32))), .val (.ref b340), .val (.long (0 : Int64)), .second, .val (.ref b341), .val (.long sg), .second, .val (.long (own_mx (sg + (-7046029254386353131 : Int64)))), .second, .val (.long (own_mx ((sg + (-7046029254386353131 : Int64)) + (-7046029254386353131 : Int64)))), .second, .unset, .unset, .unset, .unset, .unset] [(.ref b348)])) _
    refine own_astore X348 hx hby at_209 (pc' := 211) rfl rfl (Ls' := #[.val (.long p1), .second, .val (.int p2), .val (.int p3), .val (.int c0), .val (.int c1), .val (.int c2), .val (.int (((p3.toUInt32 >>> ((16 : Int32) &&& 31).toUInt32).toInt32) &&& (3 : Int32))), .val (.ref b340), .val (.long (0 : Int64)), .second, .val (.ref b341), .val (.long sg), .second, .val (.long (own_mx (sg + (-7046029254386353131 : Int64)))), .second, .val (.long (own_mx ((sg + (-7046029254386353131 : Int64)) + (-7046029254386353131 : Int64)))), .second, .val (.ref b348), .unset, .unset, .unset, .unset]) rfl ?_
    refine own_aload X348 hx hby at_211 (pc' := 213) rfl rfl rfl ?_
    refine own_callV X348 hx hZ (rm_nx l Z a0 hw [] b348 sg T348.heap n0 (c350) (E348) (F348) l348) hown (own_t hw 59 rfl) (own_t hw 60 rfl) (own_t hw 62 rfl) (own_t hw 61 rfl) (own_t hw 63 rfl) (own_t hw 32 rfl) (by decide) E348 (W := 0) (by decide) (by decide) (by rw [hml]; rfl) (argsL := []) (rest := []) rfl (lenOf own_pd20 rfl) rfl (Nat.le_of_eq rfl) (hb hby at_213) rfl (by decide) (by decide) ?_
    intro v351 T351 L351 X351 hQ351
    obtain ⟨hv351, N351q, K351, E351, F351⟩ := hQ351
    subst hv351
    have N351 := Fr.app N348 N351q
    have c352 := (c349.keep K351 (allS (Safe.exa (c349).1.alike E348 (by decide) (by decide)) all0))
    have c353 := (c350.keep K351 (allS l348 all0))
    show own_Go p.tables e below (T351.setTop (mkF m 216 #[.val (.long p1), .second, .val (.int p2), .val (.int p3), .val (.int c0), .val (.int c1), .val (.int c2), .val (.int (((p3.toUInt32 >>> ((16 : Int32) &&& 31).toUInt32).toInt32) &&& (3 : Int32))), .val (.ref b340), .val (.long (0 : Int64)), .second, .val (.ref b341), .val (.long sg), .second, .val (.long (own_mx (sg + (-7046029254386353131 : Int64)))), .second, .val (.long (own_mx ((sg + (-7046029254386353131 : Int64)) + (-7046029254386353131 : Int64)))), .second, .val (.ref b348), .unset, .unset, .unset, .unset] [(.long (own_mx (sg + (-7046029254386353131 : Int64))))])) _
    refine own_lstore X351 hx hby at_216 (pc' := 218) rfl (Ls' := #[.val (.long p1), .second, .val (.int p2), .val (.int p3), .val (.int c0), .val (.int c1), .val (.int c2), .val (.int (((p3.toUInt32 >>> ((16 : Int32) &&& 31).toUInt32).toInt32) &&& (3 : Int32))), .val (.ref b340), .val (.long (0 : Int64)), .second, .val (.ref b341), .val (.long sg), .second, .val (.long (own_mx (sg + (-7046029254386353131 : Int64)))), .second, .val (.long (own_mx ((sg + (-7046029254386353131 : Int64)) + (-7046029254386353131 : Int64)))), .second, .val (.ref b348), .val (.long (own_mx (sg + (-7046029254386353131 : Int64)))), .second, .unset, .unset]) rfl ?_
    refine own_aload X351 hx hby at_218 (pc' := 220) rfl rfl rfl ?_
    refine own_callV X351 hx hZ (rm_nx l Z a0 hw [] b348 (sg + (-7046029254386353131 : Int64)) T351.heap n0 (c353) (E351) (F351) l348) hown (own_t hw 59 rfl) (own_t hw 60 rfl) (own_t hw 62 rfl) (own_t hw 61 rfl) (own_t hw 63 rfl) (own_t hw 32 rfl) (by decide) E351 (W := 0) (by decide) (by decide) (by rw [hml]; rfl) (argsL := []) (rest := []) rfl (lenOf own_pd20 rfl) rfl (Nat.le_of_eq rfl) (hb hby at_220) rfl (by decide) (by decide) ?_
    intro v354 T354 L354 X354 hQ354
    obtain ⟨hv354, N354q, K354, E354, F354⟩ := hQ354
    subst hv354
    have N354 := Fr.app N351 N354q
    have c355 := (c352.keep K354 (allS (Safe.exa (c352).1.alike E351 (by decide) (by decide)) all0))
    have c356 := (c353.keep K354 (allS l348 all0))
    show own_Go p.tables e below (T354.setTop (mkF m 223 #[.val (.long p1), .second, .val (.int p2), .val (.int p3), .val (.int c0), .val (.int c1), .val (.int c2), .val (.int (((p3.toUInt32 >>> ((16 : Int32) &&& 31).toUInt32).toInt32) &&& (3 : Int32))), .val (.ref b340), .val (.long (0 : Int64)), .second, .val (.ref b341), .val (.long sg), .second, .val (.long (own_mx (sg + (-7046029254386353131 : Int64)))), .second, .val (.long (own_mx ((sg + (-7046029254386353131 : Int64)) + (-7046029254386353131 : Int64)))), .second, .val (.ref b348), .val (.long (own_mx (sg + (-7046029254386353131 : Int64)))), .second, .unset, .unset] [(.long (own_mx ((sg + (-7046029254386353131 : Int64)) + (-7046029254386353131 : Int64))))])) _
    refine own_lstore X354 hx hby at_223 (pc' := 225) rfl (Ls' := #[.val (.long p1), .second, .val (.int p2), .val (.int p3), .val (.int c0), .val (.int c1), .val (.int c2), .val (.int (((p3.toUInt32 >>> ((16 : Int32) &&& 31).toUInt32).toInt32) &&& (3 : Int32))), .val (.ref b340), .val (.long (0 : Int64)), .second, .val (.ref b341), .val (.long sg), .second, .val (.long (own_mx (sg + (-7046029254386353131 : Int64)))), .second, .val (.long (own_mx ((sg + (-7046029254386353131 : Int64)) + (-7046029254386353131 : Int64)))), .second, .val (.ref b348), .val (.long (own_mx (sg + (-7046029254386353131 : Int64)))), .second, .val (.long (own_mx ((sg + (-7046029254386353131 : Int64)) + (-7046029254386353131 : Int64)))), .second]) rfl ?_
    refine own_lload X354 hx hby at_225 (pc' := 227) rfl rfl ?_
    refine own_lload X354 hx hby at_227 (pc' := 229) rfl rfl ?_
    refine own_lcmp X354 hx hby at_229 (pc' := 230) rfl ?_
    refine own_ifNo X354 hx hby at_230 (pc' := 233) rfl (teq ((lw_eq (own_mx (sg + (-7046029254386353131 : Int64))) (own_mx (sg + (-7046029254386353131 : Int64)))).mpr rfl)).2 ?_
    refine own_lload X354 hx hby at_233 (pc' := 235) rfl rfl ?_
    refine own_lload X354 hx hby at_235 (pc' := 237) rfl rfl ?_
    refine own_lcmp X354 hx hby at_237 (pc' := 238) rfl ?_
    refine own_ifNo X354 hx hby at_238 (pc' := 241) rfl (teq ((lw_eq (own_mx ((sg + (-7046029254386353131 : Int64)) + (-7046029254386353131 : Int64))) (own_mx ((sg + (-7046029254386353131 : Int64)) + (-7046029254386353131 : Int64)))).mpr rfl)).2 ?_
    refine own_iconst X354 hx hby at_241 (pc' := 242) rfl (z := (1 : Int32)) (by decide) ?_
    refine own_goto X354 hx hby at_242 (pc' := 246) (by decide) ?_
    exact own_retZW (t := .boolean) X354 hx hEL (c355) rfl hret (by simp) (hb hby at_246) hlk (by decide) (by decide) ⟨congrArg (fun z => some (Value.int z)) (own_nar1), N354⟩
  · skip
    refine own_ifYes X0 hx hby at_34 (pc' := 48) (by decide) (feq hc34).2 ?_
    refine own_iload X0 hx hby at_48 (pc' := 50) rfl rfl ?_
    refine own_iconst X0 hx hby at_50 (pc' := 51) rfl (z := (1 : Int32)) (by decide) ?_
    by_cases hc51 : (((p3.toUInt32 >>> ((16 : Int32) &&& 31).toUInt32).toInt32) &&& (3 : Int32)) = (1 : Int32)
    · skip
      refine own_icmpNo X0 hx hby at_51 (pc' := 54) rfl (teq hc51).2 ?_
      refine own_iconst X0 hx hby at_54 (pc' := 55) rfl (z := (1 : Int32)) (by decide) ?_
      refine own_newA X0 hx hby at_55 (pc' := 57) rfl hZ (own_t hw 1 rfl) e0 (by decide) (cap := 1) (by decide) (by decide) (by decide) (by decide) (vs := [(.int (0 : Int32))]) (by rfl) ?_
      intro T357 h357 b357 X357 e357 g357 E357 A357
      have l357 : n0 ≤ b357 := (Nat.le_trans Z0 (Nat.le_trans (Nat.le_refl _) (Nat.le_of_eq g357.symm)))
      refine own_dup X357 hx hby at_57 (pc' := 58) rfl rfl ?_
      refine own_iconst X357 hx hby at_58 (pc' := 59) rfl (z := (0 : Int32)) (by decide) ?_
      refine own_iload X357 hx hby at_59 (pc' := 61) rfl rfl ?_
      refine own_castore X357 hx hby at_61 (pc' := 62) rfl hZ e357 (A357) (by decide) (v := (.int (0 : Int32))) rfl ?_
      intro T358 h358 X358 e358 W358 A358
      have B358 : own_Ar Z h358 b357 .char [(.int c0)] := (by have q := A358; rw [own_narW hb0] at q; exact q)
      have N358 := Fr.snoc X358 N0 l357
      refine own_astore X358 hx hby at_62 (pc' := 64) rfl rfl (Ls' := #[.val (.long p1), .second, .val (.int p2), .val (.int p3), .val (.int c0), .val (.int c1), .val (.int c2), .val (.int (((p3.toUInt32 >>> ((16 : Int32) &&& 31).toUInt32).toInt32) &&& (3 : Int32))), .val (.ref b357), .unset, .unset, .unset, .unset, .unset, .unset, .unset, .unset, .unset, .unset, .unset, .unset, .unset, .unset]) rfl ?_
      refine own_iload X358 hx hby at_64 (pc' := 66) rfl rfl ?_
      refine own_i2l X358 hx hby at_66 (pc' := 67) rfl rfl ?_
      refine own_lstore X358 hx hby at_67 (pc' := 69) rfl (Ls' := #[.val (.long p1), .second, .val (.int p2), .val (.int p3), .val (.int c0), .val (.int c1), .val (.int c2), .val (.int (((p3.toUInt32 >>> ((16 : Int32) &&& 31).toUInt32).toInt32) &&& (3 : Int32))), .val (.ref b357), .val (.long (c0.toInt64)), .second, .unset, .unset, .unset, .unset, .unset, .unset, .unset, .unset, .unset, .unset, .unset, .unset]) rfl ?_
      refine own_goto X358 hx hby at_69 (pc' := 150) (by decide) ?_
      show own_Go p.tables e below (T358.setTop (mkF m 150 #[.val (.long p1), .second, .val (.int p2), .val (.int p3), .val (.int c0), .val (.int c1), .val (.int c2), .val (.int (((p3.toUInt32 >>> ((16 : Int32) &&& 31).toUInt32).toInt32) &&& (3 : Int32))), .val (.ref b357), .val (.long (c0.toInt64)), .second, .unset, .unset, .unset, .unset, .unset, .unset, .unset, .unset, .unset, .unset, .unset, .unset] [])) _
      generalize hnm : (c0.toInt64) = nm
      show own_Go p.tables e below (T358.setTop (mkF m 150 #[.val (.long p1), .second, .val (.int p2), .val (.int p3), .val (.int c0), .val (.int c1), .val (.int c2), .val (.int (((p3.toUInt32 >>> ((16 : Int32) &&& 31).toUInt32).toInt32) &&& (3 : Int32))), .val (.ref b357), .val (.long nm), .second, .unset, .unset, .unset, .unset, .unset, .unset, .unset, .unset, .unset, .unset, .unset, .unset] [])) _
      refine own_new X358 hx hby at_150 (pc' := 153) rfl hZ hown (own_t hw 2 rfl) (own_t hw 3 rfl) (own_t hw 4 rfl) e358 (by decide) (by decide) ?_
      intro T359 h359 b359 X359 e359 g359 E359 A359 D359
      have F359_value : Fld Z h359 b359 "java/lang/String" "value" "[B" .null := D359 (Or.inr (own_t hw 17 rfl)) (ty := (.array .byte)) (by decide)
      have F359_coder : Fld Z h359 b359 "java/lang/String" "coder" "B" (.int (0 : Int32)) := D359 (Or.inr (own_t hw 18 rfl)) (ty := .byte) (by decide)
      have l359 : n0 ≤ b359 := (Nat.le_trans Z0 (Nat.le_trans (Nat.le_trans (Nat.le_trans (Nat.le_refl _) E357.1) (Nat.le_of_eq (Wr.size W358).symm)) (Nat.le_of_eq g359.symm)))
      refine own_dup X359 hx hby at_153 (pc' := 154) rfl rfl ?_
      refine own_aload X359 hx hby at_154 (pc' := 156) rfl rfl rfl ?_
      by_cases hk0 : (255 : Int32) < c0
      · skip
        refine own_callSp X359 hx hZ (rm_i1_1_0 l Z a0 hw [] b359 b357 c0 gS h359 n0 ((((O_0.ext E357).wr W358 l357).ext E359)) S_S hS S_A S_H S_L (A359) (F359_value) (F359_coder) l359 ((B358.ext E359)) hb0 hk0) rfl hown (own_t hw 5 rfl) (own_t hw 6 rfl) (own_t hw 7 rfl) (own_t hw 4 rfl) (by decide) (W := 1) (by decide) (by decide) (by rw [hml]; rfl) (argsL := [(.ref b357)]) (rest := [(.ref b359)]) rfl (lenOf own_pd18 rfl) rfl (Nat.le_of_eq rfl) (hb hby at_156) e359 (by decide) (by decide) ?_
        intro v360 T360 L360 X360 hQ360
        obtain ⟨hv360, N360q, K360, E360, C360, t360, V360, A360⟩ := hQ360
        subst hv360
        have N360 := Fr.app N358 N360q
        have c361 := ((((W0.ext E357).wr W358 (own_Ar.safe A357 ((W0.ext E357)).1.alike (by first | decide | (intro q; cases q)))).ext E359).keep K360 (allS (Safe.ext E359 (((W0.ext E357).wr W358 (own_Ar.safe A357 ((W0.ext E357)).1.alike (by first | decide | (intro q; cases q))))).ch (Safe.new (Nat.le_of_eq g359.symm))) all0))
        have c362 := ((((O_0.ext E357).wr W358 l357).ext E359).keep K360 (allS l359 all0))
        show own_Go p.tables e below (T360.setTop (mkF m 159 #[.val (.long p1), .second, .val (.int p2), .val (.int p3), .val (.int c0), .val (.int c1), .val (.int c2), .val (.int (((p3.toUInt32 >>> ((16 : Int32) &&& 31).toUInt32).toInt32) &&& (3 : Int32))), .val (.ref b357), .val (.long nm), .second, .unset, .unset, .unset, .unset, .unset, .unset, .unset, .unset, .unset, .unset, .unset, .unset] [(.ref b359)])) _
        refine own_astore X360 hx hby at_159 (pc' := 161) rfl rfl (Ls' := #[.val (.long p1), .second, .val (.int p2), .val (.int p3), .val (.int c0), .val (.int c1), .val (.int c2), .val (.int (((p3.toUInt32 >>> ((16 : Int32) &&& 31).toUInt32).toInt32) &&& (3 : Int32))), .val (.ref b357), .val (.long nm), .second, .val (.ref b359), .unset, .unset, .unset, .unset, .unset, .unset, .unset, .unset, .unset, .unset, .unset]) rfl ?_
        refine own_lloadN X360 hx hby at_161 (pc' := 162) rfl rfl ?_
        refine own_callS X360 hx hZ (rm_fin l Z a0 hw [] p1 T360.heap n0) hown (own_t hw 23 rfl) (own_t hw 24 rfl) (own_t hw 25 rfl) (own_t hw 26 rfl) (by decide) (W := 0) (by decide) (by decide) (by rw [hml]; rfl) (argsL := [(.long p1)]) (rest := []) rfl (lenOf own_pd14 rfl) rfl (Nat.le_of_eq rfl) (hb hby at_162) rfl (by decide) (by decide) ?_
        intro v363 T363 L363 X363 hQ363
        obtain ⟨hv363, N363q, e363⟩ := hQ363
        subst hv363
        have N363 := Fr.app N360 N363q
        show own_Go p.tables e below (T363.setTop (mkF m 165 #[.val (.long p1), .second, .val (.int p2), .val (.int p3), .val (.int c0), .val (.int c1), .val (.int c2), .val (.int (((p3.toUInt32 >>> ((16 : Int32) &&& 31).toUInt32).toInt32) &&& (3 : Int32))), .val (.ref b357), .val (.long nm), .second, .val (.ref b359), .unset, .unset, .unset, .unset, .unset, .unset, .unset, .unset, .unset, .unset, .unset] [(.long (own_mx p1))])) _
        refine own_lload X363 hx hby at_165 (pc' := 167) rfl rfl ?_
        refine own_ldc2 X363 hx hby at_167 (pc' := 170) rfl hZ hown (own_t hw 29 rfl) ?_
        refine own_ladd X363 hx hby at_170 (pc' := 171) rfl rfl ?_
        refine own_callS X363 hx hZ (rm_fin l Z a0 hw [] (nm + (-7046029254386353131 : Int64)) T360.heap n0) hown (own_t hw 23 rfl) (own_t hw 24 rfl) (own_t hw 25 rfl) (own_t hw 26 rfl) (by decide) (W := 2) (by decide) (by decide) (by rw [hml]; rfl) (argsL := [(.long (nm + (-7046029254386353131 : Int64)))]) (rest := [(.long (own_mx p1))]) rfl (lenOf own_pd14 rfl) rfl (Nat.le_of_eq rfl) (hb hby at_171) e363 (by decide) (by decide) ?_
        intro v364 T364 L364 X364 hQ364
        obtain ⟨hv364, N364q, e364⟩ := hQ364
        subst hv364
        have N364 := Fr.app N363 N364q
        show own_Go p.tables e below (T364.setTop (mkF m 174 #[.val (.long p1), .second, .val (.int p2), .val (.int p3), .val (.int c0), .val (.int c1), .val (.int c2), .val (.int (((p3.toUInt32 >>> ((16 : Int32) &&& 31).toUInt32).toInt32) &&& (3 : Int32))), .val (.ref b357), .val (.long nm), .second, .val (.ref b359), .unset, .unset, .unset, .unset, .unset, .unset, .unset, .unset, .unset, .unset, .unset] [(.long (own_mx (nm + (-7046029254386353131 : Int64)))), (.long (own_mx p1))])) _
        refine own_lxor X364 hx hby at_174 (pc' := 175) rfl rfl ?_
        refine own_lstore X364 hx hby at_175 (pc' := 177) rfl (Ls' := #[.val (.long p1), .second, .val (.int p2), .val (.int p3), .val (.int c0), .val (.int c1), .val (.int c2), .val (.int (((p3.toUInt32 >>> ((16 : Int32) &&& 31).toUInt32).toInt32) &&& (3 : Int32))), .val (.ref b357), .val (.long nm), .second, .val (.ref b359), .val (.long ((own_mx p1) ^^^ (own_mx (nm + (-7046029254386353131 : Int64))))), .second, .unset, .unset, .unset, .unset, .unset, .unset, .unset, .unset, .unset]) rfl ?_
        show own_Go p.tables e below (T364.setTop (mkF m 177 #[.val (.long p1), .second, .val (.int p2), .val (.int p3), .val (.int c0), .val (.int c1), .val (.int c2), .val (.int (((p3.toUInt32 >>> ((16 : Int32) &&& 31).toUInt32).toInt32) &&& (3 : Int32))), .val (.ref b357), .val (.long nm), .second, .val (.ref b359), .val (.long ((own_mx p1) ^^^ (own_mx (nm + (-7046029254386353131 : Int64))))), .second, .unset, .unset, .unset, .unset, .unset, .unset, .unset, .unset, .unset] [])) _
        generalize hsg : ((own_mx p1) ^^^ (own_mx (nm + (-7046029254386353131 : Int64)))) = sg
        show own_Go p.tables e below (T364.setTop (mkF m 177 #[.val (.long p1), .second, .val (.int p2), .val (.int p3), .val (.int c0), .val (.int c1), .val (.int c2), .val (.int (((p3.toUInt32 >>> ((16 : Int32) &&& 31).toUInt32).toInt32) &&& (3 : Int32))), .val (.ref b357), .val (.long nm), .second, .val (.ref b359), .val (.long sg), .second, .unset, .unset, .unset, .unset, .unset, .unset, .unset, .unset, .unset] [])) _
        refine own_lload X364 hx hby at_177 (pc' := 179) rfl rfl ?_
        refine own_ldc2 X364 hx hby at_179 (pc' := 182) rfl hZ hown (own_t hw 29 rfl) ?_
        refine own_ladd X364 hx hby at_182 (pc' := 183) rfl rfl ?_
        refine own_callS X364 hx hZ (rm_fin l Z a0 hw [] (sg + (-7046029254386353131 : Int64)) T360.heap n0) hown (own_t hw 23 rfl) (own_t hw 24 rfl) (own_t hw 25 rfl) (own_t hw 26 rfl) (by decide) (W := 0) (by decide) (by decide) (by rw [hml]; rfl) (argsL := [(.long (sg + (-7046029254386353131 : Int64)))]) (rest := []) rfl (lenOf own_pd14 rfl) rfl (Nat.le_of_eq rfl) (hb hby at_183) e364 (by decide) (by decide) ?_
        intro v365 T365 L365 X365 hQ365
        obtain ⟨hv365, N365q, e365⟩ := hQ365
        subst hv365
        have N365 := Fr.app N364 N365q
        show own_Go p.tables e below (T365.setTop (mkF m 186 #[.val (.long p1), .second, .val (.int p2), .val (.int p3), .val (.int c0), .val (.int c1), .val (.int c2), .val (.int (((p3.toUInt32 >>> ((16 : Int32) &&& 31).toUInt32).toInt32) &&& (3 : Int32))), .val (.ref b357), .val (.long nm), .second, .val (.ref b359), .val (.long sg), .second, .unset, .unset, .unset, .unset, .unset, .unset, .unset, .unset, .unset] [(.long (own_mx (sg + (-7046029254386353131 : Int64))))])) _
        refine own_lstore X365 hx hby at_186 (pc' := 188) rfl (Ls' := #[.val (.long p1), .second, .val (.int p2), .val (.int p3), .val (.int c0), .val (.int c1), .val (.int c2), .val (.int (((p3.toUInt32 >>> ((16 : Int32) &&& 31).toUInt32).toInt32) &&& (3 : Int32))), .val (.ref b357), .val (.long nm), .second, .val (.ref b359), .val (.long sg), .second, .val (.long (own_mx (sg + (-7046029254386353131 : Int64)))), .second, .unset, .unset, .unset, .unset, .unset, .unset, .unset]) rfl ?_
        refine own_lload X365 hx hby at_188 (pc' := 190) rfl rfl ?_
        refine own_ldc2 X365 hx hby at_190 (pc' := 193) rfl hZ hown (own_t hw 29 rfl) ?_
        refine own_ladd X365 hx hby at_193 (pc' := 194) rfl rfl ?_
        refine own_ldc2 X365 hx hby at_194 (pc' := 197) rfl hZ hown (own_t hw 29 rfl) ?_
        refine own_ladd X365 hx hby at_197 (pc' := 198) rfl rfl ?_
        refine own_callS X365 hx hZ (rm_fin l Z a0 hw [] ((sg + (-7046029254386353131 : Int64)) + (-7046029254386353131 : Int64)) T360.heap n0) hown (own_t hw 23 rfl) (own_t hw 24 rfl) (own_t hw 25 rfl) (own_t hw 26 rfl) (by decide) (W := 0) (by decide) (by decide) (by rw [hml]; rfl) (argsL := [(.long ((sg + (-7046029254386353131 : Int64)) + (-7046029254386353131 : Int64)))]) (rest := []) rfl (lenOf own_pd14 rfl) rfl (Nat.le_of_eq rfl) (hb hby at_198) e365 (by decide) (by decide) ?_
        intro v366 T366 L366 X366 hQ366
        obtain ⟨hv366, N366q, e366⟩ := hQ366
        subst hv366
        have N366 := Fr.app N365 N366q
        show own_Go p.tables e below (T366.setTop (mkF m 201 #[.val (.long p1), .second, .val (.int p2), .val (.int p3), .val (.int c0), .val (.int c1), .val (.int c2), .val (.int (((p3.toUInt32 >>> ((16 : Int32) &&& 31).toUInt32).toInt32) &&& (3 : Int32))), .val (.ref b357), .val (.long nm), .second, .val (.ref b359), .val (.long sg), .second, .val (.long (own_mx (sg + (-7046029254386353131 : Int64)))), .second, .unset, .unset, .unset, .unset, .unset, .unset, .unset] [(.long (own_mx ((sg + (-7046029254386353131 : Int64)) + (-7046029254386353131 : Int64))))])) _
        refine own_lstore X366 hx hby at_201 (pc' := 203) rfl (Ls' := #[.val (.long p1), .second, .val (.int p2), .val (.int p3), .val (.int c0), .val (.int c1), .val (.int c2), .val (.int (((p3.toUInt32 >>> ((16 : Int32) &&& 31).toUInt32).toInt32) &&& (3 : Int32))), .val (.ref b357), .val (.long nm), .second, .val (.ref b359), .val (.long sg), .second, .val (.long (own_mx (sg + (-7046029254386353131 : Int64)))), .second, .val (.long (own_mx ((sg + (-7046029254386353131 : Int64)) + (-7046029254386353131 : Int64)))), .second, .unset, .unset, .unset, .unset, .unset]) rfl ?_
        refine own_lloadN X366 hx hby at_203 (pc' := 204) rfl rfl ?_
        refine own_aload X366 hx hby at_204 (pc' := 206) rfl rfl rfl ?_
        refine own_callS X366 hx hZ (rm_of1_1 l Z a0 hw [] p1 b359 t360 c0 gS fm T360.heap n0 (c362) S_S hS S_A S_H S_L S_F hfm (E360) (C360) (V360) (A360) hb0 ) hown (own_t hw 30 rfl) (own_t hw 31 rfl) (own_t hw 32 rfl) (own_t hw 33 rfl) (by decide) (W := 0) (by decide) (by decide) (by rw [hml]; rfl) (argsL := [(.long p1), (.ref b359)]) (rest := []) rfl (lenOf own_pd19 rfl) rfl (Nat.le_of_eq rfl) (hb hby at_206) e366 (by decide) (by decide) ?_
        intro v367 T367 L367 X367 hQ367
        obtain ⟨b367, hv367, N367q, K367, g367, E367, F367⟩ := hQ367
        rw [hnm, hsg] at F367
        subst hv367
        have N367 := Fr.app N366 N367q
        have l367 : n0 ≤ b367 := (Nat.le_trans Z0 (Nat.le_trans (Nat.le_trans (Nat.le_trans (Nat.le_trans (Nat.le_trans (Nat.le_refl _) E357.1) (Nat.le_of_eq (Wr.size W358).symm)) E359.1) K360.1) g367))
        have c368 := (c361.keep K367 all0)
        have c369 := (c362.keep K367 all0)
        show own_Go p.tables e below (T367.setTop (mkF m 209 #[.val (.long p1), .second, .val (.int p2), .val (.int p3), .val (.int c0), .val (.int c1), .val (.int c2), .val (.int (((p3.toUInt32 >>> ((16 : Int32) &&& 31).toUInt32).toInt32) &&& (3 : Int32))), .val (.ref b357), .val (.long nm), .second, .val (.ref b359), .val (.long sg), .second, .val (.long (own_mx (sg + (-7046029254386353131 : Int64)))), .second, .val (.long (own_mx ((sg + (-7046029254386353131 : Int64)) + (-7046029254386353131 : Int64)))), .second, .unset, .unset, .unset, .unset, .unset] [(.ref b367)])) _
        refine own_astore X367 hx hby at_209 (pc' := 211) rfl rfl (Ls' := #[.val (.long p1), .second, .val (.int p2), .val (.int p3), .val (.int c0), .val (.int c1), .val (.int c2), .val (.int (((p3.toUInt32 >>> ((16 : Int32) &&& 31).toUInt32).toInt32) &&& (3 : Int32))), .val (.ref b357), .val (.long nm), .second, .val (.ref b359), .val (.long sg), .second, .val (.long (own_mx (sg + (-7046029254386353131 : Int64)))), .second, .val (.long (own_mx ((sg + (-7046029254386353131 : Int64)) + (-7046029254386353131 : Int64)))), .second, .val (.ref b367), .unset, .unset, .unset, .unset]) rfl ?_
        refine own_aload X367 hx hby at_211 (pc' := 213) rfl rfl rfl ?_
        refine own_callV X367 hx hZ (rm_nx l Z a0 hw [] b367 sg T367.heap n0 (c369) (E367) (F367) l367) hown (own_t hw 59 rfl) (own_t hw 60 rfl) (own_t hw 62 rfl) (own_t hw 61 rfl) (own_t hw 63 rfl) (own_t hw 32 rfl) (by decide) E367 (W := 0) (by decide) (by decide) (by rw [hml]; rfl) (argsL := []) (rest := []) rfl (lenOf own_pd20 rfl) rfl (Nat.le_of_eq rfl) (hb hby at_213) rfl (by decide) (by decide) ?_
        intro v370 T370 L370 X370 hQ370
        obtain ⟨hv370, N370q, K370, E370, F370⟩ := hQ370
        subst hv370
        have N370 := Fr.app N367 N370q
        have c371 := (c368.keep K370 (allS (Safe.exa (c368).1.alike E367 (by decide) (by decide)) all0))
        have c372 := (c369.keep K370 (allS l367 all0))
        show own_Go p.tables e below (T370.setTop (mkF m 216 #[.val (.long p1), .second, .val (.int p2), .val (.int p3), .val (.int c0), .val (.int c1), .val (.int c2), .val (.int (((p3.toUInt32 >>> ((16 : Int32) &&& 31).toUInt32).toInt32) &&& (3 : Int32))), .val (.ref b357), .val (.long nm), .second, .val (.ref b359), .val (.long sg), .second, .val (.long (own_mx (sg + (-7046029254386353131 : Int64)))), .second, .val (.long (own_mx ((sg + (-7046029254386353131 : Int64)) + (-7046029254386353131 : Int64)))), .second, .val (.ref b367), .unset, .unset, .unset, .unset] [(.long (own_mx (sg + (-7046029254386353131 : Int64))))])) _
        refine own_lstore X370 hx hby at_216 (pc' := 218) rfl (Ls' := #[.val (.long p1), .second, .val (.int p2), .val (.int p3), .val (.int c0), .val (.int c1), .val (.int c2), .val (.int (((p3.toUInt32 >>> ((16 : Int32) &&& 31).toUInt32).toInt32) &&& (3 : Int32))), .val (.ref b357), .val (.long nm), .second, .val (.ref b359), .val (.long sg), .second, .val (.long (own_mx (sg + (-7046029254386353131 : Int64)))), .second, .val (.long (own_mx ((sg + (-7046029254386353131 : Int64)) + (-7046029254386353131 : Int64)))), .second, .val (.ref b367), .val (.long (own_mx (sg + (-7046029254386353131 : Int64)))), .second, .unset, .unset]) rfl ?_
        refine own_aload X370 hx hby at_218 (pc' := 220) rfl rfl rfl ?_
        refine own_callV X370 hx hZ (rm_nx l Z a0 hw [] b367 (sg + (-7046029254386353131 : Int64)) T370.heap n0 (c372) (E370) (F370) l367) hown (own_t hw 59 rfl) (own_t hw 60 rfl) (own_t hw 62 rfl) (own_t hw 61 rfl) (own_t hw 63 rfl) (own_t hw 32 rfl) (by decide) E370 (W := 0) (by decide) (by decide) (by rw [hml]; rfl) (argsL := []) (rest := []) rfl (lenOf own_pd20 rfl) rfl (Nat.le_of_eq rfl) (hb hby at_220) rfl (by decide) (by decide) ?_
        intro v373 T373 L373 X373 hQ373
        obtain ⟨hv373, N373q, K373, E373, F373⟩ := hQ373
        subst hv373
        have N373 := Fr.app N370 N373q
        have c374 := (c371.keep K373 (allS (Safe.exa (c371).1.alike E370 (by decide) (by decide)) all0))
        have c375 := (c372.keep K373 (allS l367 all0))
        show own_Go p.tables e below (T373.setTop (mkF m 223 #[.val (.long p1), .second, .val (.int p2), .val (.int p3), .val (.int c0), .val (.int c1), .val (.int c2), .val (.int (((p3.toUInt32 >>> ((16 : Int32) &&& 31).toUInt32).toInt32) &&& (3 : Int32))), .val (.ref b357), .val (.long nm), .second, .val (.ref b359), .val (.long sg), .second, .val (.long (own_mx (sg + (-7046029254386353131 : Int64)))), .second, .val (.long (own_mx ((sg + (-7046029254386353131 : Int64)) + (-7046029254386353131 : Int64)))), .second, .val (.ref b367), .val (.long (own_mx (sg + (-7046029254386353131 : Int64)))), .second, .unset, .unset] [(.long (own_mx ((sg + (-7046029254386353131 : Int64)) + (-7046029254386353131 : Int64))))])) _
        refine own_lstore X373 hx hby at_223 (pc' := 225) rfl (Ls' := #[.val (.long p1), .second, .val (.int p2), .val (.int p3), .val (.int c0), .val (.int c1), .val (.int c2), .val (.int (((p3.toUInt32 >>> ((16 : Int32) &&& 31).toUInt32).toInt32) &&& (3 : Int32))), .val (.ref b357), .val (.long nm), .second, .val (.ref b359), .val (.long sg), .second, .val (.long (own_mx (sg + (-7046029254386353131 : Int64)))), .second, .val (.long (own_mx ((sg + (-7046029254386353131 : Int64)) + (-7046029254386353131 : Int64)))), .second, .val (.ref b367), .val (.long (own_mx (sg + (-7046029254386353131 : Int64)))), .second, .val (.long (own_mx ((sg + (-7046029254386353131 : Int64)) + (-7046029254386353131 : Int64)))), .second]) rfl ?_
        refine own_lload X373 hx hby at_225 (pc' := 227) rfl rfl ?_
        refine own_lload X373 hx hby at_227 (pc' := 229) rfl rfl ?_
        refine own_lcmp X373 hx hby at_229 (pc' := 230) rfl ?_
        refine own_ifNo X373 hx hby at_230 (pc' := 233) rfl (teq ((lw_eq (own_mx (sg + (-7046029254386353131 : Int64))) (own_mx (sg + (-7046029254386353131 : Int64)))).mpr rfl)).2 ?_
        refine own_lload X373 hx hby at_233 (pc' := 235) rfl rfl ?_
        refine own_lload X373 hx hby at_235 (pc' := 237) rfl rfl ?_
        refine own_lcmp X373 hx hby at_237 (pc' := 238) rfl ?_
        refine own_ifNo X373 hx hby at_238 (pc' := 241) rfl (teq ((lw_eq (own_mx ((sg + (-7046029254386353131 : Int64)) + (-7046029254386353131 : Int64))) (own_mx ((sg + (-7046029254386353131 : Int64)) + (-7046029254386353131 : Int64)))).mpr rfl)).2 ?_
        refine own_iconst X373 hx hby at_241 (pc' := 242) rfl (z := (1 : Int32)) (by decide) ?_
        refine own_goto X373 hx hby at_242 (pc' := 246) (by decide) ?_
        exact own_retZW (t := .boolean) X373 hx hEL (c374) rfl hret (by simp) (hb hby at_246) hlk (by decide) (by decide) ⟨congrArg (fun z => some (Value.int z)) (own_nar1), N373⟩
      · skip
        refine own_callSp X359 hx hZ (rm_i1_1_1 l Z a0 hw [] b359 b357 c0 gS h359 n0 ((((O_0.ext E357).wr W358 l357).ext E359)) S_S hS S_A S_H S_L (A359) (F359_value) (F359_coder) l359 ((B358.ext E359)) hk0) rfl hown (own_t hw 5 rfl) (own_t hw 6 rfl) (own_t hw 7 rfl) (own_t hw 4 rfl) (by decide) (W := 1) (by decide) (by decide) (by rw [hml]; rfl) (argsL := [(.ref b357)]) (rest := [(.ref b359)]) rfl (lenOf own_pd18 rfl) rfl (Nat.le_of_eq rfl) (hb hby at_156) e359 (by decide) (by decide) ?_
        intro v376 T376 L376 X376 hQ376
        obtain ⟨hv376, N376q, K376, E376, C376, t376, V376, A376⟩ := hQ376
        subst hv376
        have N376 := Fr.app N358 N376q
        have c377 := ((((W0.ext E357).wr W358 (own_Ar.safe A357 ((W0.ext E357)).1.alike (by first | decide | (intro q; cases q)))).ext E359).keep K376 (allS (Safe.ext E359 (((W0.ext E357).wr W358 (own_Ar.safe A357 ((W0.ext E357)).1.alike (by first | decide | (intro q; cases q))))).ch (Safe.new (Nat.le_of_eq g359.symm))) all0))
        have c378 := ((((O_0.ext E357).wr W358 l357).ext E359).keep K376 (allS l359 all0))
        show own_Go p.tables e below (T376.setTop (mkF m 159 #[.val (.long p1), .second, .val (.int p2), .val (.int p3), .val (.int c0), .val (.int c1), .val (.int c2), .val (.int (((p3.toUInt32 >>> ((16 : Int32) &&& 31).toUInt32).toInt32) &&& (3 : Int32))), .val (.ref b357), .val (.long nm), .second, .unset, .unset, .unset, .unset, .unset, .unset, .unset, .unset, .unset, .unset, .unset, .unset] [(.ref b359)])) _
        refine own_astore X376 hx hby at_159 (pc' := 161) rfl rfl (Ls' := #[.val (.long p1), .second, .val (.int p2), .val (.int p3), .val (.int c0), .val (.int c1), .val (.int c2), .val (.int (((p3.toUInt32 >>> ((16 : Int32) &&& 31).toUInt32).toInt32) &&& (3 : Int32))), .val (.ref b357), .val (.long nm), .second, .val (.ref b359), .unset, .unset, .unset, .unset, .unset, .unset, .unset, .unset, .unset, .unset, .unset]) rfl ?_
        refine own_lloadN X376 hx hby at_161 (pc' := 162) rfl rfl ?_
        refine own_callS X376 hx hZ (rm_fin l Z a0 hw [] p1 T376.heap n0) hown (own_t hw 23 rfl) (own_t hw 24 rfl) (own_t hw 25 rfl) (own_t hw 26 rfl) (by decide) (W := 0) (by decide) (by decide) (by rw [hml]; rfl) (argsL := [(.long p1)]) (rest := []) rfl (lenOf own_pd14 rfl) rfl (Nat.le_of_eq rfl) (hb hby at_162) rfl (by decide) (by decide) ?_
        intro v379 T379 L379 X379 hQ379
        obtain ⟨hv379, N379q, e379⟩ := hQ379
        subst hv379
        have N379 := Fr.app N376 N379q
        show own_Go p.tables e below (T379.setTop (mkF m 165 #[.val (.long p1), .second, .val (.int p2), .val (.int p3), .val (.int c0), .val (.int c1), .val (.int c2), .val (.int (((p3.toUInt32 >>> ((16 : Int32) &&& 31).toUInt32).toInt32) &&& (3 : Int32))), .val (.ref b357), .val (.long nm), .second, .val (.ref b359), .unset, .unset, .unset, .unset, .unset, .unset, .unset, .unset, .unset, .unset, .unset] [(.long (own_mx p1))])) _
        refine own_lload X379 hx hby at_165 (pc' := 167) rfl rfl ?_
        refine own_ldc2 X379 hx hby at_167 (pc' := 170) rfl hZ hown (own_t hw 29 rfl) ?_
        refine own_ladd X379 hx hby at_170 (pc' := 171) rfl rfl ?_
        refine own_callS X379 hx hZ (rm_fin l Z a0 hw [] (nm + (-7046029254386353131 : Int64)) T376.heap n0) hown (own_t hw 23 rfl) (own_t hw 24 rfl) (own_t hw 25 rfl) (own_t hw 26 rfl) (by decide) (W := 2) (by decide) (by decide) (by rw [hml]; rfl) (argsL := [(.long (nm + (-7046029254386353131 : Int64)))]) (rest := [(.long (own_mx p1))]) rfl (lenOf own_pd14 rfl) rfl (Nat.le_of_eq rfl) (hb hby at_171) e379 (by decide) (by decide) ?_
        intro v380 T380 L380 X380 hQ380
        obtain ⟨hv380, N380q, e380⟩ := hQ380
        subst hv380
        have N380 := Fr.app N379 N380q
        show own_Go p.tables e below (T380.setTop (mkF m 174 #[.val (.long p1), .second, .val (.int p2), .val (.int p3), .val (.int c0), .val (.int c1), .val (.int c2), .val (.int (((p3.toUInt32 >>> ((16 : Int32) &&& 31).toUInt32).toInt32) &&& (3 : Int32))), .val (.ref b357), .val (.long nm), .second, .val (.ref b359), .unset, .unset, .unset, .unset, .unset, .unset, .unset, .unset, .unset, .unset, .unset] [(.long (own_mx (nm + (-7046029254386353131 : Int64)))), (.long (own_mx p1))])) _
        refine own_lxor X380 hx hby at_174 (pc' := 175) rfl rfl ?_
        refine own_lstore X380 hx hby at_175 (pc' := 177) rfl (Ls' := #[.val (.long p1), .second, .val (.int p2), .val (.int p3), .val (.int c0), .val (.int c1), .val (.int c2), .val (.int (((p3.toUInt32 >>> ((16 : Int32) &&& 31).toUInt32).toInt32) &&& (3 : Int32))), .val (.ref b357), .val (.long nm), .second, .val (.ref b359), .val (.long ((own_mx p1) ^^^ (own_mx (nm + (-7046029254386353131 : Int64))))), .second, .unset, .unset, .unset, .unset, .unset, .unset, .unset, .unset, .unset]) rfl ?_
        show own_Go p.tables e below (T380.setTop (mkF m 177 #[.val (.long p1), .second, .val (.int p2), .val (.int p3), .val (.int c0), .val (.int c1), .val (.int c2), .val (.int (((p3.toUInt32 >>> ((16 : Int32) &&& 31).toUInt32).toInt32) &&& (3 : Int32))), .val (.ref b357), .val (.long nm), .second, .val (.ref b359), .val (.long ((own_mx p1) ^^^ (own_mx (nm + (-7046029254386353131 : Int64))))), .second, .unset, .unset, .unset, .unset, .unset, .unset, .unset, .unset, .unset] [])) _
        generalize hsg : ((own_mx p1) ^^^ (own_mx (nm + (-7046029254386353131 : Int64)))) = sg
        show own_Go p.tables e below (T380.setTop (mkF m 177 #[.val (.long p1), .second, .val (.int p2), .val (.int p3), .val (.int c0), .val (.int c1), .val (.int c2), .val (.int (((p3.toUInt32 >>> ((16 : Int32) &&& 31).toUInt32).toInt32) &&& (3 : Int32))), .val (.ref b357), .val (.long nm), .second, .val (.ref b359), .val (.long sg), .second, .unset, .unset, .unset, .unset, .unset, .unset, .unset, .unset, .unset] [])) _
        refine own_lload X380 hx hby at_177 (pc' := 179) rfl rfl ?_
        refine own_ldc2 X380 hx hby at_179 (pc' := 182) rfl hZ hown (own_t hw 29 rfl) ?_
        refine own_ladd X380 hx hby at_182 (pc' := 183) rfl rfl ?_
        refine own_callS X380 hx hZ (rm_fin l Z a0 hw [] (sg + (-7046029254386353131 : Int64)) T376.heap n0) hown (own_t hw 23 rfl) (own_t hw 24 rfl) (own_t hw 25 rfl) (own_t hw 26 rfl) (by decide) (W := 0) (by decide) (by decide) (by rw [hml]; rfl) (argsL := [(.long (sg + (-7046029254386353131 : Int64)))]) (rest := []) rfl (lenOf own_pd14 rfl) rfl (Nat.le_of_eq rfl) (hb hby at_183) e380 (by decide) (by decide) ?_
        intro v381 T381 L381 X381 hQ381
        obtain ⟨hv381, N381q, e381⟩ := hQ381
        subst hv381
        have N381 := Fr.app N380 N381q
        show own_Go p.tables e below (T381.setTop (mkF m 186 #[.val (.long p1), .second, .val (.int p2), .val (.int p3), .val (.int c0), .val (.int c1), .val (.int c2), .val (.int (((p3.toUInt32 >>> ((16 : Int32) &&& 31).toUInt32).toInt32) &&& (3 : Int32))), .val (.ref b357), .val (.long nm), .second, .val (.ref b359), .val (.long sg), .second, .unset, .unset, .unset, .unset, .unset, .unset, .unset, .unset, .unset] [(.long (own_mx (sg + (-7046029254386353131 : Int64))))])) _
        refine own_lstore X381 hx hby at_186 (pc' := 188) rfl (Ls' := #[.val (.long p1), .second, .val (.int p2), .val (.int p3), .val (.int c0), .val (.int c1), .val (.int c2), .val (.int (((p3.toUInt32 >>> ((16 : Int32) &&& 31).toUInt32).toInt32) &&& (3 : Int32))), .val (.ref b357), .val (.long nm), .second, .val (.ref b359), .val (.long sg), .second, .val (.long (own_mx (sg + (-7046029254386353131 : Int64)))), .second, .unset, .unset, .unset, .unset, .unset, .unset, .unset]) rfl ?_
        refine own_lload X381 hx hby at_188 (pc' := 190) rfl rfl ?_
        refine own_ldc2 X381 hx hby at_190 (pc' := 193) rfl hZ hown (own_t hw 29 rfl) ?_
        refine own_ladd X381 hx hby at_193 (pc' := 194) rfl rfl ?_
        refine own_ldc2 X381 hx hby at_194 (pc' := 197) rfl hZ hown (own_t hw 29 rfl) ?_
        refine own_ladd X381 hx hby at_197 (pc' := 198) rfl rfl ?_
        refine own_callS X381 hx hZ (rm_fin l Z a0 hw [] ((sg + (-7046029254386353131 : Int64)) + (-7046029254386353131 : Int64)) T376.heap n0) hown (own_t hw 23 rfl) (own_t hw 24 rfl) (own_t hw 25 rfl) (own_t hw 26 rfl) (by decide) (W := 0) (by decide) (by decide) (by rw [hml]; rfl) (argsL := [(.long ((sg + (-7046029254386353131 : Int64)) + (-7046029254386353131 : Int64)))]) (rest := []) rfl (lenOf own_pd14 rfl) rfl (Nat.le_of_eq rfl) (hb hby at_198) e381 (by decide) (by decide) ?_
        intro v382 T382 L382 X382 hQ382
        obtain ⟨hv382, N382q, e382⟩ := hQ382
        subst hv382
        have N382 := Fr.app N381 N382q
        show own_Go p.tables e below (T382.setTop (mkF m 201 #[.val (.long p1), .second, .val (.int p2), .val (.int p3), .val (.int c0), .val (.int c1), .val (.int c2), .val (.int (((p3.toUInt32 >>> ((16 : Int32) &&& 31).toUInt32).toInt32) &&& (3 : Int32))), .val (.ref b357), .val (.long nm), .second, .val (.ref b359), .val (.long sg), .second, .val (.long (own_mx (sg + (-7046029254386353131 : Int64)))), .second, .unset, .unset, .unset, .unset, .unset, .unset, .unset] [(.long (own_mx ((sg + (-7046029254386353131 : Int64)) + (-7046029254386353131 : Int64))))])) _
        refine own_lstore X382 hx hby at_201 (pc' := 203) rfl (Ls' := #[.val (.long p1), .second, .val (.int p2), .val (.int p3), .val (.int c0), .val (.int c1), .val (.int c2), .val (.int (((p3.toUInt32 >>> ((16 : Int32) &&& 31).toUInt32).toInt32) &&& (3 : Int32))), .val (.ref b357), .val (.long nm), .second, .val (.ref b359), .val (.long sg), .second, .val (.long (own_mx (sg + (-7046029254386353131 : Int64)))), .second, .val (.long (own_mx ((sg + (-7046029254386353131 : Int64)) + (-7046029254386353131 : Int64)))), .second, .unset, .unset, .unset, .unset, .unset]) rfl ?_
        refine own_lloadN X382 hx hby at_203 (pc' := 204) rfl rfl ?_
        refine own_aload X382 hx hby at_204 (pc' := 206) rfl rfl rfl ?_
        refine own_callS X382 hx hZ (rm_of1_0 l Z a0 hw [] p1 b359 t376 c0 gS fm T376.heap n0 (c378) S_S hS S_A S_H S_L S_F hfm (E376) (C376) (V376) (A376) hb0 hk0) hown (own_t hw 30 rfl) (own_t hw 31 rfl) (own_t hw 32 rfl) (own_t hw 33 rfl) (by decide) (W := 0) (by decide) (by decide) (by rw [hml]; rfl) (argsL := [(.long p1), (.ref b359)]) (rest := []) rfl (lenOf own_pd19 rfl) rfl (Nat.le_of_eq rfl) (hb hby at_206) e382 (by decide) (by decide) ?_
        intro v383 T383 L383 X383 hQ383
        obtain ⟨b383, hv383, N383q, K383, g383, E383, F383⟩ := hQ383
        rw [hnm, hsg] at F383
        subst hv383
        have N383 := Fr.app N382 N383q
        have l383 : n0 ≤ b383 := (Nat.le_trans Z0 (Nat.le_trans (Nat.le_trans (Nat.le_trans (Nat.le_trans (Nat.le_trans (Nat.le_refl _) E357.1) (Nat.le_of_eq (Wr.size W358).symm)) E359.1) K376.1) g383))
        have c384 := (c377.keep K383 all0)
        have c385 := (c378.keep K383 all0)
        show own_Go p.tables e below (T383.setTop (mkF m 209 #[.val (.long p1), .second, .val (.int p2), .val (.int p3), .val (.int c0), .val (.int c1), .val (.int c2), .val (.int (((p3.toUInt32 >>> ((16 : Int32) &&& 31).toUInt32).toInt32) &&& (3 : Int32))), .val (.ref b357), .val (.long nm), .second, .val (.ref b359), .val (.long sg), .second, .val (.long (own_mx (sg + (-7046029254386353131 : Int64)))), .second, .val (.long (own_mx ((sg + (-7046029254386353131 : Int64)) + (-7046029254386353131 : Int64)))), .second, .unset, .unset, .unset, .unset, .unset] [(.ref b383)])) _
        refine own_astore X383 hx hby at_209 (pc' := 211) rfl rfl (Ls' := #[.val (.long p1), .second, .val (.int p2), .val (.int p3), .val (.int c0), .val (.int c1), .val (.int c2), .val (.int (((p3.toUInt32 >>> ((16 : Int32) &&& 31).toUInt32).toInt32) &&& (3 : Int32))), .val (.ref b357), .val (.long nm), .second, .val (.ref b359), .val (.long sg), .second, .val (.long (own_mx (sg + (-7046029254386353131 : Int64)))), .second, .val (.long (own_mx ((sg + (-7046029254386353131 : Int64)) + (-7046029254386353131 : Int64)))), .second, .val (.ref b383), .unset, .unset, .unset, .unset]) rfl ?_
        refine own_aload X383 hx hby at_211 (pc' := 213) rfl rfl rfl ?_
        refine own_callV X383 hx hZ (rm_nx l Z a0 hw [] b383 sg T383.heap n0 (c385) (E383) (F383) l383) hown (own_t hw 59 rfl) (own_t hw 60 rfl) (own_t hw 62 rfl) (own_t hw 61 rfl) (own_t hw 63 rfl) (own_t hw 32 rfl) (by decide) E383 (W := 0) (by decide) (by decide) (by rw [hml]; rfl) (argsL := []) (rest := []) rfl (lenOf own_pd20 rfl) rfl (Nat.le_of_eq rfl) (hb hby at_213) rfl (by decide) (by decide) ?_
        intro v386 T386 L386 X386 hQ386
        obtain ⟨hv386, N386q, K386, E386, F386⟩ := hQ386
        subst hv386
        have N386 := Fr.app N383 N386q
        have c387 := (c384.keep K386 (allS (Safe.exa (c384).1.alike E383 (by decide) (by decide)) all0))
        have c388 := (c385.keep K386 (allS l383 all0))
        show own_Go p.tables e below (T386.setTop (mkF m 216 #[.val (.long p1), .second, .val (.int p2), .val (.int p3), .val (.int c0), .val (.int c1), .val (.int c2), .val (.int (((p3.toUInt32 >>> ((16 : Int32) &&& 31).toUInt32).toInt32) &&& (3 : Int32))), .val (.ref b357), .val (.long nm), .second, .val (.ref b359), .val (.long sg), .second, .val (.long (own_mx (sg + (-7046029254386353131 : Int64)))), .second, .val (.long (own_mx ((sg + (-7046029254386353131 : Int64)) + (-7046029254386353131 : Int64)))), .second, .val (.ref b383), .unset, .unset, .unset, .unset] [(.long (own_mx (sg + (-7046029254386353131 : Int64))))])) _
        refine own_lstore X386 hx hby at_216 (pc' := 218) rfl (Ls' := #[.val (.long p1), .second, .val (.int p2), .val (.int p3), .val (.int c0), .val (.int c1), .val (.int c2), .val (.int (((p3.toUInt32 >>> ((16 : Int32) &&& 31).toUInt32).toInt32) &&& (3 : Int32))), .val (.ref b357), .val (.long nm), .second, .val (.ref b359), .val (.long sg), .second, .val (.long (own_mx (sg + (-7046029254386353131 : Int64)))), .second, .val (.long (own_mx ((sg + (-7046029254386353131 : Int64)) + (-7046029254386353131 : Int64)))), .second, .val (.ref b383), .val (.long (own_mx (sg + (-7046029254386353131 : Int64)))), .second, .unset, .unset]) rfl ?_
        refine own_aload X386 hx hby at_218 (pc' := 220) rfl rfl rfl ?_
        refine own_callV X386 hx hZ (rm_nx l Z a0 hw [] b383 (sg + (-7046029254386353131 : Int64)) T386.heap n0 (c388) (E386) (F386) l383) hown (own_t hw 59 rfl) (own_t hw 60 rfl) (own_t hw 62 rfl) (own_t hw 61 rfl) (own_t hw 63 rfl) (own_t hw 32 rfl) (by decide) E386 (W := 0) (by decide) (by decide) (by rw [hml]; rfl) (argsL := []) (rest := []) rfl (lenOf own_pd20 rfl) rfl (Nat.le_of_eq rfl) (hb hby at_220) rfl (by decide) (by decide) ?_
        intro v389 T389 L389 X389 hQ389
        obtain ⟨hv389, N389q, K389, E389, F389⟩ := hQ389
        subst hv389
        have N389 := Fr.app N386 N389q
        have c390 := (c387.keep K389 (allS (Safe.exa (c387).1.alike E386 (by decide) (by decide)) all0))
        have c391 := (c388.keep K389 (allS l383 all0))
        show own_Go p.tables e below (T389.setTop (mkF m 223 #[.val (.long p1), .second, .val (.int p2), .val (.int p3), .val (.int c0), .val (.int c1), .val (.int c2), .val (.int (((p3.toUInt32 >>> ((16 : Int32) &&& 31).toUInt32).toInt32) &&& (3 : Int32))), .val (.ref b357), .val (.long nm), .second, .val (.ref b359), .val (.long sg), .second, .val (.long (own_mx (sg + (-7046029254386353131 : Int64)))), .second, .val (.long (own_mx ((sg + (-7046029254386353131 : Int64)) + (-7046029254386353131 : Int64)))), .second, .val (.ref b383), .val (.long (own_mx (sg + (-7046029254386353131 : Int64)))), .second, .unset, .unset] [(.long (own_mx ((sg + (-7046029254386353131 : Int64)) + (-7046029254386353131 : Int64))))])) _
        refine own_lstore X389 hx hby at_223 (pc' := 225) rfl (Ls' := #[.val (.long p1), .second, .val (.int p2), .val (.int p3), .val (.int c0), .val (.int c1), .val (.int c2), .val (.int (((p3.toUInt32 >>> ((16 : Int32) &&& 31).toUInt32).toInt32) &&& (3 : Int32))), .val (.ref b357), .val (.long nm), .second, .val (.ref b359), .val (.long sg), .second, .val (.long (own_mx (sg + (-7046029254386353131 : Int64)))), .second, .val (.long (own_mx ((sg + (-7046029254386353131 : Int64)) + (-7046029254386353131 : Int64)))), .second, .val (.ref b383), .val (.long (own_mx (sg + (-7046029254386353131 : Int64)))), .second, .val (.long (own_mx ((sg + (-7046029254386353131 : Int64)) + (-7046029254386353131 : Int64)))), .second]) rfl ?_
        refine own_lload X389 hx hby at_225 (pc' := 227) rfl rfl ?_
        refine own_lload X389 hx hby at_227 (pc' := 229) rfl rfl ?_
        refine own_lcmp X389 hx hby at_229 (pc' := 230) rfl ?_
        refine own_ifNo X389 hx hby at_230 (pc' := 233) rfl (teq ((lw_eq (own_mx (sg + (-7046029254386353131 : Int64))) (own_mx (sg + (-7046029254386353131 : Int64)))).mpr rfl)).2 ?_
        refine own_lload X389 hx hby at_233 (pc' := 235) rfl rfl ?_
        refine own_lload X389 hx hby at_235 (pc' := 237) rfl rfl ?_
        refine own_lcmp X389 hx hby at_237 (pc' := 238) rfl ?_
        refine own_ifNo X389 hx hby at_238 (pc' := 241) rfl (teq ((lw_eq (own_mx ((sg + (-7046029254386353131 : Int64)) + (-7046029254386353131 : Int64))) (own_mx ((sg + (-7046029254386353131 : Int64)) + (-7046029254386353131 : Int64)))).mpr rfl)).2 ?_
        refine own_iconst X389 hx hby at_241 (pc' := 242) rfl (z := (1 : Int32)) (by decide) ?_
        refine own_goto X389 hx hby at_242 (pc' := 246) (by decide) ?_
        exact own_retZW (t := .boolean) X389 hx hEL (c390) rfl hret (by simp) (hb hby at_246) hlk (by decide) (by decide) ⟨congrArg (fun z => some (Value.int z)) (own_nar1), N389⟩
    · skip
      refine own_icmpYes X0 hx hby at_51 (pc' := 72) (by decide) (feq hc51).2 ?_
      refine own_iload X0 hx hby at_72 (pc' := 74) rfl rfl ?_
      refine own_iconst X0 hx hby at_74 (pc' := 75) rfl (z := (2 : Int32)) (by decide) ?_
      by_cases hc75 : (((p3.toUInt32 >>> ((16 : Int32) &&& 31).toUInt32).toInt32) &&& (3 : Int32)) = (2 : Int32)
      · skip
        refine own_icmpNo X0 hx hby at_75 (pc' := 78) rfl (teq hc75).2 ?_
        refine own_iconst X0 hx hby at_78 (pc' := 79) rfl (z := (2 : Int32)) (by decide) ?_
        refine own_newA X0 hx hby at_79 (pc' := 81) rfl hZ (own_t hw 1 rfl) e0 (by decide) (cap := 2) (by decide) (by decide) (by decide) (by decide) (vs := [(.int (0 : Int32)), (.int (0 : Int32))]) (by rfl) ?_
        intro T392 h392 b392 X392 e392 g392 E392 A392
        have l392 : n0 ≤ b392 := (Nat.le_trans Z0 (Nat.le_trans (Nat.le_refl _) (Nat.le_of_eq g392.symm)))
        refine own_dup X392 hx hby at_81 (pc' := 82) rfl rfl ?_
        refine own_iconst X392 hx hby at_82 (pc' := 83) rfl (z := (0 : Int32)) (by decide) ?_
        refine own_iload X392 hx hby at_83 (pc' := 85) rfl rfl ?_
        refine own_castore X392 hx hby at_85 (pc' := 86) rfl hZ e392 (A392) (by decide) (v := (.int (0 : Int32))) rfl ?_
        intro T393 h393 X393 e393 W393 A393
        have B393 : own_Ar Z h393 b392 .char [(.int c0), (.int (0 : Int32))] := (by have q := A393; rw [own_narW hb0] at q; exact q)
        have N393 := Fr.snoc X393 N0 l392
        refine own_dup X393 hx hby at_86 (pc' := 87) rfl rfl ?_
        refine own_iconst X393 hx hby at_87 (pc' := 88) rfl (z := (1 : Int32)) (by decide) ?_
        refine own_iload X393 hx hby at_88 (pc' := 90) rfl rfl ?_
        refine own_castore X393 hx hby at_90 (pc' := 91) rfl hZ e393 (B393) (by decide) (v := (.int (0 : Int32))) rfl ?_
        intro T394 h394 X394 e394 W394 A394
        have B394 : own_Ar Z h394 b392 .char [(.int c0), (.int c1)] := (by have q := A394; rw [own_narW hb1] at q; exact q)
        have N394 := Fr.snoc X394 N393 l392
        refine own_astore X394 hx hby at_91 (pc' := 93) rfl rfl (Ls' := #[.val (.long p1), .second, .val (.int p2), .val (.int p3), .val (.int c0), .val (.int c1), .val (.int c2), .val (.int (((p3.toUInt32 >>> ((16 : Int32) &&& 31).toUInt32).toInt32) &&& (3 : Int32))), .val (.ref b392), .unset, .unset, .unset, .unset, .unset, .unset, .unset, .unset, .unset, .unset, .unset, .unset, .unset, .unset]) rfl ?_
        refine own_ldc2 X394 hx hby at_93 (pc' := 96) rfl hZ hown (own_t hw 64 rfl) ?_
        refine own_iload X394 hx hby at_96 (pc' := 98) rfl rfl ?_
        refine own_i2l X394 hx hby at_98 (pc' := 99) rfl rfl ?_
        refine own_lmul X394 hx hby at_99 (pc' := 100) rfl rfl ?_
        refine own_iload X394 hx hby at_100 (pc' := 102) rfl rfl ?_
        refine own_i2l X394 hx hby at_102 (pc' := 103) rfl rfl ?_
        refine own_ladd X394 hx hby at_103 (pc' := 104) rfl rfl ?_
        refine own_lstore X394 hx hby at_104 (pc' := 106) rfl (Ls' := #[.val (.long p1), .second, .val (.int p2), .val (.int p3), .val (.int c0), .val (.int c1), .val (.int c2), .val (.int (((p3.toUInt32 >>> ((16 : Int32) &&& 31).toUInt32).toInt32) &&& (3 : Int32))), .val (.ref b392), .val (.long (((31 : Int64) * (c0.toInt64)) + (c1.toInt64))), .second, .unset, .unset, .unset, .unset, .unset, .unset, .unset, .unset, .unset, .unset, .unset, .unset]) rfl ?_
        refine own_goto X394 hx hby at_106 (pc' := 150) (by decide) ?_
        show own_Go p.tables e below (T394.setTop (mkF m 150 #[.val (.long p1), .second, .val (.int p2), .val (.int p3), .val (.int c0), .val (.int c1), .val (.int c2), .val (.int (((p3.toUInt32 >>> ((16 : Int32) &&& 31).toUInt32).toInt32) &&& (3 : Int32))), .val (.ref b392), .val (.long (((31 : Int64) * (c0.toInt64)) + (c1.toInt64))), .second, .unset, .unset, .unset, .unset, .unset, .unset, .unset, .unset, .unset, .unset, .unset, .unset] [])) _
        generalize hnm : (((31 : Int64) * (c0.toInt64)) + (c1.toInt64)) = nm
        show own_Go p.tables e below (T394.setTop (mkF m 150 #[.val (.long p1), .second, .val (.int p2), .val (.int p3), .val (.int c0), .val (.int c1), .val (.int c2), .val (.int (((p3.toUInt32 >>> ((16 : Int32) &&& 31).toUInt32).toInt32) &&& (3 : Int32))), .val (.ref b392), .val (.long nm), .second, .unset, .unset, .unset, .unset, .unset, .unset, .unset, .unset, .unset, .unset, .unset, .unset] [])) _
        refine own_new X394 hx hby at_150 (pc' := 153) rfl hZ hown (own_t hw 2 rfl) (own_t hw 3 rfl) (own_t hw 4 rfl) e394 (by decide) (by decide) ?_
        intro T395 h395 b395 X395 e395 g395 E395 A395 D395
        have F395_value : Fld Z h395 b395 "java/lang/String" "value" "[B" .null := D395 (Or.inr (own_t hw 17 rfl)) (ty := (.array .byte)) (by decide)
        have F395_coder : Fld Z h395 b395 "java/lang/String" "coder" "B" (.int (0 : Int32)) := D395 (Or.inr (own_t hw 18 rfl)) (ty := .byte) (by decide)
        have l395 : n0 ≤ b395 := (Nat.le_trans Z0 (Nat.le_trans (Nat.le_trans (Nat.le_trans (Nat.le_trans (Nat.le_refl _) E392.1) (Nat.le_of_eq (Wr.size W393).symm)) (Nat.le_of_eq (Wr.size W394).symm)) (Nat.le_of_eq g395.symm)))
        refine own_dup X395 hx hby at_153 (pc' := 154) rfl rfl ?_
        refine own_aload X395 hx hby at_154 (pc' := 156) rfl rfl rfl ?_
        by_cases hk0 : (255 : Int32) < c0
        · skip
          refine own_callSp X395 hx hZ (rm_i1_2_0 l Z a0 hw [] b395 b392 c0 c1 gS h395 n0 (((((O_0.ext E392).wr W393 l392).wr W394 l392).ext E395)) S_S hS S_A S_H S_L (A395) (F395_value) (F395_coder) l395 ((B394.ext E395)) hb0 hk0) rfl hown (own_t hw 5 rfl) (own_t hw 6 rfl) (own_t hw 7 rfl) (own_t hw 4 rfl) (by decide) (W := 1) (by decide) (by decide) (by rw [hml]; rfl) (argsL := [(.ref b392)]) (rest := [(.ref b395)]) rfl (lenOf own_pd18 rfl) rfl (Nat.le_of_eq rfl) (hb hby at_156) e395 (by decide) (by decide) ?_
          intro v396 T396 L396 X396 hQ396
          obtain ⟨hv396, N396q, K396, E396, C396, t396, V396, A396⟩ := hQ396
          subst hv396
          have N396 := Fr.app N394 N396q
          have c397 := (((((W0.ext E392).wr W393 (own_Ar.safe A392 ((W0.ext E392)).1.alike (by first | decide | (intro q; cases q)))).wr W394 (own_Ar.safe B393 (((W0.ext E392).wr W393 (own_Ar.safe A392 ((W0.ext E392)).1.alike (by first | decide | (intro q; cases q))))).1.alike (by first | decide | (intro q; cases q)))).ext E395).keep K396 (allS (Safe.ext E395 ((((W0.ext E392).wr W393 (own_Ar.safe A392 ((W0.ext E392)).1.alike (by first | decide | (intro q; cases q)))).wr W394 (own_Ar.safe B393 (((W0.ext E392).wr W393 (own_Ar.safe A392 ((W0.ext E392)).1.alike (by first | decide | (intro q; cases q))))).1.alike (by first | decide | (intro q; cases q))))).ch (Safe.new (Nat.le_of_eq g395.symm))) all0))
          have c398 := (((((O_0.ext E392).wr W393 l392).wr W394 l392).ext E395).keep K396 (allS l395 all0))
          show own_Go p.tables e below (T396.setTop (mkF m 159 #[.val (.long p1), .second, .val (.int p2), .val (.int p3), .val (.int c0), .val (.int c1), .val (.int c2), .val (.int (((p3.toUInt32 >>> ((16 : Int32) &&& 31).toUInt32).toInt32) &&& (3 : Int32))), .val (.ref b392), .val (.long nm), .second, .unset, .unset, .unset, .unset, .unset, .unset, .unset, .unset, .unset, .unset, .unset, .unset] [(.ref b395)])) _
          refine own_astore X396 hx hby at_159 (pc' := 161) rfl rfl (Ls' := #[.val (.long p1), .second, .val (.int p2), .val (.int p3), .val (.int c0), .val (.int c1), .val (.int c2), .val (.int (((p3.toUInt32 >>> ((16 : Int32) &&& 31).toUInt32).toInt32) &&& (3 : Int32))), .val (.ref b392), .val (.long nm), .second, .val (.ref b395), .unset, .unset, .unset, .unset, .unset, .unset, .unset, .unset, .unset, .unset, .unset]) rfl ?_
          refine own_lloadN X396 hx hby at_161 (pc' := 162) rfl rfl ?_
          refine own_callS X396 hx hZ (rm_fin l Z a0 hw [] p1 T396.heap n0) hown (own_t hw 23 rfl) (own_t hw 24 rfl) (own_t hw 25 rfl) (own_t hw 26 rfl) (by decide) (W := 0) (by decide) (by decide) (by rw [hml]; rfl) (argsL := [(.long p1)]) (rest := []) rfl (lenOf own_pd14 rfl) rfl (Nat.le_of_eq rfl) (hb hby at_162) rfl (by decide) (by decide) ?_
          intro v399 T399 L399 X399 hQ399
          obtain ⟨hv399, N399q, e399⟩ := hQ399
          subst hv399
          have N399 := Fr.app N396 N399q
          show own_Go p.tables e below (T399.setTop (mkF m 165 #[.val (.long p1), .second, .val (.int p2), .val (.int p3), .val (.int c0), .val (.int c1), .val (.int c2), .val (.int (((p3.toUInt32 >>> ((16 : Int32) &&& 31).toUInt32).toInt32) &&& (3 : Int32))), .val (.ref b392), .val (.long nm), .second, .val (.ref b395), .unset, .unset, .unset, .unset, .unset, .unset, .unset, .unset, .unset, .unset, .unset] [(.long (own_mx p1))])) _
          refine own_lload X399 hx hby at_165 (pc' := 167) rfl rfl ?_
          refine own_ldc2 X399 hx hby at_167 (pc' := 170) rfl hZ hown (own_t hw 29 rfl) ?_
          refine own_ladd X399 hx hby at_170 (pc' := 171) rfl rfl ?_
          refine own_callS X399 hx hZ (rm_fin l Z a0 hw [] (nm + (-7046029254386353131 : Int64)) T396.heap n0) hown (own_t hw 23 rfl) (own_t hw 24 rfl) (own_t hw 25 rfl) (own_t hw 26 rfl) (by decide) (W := 2) (by decide) (by decide) (by rw [hml]; rfl) (argsL := [(.long (nm + (-7046029254386353131 : Int64)))]) (rest := [(.long (own_mx p1))]) rfl (lenOf own_pd14 rfl) rfl (Nat.le_of_eq rfl) (hb hby at_171) e399 (by decide) (by decide) ?_
          intro v400 T400 L400 X400 hQ400
          obtain ⟨hv400, N400q, e400⟩ := hQ400
          subst hv400
          have N400 := Fr.app N399 N400q
          show own_Go p.tables e below (T400.setTop (mkF m 174 #[.val (.long p1), .second, .val (.int p2), .val (.int p3), .val (.int c0), .val (.int c1), .val (.int c2), .val (.int (((p3.toUInt32 >>> ((16 : Int32) &&& 31).toUInt32).toInt32) &&& (3 : Int32))), .val (.ref b392), .val (.long nm), .second, .val (.ref b395), .unset, .unset, .unset, .unset, .unset, .unset, .unset, .unset, .unset, .unset, .unset] [(.long (own_mx (nm + (-7046029254386353131 : Int64)))), (.long (own_mx p1))])) _
          refine own_lxor X400 hx hby at_174 (pc' := 175) rfl rfl ?_
          refine own_lstore X400 hx hby at_175 (pc' := 177) rfl (Ls' := #[.val (.long p1), .second, .val (.int p2), .val (.int p3), .val (.int c0), .val (.int c1), .val (.int c2), .val (.int (((p3.toUInt32 >>> ((16 : Int32) &&& 31).toUInt32).toInt32) &&& (3 : Int32))), .val (.ref b392), .val (.long nm), .second, .val (.ref b395), .val (.long ((own_mx p1) ^^^ (own_mx (nm + (-7046029254386353131 : Int64))))), .second, .unset, .unset, .unset, .unset, .unset, .unset, .unset, .unset, .unset]) rfl ?_
          show own_Go p.tables e below (T400.setTop (mkF m 177 #[.val (.long p1), .second, .val (.int p2), .val (.int p3), .val (.int c0), .val (.int c1), .val (.int c2), .val (.int (((p3.toUInt32 >>> ((16 : Int32) &&& 31).toUInt32).toInt32) &&& (3 : Int32))), .val (.ref b392), .val (.long nm), .second, .val (.ref b395), .val (.long ((own_mx p1) ^^^ (own_mx (nm + (-7046029254386353131 : Int64))))), .second, .unset, .unset, .unset, .unset, .unset, .unset, .unset, .unset, .unset] [])) _
          generalize hsg : ((own_mx p1) ^^^ (own_mx (nm + (-7046029254386353131 : Int64)))) = sg
          show own_Go p.tables e below (T400.setTop (mkF m 177 #[.val (.long p1), .second, .val (.int p2), .val (.int p3), .val (.int c0), .val (.int c1), .val (.int c2), .val (.int (((p3.toUInt32 >>> ((16 : Int32) &&& 31).toUInt32).toInt32) &&& (3 : Int32))), .val (.ref b392), .val (.long nm), .second, .val (.ref b395), .val (.long sg), .second, .unset, .unset, .unset, .unset, .unset, .unset, .unset, .unset, .unset] [])) _
          refine own_lload X400 hx hby at_177 (pc' := 179) rfl rfl ?_
          refine own_ldc2 X400 hx hby at_179 (pc' := 182) rfl hZ hown (own_t hw 29 rfl) ?_
          refine own_ladd X400 hx hby at_182 (pc' := 183) rfl rfl ?_
          refine own_callS X400 hx hZ (rm_fin l Z a0 hw [] (sg + (-7046029254386353131 : Int64)) T396.heap n0) hown (own_t hw 23 rfl) (own_t hw 24 rfl) (own_t hw 25 rfl) (own_t hw 26 rfl) (by decide) (W := 0) (by decide) (by decide) (by rw [hml]; rfl) (argsL := [(.long (sg + (-7046029254386353131 : Int64)))]) (rest := []) rfl (lenOf own_pd14 rfl) rfl (Nat.le_of_eq rfl) (hb hby at_183) e400 (by decide) (by decide) ?_
          intro v401 T401 L401 X401 hQ401
          obtain ⟨hv401, N401q, e401⟩ := hQ401
          subst hv401
          have N401 := Fr.app N400 N401q
          show own_Go p.tables e below (T401.setTop (mkF m 186 #[.val (.long p1), .second, .val (.int p2), .val (.int p3), .val (.int c0), .val (.int c1), .val (.int c2), .val (.int (((p3.toUInt32 >>> ((16 : Int32) &&& 31).toUInt32).toInt32) &&& (3 : Int32))), .val (.ref b392), .val (.long nm), .second, .val (.ref b395), .val (.long sg), .second, .unset, .unset, .unset, .unset, .unset, .unset, .unset, .unset, .unset] [(.long (own_mx (sg + (-7046029254386353131 : Int64))))])) _
          refine own_lstore X401 hx hby at_186 (pc' := 188) rfl (Ls' := #[.val (.long p1), .second, .val (.int p2), .val (.int p3), .val (.int c0), .val (.int c1), .val (.int c2), .val (.int (((p3.toUInt32 >>> ((16 : Int32) &&& 31).toUInt32).toInt32) &&& (3 : Int32))), .val (.ref b392), .val (.long nm), .second, .val (.ref b395), .val (.long sg), .second, .val (.long (own_mx (sg + (-7046029254386353131 : Int64)))), .second, .unset, .unset, .unset, .unset, .unset, .unset, .unset]) rfl ?_
          refine own_lload X401 hx hby at_188 (pc' := 190) rfl rfl ?_
          refine own_ldc2 X401 hx hby at_190 (pc' := 193) rfl hZ hown (own_t hw 29 rfl) ?_
          refine own_ladd X401 hx hby at_193 (pc' := 194) rfl rfl ?_
          refine own_ldc2 X401 hx hby at_194 (pc' := 197) rfl hZ hown (own_t hw 29 rfl) ?_
          refine own_ladd X401 hx hby at_197 (pc' := 198) rfl rfl ?_
          refine own_callS X401 hx hZ (rm_fin l Z a0 hw [] ((sg + (-7046029254386353131 : Int64)) + (-7046029254386353131 : Int64)) T396.heap n0) hown (own_t hw 23 rfl) (own_t hw 24 rfl) (own_t hw 25 rfl) (own_t hw 26 rfl) (by decide) (W := 0) (by decide) (by decide) (by rw [hml]; rfl) (argsL := [(.long ((sg + (-7046029254386353131 : Int64)) + (-7046029254386353131 : Int64)))]) (rest := []) rfl (lenOf own_pd14 rfl) rfl (Nat.le_of_eq rfl) (hb hby at_198) e401 (by decide) (by decide) ?_
          intro v402 T402 L402 X402 hQ402
          obtain ⟨hv402, N402q, e402⟩ := hQ402
          subst hv402
          have N402 := Fr.app N401 N402q
          show own_Go p.tables e below (T402.setTop (mkF m 201 #[.val (.long p1), .second, .val (.int p2), .val (.int p3), .val (.int c0), .val (.int c1), .val (.int c2), .val (.int (((p3.toUInt32 >>> ((16 : Int32) &&& 31).toUInt32).toInt32) &&& (3 : Int32))), .val (.ref b392), .val (.long nm), .second, .val (.ref b395), .val (.long sg), .second, .val (.long (own_mx (sg + (-7046029254386353131 : Int64)))), .second, .unset, .unset, .unset, .unset, .unset, .unset, .unset] [(.long (own_mx ((sg + (-7046029254386353131 : Int64)) + (-7046029254386353131 : Int64))))])) _
          refine own_lstore X402 hx hby at_201 (pc' := 203) rfl (Ls' := #[.val (.long p1), .second, .val (.int p2), .val (.int p3), .val (.int c0), .val (.int c1), .val (.int c2), .val (.int (((p3.toUInt32 >>> ((16 : Int32) &&& 31).toUInt32).toInt32) &&& (3 : Int32))), .val (.ref b392), .val (.long nm), .second, .val (.ref b395), .val (.long sg), .second, .val (.long (own_mx (sg + (-7046029254386353131 : Int64)))), .second, .val (.long (own_mx ((sg + (-7046029254386353131 : Int64)) + (-7046029254386353131 : Int64)))), .second, .unset, .unset, .unset, .unset, .unset]) rfl ?_
          refine own_lloadN X402 hx hby at_203 (pc' := 204) rfl rfl ?_
          refine own_aload X402 hx hby at_204 (pc' := 206) rfl rfl rfl ?_
          refine own_callS X402 hx hZ (rm_of2_1 l Z a0 hw [] p1 b395 t396 c0 c1 gS fm T396.heap n0 (c398) S_S hS S_A S_H S_L S_F hfm (E396) (C396) (V396) (A396) hb0 hb1 ) hown (own_t hw 30 rfl) (own_t hw 31 rfl) (own_t hw 32 rfl) (own_t hw 33 rfl) (by decide) (W := 0) (by decide) (by decide) (by rw [hml]; rfl) (argsL := [(.long p1), (.ref b395)]) (rest := []) rfl (lenOf own_pd19 rfl) rfl (Nat.le_of_eq rfl) (hb hby at_206) e402 (by decide) (by decide) ?_
          intro v403 T403 L403 X403 hQ403
          obtain ⟨b403, hv403, N403q, K403, g403, E403, F403⟩ := hQ403
          rw [hnm, hsg] at F403
          subst hv403
          have N403 := Fr.app N402 N403q
          have l403 : n0 ≤ b403 := (Nat.le_trans Z0 (Nat.le_trans (Nat.le_trans (Nat.le_trans (Nat.le_trans (Nat.le_trans (Nat.le_trans (Nat.le_refl _) E392.1) (Nat.le_of_eq (Wr.size W393).symm)) (Nat.le_of_eq (Wr.size W394).symm)) E395.1) K396.1) g403))
          have c404 := (c397.keep K403 all0)
          have c405 := (c398.keep K403 all0)
          show own_Go p.tables e below (T403.setTop (mkF m 209 #[.val (.long p1), .second, .val (.int p2), .val (.int p3), .val (.int c0), .val (.int c1), .val (.int c2), .val (.int (((p3.toUInt32 >>> ((16 : Int32) &&& 31).toUInt32).toInt32) &&& (3 : Int32))), .val (.ref b392), .val (.long nm), .second, .val (.ref b395), .val (.long sg), .second, .val (.long (own_mx (sg + (-7046029254386353131 : Int64)))), .second, .val (.long (own_mx ((sg + (-7046029254386353131 : Int64)) + (-7046029254386353131 : Int64)))), .second, .unset, .unset, .unset, .unset, .unset] [(.ref b403)])) _
          refine own_astore X403 hx hby at_209 (pc' := 211) rfl rfl (Ls' := #[.val (.long p1), .second, .val (.int p2), .val (.int p3), .val (.int c0), .val (.int c1), .val (.int c2), .val (.int (((p3.toUInt32 >>> ((16 : Int32) &&& 31).toUInt32).toInt32) &&& (3 : Int32))), .val (.ref b392), .val (.long nm), .second, .val (.ref b395), .val (.long sg), .second, .val (.long (own_mx (sg + (-7046029254386353131 : Int64)))), .second, .val (.long (own_mx ((sg + (-7046029254386353131 : Int64)) + (-7046029254386353131 : Int64)))), .second, .val (.ref b403), .unset, .unset, .unset, .unset]) rfl ?_
          refine own_aload X403 hx hby at_211 (pc' := 213) rfl rfl rfl ?_
          refine own_callV X403 hx hZ (rm_nx l Z a0 hw [] b403 sg T403.heap n0 (c405) (E403) (F403) l403) hown (own_t hw 59 rfl) (own_t hw 60 rfl) (own_t hw 62 rfl) (own_t hw 61 rfl) (own_t hw 63 rfl) (own_t hw 32 rfl) (by decide) E403 (W := 0) (by decide) (by decide) (by rw [hml]; rfl) (argsL := []) (rest := []) rfl (lenOf own_pd20 rfl) rfl (Nat.le_of_eq rfl) (hb hby at_213) rfl (by decide) (by decide) ?_
          intro v406 T406 L406 X406 hQ406
          obtain ⟨hv406, N406q, K406, E406, F406⟩ := hQ406
          subst hv406
          have N406 := Fr.app N403 N406q
          have c407 := (c404.keep K406 (allS (Safe.exa (c404).1.alike E403 (by decide) (by decide)) all0))
          have c408 := (c405.keep K406 (allS l403 all0))
          show own_Go p.tables e below (T406.setTop (mkF m 216 #[.val (.long p1), .second, .val (.int p2), .val (.int p3), .val (.int c0), .val (.int c1), .val (.int c2), .val (.int (((p3.toUInt32 >>> ((16 : Int32) &&& 31).toUInt32).toInt32) &&& (3 : Int32))), .val (.ref b392), .val (.long nm), .second, .val (.ref b395), .val (.long sg), .second, .val (.long (own_mx (sg + (-7046029254386353131 : Int64)))), .second, .val (.long (own_mx ((sg + (-7046029254386353131 : Int64)) + (-7046029254386353131 : Int64)))), .second, .val (.ref b403), .unset, .unset, .unset, .unset] [(.long (own_mx (sg + (-7046029254386353131 : Int64))))])) _
          refine own_lstore X406 hx hby at_216 (pc' := 218) rfl (Ls' := #[.val (.long p1), .second, .val (.int p2), .val (.int p3), .val (.int c0), .val (.int c1), .val (.int c2), .val (.int (((p3.toUInt32 >>> ((16 : Int32) &&& 31).toUInt32).toInt32) &&& (3 : Int32))), .val (.ref b392), .val (.long nm), .second, .val (.ref b395), .val (.long sg), .second, .val (.long (own_mx (sg + (-7046029254386353131 : Int64)))), .second, .val (.long (own_mx ((sg + (-7046029254386353131 : Int64)) + (-7046029254386353131 : Int64)))), .second, .val (.ref b403), .val (.long (own_mx (sg + (-7046029254386353131 : Int64)))), .second, .unset, .unset]) rfl ?_
          refine own_aload X406 hx hby at_218 (pc' := 220) rfl rfl rfl ?_
          refine own_callV X406 hx hZ (rm_nx l Z a0 hw [] b403 (sg + (-7046029254386353131 : Int64)) T406.heap n0 (c408) (E406) (F406) l403) hown (own_t hw 59 rfl) (own_t hw 60 rfl) (own_t hw 62 rfl) (own_t hw 61 rfl) (own_t hw 63 rfl) (own_t hw 32 rfl) (by decide) E406 (W := 0) (by decide) (by decide) (by rw [hml]; rfl) (argsL := []) (rest := []) rfl (lenOf own_pd20 rfl) rfl (Nat.le_of_eq rfl) (hb hby at_220) rfl (by decide) (by decide) ?_
          intro v409 T409 L409 X409 hQ409
          obtain ⟨hv409, N409q, K409, E409, F409⟩ := hQ409
          subst hv409
          have N409 := Fr.app N406 N409q
          have c410 := (c407.keep K409 (allS (Safe.exa (c407).1.alike E406 (by decide) (by decide)) all0))
          have c411 := (c408.keep K409 (allS l403 all0))
          show own_Go p.tables e below (T409.setTop (mkF m 223 #[.val (.long p1), .second, .val (.int p2), .val (.int p3), .val (.int c0), .val (.int c1), .val (.int c2), .val (.int (((p3.toUInt32 >>> ((16 : Int32) &&& 31).toUInt32).toInt32) &&& (3 : Int32))), .val (.ref b392), .val (.long nm), .second, .val (.ref b395), .val (.long sg), .second, .val (.long (own_mx (sg + (-7046029254386353131 : Int64)))), .second, .val (.long (own_mx ((sg + (-7046029254386353131 : Int64)) + (-7046029254386353131 : Int64)))), .second, .val (.ref b403), .val (.long (own_mx (sg + (-7046029254386353131 : Int64)))), .second, .unset, .unset] [(.long (own_mx ((sg + (-7046029254386353131 : Int64)) + (-7046029254386353131 : Int64))))])) _
          refine own_lstore X409 hx hby at_223 (pc' := 225) rfl (Ls' := #[.val (.long p1), .second, .val (.int p2), .val (.int p3), .val (.int c0), .val (.int c1), .val (.int c2), .val (.int (((p3.toUInt32 >>> ((16 : Int32) &&& 31).toUInt32).toInt32) &&& (3 : Int32))), .val (.ref b392), .val (.long nm), .second, .val (.ref b395), .val (.long sg), .second, .val (.long (own_mx (sg + (-7046029254386353131 : Int64)))), .second, .val (.long (own_mx ((sg + (-7046029254386353131 : Int64)) + (-7046029254386353131 : Int64)))), .second, .val (.ref b403), .val (.long (own_mx (sg + (-7046029254386353131 : Int64)))), .second, .val (.long (own_mx ((sg + (-7046029254386353131 : Int64)) + (-7046029254386353131 : Int64)))), .second]) rfl ?_
          refine own_lload X409 hx hby at_225 (pc' := 227) rfl rfl ?_
          refine own_lload X409 hx hby at_227 (pc' := 229) rfl rfl ?_
          refine own_lcmp X409 hx hby at_229 (pc' := 230) rfl ?_
          refine own_ifNo X409 hx hby at_230 (pc' := 233) rfl (teq ((lw_eq (own_mx (sg + (-7046029254386353131 : Int64))) (own_mx (sg + (-7046029254386353131 : Int64)))).mpr rfl)).2 ?_
          refine own_lload X409 hx hby at_233 (pc' := 235) rfl rfl ?_
          refine own_lload X409 hx hby at_235 (pc' := 237) rfl rfl ?_
          refine own_lcmp X409 hx hby at_237 (pc' := 238) rfl ?_
          refine own_ifNo X409 hx hby at_238 (pc' := 241) rfl (teq ((lw_eq (own_mx ((sg + (-7046029254386353131 : Int64)) + (-7046029254386353131 : Int64))) (own_mx ((sg + (-7046029254386353131 : Int64)) + (-7046029254386353131 : Int64)))).mpr rfl)).2 ?_
          refine own_iconst X409 hx hby at_241 (pc' := 242) rfl (z := (1 : Int32)) (by decide) ?_
          refine own_goto X409 hx hby at_242 (pc' := 246) (by decide) ?_
          exact own_retZW (t := .boolean) X409 hx hEL (c410) rfl hret (by simp) (hb hby at_246) hlk (by decide) (by decide) ⟨congrArg (fun z => some (Value.int z)) (own_nar1), N409⟩
        · skip
          by_cases hk1 : (255 : Int32) < c1
          · skip
            refine own_callSp X395 hx hZ (rm_i1_2_1 l Z a0 hw [] b395 b392 c0 c1 gS h395 n0 (((((O_0.ext E392).wr W393 l392).wr W394 l392).ext E395)) S_S hS S_A S_H S_L (A395) (F395_value) (F395_coder) l395 ((B394.ext E395)) hb1 hk0 hk1) rfl hown (own_t hw 5 rfl) (own_t hw 6 rfl) (own_t hw 7 rfl) (own_t hw 4 rfl) (by decide) (W := 1) (by decide) (by decide) (by rw [hml]; rfl) (argsL := [(.ref b392)]) (rest := [(.ref b395)]) rfl (lenOf own_pd18 rfl) rfl (Nat.le_of_eq rfl) (hb hby at_156) e395 (by decide) (by decide) ?_
            intro v412 T412 L412 X412 hQ412
            obtain ⟨hv412, N412q, K412, E412, C412, t412, V412, A412⟩ := hQ412
            subst hv412
            have N412 := Fr.app N394 N412q
            have c413 := (((((W0.ext E392).wr W393 (own_Ar.safe A392 ((W0.ext E392)).1.alike (by first | decide | (intro q; cases q)))).wr W394 (own_Ar.safe B393 (((W0.ext E392).wr W393 (own_Ar.safe A392 ((W0.ext E392)).1.alike (by first | decide | (intro q; cases q))))).1.alike (by first | decide | (intro q; cases q)))).ext E395).keep K412 (allS (Safe.ext E395 ((((W0.ext E392).wr W393 (own_Ar.safe A392 ((W0.ext E392)).1.alike (by first | decide | (intro q; cases q)))).wr W394 (own_Ar.safe B393 (((W0.ext E392).wr W393 (own_Ar.safe A392 ((W0.ext E392)).1.alike (by first | decide | (intro q; cases q))))).1.alike (by first | decide | (intro q; cases q))))).ch (Safe.new (Nat.le_of_eq g395.symm))) all0))
            have c414 := (((((O_0.ext E392).wr W393 l392).wr W394 l392).ext E395).keep K412 (allS l395 all0))
            show own_Go p.tables e below (T412.setTop (mkF m 159 #[.val (.long p1), .second, .val (.int p2), .val (.int p3), .val (.int c0), .val (.int c1), .val (.int c2), .val (.int (((p3.toUInt32 >>> ((16 : Int32) &&& 31).toUInt32).toInt32) &&& (3 : Int32))), .val (.ref b392), .val (.long nm), .second, .unset, .unset, .unset, .unset, .unset, .unset, .unset, .unset, .unset, .unset, .unset, .unset] [(.ref b395)])) _
            refine own_astore X412 hx hby at_159 (pc' := 161) rfl rfl (Ls' := #[.val (.long p1), .second, .val (.int p2), .val (.int p3), .val (.int c0), .val (.int c1), .val (.int c2), .val (.int (((p3.toUInt32 >>> ((16 : Int32) &&& 31).toUInt32).toInt32) &&& (3 : Int32))), .val (.ref b392), .val (.long nm), .second, .val (.ref b395), .unset, .unset, .unset, .unset, .unset, .unset, .unset, .unset, .unset, .unset, .unset]) rfl ?_
            refine own_lloadN X412 hx hby at_161 (pc' := 162) rfl rfl ?_
            refine own_callS X412 hx hZ (rm_fin l Z a0 hw [] p1 T412.heap n0) hown (own_t hw 23 rfl) (own_t hw 24 rfl) (own_t hw 25 rfl) (own_t hw 26 rfl) (by decide) (W := 0) (by decide) (by decide) (by rw [hml]; rfl) (argsL := [(.long p1)]) (rest := []) rfl (lenOf own_pd14 rfl) rfl (Nat.le_of_eq rfl) (hb hby at_162) rfl (by decide) (by decide) ?_
            intro v415 T415 L415 X415 hQ415
            obtain ⟨hv415, N415q, e415⟩ := hQ415
            subst hv415
            have N415 := Fr.app N412 N415q
            show own_Go p.tables e below (T415.setTop (mkF m 165 #[.val (.long p1), .second, .val (.int p2), .val (.int p3), .val (.int c0), .val (.int c1), .val (.int c2), .val (.int (((p3.toUInt32 >>> ((16 : Int32) &&& 31).toUInt32).toInt32) &&& (3 : Int32))), .val (.ref b392), .val (.long nm), .second, .val (.ref b395), .unset, .unset, .unset, .unset, .unset, .unset, .unset, .unset, .unset, .unset, .unset] [(.long (own_mx p1))])) _
            refine own_lload X415 hx hby at_165 (pc' := 167) rfl rfl ?_
            refine own_ldc2 X415 hx hby at_167 (pc' := 170) rfl hZ hown (own_t hw 29 rfl) ?_
            refine own_ladd X415 hx hby at_170 (pc' := 171) rfl rfl ?_
            refine own_callS X415 hx hZ (rm_fin l Z a0 hw [] (nm + (-7046029254386353131 : Int64)) T412.heap n0) hown (own_t hw 23 rfl) (own_t hw 24 rfl) (own_t hw 25 rfl) (own_t hw 26 rfl) (by decide) (W := 2) (by decide) (by decide) (by rw [hml]; rfl) (argsL := [(.long (nm + (-7046029254386353131 : Int64)))]) (rest := [(.long (own_mx p1))]) rfl (lenOf own_pd14 rfl) rfl (Nat.le_of_eq rfl) (hb hby at_171) e415 (by decide) (by decide) ?_
            intro v416 T416 L416 X416 hQ416
            obtain ⟨hv416, N416q, e416⟩ := hQ416
            subst hv416
            have N416 := Fr.app N415 N416q
            show own_Go p.tables e below (T416.setTop (mkF m 174 #[.val (.long p1), .second, .val (.int p2), .val (.int p3), .val (.int c0), .val (.int c1), .val (.int c2), .val (.int (((p3.toUInt32 >>> ((16 : Int32) &&& 31).toUInt32).toInt32) &&& (3 : Int32))), .val (.ref b392), .val (.long nm), .second, .val (.ref b395), .unset, .unset, .unset, .unset, .unset, .unset, .unset, .unset, .unset, .unset, .unset] [(.long (own_mx (nm + (-7046029254386353131 : Int64)))), (.long (own_mx p1))])) _
            refine own_lxor X416 hx hby at_174 (pc' := 175) rfl rfl ?_
            refine own_lstore X416 hx hby at_175 (pc' := 177) rfl (Ls' := #[.val (.long p1), .second, .val (.int p2), .val (.int p3), .val (.int c0), .val (.int c1), .val (.int c2), .val (.int (((p3.toUInt32 >>> ((16 : Int32) &&& 31).toUInt32).toInt32) &&& (3 : Int32))), .val (.ref b392), .val (.long nm), .second, .val (.ref b395), .val (.long ((own_mx p1) ^^^ (own_mx (nm + (-7046029254386353131 : Int64))))), .second, .unset, .unset, .unset, .unset, .unset, .unset, .unset, .unset, .unset]) rfl ?_
            show own_Go p.tables e below (T416.setTop (mkF m 177 #[.val (.long p1), .second, .val (.int p2), .val (.int p3), .val (.int c0), .val (.int c1), .val (.int c2), .val (.int (((p3.toUInt32 >>> ((16 : Int32) &&& 31).toUInt32).toInt32) &&& (3 : Int32))), .val (.ref b392), .val (.long nm), .second, .val (.ref b395), .val (.long ((own_mx p1) ^^^ (own_mx (nm + (-7046029254386353131 : Int64))))), .second, .unset, .unset, .unset, .unset, .unset, .unset, .unset, .unset, .unset] [])) _
            generalize hsg : ((own_mx p1) ^^^ (own_mx (nm + (-7046029254386353131 : Int64)))) = sg
            show own_Go p.tables e below (T416.setTop (mkF m 177 #[.val (.long p1), .second, .val (.int p2), .val (.int p3), .val (.int c0), .val (.int c1), .val (.int c2), .val (.int (((p3.toUInt32 >>> ((16 : Int32) &&& 31).toUInt32).toInt32) &&& (3 : Int32))), .val (.ref b392), .val (.long nm), .second, .val (.ref b395), .val (.long sg), .second, .unset, .unset, .unset, .unset, .unset, .unset, .unset, .unset, .unset] [])) _
            refine own_lload X416 hx hby at_177 (pc' := 179) rfl rfl ?_
            refine own_ldc2 X416 hx hby at_179 (pc' := 182) rfl hZ hown (own_t hw 29 rfl) ?_
            refine own_ladd X416 hx hby at_182 (pc' := 183) rfl rfl ?_
            refine own_callS X416 hx hZ (rm_fin l Z a0 hw [] (sg + (-7046029254386353131 : Int64)) T412.heap n0) hown (own_t hw 23 rfl) (own_t hw 24 rfl) (own_t hw 25 rfl) (own_t hw 26 rfl) (by decide) (W := 0) (by decide) (by decide) (by rw [hml]; rfl) (argsL := [(.long (sg + (-7046029254386353131 : Int64)))]) (rest := []) rfl (lenOf own_pd14 rfl) rfl (Nat.le_of_eq rfl) (hb hby at_183) e416 (by decide) (by decide) ?_
            intro v417 T417 L417 X417 hQ417
            obtain ⟨hv417, N417q, e417⟩ := hQ417
            subst hv417
            have N417 := Fr.app N416 N417q
            show own_Go p.tables e below (T417.setTop (mkF m 186 #[.val (.long p1), .second, .val (.int p2), .val (.int p3), .val (.int c0), .val (.int c1), .val (.int c2), .val (.int (((p3.toUInt32 >>> ((16 : Int32) &&& 31).toUInt32).toInt32) &&& (3 : Int32))), .val (.ref b392), .val (.long nm), .second, .val (.ref b395), .val (.long sg), .second, .unset, .unset, .unset, .unset, .unset, .unset, .unset, .unset, .unset] [(.long (own_mx (sg + (-7046029254386353131 : Int64))))])) _
            refine own_lstore X417 hx hby at_186 (pc' := 188) rfl (Ls' := #[.val (.long p1), .second, .val (.int p2), .val (.int p3), .val (.int c0), .val (.int c1), .val (.int c2), .val (.int (((p3.toUInt32 >>> ((16 : Int32) &&& 31).toUInt32).toInt32) &&& (3 : Int32))), .val (.ref b392), .val (.long nm), .second, .val (.ref b395), .val (.long sg), .second, .val (.long (own_mx (sg + (-7046029254386353131 : Int64)))), .second, .unset, .unset, .unset, .unset, .unset, .unset, .unset]) rfl ?_
            refine own_lload X417 hx hby at_188 (pc' := 190) rfl rfl ?_
            refine own_ldc2 X417 hx hby at_190 (pc' := 193) rfl hZ hown (own_t hw 29 rfl) ?_
            refine own_ladd X417 hx hby at_193 (pc' := 194) rfl rfl ?_
            refine own_ldc2 X417 hx hby at_194 (pc' := 197) rfl hZ hown (own_t hw 29 rfl) ?_
            refine own_ladd X417 hx hby at_197 (pc' := 198) rfl rfl ?_
            refine own_callS X417 hx hZ (rm_fin l Z a0 hw [] ((sg + (-7046029254386353131 : Int64)) + (-7046029254386353131 : Int64)) T412.heap n0) hown (own_t hw 23 rfl) (own_t hw 24 rfl) (own_t hw 25 rfl) (own_t hw 26 rfl) (by decide) (W := 0) (by decide) (by decide) (by rw [hml]; rfl) (argsL := [(.long ((sg + (-7046029254386353131 : Int64)) + (-7046029254386353131 : Int64)))]) (rest := []) rfl (lenOf own_pd14 rfl) rfl (Nat.le_of_eq rfl) (hb hby at_198) e417 (by decide) (by decide) ?_
            intro v418 T418 L418 X418 hQ418
            obtain ⟨hv418, N418q, e418⟩ := hQ418
            subst hv418
            have N418 := Fr.app N417 N418q
            show own_Go p.tables e below (T418.setTop (mkF m 201 #[.val (.long p1), .second, .val (.int p2), .val (.int p3), .val (.int c0), .val (.int c1), .val (.int c2), .val (.int (((p3.toUInt32 >>> ((16 : Int32) &&& 31).toUInt32).toInt32) &&& (3 : Int32))), .val (.ref b392), .val (.long nm), .second, .val (.ref b395), .val (.long sg), .second, .val (.long (own_mx (sg + (-7046029254386353131 : Int64)))), .second, .unset, .unset, .unset, .unset, .unset, .unset, .unset] [(.long (own_mx ((sg + (-7046029254386353131 : Int64)) + (-7046029254386353131 : Int64))))])) _
            refine own_lstore X418 hx hby at_201 (pc' := 203) rfl (Ls' := #[.val (.long p1), .second, .val (.int p2), .val (.int p3), .val (.int c0), .val (.int c1), .val (.int c2), .val (.int (((p3.toUInt32 >>> ((16 : Int32) &&& 31).toUInt32).toInt32) &&& (3 : Int32))), .val (.ref b392), .val (.long nm), .second, .val (.ref b395), .val (.long sg), .second, .val (.long (own_mx (sg + (-7046029254386353131 : Int64)))), .second, .val (.long (own_mx ((sg + (-7046029254386353131 : Int64)) + (-7046029254386353131 : Int64)))), .second, .unset, .unset, .unset, .unset, .unset]) rfl ?_
            refine own_lloadN X418 hx hby at_203 (pc' := 204) rfl rfl ?_
            refine own_aload X418 hx hby at_204 (pc' := 206) rfl rfl rfl ?_
            refine own_callS X418 hx hZ (rm_of2_1 l Z a0 hw [] p1 b395 t412 c0 c1 gS fm T412.heap n0 (c414) S_S hS S_A S_H S_L S_F hfm (E412) (C412) (V412) (A412) hb0 hb1 ) hown (own_t hw 30 rfl) (own_t hw 31 rfl) (own_t hw 32 rfl) (own_t hw 33 rfl) (by decide) (W := 0) (by decide) (by decide) (by rw [hml]; rfl) (argsL := [(.long p1), (.ref b395)]) (rest := []) rfl (lenOf own_pd19 rfl) rfl (Nat.le_of_eq rfl) (hb hby at_206) e418 (by decide) (by decide) ?_
            intro v419 T419 L419 X419 hQ419
            obtain ⟨b419, hv419, N419q, K419, g419, E419, F419⟩ := hQ419
            rw [hnm, hsg] at F419
            subst hv419
            have N419 := Fr.app N418 N419q
            have l419 : n0 ≤ b419 := (Nat.le_trans Z0 (Nat.le_trans (Nat.le_trans (Nat.le_trans (Nat.le_trans (Nat.le_trans (Nat.le_trans (Nat.le_refl _) E392.1) (Nat.le_of_eq (Wr.size W393).symm)) (Nat.le_of_eq (Wr.size W394).symm)) E395.1) K412.1) g419))
            have c420 := (c413.keep K419 all0)
            have c421 := (c414.keep K419 all0)
            show own_Go p.tables e below (T419.setTop (mkF m 209 #[.val (.long p1), .second, .val (.int p2), .val (.int p3), .val (.int c0), .val (.int c1), .val (.int c2), .val (.int (((p3.toUInt32 >>> ((16 : Int32) &&& 31).toUInt32).toInt32) &&& (3 : Int32))), .val (.ref b392), .val (.long nm), .second, .val (.ref b395), .val (.long sg), .second, .val (.long (own_mx (sg + (-7046029254386353131 : Int64)))), .second, .val (.long (own_mx ((sg + (-7046029254386353131 : Int64)) + (-7046029254386353131 : Int64)))), .second, .unset, .unset, .unset, .unset, .unset] [(.ref b419)])) _
            refine own_astore X419 hx hby at_209 (pc' := 211) rfl rfl (Ls' := #[.val (.long p1), .second, .val (.int p2), .val (.int p3), .val (.int c0), .val (.int c1), .val (.int c2), .val (.int (((p3.toUInt32 >>> ((16 : Int32) &&& 31).toUInt32).toInt32) &&& (3 : Int32))), .val (.ref b392), .val (.long nm), .second, .val (.ref b395), .val (.long sg), .second, .val (.long (own_mx (sg + (-7046029254386353131 : Int64)))), .second, .val (.long (own_mx ((sg + (-7046029254386353131 : Int64)) + (-7046029254386353131 : Int64)))), .second, .val (.ref b419), .unset, .unset, .unset, .unset]) rfl ?_
            refine own_aload X419 hx hby at_211 (pc' := 213) rfl rfl rfl ?_
            refine own_callV X419 hx hZ (rm_nx l Z a0 hw [] b419 sg T419.heap n0 (c421) (E419) (F419) l419) hown (own_t hw 59 rfl) (own_t hw 60 rfl) (own_t hw 62 rfl) (own_t hw 61 rfl) (own_t hw 63 rfl) (own_t hw 32 rfl) (by decide) E419 (W := 0) (by decide) (by decide) (by rw [hml]; rfl) (argsL := []) (rest := []) rfl (lenOf own_pd20 rfl) rfl (Nat.le_of_eq rfl) (hb hby at_213) rfl (by decide) (by decide) ?_
            intro v422 T422 L422 X422 hQ422
            obtain ⟨hv422, N422q, K422, E422, F422⟩ := hQ422
            subst hv422
            have N422 := Fr.app N419 N422q
            have c423 := (c420.keep K422 (allS (Safe.exa (c420).1.alike E419 (by decide) (by decide)) all0))
            have c424 := (c421.keep K422 (allS l419 all0))
            show own_Go p.tables e below (T422.setTop (mkF m 216 #[.val (.long p1), .second, .val (.int p2), .val (.int p3), .val (.int c0), .val (.int c1), .val (.int c2), .val (.int (((p3.toUInt32 >>> ((16 : Int32) &&& 31).toUInt32).toInt32) &&& (3 : Int32))), .val (.ref b392), .val (.long nm), .second, .val (.ref b395), .val (.long sg), .second, .val (.long (own_mx (sg + (-7046029254386353131 : Int64)))), .second, .val (.long (own_mx ((sg + (-7046029254386353131 : Int64)) + (-7046029254386353131 : Int64)))), .second, .val (.ref b419), .unset, .unset, .unset, .unset] [(.long (own_mx (sg + (-7046029254386353131 : Int64))))])) _
            refine own_lstore X422 hx hby at_216 (pc' := 218) rfl (Ls' := #[.val (.long p1), .second, .val (.int p2), .val (.int p3), .val (.int c0), .val (.int c1), .val (.int c2), .val (.int (((p3.toUInt32 >>> ((16 : Int32) &&& 31).toUInt32).toInt32) &&& (3 : Int32))), .val (.ref b392), .val (.long nm), .second, .val (.ref b395), .val (.long sg), .second, .val (.long (own_mx (sg + (-7046029254386353131 : Int64)))), .second, .val (.long (own_mx ((sg + (-7046029254386353131 : Int64)) + (-7046029254386353131 : Int64)))), .second, .val (.ref b419), .val (.long (own_mx (sg + (-7046029254386353131 : Int64)))), .second, .unset, .unset]) rfl ?_
            refine own_aload X422 hx hby at_218 (pc' := 220) rfl rfl rfl ?_
            refine own_callV X422 hx hZ (rm_nx l Z a0 hw [] b419 (sg + (-7046029254386353131 : Int64)) T422.heap n0 (c424) (E422) (F422) l419) hown (own_t hw 59 rfl) (own_t hw 60 rfl) (own_t hw 62 rfl) (own_t hw 61 rfl) (own_t hw 63 rfl) (own_t hw 32 rfl) (by decide) E422 (W := 0) (by decide) (by decide) (by rw [hml]; rfl) (argsL := []) (rest := []) rfl (lenOf own_pd20 rfl) rfl (Nat.le_of_eq rfl) (hb hby at_220) rfl (by decide) (by decide) ?_
            intro v425 T425 L425 X425 hQ425
            obtain ⟨hv425, N425q, K425, E425, F425⟩ := hQ425
            subst hv425
            have N425 := Fr.app N422 N425q
            have c426 := (c423.keep K425 (allS (Safe.exa (c423).1.alike E422 (by decide) (by decide)) all0))
            have c427 := (c424.keep K425 (allS l419 all0))
            show own_Go p.tables e below (T425.setTop (mkF m 223 #[.val (.long p1), .second, .val (.int p2), .val (.int p3), .val (.int c0), .val (.int c1), .val (.int c2), .val (.int (((p3.toUInt32 >>> ((16 : Int32) &&& 31).toUInt32).toInt32) &&& (3 : Int32))), .val (.ref b392), .val (.long nm), .second, .val (.ref b395), .val (.long sg), .second, .val (.long (own_mx (sg + (-7046029254386353131 : Int64)))), .second, .val (.long (own_mx ((sg + (-7046029254386353131 : Int64)) + (-7046029254386353131 : Int64)))), .second, .val (.ref b419), .val (.long (own_mx (sg + (-7046029254386353131 : Int64)))), .second, .unset, .unset] [(.long (own_mx ((sg + (-7046029254386353131 : Int64)) + (-7046029254386353131 : Int64))))])) _
            refine own_lstore X425 hx hby at_223 (pc' := 225) rfl (Ls' := #[.val (.long p1), .second, .val (.int p2), .val (.int p3), .val (.int c0), .val (.int c1), .val (.int c2), .val (.int (((p3.toUInt32 >>> ((16 : Int32) &&& 31).toUInt32).toInt32) &&& (3 : Int32))), .val (.ref b392), .val (.long nm), .second, .val (.ref b395), .val (.long sg), .second, .val (.long (own_mx (sg + (-7046029254386353131 : Int64)))), .second, .val (.long (own_mx ((sg + (-7046029254386353131 : Int64)) + (-7046029254386353131 : Int64)))), .second, .val (.ref b419), .val (.long (own_mx (sg + (-7046029254386353131 : Int64)))), .second, .val (.long (own_mx ((sg + (-7046029254386353131 : Int64)) + (-7046029254386353131 : Int64)))), .second]) rfl ?_
            refine own_lload X425 hx hby at_225 (pc' := 227) rfl rfl ?_
            refine own_lload X425 hx hby at_227 (pc' := 229) rfl rfl ?_
            refine own_lcmp X425 hx hby at_229 (pc' := 230) rfl ?_
            refine own_ifNo X425 hx hby at_230 (pc' := 233) rfl (teq ((lw_eq (own_mx (sg + (-7046029254386353131 : Int64))) (own_mx (sg + (-7046029254386353131 : Int64)))).mpr rfl)).2 ?_
            refine own_lload X425 hx hby at_233 (pc' := 235) rfl rfl ?_
            refine own_lload X425 hx hby at_235 (pc' := 237) rfl rfl ?_
            refine own_lcmp X425 hx hby at_237 (pc' := 238) rfl ?_
            refine own_ifNo X425 hx hby at_238 (pc' := 241) rfl (teq ((lw_eq (own_mx ((sg + (-7046029254386353131 : Int64)) + (-7046029254386353131 : Int64))) (own_mx ((sg + (-7046029254386353131 : Int64)) + (-7046029254386353131 : Int64)))).mpr rfl)).2 ?_
            refine own_iconst X425 hx hby at_241 (pc' := 242) rfl (z := (1 : Int32)) (by decide) ?_
            refine own_goto X425 hx hby at_242 (pc' := 246) (by decide) ?_
            exact own_retZW (t := .boolean) X425 hx hEL (c426) rfl hret (by simp) (hb hby at_246) hlk (by decide) (by decide) ⟨congrArg (fun z => some (Value.int z)) (own_nar1), N425⟩
          · skip
            refine own_callSp X395 hx hZ (rm_i1_2_2 l Z a0 hw [] b395 b392 c0 c1 gS h395 n0 (((((O_0.ext E392).wr W393 l392).wr W394 l392).ext E395)) S_S hS S_A S_H S_L (A395) (F395_value) (F395_coder) l395 ((B394.ext E395)) hk0 hk1) rfl hown (own_t hw 5 rfl) (own_t hw 6 rfl) (own_t hw 7 rfl) (own_t hw 4 rfl) (by decide) (W := 1) (by decide) (by decide) (by rw [hml]; rfl) (argsL := [(.ref b392)]) (rest := [(.ref b395)]) rfl (lenOf own_pd18 rfl) rfl (Nat.le_of_eq rfl) (hb hby at_156) e395 (by decide) (by decide) ?_
            intro v428 T428 L428 X428 hQ428
            obtain ⟨hv428, N428q, K428, E428, C428, t428, V428, A428⟩ := hQ428
            subst hv428
            have N428 := Fr.app N394 N428q
            have c429 := (((((W0.ext E392).wr W393 (own_Ar.safe A392 ((W0.ext E392)).1.alike (by first | decide | (intro q; cases q)))).wr W394 (own_Ar.safe B393 (((W0.ext E392).wr W393 (own_Ar.safe A392 ((W0.ext E392)).1.alike (by first | decide | (intro q; cases q))))).1.alike (by first | decide | (intro q; cases q)))).ext E395).keep K428 (allS (Safe.ext E395 ((((W0.ext E392).wr W393 (own_Ar.safe A392 ((W0.ext E392)).1.alike (by first | decide | (intro q; cases q)))).wr W394 (own_Ar.safe B393 (((W0.ext E392).wr W393 (own_Ar.safe A392 ((W0.ext E392)).1.alike (by first | decide | (intro q; cases q))))).1.alike (by first | decide | (intro q; cases q))))).ch (Safe.new (Nat.le_of_eq g395.symm))) all0))
            have c430 := (((((O_0.ext E392).wr W393 l392).wr W394 l392).ext E395).keep K428 (allS l395 all0))
            show own_Go p.tables e below (T428.setTop (mkF m 159 #[.val (.long p1), .second, .val (.int p2), .val (.int p3), .val (.int c0), .val (.int c1), .val (.int c2), .val (.int (((p3.toUInt32 >>> ((16 : Int32) &&& 31).toUInt32).toInt32) &&& (3 : Int32))), .val (.ref b392), .val (.long nm), .second, .unset, .unset, .unset, .unset, .unset, .unset, .unset, .unset, .unset, .unset, .unset, .unset] [(.ref b395)])) _
            refine own_astore X428 hx hby at_159 (pc' := 161) rfl rfl (Ls' := #[.val (.long p1), .second, .val (.int p2), .val (.int p3), .val (.int c0), .val (.int c1), .val (.int c2), .val (.int (((p3.toUInt32 >>> ((16 : Int32) &&& 31).toUInt32).toInt32) &&& (3 : Int32))), .val (.ref b392), .val (.long nm), .second, .val (.ref b395), .unset, .unset, .unset, .unset, .unset, .unset, .unset, .unset, .unset, .unset, .unset]) rfl ?_
            refine own_lloadN X428 hx hby at_161 (pc' := 162) rfl rfl ?_
            refine own_callS X428 hx hZ (rm_fin l Z a0 hw [] p1 T428.heap n0) hown (own_t hw 23 rfl) (own_t hw 24 rfl) (own_t hw 25 rfl) (own_t hw 26 rfl) (by decide) (W := 0) (by decide) (by decide) (by rw [hml]; rfl) (argsL := [(.long p1)]) (rest := []) rfl (lenOf own_pd14 rfl) rfl (Nat.le_of_eq rfl) (hb hby at_162) rfl (by decide) (by decide) ?_
            intro v431 T431 L431 X431 hQ431
            obtain ⟨hv431, N431q, e431⟩ := hQ431
            subst hv431
            have N431 := Fr.app N428 N431q
            show own_Go p.tables e below (T431.setTop (mkF m 165 #[.val (.long p1), .second, .val (.int p2), .val (.int p3), .val (.int c0), .val (.int c1), .val (.int c2), .val (.int (((p3.toUInt32 >>> ((16 : Int32) &&& 31).toUInt32).toInt32) &&& (3 : Int32))), .val (.ref b392), .val (.long nm), .second, .val (.ref b395), .unset, .unset, .unset, .unset, .unset, .unset, .unset, .unset, .unset, .unset, .unset] [(.long (own_mx p1))])) _
            refine own_lload X431 hx hby at_165 (pc' := 167) rfl rfl ?_
            refine own_ldc2 X431 hx hby at_167 (pc' := 170) rfl hZ hown (own_t hw 29 rfl) ?_
            refine own_ladd X431 hx hby at_170 (pc' := 171) rfl rfl ?_
            refine own_callS X431 hx hZ (rm_fin l Z a0 hw [] (nm + (-7046029254386353131 : Int64)) T428.heap n0) hown (own_t hw 23 rfl) (own_t hw 24 rfl) (own_t hw 25 rfl) (own_t hw 26 rfl) (by decide) (W := 2) (by decide) (by decide) (by rw [hml]; rfl) (argsL := [(.long (nm + (-7046029254386353131 : Int64)))]) (rest := [(.long (own_mx p1))]) rfl (lenOf own_pd14 rfl) rfl (Nat.le_of_eq rfl) (hb hby at_171) e431 (by decide) (by decide) ?_
            intro v432 T432 L432 X432 hQ432
            obtain ⟨hv432, N432q, e432⟩ := hQ432
            subst hv432
            have N432 := Fr.app N431 N432q
            show own_Go p.tables e below (T432.setTop (mkF m 174 #[.val (.long p1), .second, .val (.int p2), .val (.int p3), .val (.int c0), .val (.int c1), .val (.int c2), .val (.int (((p3.toUInt32 >>> ((16 : Int32) &&& 31).toUInt32).toInt32) &&& (3 : Int32))), .val (.ref b392), .val (.long nm), .second, .val (.ref b395), .unset, .unset, .unset, .unset, .unset, .unset, .unset, .unset, .unset, .unset, .unset] [(.long (own_mx (nm + (-7046029254386353131 : Int64)))), (.long (own_mx p1))])) _
            refine own_lxor X432 hx hby at_174 (pc' := 175) rfl rfl ?_
            refine own_lstore X432 hx hby at_175 (pc' := 177) rfl (Ls' := #[.val (.long p1), .second, .val (.int p2), .val (.int p3), .val (.int c0), .val (.int c1), .val (.int c2), .val (.int (((p3.toUInt32 >>> ((16 : Int32) &&& 31).toUInt32).toInt32) &&& (3 : Int32))), .val (.ref b392), .val (.long nm), .second, .val (.ref b395), .val (.long ((own_mx p1) ^^^ (own_mx (nm + (-7046029254386353131 : Int64))))), .second, .unset, .unset, .unset, .unset, .unset, .unset, .unset, .unset, .unset]) rfl ?_
            show own_Go p.tables e below (T432.setTop (mkF m 177 #[.val (.long p1), .second, .val (.int p2), .val (.int p3), .val (.int c0), .val (.int c1), .val (.int c2), .val (.int (((p3.toUInt32 >>> ((16 : Int32) &&& 31).toUInt32).toInt32) &&& (3 : Int32))), .val (.ref b392), .val (.long nm), .second, .val (.ref b395), .val (.long ((own_mx p1) ^^^ (own_mx (nm + (-7046029254386353131 : Int64))))), .second, .unset, .unset, .unset, .unset, .unset, .unset, .unset, .unset, .unset] [])) _
            generalize hsg : ((own_mx p1) ^^^ (own_mx (nm + (-7046029254386353131 : Int64)))) = sg
            show own_Go p.tables e below (T432.setTop (mkF m 177 #[.val (.long p1), .second, .val (.int p2), .val (.int p3), .val (.int c0), .val (.int c1), .val (.int c2), .val (.int (((p3.toUInt32 >>> ((16 : Int32) &&& 31).toUInt32).toInt32) &&& (3 : Int32))), .val (.ref b392), .val (.long nm), .second, .val (.ref b395), .val (.long sg), .second, .unset, .unset, .unset, .unset, .unset, .unset, .unset, .unset, .unset] [])) _
            refine own_lload X432 hx hby at_177 (pc' := 179) rfl rfl ?_
            refine own_ldc2 X432 hx hby at_179 (pc' := 182) rfl hZ hown (own_t hw 29 rfl) ?_
            refine own_ladd X432 hx hby at_182 (pc' := 183) rfl rfl ?_
            refine own_callS X432 hx hZ (rm_fin l Z a0 hw [] (sg + (-7046029254386353131 : Int64)) T428.heap n0) hown (own_t hw 23 rfl) (own_t hw 24 rfl) (own_t hw 25 rfl) (own_t hw 26 rfl) (by decide) (W := 0) (by decide) (by decide) (by rw [hml]; rfl) (argsL := [(.long (sg + (-7046029254386353131 : Int64)))]) (rest := []) rfl (lenOf own_pd14 rfl) rfl (Nat.le_of_eq rfl) (hb hby at_183) e432 (by decide) (by decide) ?_
            intro v433 T433 L433 X433 hQ433
            obtain ⟨hv433, N433q, e433⟩ := hQ433
            subst hv433
            have N433 := Fr.app N432 N433q
            show own_Go p.tables e below (T433.setTop (mkF m 186 #[.val (.long p1), .second, .val (.int p2), .val (.int p3), .val (.int c0), .val (.int c1), .val (.int c2), .val (.int (((p3.toUInt32 >>> ((16 : Int32) &&& 31).toUInt32).toInt32) &&& (3 : Int32))), .val (.ref b392), .val (.long nm), .second, .val (.ref b395), .val (.long sg), .second, .unset, .unset, .unset, .unset, .unset, .unset, .unset, .unset, .unset] [(.long (own_mx (sg + (-7046029254386353131 : Int64))))])) _
            refine own_lstore X433 hx hby at_186 (pc' := 188) rfl (Ls' := #[.val (.long p1), .second, .val (.int p2), .val (.int p3), .val (.int c0), .val (.int c1), .val (.int c2), .val (.int (((p3.toUInt32 >>> ((16 : Int32) &&& 31).toUInt32).toInt32) &&& (3 : Int32))), .val (.ref b392), .val (.long nm), .second, .val (.ref b395), .val (.long sg), .second, .val (.long (own_mx (sg + (-7046029254386353131 : Int64)))), .second, .unset, .unset, .unset, .unset, .unset, .unset, .unset]) rfl ?_
            refine own_lload X433 hx hby at_188 (pc' := 190) rfl rfl ?_
            refine own_ldc2 X433 hx hby at_190 (pc' := 193) rfl hZ hown (own_t hw 29 rfl) ?_
            refine own_ladd X433 hx hby at_193 (pc' := 194) rfl rfl ?_
            refine own_ldc2 X433 hx hby at_194 (pc' := 197) rfl hZ hown (own_t hw 29 rfl) ?_
            refine own_ladd X433 hx hby at_197 (pc' := 198) rfl rfl ?_
            refine own_callS X433 hx hZ (rm_fin l Z a0 hw [] ((sg + (-7046029254386353131 : Int64)) + (-7046029254386353131 : Int64)) T428.heap n0) hown (own_t hw 23 rfl) (own_t hw 24 rfl) (own_t hw 25 rfl) (own_t hw 26 rfl) (by decide) (W := 0) (by decide) (by decide) (by rw [hml]; rfl) (argsL := [(.long ((sg + (-7046029254386353131 : Int64)) + (-7046029254386353131 : Int64)))]) (rest := []) rfl (lenOf own_pd14 rfl) rfl (Nat.le_of_eq rfl) (hb hby at_198) e433 (by decide) (by decide) ?_
            intro v434 T434 L434 X434 hQ434
            obtain ⟨hv434, N434q, e434⟩ := hQ434
            subst hv434
            have N434 := Fr.app N433 N434q
            show own_Go p.tables e below (T434.setTop (mkF m 201 #[.val (.long p1), .second, .val (.int p2), .val (.int p3), .val (.int c0), .val (.int c1), .val (.int c2), .val (.int (((p3.toUInt32 >>> ((16 : Int32) &&& 31).toUInt32).toInt32) &&& (3 : Int32))), .val (.ref b392), .val (.long nm), .second, .val (.ref b395), .val (.long sg), .second, .val (.long (own_mx (sg + (-7046029254386353131 : Int64)))), .second, .unset, .unset, .unset, .unset, .unset, .unset, .unset] [(.long (own_mx ((sg + (-7046029254386353131 : Int64)) + (-7046029254386353131 : Int64))))])) _
            refine own_lstore X434 hx hby at_201 (pc' := 203) rfl (Ls' := #[.val (.long p1), .second, .val (.int p2), .val (.int p3), .val (.int c0), .val (.int c1), .val (.int c2), .val (.int (((p3.toUInt32 >>> ((16 : Int32) &&& 31).toUInt32).toInt32) &&& (3 : Int32))), .val (.ref b392), .val (.long nm), .second, .val (.ref b395), .val (.long sg), .second, .val (.long (own_mx (sg + (-7046029254386353131 : Int64)))), .second, .val (.long (own_mx ((sg + (-7046029254386353131 : Int64)) + (-7046029254386353131 : Int64)))), .second, .unset, .unset, .unset, .unset, .unset]) rfl ?_
            refine own_lloadN X434 hx hby at_203 (pc' := 204) rfl rfl ?_
            refine own_aload X434 hx hby at_204 (pc' := 206) rfl rfl rfl ?_
            refine own_callS X434 hx hZ (rm_of2_0 l Z a0 hw [] p1 b395 t428 c0 c1 gS fm T428.heap n0 (c430) S_S hS S_A S_H S_L S_F hfm (E428) (C428) (V428) (A428) hb0 hb1 hk0 hk1) hown (own_t hw 30 rfl) (own_t hw 31 rfl) (own_t hw 32 rfl) (own_t hw 33 rfl) (by decide) (W := 0) (by decide) (by decide) (by rw [hml]; rfl) (argsL := [(.long p1), (.ref b395)]) (rest := []) rfl (lenOf own_pd19 rfl) rfl (Nat.le_of_eq rfl) (hb hby at_206) e434 (by decide) (by decide) ?_
            intro v435 T435 L435 X435 hQ435
            obtain ⟨b435, hv435, N435q, K435, g435, E435, F435⟩ := hQ435
            rw [hnm, hsg] at F435
            subst hv435
            have N435 := Fr.app N434 N435q
            have l435 : n0 ≤ b435 := (Nat.le_trans Z0 (Nat.le_trans (Nat.le_trans (Nat.le_trans (Nat.le_trans (Nat.le_trans (Nat.le_trans (Nat.le_refl _) E392.1) (Nat.le_of_eq (Wr.size W393).symm)) (Nat.le_of_eq (Wr.size W394).symm)) E395.1) K428.1) g435))
            have c436 := (c429.keep K435 all0)
            have c437 := (c430.keep K435 all0)
            show own_Go p.tables e below (T435.setTop (mkF m 209 #[.val (.long p1), .second, .val (.int p2), .val (.int p3), .val (.int c0), .val (.int c1), .val (.int c2), .val (.int (((p3.toUInt32 >>> ((16 : Int32) &&& 31).toUInt32).toInt32) &&& (3 : Int32))), .val (.ref b392), .val (.long nm), .second, .val (.ref b395), .val (.long sg), .second, .val (.long (own_mx (sg + (-7046029254386353131 : Int64)))), .second, .val (.long (own_mx ((sg + (-7046029254386353131 : Int64)) + (-7046029254386353131 : Int64)))), .second, .unset, .unset, .unset, .unset, .unset] [(.ref b435)])) _
            refine own_astore X435 hx hby at_209 (pc' := 211) rfl rfl (Ls' := #[.val (.long p1), .second, .val (.int p2), .val (.int p3), .val (.int c0), .val (.int c1), .val (.int c2), .val (.int (((p3.toUInt32 >>> ((16 : Int32) &&& 31).toUInt32).toInt32) &&& (3 : Int32))), .val (.ref b392), .val (.long nm), .second, .val (.ref b395), .val (.long sg), .second, .val (.long (own_mx (sg + (-7046029254386353131 : Int64)))), .second, .val (.long (own_mx ((sg + (-7046029254386353131 : Int64)) + (-7046029254386353131 : Int64)))), .second, .val (.ref b435), .unset, .unset, .unset, .unset]) rfl ?_
            refine own_aload X435 hx hby at_211 (pc' := 213) rfl rfl rfl ?_
            refine own_callV X435 hx hZ (rm_nx l Z a0 hw [] b435 sg T435.heap n0 (c437) (E435) (F435) l435) hown (own_t hw 59 rfl) (own_t hw 60 rfl) (own_t hw 62 rfl) (own_t hw 61 rfl) (own_t hw 63 rfl) (own_t hw 32 rfl) (by decide) E435 (W := 0) (by decide) (by decide) (by rw [hml]; rfl) (argsL := []) (rest := []) rfl (lenOf own_pd20 rfl) rfl (Nat.le_of_eq rfl) (hb hby at_213) rfl (by decide) (by decide) ?_
            intro v438 T438 L438 X438 hQ438
            obtain ⟨hv438, N438q, K438, E438, F438⟩ := hQ438
            subst hv438
            have N438 := Fr.app N435 N438q
            have c439 := (c436.keep K438 (allS (Safe.exa (c436).1.alike E435 (by decide) (by decide)) all0))
            have c440 := (c437.keep K438 (allS l435 all0))
            show own_Go p.tables e below (T438.setTop (mkF m 216 #[.val (.long p1), .second, .val (.int p2), .val (.int p3), .val (.int c0), .val (.int c1), .val (.int c2), .val (.int (((p3.toUInt32 >>> ((16 : Int32) &&& 31).toUInt32).toInt32) &&& (3 : Int32))), .val (.ref b392), .val (.long nm), .second, .val (.ref b395), .val (.long sg), .second, .val (.long (own_mx (sg + (-7046029254386353131 : Int64)))), .second, .val (.long (own_mx ((sg + (-7046029254386353131 : Int64)) + (-7046029254386353131 : Int64)))), .second, .val (.ref b435), .unset, .unset, .unset, .unset] [(.long (own_mx (sg + (-7046029254386353131 : Int64))))])) _
            refine own_lstore X438 hx hby at_216 (pc' := 218) rfl (Ls' := #[.val (.long p1), .second, .val (.int p2), .val (.int p3), .val (.int c0), .val (.int c1), .val (.int c2), .val (.int (((p3.toUInt32 >>> ((16 : Int32) &&& 31).toUInt32).toInt32) &&& (3 : Int32))), .val (.ref b392), .val (.long nm), .second, .val (.ref b395), .val (.long sg), .second, .val (.long (own_mx (sg + (-7046029254386353131 : Int64)))), .second, .val (.long (own_mx ((sg + (-7046029254386353131 : Int64)) + (-7046029254386353131 : Int64)))), .second, .val (.ref b435), .val (.long (own_mx (sg + (-7046029254386353131 : Int64)))), .second, .unset, .unset]) rfl ?_
            refine own_aload X438 hx hby at_218 (pc' := 220) rfl rfl rfl ?_
            refine own_callV X438 hx hZ (rm_nx l Z a0 hw [] b435 (sg + (-7046029254386353131 : Int64)) T438.heap n0 (c440) (E438) (F438) l435) hown (own_t hw 59 rfl) (own_t hw 60 rfl) (own_t hw 62 rfl) (own_t hw 61 rfl) (own_t hw 63 rfl) (own_t hw 32 rfl) (by decide) E438 (W := 0) (by decide) (by decide) (by rw [hml]; rfl) (argsL := []) (rest := []) rfl (lenOf own_pd20 rfl) rfl (Nat.le_of_eq rfl) (hb hby at_220) rfl (by decide) (by decide) ?_
            intro v441 T441 L441 X441 hQ441
            obtain ⟨hv441, N441q, K441, E441, F441⟩ := hQ441
            subst hv441
            have N441 := Fr.app N438 N441q
            have c442 := (c439.keep K441 (allS (Safe.exa (c439).1.alike E438 (by decide) (by decide)) all0))
            have c443 := (c440.keep K441 (allS l435 all0))
            show own_Go p.tables e below (T441.setTop (mkF m 223 #[.val (.long p1), .second, .val (.int p2), .val (.int p3), .val (.int c0), .val (.int c1), .val (.int c2), .val (.int (((p3.toUInt32 >>> ((16 : Int32) &&& 31).toUInt32).toInt32) &&& (3 : Int32))), .val (.ref b392), .val (.long nm), .second, .val (.ref b395), .val (.long sg), .second, .val (.long (own_mx (sg + (-7046029254386353131 : Int64)))), .second, .val (.long (own_mx ((sg + (-7046029254386353131 : Int64)) + (-7046029254386353131 : Int64)))), .second, .val (.ref b435), .val (.long (own_mx (sg + (-7046029254386353131 : Int64)))), .second, .unset, .unset] [(.long (own_mx ((sg + (-7046029254386353131 : Int64)) + (-7046029254386353131 : Int64))))])) _
            refine own_lstore X441 hx hby at_223 (pc' := 225) rfl (Ls' := #[.val (.long p1), .second, .val (.int p2), .val (.int p3), .val (.int c0), .val (.int c1), .val (.int c2), .val (.int (((p3.toUInt32 >>> ((16 : Int32) &&& 31).toUInt32).toInt32) &&& (3 : Int32))), .val (.ref b392), .val (.long nm), .second, .val (.ref b395), .val (.long sg), .second, .val (.long (own_mx (sg + (-7046029254386353131 : Int64)))), .second, .val (.long (own_mx ((sg + (-7046029254386353131 : Int64)) + (-7046029254386353131 : Int64)))), .second, .val (.ref b435), .val (.long (own_mx (sg + (-7046029254386353131 : Int64)))), .second, .val (.long (own_mx ((sg + (-7046029254386353131 : Int64)) + (-7046029254386353131 : Int64)))), .second]) rfl ?_
            refine own_lload X441 hx hby at_225 (pc' := 227) rfl rfl ?_
            refine own_lload X441 hx hby at_227 (pc' := 229) rfl rfl ?_
            refine own_lcmp X441 hx hby at_229 (pc' := 230) rfl ?_
            refine own_ifNo X441 hx hby at_230 (pc' := 233) rfl (teq ((lw_eq (own_mx (sg + (-7046029254386353131 : Int64))) (own_mx (sg + (-7046029254386353131 : Int64)))).mpr rfl)).2 ?_
            refine own_lload X441 hx hby at_233 (pc' := 235) rfl rfl ?_
            refine own_lload X441 hx hby at_235 (pc' := 237) rfl rfl ?_
            refine own_lcmp X441 hx hby at_237 (pc' := 238) rfl ?_
            refine own_ifNo X441 hx hby at_238 (pc' := 241) rfl (teq ((lw_eq (own_mx ((sg + (-7046029254386353131 : Int64)) + (-7046029254386353131 : Int64))) (own_mx ((sg + (-7046029254386353131 : Int64)) + (-7046029254386353131 : Int64)))).mpr rfl)).2 ?_
            refine own_iconst X441 hx hby at_241 (pc' := 242) rfl (z := (1 : Int32)) (by decide) ?_
            refine own_goto X441 hx hby at_242 (pc' := 246) (by decide) ?_
            exact own_retZW (t := .boolean) X441 hx hEL (c442) rfl hret (by simp) (hb hby at_246) hlk (by decide) (by decide) ⟨congrArg (fun z => some (Value.int z)) (own_nar1), N441⟩
      · skip
        refine own_icmpYes X0 hx hby at_75 (pc' := 109) (by decide) (feq hc75).2 ?_
        refine own_iconst X0 hx hby at_109 (pc' := 110) rfl (z := (3 : Int32)) (by decide) ?_
        refine own_newA X0 hx hby at_110 (pc' := 112) rfl hZ (own_t hw 1 rfl) e0 (by decide) (cap := 3) (by decide) (by decide) (by decide) (by decide) (vs := [(.int (0 : Int32)), (.int (0 : Int32)), (.int (0 : Int32))]) (by rfl) ?_
        intro T444 h444 b444 X444 e444 g444 E444 A444
        have l444 : n0 ≤ b444 := (Nat.le_trans Z0 (Nat.le_trans (Nat.le_refl _) (Nat.le_of_eq g444.symm)))
        refine own_dup X444 hx hby at_112 (pc' := 113) rfl rfl ?_
        refine own_iconst X444 hx hby at_113 (pc' := 114) rfl (z := (0 : Int32)) (by decide) ?_
        refine own_iload X444 hx hby at_114 (pc' := 116) rfl rfl ?_
        refine own_castore X444 hx hby at_116 (pc' := 117) rfl hZ e444 (A444) (by decide) (v := (.int (0 : Int32))) rfl ?_
        intro T445 h445 X445 e445 W445 A445
        have B445 : own_Ar Z h445 b444 .char [(.int c0), (.int (0 : Int32)), (.int (0 : Int32))] := (by have q := A445; rw [own_narW hb0] at q; exact q)
        have N445 := Fr.snoc X445 N0 l444
        refine own_dup X445 hx hby at_117 (pc' := 118) rfl rfl ?_
        refine own_iconst X445 hx hby at_118 (pc' := 119) rfl (z := (1 : Int32)) (by decide) ?_
        refine own_iload X445 hx hby at_119 (pc' := 121) rfl rfl ?_
        refine own_castore X445 hx hby at_121 (pc' := 122) rfl hZ e445 (B445) (by decide) (v := (.int (0 : Int32))) rfl ?_
        intro T446 h446 X446 e446 W446 A446
        have B446 : own_Ar Z h446 b444 .char [(.int c0), (.int c1), (.int (0 : Int32))] := (by have q := A446; rw [own_narW hb1] at q; exact q)
        have N446 := Fr.snoc X446 N445 l444
        refine own_dup X446 hx hby at_122 (pc' := 123) rfl rfl ?_
        refine own_iconst X446 hx hby at_123 (pc' := 124) rfl (z := (2 : Int32)) (by decide) ?_
        refine own_iload X446 hx hby at_124 (pc' := 126) rfl rfl ?_
        refine own_castore X446 hx hby at_126 (pc' := 127) rfl hZ e446 (B446) (by decide) (v := (.int (0 : Int32))) rfl ?_
        intro T447 h447 X447 e447 W447 A447
        have B447 : own_Ar Z h447 b444 .char [(.int c0), (.int c1), (.int c2)] := (by have q := A447; rw [own_narW hb2] at q; exact q)
        have N447 := Fr.snoc X447 N446 l444
        refine own_astore X447 hx hby at_127 (pc' := 129) rfl rfl (Ls' := #[.val (.long p1), .second, .val (.int p2), .val (.int p3), .val (.int c0), .val (.int c1), .val (.int c2), .val (.int (((p3.toUInt32 >>> ((16 : Int32) &&& 31).toUInt32).toInt32) &&& (3 : Int32))), .val (.ref b444), .unset, .unset, .unset, .unset, .unset, .unset, .unset, .unset, .unset, .unset, .unset, .unset, .unset, .unset]) rfl ?_
        refine own_ldc2 X447 hx hby at_129 (pc' := 132) rfl hZ hown (own_t hw 122 rfl) ?_
        refine own_iload X447 hx hby at_132 (pc' := 134) rfl rfl ?_
        refine own_i2l X447 hx hby at_134 (pc' := 135) rfl rfl ?_
        refine own_lmul X447 hx hby at_135 (pc' := 136) rfl rfl ?_
        refine own_ldc2 X447 hx hby at_136 (pc' := 139) rfl hZ hown (own_t hw 64 rfl) ?_
        refine own_iload X447 hx hby at_139 (pc' := 141) rfl rfl ?_
        refine own_i2l X447 hx hby at_141 (pc' := 142) rfl rfl ?_
        refine own_lmul X447 hx hby at_142 (pc' := 143) rfl rfl ?_
        refine own_ladd X447 hx hby at_143 (pc' := 144) rfl rfl ?_
        refine own_iload X447 hx hby at_144 (pc' := 146) rfl rfl ?_
        refine own_i2l X447 hx hby at_146 (pc' := 147) rfl rfl ?_
        refine own_ladd X447 hx hby at_147 (pc' := 148) rfl rfl ?_
        refine own_lstore X447 hx hby at_148 (pc' := 150) rfl (Ls' := #[.val (.long p1), .second, .val (.int p2), .val (.int p3), .val (.int c0), .val (.int c1), .val (.int c2), .val (.int (((p3.toUInt32 >>> ((16 : Int32) &&& 31).toUInt32).toInt32) &&& (3 : Int32))), .val (.ref b444), .val (.long ((((961 : Int64) * (c0.toInt64)) + ((31 : Int64) * (c1.toInt64))) + (c2.toInt64))), .second, .unset, .unset, .unset, .unset, .unset, .unset, .unset, .unset, .unset, .unset, .unset, .unset]) rfl ?_
        show own_Go p.tables e below (T447.setTop (mkF m 150 #[.val (.long p1), .second, .val (.int p2), .val (.int p3), .val (.int c0), .val (.int c1), .val (.int c2), .val (.int (((p3.toUInt32 >>> ((16 : Int32) &&& 31).toUInt32).toInt32) &&& (3 : Int32))), .val (.ref b444), .val (.long ((((961 : Int64) * (c0.toInt64)) + ((31 : Int64) * (c1.toInt64))) + (c2.toInt64))), .second, .unset, .unset, .unset, .unset, .unset, .unset, .unset, .unset, .unset, .unset, .unset, .unset] [])) _
        generalize hnm : ((((961 : Int64) * (c0.toInt64)) + ((31 : Int64) * (c1.toInt64))) + (c2.toInt64)) = nm
        show own_Go p.tables e below (T447.setTop (mkF m 150 #[.val (.long p1), .second, .val (.int p2), .val (.int p3), .val (.int c0), .val (.int c1), .val (.int c2), .val (.int (((p3.toUInt32 >>> ((16 : Int32) &&& 31).toUInt32).toInt32) &&& (3 : Int32))), .val (.ref b444), .val (.long nm), .second, .unset, .unset, .unset, .unset, .unset, .unset, .unset, .unset, .unset, .unset, .unset, .unset] [])) _
        refine own_new X447 hx hby at_150 (pc' := 153) rfl hZ hown (own_t hw 2 rfl) (own_t hw 3 rfl) (own_t hw 4 rfl) e447 (by decide) (by decide) ?_
        intro T448 h448 b448 X448 e448 g448 E448 A448 D448
        have F448_value : Fld Z h448 b448 "java/lang/String" "value" "[B" .null := D448 (Or.inr (own_t hw 17 rfl)) (ty := (.array .byte)) (by decide)
        have F448_coder : Fld Z h448 b448 "java/lang/String" "coder" "B" (.int (0 : Int32)) := D448 (Or.inr (own_t hw 18 rfl)) (ty := .byte) (by decide)
        have l448 : n0 ≤ b448 := (Nat.le_trans Z0 (Nat.le_trans (Nat.le_trans (Nat.le_trans (Nat.le_trans (Nat.le_trans (Nat.le_refl _) E444.1) (Nat.le_of_eq (Wr.size W445).symm)) (Nat.le_of_eq (Wr.size W446).symm)) (Nat.le_of_eq (Wr.size W447).symm)) (Nat.le_of_eq g448.symm)))
        refine own_dup X448 hx hby at_153 (pc' := 154) rfl rfl ?_
        refine own_aload X448 hx hby at_154 (pc' := 156) rfl rfl rfl ?_
        by_cases hk0 : (255 : Int32) < c0
        · skip
          refine own_callSp X448 hx hZ (rm_i1_3_0 l Z a0 hw [] b448 b444 c0 c1 c2 gS h448 n0 ((((((O_0.ext E444).wr W445 l444).wr W446 l444).wr W447 l444).ext E448)) S_S hS S_A S_H S_L (A448) (F448_value) (F448_coder) l448 ((B447.ext E448)) hb0 hk0) rfl hown (own_t hw 5 rfl) (own_t hw 6 rfl) (own_t hw 7 rfl) (own_t hw 4 rfl) (by decide) (W := 1) (by decide) (by decide) (by rw [hml]; rfl) (argsL := [(.ref b444)]) (rest := [(.ref b448)]) rfl (lenOf own_pd18 rfl) rfl (Nat.le_of_eq rfl) (hb hby at_156) e448 (by decide) (by decide) ?_
          intro v449 T449 L449 X449 hQ449
          obtain ⟨hv449, N449q, K449, E449, C449, t449, V449, A449⟩ := hQ449
          subst hv449
          have N449 := Fr.app N447 N449q
          have c450 := ((((((W0.ext E444).wr W445 (own_Ar.safe A444 ((W0.ext E444)).1.alike (by first | decide | (intro q; cases q)))).wr W446 (own_Ar.safe B445 (((W0.ext E444).wr W445 (own_Ar.safe A444 ((W0.ext E444)).1.alike (by first | decide | (intro q; cases q))))).1.alike (by first | decide | (intro q; cases q)))).wr W447 (own_Ar.safe B446 ((((W0.ext E444).wr W445 (own_Ar.safe A444 ((W0.ext E444)).1.alike (by first | decide | (intro q; cases q)))).wr W446 (own_Ar.safe B445 (((W0.ext E444).wr W445 (own_Ar.safe A444 ((W0.ext E444)).1.alike (by first | decide | (intro q; cases q))))).1.alike (by first | decide | (intro q; cases q))))).1.alike (by first | decide | (intro q; cases q)))).ext E448).keep K449 (allS (Safe.ext E448 (((((W0.ext E444).wr W445 (own_Ar.safe A444 ((W0.ext E444)).1.alike (by first | decide | (intro q; cases q)))).wr W446 (own_Ar.safe B445 (((W0.ext E444).wr W445 (own_Ar.safe A444 ((W0.ext E444)).1.alike (by first | decide | (intro q; cases q))))).1.alike (by first | decide | (intro q; cases q)))).wr W447 (own_Ar.safe B446 ((((W0.ext E444).wr W445 (own_Ar.safe A444 ((W0.ext E444)).1.alike (by first | decide | (intro q; cases q)))).wr W446 (own_Ar.safe B445 (((W0.ext E444).wr W445 (own_Ar.safe A444 ((W0.ext E444)).1.alike (by first | decide | (intro q; cases q))))).1.alike (by first | decide | (intro q; cases q))))).1.alike (by first | decide | (intro q; cases q))))).ch (Safe.new (Nat.le_of_eq g448.symm))) all0))
          have c451 := ((((((O_0.ext E444).wr W445 l444).wr W446 l444).wr W447 l444).ext E448).keep K449 (allS l448 all0))
          show own_Go p.tables e below (T449.setTop (mkF m 159 #[.val (.long p1), .second, .val (.int p2), .val (.int p3), .val (.int c0), .val (.int c1), .val (.int c2), .val (.int (((p3.toUInt32 >>> ((16 : Int32) &&& 31).toUInt32).toInt32) &&& (3 : Int32))), .val (.ref b444), .val (.long nm), .second, .unset, .unset, .unset, .unset, .unset, .unset, .unset, .unset, .unset, .unset, .unset, .unset] [(.ref b448)])) _
          refine own_astore X449 hx hby at_159 (pc' := 161) rfl rfl (Ls' := #[.val (.long p1), .second, .val (.int p2), .val (.int p3), .val (.int c0), .val (.int c1), .val (.int c2), .val (.int (((p3.toUInt32 >>> ((16 : Int32) &&& 31).toUInt32).toInt32) &&& (3 : Int32))), .val (.ref b444), .val (.long nm), .second, .val (.ref b448), .unset, .unset, .unset, .unset, .unset, .unset, .unset, .unset, .unset, .unset, .unset]) rfl ?_
          refine own_lloadN X449 hx hby at_161 (pc' := 162) rfl rfl ?_
          refine own_callS X449 hx hZ (rm_fin l Z a0 hw [] p1 T449.heap n0) hown (own_t hw 23 rfl) (own_t hw 24 rfl) (own_t hw 25 rfl) (own_t hw 26 rfl) (by decide) (W := 0) (by decide) (by decide) (by rw [hml]; rfl) (argsL := [(.long p1)]) (rest := []) rfl (lenOf own_pd14 rfl) rfl (Nat.le_of_eq rfl) (hb hby at_162) rfl (by decide) (by decide) ?_
          intro v452 T452 L452 X452 hQ452
          obtain ⟨hv452, N452q, e452⟩ := hQ452
          subst hv452
          have N452 := Fr.app N449 N452q
          show own_Go p.tables e below (T452.setTop (mkF m 165 #[.val (.long p1), .second, .val (.int p2), .val (.int p3), .val (.int c0), .val (.int c1), .val (.int c2), .val (.int (((p3.toUInt32 >>> ((16 : Int32) &&& 31).toUInt32).toInt32) &&& (3 : Int32))), .val (.ref b444), .val (.long nm), .second, .val (.ref b448), .unset, .unset, .unset, .unset, .unset, .unset, .unset, .unset, .unset, .unset, .unset] [(.long (own_mx p1))])) _
          refine own_lload X452 hx hby at_165 (pc' := 167) rfl rfl ?_
          refine own_ldc2 X452 hx hby at_167 (pc' := 170) rfl hZ hown (own_t hw 29 rfl) ?_
          refine own_ladd X452 hx hby at_170 (pc' := 171) rfl rfl ?_
          refine own_callS X452 hx hZ (rm_fin l Z a0 hw [] (nm + (-7046029254386353131 : Int64)) T449.heap n0) hown (own_t hw 23 rfl) (own_t hw 24 rfl) (own_t hw 25 rfl) (own_t hw 26 rfl) (by decide) (W := 2) (by decide) (by decide) (by rw [hml]; rfl) (argsL := [(.long (nm + (-7046029254386353131 : Int64)))]) (rest := [(.long (own_mx p1))]) rfl (lenOf own_pd14 rfl) rfl (Nat.le_of_eq rfl) (hb hby at_171) e452 (by decide) (by decide) ?_
          intro v453 T453 L453 X453 hQ453
          obtain ⟨hv453, N453q, e453⟩ := hQ453
          subst hv453
          have N453 := Fr.app N452 N453q
          show own_Go p.tables e below (T453.setTop (mkF m 174 #[.val (.long p1), .second, .val (.int p2), .val (.int p3), .val (.int c0), .val (.int c1), .val (.int c2), .val (.int (((p3.toUInt32 >>> ((16 : Int32) &&& 31).toUInt32).toInt32) &&& (3 : Int32))), .val (.ref b444), .val (.long nm), .second, .val (.ref b448), .unset, .unset, .unset, .unset, .unset, .unset, .unset, .unset, .unset, .unset, .unset] [(.long (own_mx (nm + (-7046029254386353131 : Int64)))), (.long (own_mx p1))])) _
          refine own_lxor X453 hx hby at_174 (pc' := 175) rfl rfl ?_
          refine own_lstore X453 hx hby at_175 (pc' := 177) rfl (Ls' := #[.val (.long p1), .second, .val (.int p2), .val (.int p3), .val (.int c0), .val (.int c1), .val (.int c2), .val (.int (((p3.toUInt32 >>> ((16 : Int32) &&& 31).toUInt32).toInt32) &&& (3 : Int32))), .val (.ref b444), .val (.long nm), .second, .val (.ref b448), .val (.long ((own_mx p1) ^^^ (own_mx (nm + (-7046029254386353131 : Int64))))), .second, .unset, .unset, .unset, .unset, .unset, .unset, .unset, .unset, .unset]) rfl ?_
          show own_Go p.tables e below (T453.setTop (mkF m 177 #[.val (.long p1), .second, .val (.int p2), .val (.int p3), .val (.int c0), .val (.int c1), .val (.int c2), .val (.int (((p3.toUInt32 >>> ((16 : Int32) &&& 31).toUInt32).toInt32) &&& (3 : Int32))), .val (.ref b444), .val (.long nm), .second, .val (.ref b448), .val (.long ((own_mx p1) ^^^ (own_mx (nm + (-7046029254386353131 : Int64))))), .second, .unset, .unset, .unset, .unset, .unset, .unset, .unset, .unset, .unset] [])) _
          generalize hsg : ((own_mx p1) ^^^ (own_mx (nm + (-7046029254386353131 : Int64)))) = sg
          show own_Go p.tables e below (T453.setTop (mkF m 177 #[.val (.long p1), .second, .val (.int p2), .val (.int p3), .val (.int c0), .val (.int c1), .val (.int c2), .val (.int (((p3.toUInt32 >>> ((16 : Int32) &&& 31).toUInt32).toInt32) &&& (3 : Int32))), .val (.ref b444), .val (.long nm), .second, .val (.ref b448), .val (.long sg), .second, .unset, .unset, .unset, .unset, .unset, .unset, .unset, .unset, .unset] [])) _
          refine own_lload X453 hx hby at_177 (pc' := 179) rfl rfl ?_
          refine own_ldc2 X453 hx hby at_179 (pc' := 182) rfl hZ hown (own_t hw 29 rfl) ?_
          refine own_ladd X453 hx hby at_182 (pc' := 183) rfl rfl ?_
          refine own_callS X453 hx hZ (rm_fin l Z a0 hw [] (sg + (-7046029254386353131 : Int64)) T449.heap n0) hown (own_t hw 23 rfl) (own_t hw 24 rfl) (own_t hw 25 rfl) (own_t hw 26 rfl) (by decide) (W := 0) (by decide) (by decide) (by rw [hml]; rfl) (argsL := [(.long (sg + (-7046029254386353131 : Int64)))]) (rest := []) rfl (lenOf own_pd14 rfl) rfl (Nat.le_of_eq rfl) (hb hby at_183) e453 (by decide) (by decide) ?_
          intro v454 T454 L454 X454 hQ454
          obtain ⟨hv454, N454q, e454⟩ := hQ454
          subst hv454
          have N454 := Fr.app N453 N454q
          show own_Go p.tables e below (T454.setTop (mkF m 186 #[.val (.long p1), .second, .val (.int p2), .val (.int p3), .val (.int c0), .val (.int c1), .val (.int c2), .val (.int (((p3.toUInt32 >>> ((16 : Int32) &&& 31).toUInt32).toInt32) &&& (3 : Int32))), .val (.ref b444), .val (.long nm), .second, .val (.ref b448), .val (.long sg), .second, .unset, .unset, .unset, .unset, .unset, .unset, .unset, .unset, .unset] [(.long (own_mx (sg + (-7046029254386353131 : Int64))))])) _
          refine own_lstore X454 hx hby at_186 (pc' := 188) rfl (Ls' := #[.val (.long p1), .second, .val (.int p2), .val (.int p3), .val (.int c0), .val (.int c1), .val (.int c2), .val (.int (((p3.toUInt32 >>> ((16 : Int32) &&& 31).toUInt32).toInt32) &&& (3 : Int32))), .val (.ref b444), .val (.long nm), .second, .val (.ref b448), .val (.long sg), .second, .val (.long (own_mx (sg + (-7046029254386353131 : Int64)))), .second, .unset, .unset, .unset, .unset, .unset, .unset, .unset]) rfl ?_
          refine own_lload X454 hx hby at_188 (pc' := 190) rfl rfl ?_
          refine own_ldc2 X454 hx hby at_190 (pc' := 193) rfl hZ hown (own_t hw 29 rfl) ?_
          refine own_ladd X454 hx hby at_193 (pc' := 194) rfl rfl ?_
          refine own_ldc2 X454 hx hby at_194 (pc' := 197) rfl hZ hown (own_t hw 29 rfl) ?_
          refine own_ladd X454 hx hby at_197 (pc' := 198) rfl rfl ?_
          refine own_callS X454 hx hZ (rm_fin l Z a0 hw [] ((sg + (-7046029254386353131 : Int64)) + (-7046029254386353131 : Int64)) T449.heap n0) hown (own_t hw 23 rfl) (own_t hw 24 rfl) (own_t hw 25 rfl) (own_t hw 26 rfl) (by decide) (W := 0) (by decide) (by decide) (by rw [hml]; rfl) (argsL := [(.long ((sg + (-7046029254386353131 : Int64)) + (-7046029254386353131 : Int64)))]) (rest := []) rfl (lenOf own_pd14 rfl) rfl (Nat.le_of_eq rfl) (hb hby at_198) e454 (by decide) (by decide) ?_
          intro v455 T455 L455 X455 hQ455
          obtain ⟨hv455, N455q, e455⟩ := hQ455
          subst hv455
          have N455 := Fr.app N454 N455q
          show own_Go p.tables e below (T455.setTop (mkF m 201 #[.val (.long p1), .second, .val (.int p2), .val (.int p3), .val (.int c0), .val (.int c1), .val (.int c2), .val (.int (((p3.toUInt32 >>> ((16 : Int32) &&& 31).toUInt32).toInt32) &&& (3 : Int32))), .val (.ref b444), .val (.long nm), .second, .val (.ref b448), .val (.long sg), .second, .val (.long (own_mx (sg + (-7046029254386353131 : Int64)))), .second, .unset, .unset, .unset, .unset, .unset, .unset, .unset] [(.long (own_mx ((sg + (-7046029254386353131 : Int64)) + (-7046029254386353131 : Int64))))])) _
          refine own_lstore X455 hx hby at_201 (pc' := 203) rfl (Ls' := #[.val (.long p1), .second, .val (.int p2), .val (.int p3), .val (.int c0), .val (.int c1), .val (.int c2), .val (.int (((p3.toUInt32 >>> ((16 : Int32) &&& 31).toUInt32).toInt32) &&& (3 : Int32))), .val (.ref b444), .val (.long nm), .second, .val (.ref b448), .val (.long sg), .second, .val (.long (own_mx (sg + (-7046029254386353131 : Int64)))), .second, .val (.long (own_mx ((sg + (-7046029254386353131 : Int64)) + (-7046029254386353131 : Int64)))), .second, .unset, .unset, .unset, .unset, .unset]) rfl ?_
          refine own_lloadN X455 hx hby at_203 (pc' := 204) rfl rfl ?_
          refine own_aload X455 hx hby at_204 (pc' := 206) rfl rfl rfl ?_
          refine own_callS X455 hx hZ (rm_of3_1 l Z a0 hw [] p1 b448 t449 c0 c1 c2 gS fm T449.heap n0 (c451) S_S hS S_A S_H S_L S_F hfm (E449) (C449) (V449) (A449) hb0 hb1 hb2 ) hown (own_t hw 30 rfl) (own_t hw 31 rfl) (own_t hw 32 rfl) (own_t hw 33 rfl) (by decide) (W := 0) (by decide) (by decide) (by rw [hml]; rfl) (argsL := [(.long p1), (.ref b448)]) (rest := []) rfl (lenOf own_pd19 rfl) rfl (Nat.le_of_eq rfl) (hb hby at_206) e455 (by decide) (by decide) ?_
          intro v456 T456 L456 X456 hQ456
          obtain ⟨b456, hv456, N456q, K456, g456, E456, F456⟩ := hQ456
          rw [hnm, hsg] at F456
          subst hv456
          have N456 := Fr.app N455 N456q
          have l456 : n0 ≤ b456 := (Nat.le_trans Z0 (Nat.le_trans (Nat.le_trans (Nat.le_trans (Nat.le_trans (Nat.le_trans (Nat.le_trans (Nat.le_trans (Nat.le_refl _) E444.1) (Nat.le_of_eq (Wr.size W445).symm)) (Nat.le_of_eq (Wr.size W446).symm)) (Nat.le_of_eq (Wr.size W447).symm)) E448.1) K449.1) g456))
          have c457 := (c450.keep K456 all0)
          have c458 := (c451.keep K456 all0)
          show own_Go p.tables e below (T456.setTop (mkF m 209 #[.val (.long p1), .second, .val (.int p2), .val (.int p3), .val (.int c0), .val (.int c1), .val (.int c2), .val (.int (((p3.toUInt32 >>> ((16 : Int32) &&& 31).toUInt32).toInt32) &&& (3 : Int32))), .val (.ref b444), .val (.long nm), .second, .val (.ref b448), .val (.long sg), .second, .val (.long (own_mx (sg + (-7046029254386353131 : Int64)))), .second, .val (.long (own_mx ((sg + (-7046029254386353131 : Int64)) + (-7046029254386353131 : Int64)))), .second, .unset, .unset, .unset, .unset, .unset] [(.ref b456)])) _
          refine own_astore X456 hx hby at_209 (pc' := 211) rfl rfl (Ls' := #[.val (.long p1), .second, .val (.int p2), .val (.int p3), .val (.int c0), .val (.int c1), .val (.int c2), .val (.int (((p3.toUInt32 >>> ((16 : Int32) &&& 31).toUInt32).toInt32) &&& (3 : Int32))), .val (.ref b444), .val (.long nm), .second, .val (.ref b448), .val (.long sg), .second, .val (.long (own_mx (sg + (-7046029254386353131 : Int64)))), .second, .val (.long (own_mx ((sg + (-7046029254386353131 : Int64)) + (-7046029254386353131 : Int64)))), .second, .val (.ref b456), .unset, .unset, .unset, .unset]) rfl ?_
          refine own_aload X456 hx hby at_211 (pc' := 213) rfl rfl rfl ?_
          refine own_callV X456 hx hZ (rm_nx l Z a0 hw [] b456 sg T456.heap n0 (c458) (E456) (F456) l456) hown (own_t hw 59 rfl) (own_t hw 60 rfl) (own_t hw 62 rfl) (own_t hw 61 rfl) (own_t hw 63 rfl) (own_t hw 32 rfl) (by decide) E456 (W := 0) (by decide) (by decide) (by rw [hml]; rfl) (argsL := []) (rest := []) rfl (lenOf own_pd20 rfl) rfl (Nat.le_of_eq rfl) (hb hby at_213) rfl (by decide) (by decide) ?_
          intro v459 T459 L459 X459 hQ459
          obtain ⟨hv459, N459q, K459, E459, F459⟩ := hQ459
          subst hv459
          have N459 := Fr.app N456 N459q
          have c460 := (c457.keep K459 (allS (Safe.exa (c457).1.alike E456 (by decide) (by decide)) all0))
          have c461 := (c458.keep K459 (allS l456 all0))
          show own_Go p.tables e below (T459.setTop (mkF m 216 #[.val (.long p1), .second, .val (.int p2), .val (.int p3), .val (.int c0), .val (.int c1), .val (.int c2), .val (.int (((p3.toUInt32 >>> ((16 : Int32) &&& 31).toUInt32).toInt32) &&& (3 : Int32))), .val (.ref b444), .val (.long nm), .second, .val (.ref b448), .val (.long sg), .second, .val (.long (own_mx (sg + (-7046029254386353131 : Int64)))), .second, .val (.long (own_mx ((sg + (-7046029254386353131 : Int64)) + (-7046029254386353131 : Int64)))), .second, .val (.ref b456), .unset, .unset, .unset, .unset] [(.long (own_mx (sg + (-7046029254386353131 : Int64))))])) _
          refine own_lstore X459 hx hby at_216 (pc' := 218) rfl (Ls' := #[.val (.long p1), .second, .val (.int p2), .val (.int p3), .val (.int c0), .val (.int c1), .val (.int c2), .val (.int (((p3.toUInt32 >>> ((16 : Int32) &&& 31).toUInt32).toInt32) &&& (3 : Int32))), .val (.ref b444), .val (.long nm), .second, .val (.ref b448), .val (.long sg), .second, .val (.long (own_mx (sg + (-7046029254386353131 : Int64)))), .second, .val (.long (own_mx ((sg + (-7046029254386353131 : Int64)) + (-7046029254386353131 : Int64)))), .second, .val (.ref b456), .val (.long (own_mx (sg + (-7046029254386353131 : Int64)))), .second, .unset, .unset]) rfl ?_
          refine own_aload X459 hx hby at_218 (pc' := 220) rfl rfl rfl ?_
          refine own_callV X459 hx hZ (rm_nx l Z a0 hw [] b456 (sg + (-7046029254386353131 : Int64)) T459.heap n0 (c461) (E459) (F459) l456) hown (own_t hw 59 rfl) (own_t hw 60 rfl) (own_t hw 62 rfl) (own_t hw 61 rfl) (own_t hw 63 rfl) (own_t hw 32 rfl) (by decide) E459 (W := 0) (by decide) (by decide) (by rw [hml]; rfl) (argsL := []) (rest := []) rfl (lenOf own_pd20 rfl) rfl (Nat.le_of_eq rfl) (hb hby at_220) rfl (by decide) (by decide) ?_
          intro v462 T462 L462 X462 hQ462
          obtain ⟨hv462, N462q, K462, E462, F462⟩ := hQ462
          subst hv462
          have N462 := Fr.app N459 N462q
          have c463 := (c460.keep K462 (allS (Safe.exa (c460).1.alike E459 (by decide) (by decide)) all0))
          have c464 := (c461.keep K462 (allS l456 all0))
          show own_Go p.tables e below (T462.setTop (mkF m 223 #[.val (.long p1), .second, .val (.int p2), .val (.int p3), .val (.int c0), .val (.int c1), .val (.int c2), .val (.int (((p3.toUInt32 >>> ((16 : Int32) &&& 31).toUInt32).toInt32) &&& (3 : Int32))), .val (.ref b444), .val (.long nm), .second, .val (.ref b448), .val (.long sg), .second, .val (.long (own_mx (sg + (-7046029254386353131 : Int64)))), .second, .val (.long (own_mx ((sg + (-7046029254386353131 : Int64)) + (-7046029254386353131 : Int64)))), .second, .val (.ref b456), .val (.long (own_mx (sg + (-7046029254386353131 : Int64)))), .second, .unset, .unset] [(.long (own_mx ((sg + (-7046029254386353131 : Int64)) + (-7046029254386353131 : Int64))))])) _
          refine own_lstore X462 hx hby at_223 (pc' := 225) rfl (Ls' := #[.val (.long p1), .second, .val (.int p2), .val (.int p3), .val (.int c0), .val (.int c1), .val (.int c2), .val (.int (((p3.toUInt32 >>> ((16 : Int32) &&& 31).toUInt32).toInt32) &&& (3 : Int32))), .val (.ref b444), .val (.long nm), .second, .val (.ref b448), .val (.long sg), .second, .val (.long (own_mx (sg + (-7046029254386353131 : Int64)))), .second, .val (.long (own_mx ((sg + (-7046029254386353131 : Int64)) + (-7046029254386353131 : Int64)))), .second, .val (.ref b456), .val (.long (own_mx (sg + (-7046029254386353131 : Int64)))), .second, .val (.long (own_mx ((sg + (-7046029254386353131 : Int64)) + (-7046029254386353131 : Int64)))), .second]) rfl ?_
          refine own_lload X462 hx hby at_225 (pc' := 227) rfl rfl ?_
          refine own_lload X462 hx hby at_227 (pc' := 229) rfl rfl ?_
          refine own_lcmp X462 hx hby at_229 (pc' := 230) rfl ?_
          refine own_ifNo X462 hx hby at_230 (pc' := 233) rfl (teq ((lw_eq (own_mx (sg + (-7046029254386353131 : Int64))) (own_mx (sg + (-7046029254386353131 : Int64)))).mpr rfl)).2 ?_
          refine own_lload X462 hx hby at_233 (pc' := 235) rfl rfl ?_
          refine own_lload X462 hx hby at_235 (pc' := 237) rfl rfl ?_
          refine own_lcmp X462 hx hby at_237 (pc' := 238) rfl ?_
          refine own_ifNo X462 hx hby at_238 (pc' := 241) rfl (teq ((lw_eq (own_mx ((sg + (-7046029254386353131 : Int64)) + (-7046029254386353131 : Int64))) (own_mx ((sg + (-7046029254386353131 : Int64)) + (-7046029254386353131 : Int64)))).mpr rfl)).2 ?_
          refine own_iconst X462 hx hby at_241 (pc' := 242) rfl (z := (1 : Int32)) (by decide) ?_
          refine own_goto X462 hx hby at_242 (pc' := 246) (by decide) ?_
          exact own_retZW (t := .boolean) X462 hx hEL (c463) rfl hret (by simp) (hb hby at_246) hlk (by decide) (by decide) ⟨congrArg (fun z => some (Value.int z)) (own_nar1), N462⟩
        · skip
          by_cases hk1 : (255 : Int32) < c1
          · skip
            refine own_callSp X448 hx hZ (rm_i1_3_1 l Z a0 hw [] b448 b444 c0 c1 c2 gS h448 n0 ((((((O_0.ext E444).wr W445 l444).wr W446 l444).wr W447 l444).ext E448)) S_S hS S_A S_H S_L (A448) (F448_value) (F448_coder) l448 ((B447.ext E448)) hb1 hk0 hk1) rfl hown (own_t hw 5 rfl) (own_t hw 6 rfl) (own_t hw 7 rfl) (own_t hw 4 rfl) (by decide) (W := 1) (by decide) (by decide) (by rw [hml]; rfl) (argsL := [(.ref b444)]) (rest := [(.ref b448)]) rfl (lenOf own_pd18 rfl) rfl (Nat.le_of_eq rfl) (hb hby at_156) e448 (by decide) (by decide) ?_
            intro v465 T465 L465 X465 hQ465
            obtain ⟨hv465, N465q, K465, E465, C465, t465, V465, A465⟩ := hQ465
            subst hv465
            have N465 := Fr.app N447 N465q
            have c466 := ((((((W0.ext E444).wr W445 (own_Ar.safe A444 ((W0.ext E444)).1.alike (by first | decide | (intro q; cases q)))).wr W446 (own_Ar.safe B445 (((W0.ext E444).wr W445 (own_Ar.safe A444 ((W0.ext E444)).1.alike (by first | decide | (intro q; cases q))))).1.alike (by first | decide | (intro q; cases q)))).wr W447 (own_Ar.safe B446 ((((W0.ext E444).wr W445 (own_Ar.safe A444 ((W0.ext E444)).1.alike (by first | decide | (intro q; cases q)))).wr W446 (own_Ar.safe B445 (((W0.ext E444).wr W445 (own_Ar.safe A444 ((W0.ext E444)).1.alike (by first | decide | (intro q; cases q))))).1.alike (by first | decide | (intro q; cases q))))).1.alike (by first | decide | (intro q; cases q)))).ext E448).keep K465 (allS (Safe.ext E448 (((((W0.ext E444).wr W445 (own_Ar.safe A444 ((W0.ext E444)).1.alike (by first | decide | (intro q; cases q)))).wr W446 (own_Ar.safe B445 (((W0.ext E444).wr W445 (own_Ar.safe A444 ((W0.ext E444)).1.alike (by first | decide | (intro q; cases q))))).1.alike (by first | decide | (intro q; cases q)))).wr W447 (own_Ar.safe B446 ((((W0.ext E444).wr W445 (own_Ar.safe A444 ((W0.ext E444)).1.alike (by first | decide | (intro q; cases q)))).wr W446 (own_Ar.safe B445 (((W0.ext E444).wr W445 (own_Ar.safe A444 ((W0.ext E444)).1.alike (by first | decide | (intro q; cases q))))).1.alike (by first | decide | (intro q; cases q))))).1.alike (by first | decide | (intro q; cases q))))).ch (Safe.new (Nat.le_of_eq g448.symm))) all0))
            have c467 := ((((((O_0.ext E444).wr W445 l444).wr W446 l444).wr W447 l444).ext E448).keep K465 (allS l448 all0))
            show own_Go p.tables e below (T465.setTop (mkF m 159 #[.val (.long p1), .second, .val (.int p2), .val (.int p3), .val (.int c0), .val (.int c1), .val (.int c2), .val (.int (((p3.toUInt32 >>> ((16 : Int32) &&& 31).toUInt32).toInt32) &&& (3 : Int32))), .val (.ref b444), .val (.long nm), .second, .unset, .unset, .unset, .unset, .unset, .unset, .unset, .unset, .unset, .unset, .unset, .unset] [(.ref b448)])) _
            refine own_astore X465 hx hby at_159 (pc' := 161) rfl rfl (Ls' := #[.val (.long p1), .second, .val (.int p2), .val (.int p3), .val (.int c0), .val (.int c1), .val (.int c2), .val (.int (((p3.toUInt32 >>> ((16 : Int32) &&& 31).toUInt32).toInt32) &&& (3 : Int32))), .val (.ref b444), .val (.long nm), .second, .val (.ref b448), .unset, .unset, .unset, .unset, .unset, .unset, .unset, .unset, .unset, .unset, .unset]) rfl ?_
            refine own_lloadN X465 hx hby at_161 (pc' := 162) rfl rfl ?_
            refine own_callS X465 hx hZ (rm_fin l Z a0 hw [] p1 T465.heap n0) hown (own_t hw 23 rfl) (own_t hw 24 rfl) (own_t hw 25 rfl) (own_t hw 26 rfl) (by decide) (W := 0) (by decide) (by decide) (by rw [hml]; rfl) (argsL := [(.long p1)]) (rest := []) rfl (lenOf own_pd14 rfl) rfl (Nat.le_of_eq rfl) (hb hby at_162) rfl (by decide) (by decide) ?_
            intro v468 T468 L468 X468 hQ468
            obtain ⟨hv468, N468q, e468⟩ := hQ468
            subst hv468
            have N468 := Fr.app N465 N468q
            show own_Go p.tables e below (T468.setTop (mkF m 165 #[.val (.long p1), .second, .val (.int p2), .val (.int p3), .val (.int c0), .val (.int c1), .val (.int c2), .val (.int (((p3.toUInt32 >>> ((16 : Int32) &&& 31).toUInt32).toInt32) &&& (3 : Int32))), .val (.ref b444), .val (.long nm), .second, .val (.ref b448), .unset, .unset, .unset, .unset, .unset, .unset, .unset, .unset, .unset, .unset, .unset] [(.long (own_mx p1))])) _
            refine own_lload X468 hx hby at_165 (pc' := 167) rfl rfl ?_
            refine own_ldc2 X468 hx hby at_167 (pc' := 170) rfl hZ hown (own_t hw 29 rfl) ?_
            refine own_ladd X468 hx hby at_170 (pc' := 171) rfl rfl ?_
            refine own_callS X468 hx hZ (rm_fin l Z a0 hw [] (nm + (-7046029254386353131 : Int64)) T465.heap n0) hown (own_t hw 23 rfl) (own_t hw 24 rfl) (own_t hw 25 rfl) (own_t hw 26 rfl) (by decide) (W := 2) (by decide) (by decide) (by rw [hml]; rfl) (argsL := [(.long (nm + (-7046029254386353131 : Int64)))]) (rest := [(.long (own_mx p1))]) rfl (lenOf own_pd14 rfl) rfl (Nat.le_of_eq rfl) (hb hby at_171) e468 (by decide) (by decide) ?_
            intro v469 T469 L469 X469 hQ469
            obtain ⟨hv469, N469q, e469⟩ := hQ469
            subst hv469
            have N469 := Fr.app N468 N469q
            show own_Go p.tables e below (T469.setTop (mkF m 174 #[.val (.long p1), .second, .val (.int p2), .val (.int p3), .val (.int c0), .val (.int c1), .val (.int c2), .val (.int (((p3.toUInt32 >>> ((16 : Int32) &&& 31).toUInt32).toInt32) &&& (3 : Int32))), .val (.ref b444), .val (.long nm), .second, .val (.ref b448), .unset, .unset, .unset, .unset, .unset, .unset, .unset, .unset, .unset, .unset, .unset] [(.long (own_mx (nm + (-7046029254386353131 : Int64)))), (.long (own_mx p1))])) _
            refine own_lxor X469 hx hby at_174 (pc' := 175) rfl rfl ?_
            refine own_lstore X469 hx hby at_175 (pc' := 177) rfl (Ls' := #[.val (.long p1), .second, .val (.int p2), .val (.int p3), .val (.int c0), .val (.int c1), .val (.int c2), .val (.int (((p3.toUInt32 >>> ((16 : Int32) &&& 31).toUInt32).toInt32) &&& (3 : Int32))), .val (.ref b444), .val (.long nm), .second, .val (.ref b448), .val (.long ((own_mx p1) ^^^ (own_mx (nm + (-7046029254386353131 : Int64))))), .second, .unset, .unset, .unset, .unset, .unset, .unset, .unset, .unset, .unset]) rfl ?_
            show own_Go p.tables e below (T469.setTop (mkF m 177 #[.val (.long p1), .second, .val (.int p2), .val (.int p3), .val (.int c0), .val (.int c1), .val (.int c2), .val (.int (((p3.toUInt32 >>> ((16 : Int32) &&& 31).toUInt32).toInt32) &&& (3 : Int32))), .val (.ref b444), .val (.long nm), .second, .val (.ref b448), .val (.long ((own_mx p1) ^^^ (own_mx (nm + (-7046029254386353131 : Int64))))), .second, .unset, .unset, .unset, .unset, .unset, .unset, .unset, .unset, .unset] [])) _
            generalize hsg : ((own_mx p1) ^^^ (own_mx (nm + (-7046029254386353131 : Int64)))) = sg
            show own_Go p.tables e below (T469.setTop (mkF m 177 #[.val (.long p1), .second, .val (.int p2), .val (.int p3), .val (.int c0), .val (.int c1), .val (.int c2), .val (.int (((p3.toUInt32 >>> ((16 : Int32) &&& 31).toUInt32).toInt32) &&& (3 : Int32))), .val (.ref b444), .val (.long nm), .second, .val (.ref b448), .val (.long sg), .second, .unset, .unset, .unset, .unset, .unset, .unset, .unset, .unset, .unset] [])) _
            refine own_lload X469 hx hby at_177 (pc' := 179) rfl rfl ?_
            refine own_ldc2 X469 hx hby at_179 (pc' := 182) rfl hZ hown (own_t hw 29 rfl) ?_
            refine own_ladd X469 hx hby at_182 (pc' := 183) rfl rfl ?_
            refine own_callS X469 hx hZ (rm_fin l Z a0 hw [] (sg + (-7046029254386353131 : Int64)) T465.heap n0) hown (own_t hw 23 rfl) (own_t hw 24 rfl) (own_t hw 25 rfl) (own_t hw 26 rfl) (by decide) (W := 0) (by decide) (by decide) (by rw [hml]; rfl) (argsL := [(.long (sg + (-7046029254386353131 : Int64)))]) (rest := []) rfl (lenOf own_pd14 rfl) rfl (Nat.le_of_eq rfl) (hb hby at_183) e469 (by decide) (by decide) ?_
            intro v470 T470 L470 X470 hQ470
            obtain ⟨hv470, N470q, e470⟩ := hQ470
            subst hv470
            have N470 := Fr.app N469 N470q
            show own_Go p.tables e below (T470.setTop (mkF m 186 #[.val (.long p1), .second, .val (.int p2), .val (.int p3), .val (.int c0), .val (.int c1), .val (.int c2), .val (.int (((p3.toUInt32 >>> ((16 : Int32) &&& 31).toUInt32).toInt32) &&& (3 : Int32))), .val (.ref b444), .val (.long nm), .second, .val (.ref b448), .val (.long sg), .second, .unset, .unset, .unset, .unset, .unset, .unset, .unset, .unset, .unset] [(.long (own_mx (sg + (-7046029254386353131 : Int64))))])) _
            refine own_lstore X470 hx hby at_186 (pc' := 188) rfl (Ls' := #[.val (.long p1), .second, .val (.int p2), .val (.int p3), .val (.int c0), .val (.int c1), .val (.int c2), .val (.int (((p3.toUInt32 >>> ((16 : Int32) &&& 31).toUInt32).toInt32) &&& (3 : Int32))), .val (.ref b444), .val (.long nm), .second, .val (.ref b448), .val (.long sg), .second, .val (.long (own_mx (sg + (-7046029254386353131 : Int64)))), .second, .unset, .unset, .unset, .unset, .unset, .unset, .unset]) rfl ?_
            refine own_lload X470 hx hby at_188 (pc' := 190) rfl rfl ?_
            refine own_ldc2 X470 hx hby at_190 (pc' := 193) rfl hZ hown (own_t hw 29 rfl) ?_
            refine own_ladd X470 hx hby at_193 (pc' := 194) rfl rfl ?_
            refine own_ldc2 X470 hx hby at_194 (pc' := 197) rfl hZ hown (own_t hw 29 rfl) ?_
            refine own_ladd X470 hx hby at_197 (pc' := 198) rfl rfl ?_
            refine own_callS X470 hx hZ (rm_fin l Z a0 hw [] ((sg + (-7046029254386353131 : Int64)) + (-7046029254386353131 : Int64)) T465.heap n0) hown (own_t hw 23 rfl) (own_t hw 24 rfl) (own_t hw 25 rfl) (own_t hw 26 rfl) (by decide) (W := 0) (by decide) (by decide) (by rw [hml]; rfl) (argsL := [(.long ((sg + (-7046029254386353131 : Int64)) + (-7046029254386353131 : Int64)))]) (rest := []) rfl (lenOf own_pd14 rfl) rfl (Nat.le_of_eq rfl) (hb hby at_198) e470 (by decide) (by decide) ?_
            intro v471 T471 L471 X471 hQ471
            obtain ⟨hv471, N471q, e471⟩ := hQ471
            subst hv471
            have N471 := Fr.app N470 N471q
            show own_Go p.tables e below (T471.setTop (mkF m 201 #[.val (.long p1), .second, .val (.int p2), .val (.int p3), .val (.int c0), .val (.int c1), .val (.int c2), .val (.int (((p3.toUInt32 >>> ((16 : Int32) &&& 31).toUInt32).toInt32) &&& (3 : Int32))), .val (.ref b444), .val (.long nm), .second, .val (.ref b448), .val (.long sg), .second, .val (.long (own_mx (sg + (-7046029254386353131 : Int64)))), .second, .unset, .unset, .unset, .unset, .unset, .unset, .unset] [(.long (own_mx ((sg + (-7046029254386353131 : Int64)) + (-7046029254386353131 : Int64))))])) _
            refine own_lstore X471 hx hby at_201 (pc' := 203) rfl (Ls' := #[.val (.long p1), .second, .val (.int p2), .val (.int p3), .val (.int c0), .val (.int c1), .val (.int c2), .val (.int (((p3.toUInt32 >>> ((16 : Int32) &&& 31).toUInt32).toInt32) &&& (3 : Int32))), .val (.ref b444), .val (.long nm), .second, .val (.ref b448), .val (.long sg), .second, .val (.long (own_mx (sg + (-7046029254386353131 : Int64)))), .second, .val (.long (own_mx ((sg + (-7046029254386353131 : Int64)) + (-7046029254386353131 : Int64)))), .second, .unset, .unset, .unset, .unset, .unset]) rfl ?_
            refine own_lloadN X471 hx hby at_203 (pc' := 204) rfl rfl ?_
            refine own_aload X471 hx hby at_204 (pc' := 206) rfl rfl rfl ?_
            refine own_callS X471 hx hZ (rm_of3_1 l Z a0 hw [] p1 b448 t465 c0 c1 c2 gS fm T465.heap n0 (c467) S_S hS S_A S_H S_L S_F hfm (E465) (C465) (V465) (A465) hb0 hb1 hb2 ) hown (own_t hw 30 rfl) (own_t hw 31 rfl) (own_t hw 32 rfl) (own_t hw 33 rfl) (by decide) (W := 0) (by decide) (by decide) (by rw [hml]; rfl) (argsL := [(.long p1), (.ref b448)]) (rest := []) rfl (lenOf own_pd19 rfl) rfl (Nat.le_of_eq rfl) (hb hby at_206) e471 (by decide) (by decide) ?_
            intro v472 T472 L472 X472 hQ472
            obtain ⟨b472, hv472, N472q, K472, g472, E472, F472⟩ := hQ472
            rw [hnm, hsg] at F472
            subst hv472
            have N472 := Fr.app N471 N472q
            have l472 : n0 ≤ b472 := (Nat.le_trans Z0 (Nat.le_trans (Nat.le_trans (Nat.le_trans (Nat.le_trans (Nat.le_trans (Nat.le_trans (Nat.le_trans (Nat.le_refl _) E444.1) (Nat.le_of_eq (Wr.size W445).symm)) (Nat.le_of_eq (Wr.size W446).symm)) (Nat.le_of_eq (Wr.size W447).symm)) E448.1) K465.1) g472))
            have c473 := (c466.keep K472 all0)
            have c474 := (c467.keep K472 all0)
            show own_Go p.tables e below (T472.setTop (mkF m 209 #[.val (.long p1), .second, .val (.int p2), .val (.int p3), .val (.int c0), .val (.int c1), .val (.int c2), .val (.int (((p3.toUInt32 >>> ((16 : Int32) &&& 31).toUInt32).toInt32) &&& (3 : Int32))), .val (.ref b444), .val (.long nm), .second, .val (.ref b448), .val (.long sg), .second, .val (.long (own_mx (sg + (-7046029254386353131 : Int64)))), .second, .val (.long (own_mx ((sg + (-7046029254386353131 : Int64)) + (-7046029254386353131 : Int64)))), .second, .unset, .unset, .unset, .unset, .unset] [(.ref b472)])) _
            refine own_astore X472 hx hby at_209 (pc' := 211) rfl rfl (Ls' := #[.val (.long p1), .second, .val (.int p2), .val (.int p3), .val (.int c0), .val (.int c1), .val (.int c2), .val (.int (((p3.toUInt32 >>> ((16 : Int32) &&& 31).toUInt32).toInt32) &&& (3 : Int32))), .val (.ref b444), .val (.long nm), .second, .val (.ref b448), .val (.long sg), .second, .val (.long (own_mx (sg + (-7046029254386353131 : Int64)))), .second, .val (.long (own_mx ((sg + (-7046029254386353131 : Int64)) + (-7046029254386353131 : Int64)))), .second, .val (.ref b472), .unset, .unset, .unset, .unset]) rfl ?_
            refine own_aload X472 hx hby at_211 (pc' := 213) rfl rfl rfl ?_
            refine own_callV X472 hx hZ (rm_nx l Z a0 hw [] b472 sg T472.heap n0 (c474) (E472) (F472) l472) hown (own_t hw 59 rfl) (own_t hw 60 rfl) (own_t hw 62 rfl) (own_t hw 61 rfl) (own_t hw 63 rfl) (own_t hw 32 rfl) (by decide) E472 (W := 0) (by decide) (by decide) (by rw [hml]; rfl) (argsL := []) (rest := []) rfl (lenOf own_pd20 rfl) rfl (Nat.le_of_eq rfl) (hb hby at_213) rfl (by decide) (by decide) ?_
            intro v475 T475 L475 X475 hQ475
            obtain ⟨hv475, N475q, K475, E475, F475⟩ := hQ475
            subst hv475
            have N475 := Fr.app N472 N475q
            have c476 := (c473.keep K475 (allS (Safe.exa (c473).1.alike E472 (by decide) (by decide)) all0))
            have c477 := (c474.keep K475 (allS l472 all0))
            show own_Go p.tables e below (T475.setTop (mkF m 216 #[.val (.long p1), .second, .val (.int p2), .val (.int p3), .val (.int c0), .val (.int c1), .val (.int c2), .val (.int (((p3.toUInt32 >>> ((16 : Int32) &&& 31).toUInt32).toInt32) &&& (3 : Int32))), .val (.ref b444), .val (.long nm), .second, .val (.ref b448), .val (.long sg), .second, .val (.long (own_mx (sg + (-7046029254386353131 : Int64)))), .second, .val (.long (own_mx ((sg + (-7046029254386353131 : Int64)) + (-7046029254386353131 : Int64)))), .second, .val (.ref b472), .unset, .unset, .unset, .unset] [(.long (own_mx (sg + (-7046029254386353131 : Int64))))])) _
            refine own_lstore X475 hx hby at_216 (pc' := 218) rfl (Ls' := #[.val (.long p1), .second, .val (.int p2), .val (.int p3), .val (.int c0), .val (.int c1), .val (.int c2), .val (.int (((p3.toUInt32 >>> ((16 : Int32) &&& 31).toUInt32).toInt32) &&& (3 : Int32))), .val (.ref b444), .val (.long nm), .second, .val (.ref b448), .val (.long sg), .second, .val (.long (own_mx (sg + (-7046029254386353131 : Int64)))), .second, .val (.long (own_mx ((sg + (-7046029254386353131 : Int64)) + (-7046029254386353131 : Int64)))), .second, .val (.ref b472), .val (.long (own_mx (sg + (-7046029254386353131 : Int64)))), .second, .unset, .unset]) rfl ?_
            refine own_aload X475 hx hby at_218 (pc' := 220) rfl rfl rfl ?_
            refine own_callV X475 hx hZ (rm_nx l Z a0 hw [] b472 (sg + (-7046029254386353131 : Int64)) T475.heap n0 (c477) (E475) (F475) l472) hown (own_t hw 59 rfl) (own_t hw 60 rfl) (own_t hw 62 rfl) (own_t hw 61 rfl) (own_t hw 63 rfl) (own_t hw 32 rfl) (by decide) E475 (W := 0) (by decide) (by decide) (by rw [hml]; rfl) (argsL := []) (rest := []) rfl (lenOf own_pd20 rfl) rfl (Nat.le_of_eq rfl) (hb hby at_220) rfl (by decide) (by decide) ?_
            intro v478 T478 L478 X478 hQ478
            obtain ⟨hv478, N478q, K478, E478, F478⟩ := hQ478
            subst hv478
            have N478 := Fr.app N475 N478q
            have c479 := (c476.keep K478 (allS (Safe.exa (c476).1.alike E475 (by decide) (by decide)) all0))
            have c480 := (c477.keep K478 (allS l472 all0))
            show own_Go p.tables e below (T478.setTop (mkF m 223 #[.val (.long p1), .second, .val (.int p2), .val (.int p3), .val (.int c0), .val (.int c1), .val (.int c2), .val (.int (((p3.toUInt32 >>> ((16 : Int32) &&& 31).toUInt32).toInt32) &&& (3 : Int32))), .val (.ref b444), .val (.long nm), .second, .val (.ref b448), .val (.long sg), .second, .val (.long (own_mx (sg + (-7046029254386353131 : Int64)))), .second, .val (.long (own_mx ((sg + (-7046029254386353131 : Int64)) + (-7046029254386353131 : Int64)))), .second, .val (.ref b472), .val (.long (own_mx (sg + (-7046029254386353131 : Int64)))), .second, .unset, .unset] [(.long (own_mx ((sg + (-7046029254386353131 : Int64)) + (-7046029254386353131 : Int64))))])) _
            refine own_lstore X478 hx hby at_223 (pc' := 225) rfl (Ls' := #[.val (.long p1), .second, .val (.int p2), .val (.int p3), .val (.int c0), .val (.int c1), .val (.int c2), .val (.int (((p3.toUInt32 >>> ((16 : Int32) &&& 31).toUInt32).toInt32) &&& (3 : Int32))), .val (.ref b444), .val (.long nm), .second, .val (.ref b448), .val (.long sg), .second, .val (.long (own_mx (sg + (-7046029254386353131 : Int64)))), .second, .val (.long (own_mx ((sg + (-7046029254386353131 : Int64)) + (-7046029254386353131 : Int64)))), .second, .val (.ref b472), .val (.long (own_mx (sg + (-7046029254386353131 : Int64)))), .second, .val (.long (own_mx ((sg + (-7046029254386353131 : Int64)) + (-7046029254386353131 : Int64)))), .second]) rfl ?_
            refine own_lload X478 hx hby at_225 (pc' := 227) rfl rfl ?_
            refine own_lload X478 hx hby at_227 (pc' := 229) rfl rfl ?_
            refine own_lcmp X478 hx hby at_229 (pc' := 230) rfl ?_
            refine own_ifNo X478 hx hby at_230 (pc' := 233) rfl (teq ((lw_eq (own_mx (sg + (-7046029254386353131 : Int64))) (own_mx (sg + (-7046029254386353131 : Int64)))).mpr rfl)).2 ?_
            refine own_lload X478 hx hby at_233 (pc' := 235) rfl rfl ?_
            refine own_lload X478 hx hby at_235 (pc' := 237) rfl rfl ?_
            refine own_lcmp X478 hx hby at_237 (pc' := 238) rfl ?_
            refine own_ifNo X478 hx hby at_238 (pc' := 241) rfl (teq ((lw_eq (own_mx ((sg + (-7046029254386353131 : Int64)) + (-7046029254386353131 : Int64))) (own_mx ((sg + (-7046029254386353131 : Int64)) + (-7046029254386353131 : Int64)))).mpr rfl)).2 ?_
            refine own_iconst X478 hx hby at_241 (pc' := 242) rfl (z := (1 : Int32)) (by decide) ?_
            refine own_goto X478 hx hby at_242 (pc' := 246) (by decide) ?_
            exact own_retZW (t := .boolean) X478 hx hEL (c479) rfl hret (by simp) (hb hby at_246) hlk (by decide) (by decide) ⟨congrArg (fun z => some (Value.int z)) (own_nar1), N478⟩
          · skip
            by_cases hk2 : (255 : Int32) < c2
            · skip
              refine own_callSp X448 hx hZ (rm_i1_3_2 l Z a0 hw [] b448 b444 c0 c1 c2 gS h448 n0 ((((((O_0.ext E444).wr W445 l444).wr W446 l444).wr W447 l444).ext E448)) S_S hS S_A S_H S_L (A448) (F448_value) (F448_coder) l448 ((B447.ext E448)) hb2 hk0 hk1 hk2) rfl hown (own_t hw 5 rfl) (own_t hw 6 rfl) (own_t hw 7 rfl) (own_t hw 4 rfl) (by decide) (W := 1) (by decide) (by decide) (by rw [hml]; rfl) (argsL := [(.ref b444)]) (rest := [(.ref b448)]) rfl (lenOf own_pd18 rfl) rfl (Nat.le_of_eq rfl) (hb hby at_156) e448 (by decide) (by decide) ?_
              intro v481 T481 L481 X481 hQ481
              obtain ⟨hv481, N481q, K481, E481, C481, t481, V481, A481⟩ := hQ481
              subst hv481
              have N481 := Fr.app N447 N481q
              have c482 := ((((((W0.ext E444).wr W445 (own_Ar.safe A444 ((W0.ext E444)).1.alike (by first | decide | (intro q; cases q)))).wr W446 (own_Ar.safe B445 (((W0.ext E444).wr W445 (own_Ar.safe A444 ((W0.ext E444)).1.alike (by first | decide | (intro q; cases q))))).1.alike (by first | decide | (intro q; cases q)))).wr W447 (own_Ar.safe B446 ((((W0.ext E444).wr W445 (own_Ar.safe A444 ((W0.ext E444)).1.alike (by first | decide | (intro q; cases q)))).wr W446 (own_Ar.safe B445 (((W0.ext E444).wr W445 (own_Ar.safe A444 ((W0.ext E444)).1.alike (by first | decide | (intro q; cases q))))).1.alike (by first | decide | (intro q; cases q))))).1.alike (by first | decide | (intro q; cases q)))).ext E448).keep K481 (allS (Safe.ext E448 (((((W0.ext E444).wr W445 (own_Ar.safe A444 ((W0.ext E444)).1.alike (by first | decide | (intro q; cases q)))).wr W446 (own_Ar.safe B445 (((W0.ext E444).wr W445 (own_Ar.safe A444 ((W0.ext E444)).1.alike (by first | decide | (intro q; cases q))))).1.alike (by first | decide | (intro q; cases q)))).wr W447 (own_Ar.safe B446 ((((W0.ext E444).wr W445 (own_Ar.safe A444 ((W0.ext E444)).1.alike (by first | decide | (intro q; cases q)))).wr W446 (own_Ar.safe B445 (((W0.ext E444).wr W445 (own_Ar.safe A444 ((W0.ext E444)).1.alike (by first | decide | (intro q; cases q))))).1.alike (by first | decide | (intro q; cases q))))).1.alike (by first | decide | (intro q; cases q))))).ch (Safe.new (Nat.le_of_eq g448.symm))) all0))
              have c483 := ((((((O_0.ext E444).wr W445 l444).wr W446 l444).wr W447 l444).ext E448).keep K481 (allS l448 all0))
              show own_Go p.tables e below (T481.setTop (mkF m 159 #[.val (.long p1), .second, .val (.int p2), .val (.int p3), .val (.int c0), .val (.int c1), .val (.int c2), .val (.int (((p3.toUInt32 >>> ((16 : Int32) &&& 31).toUInt32).toInt32) &&& (3 : Int32))), .val (.ref b444), .val (.long nm), .second, .unset, .unset, .unset, .unset, .unset, .unset, .unset, .unset, .unset, .unset, .unset, .unset] [(.ref b448)])) _
              refine own_astore X481 hx hby at_159 (pc' := 161) rfl rfl (Ls' := #[.val (.long p1), .second, .val (.int p2), .val (.int p3), .val (.int c0), .val (.int c1), .val (.int c2), .val (.int (((p3.toUInt32 >>> ((16 : Int32) &&& 31).toUInt32).toInt32) &&& (3 : Int32))), .val (.ref b444), .val (.long nm), .second, .val (.ref b448), .unset, .unset, .unset, .unset, .unset, .unset, .unset, .unset, .unset, .unset, .unset]) rfl ?_
              refine own_lloadN X481 hx hby at_161 (pc' := 162) rfl rfl ?_
              refine own_callS X481 hx hZ (rm_fin l Z a0 hw [] p1 T481.heap n0) hown (own_t hw 23 rfl) (own_t hw 24 rfl) (own_t hw 25 rfl) (own_t hw 26 rfl) (by decide) (W := 0) (by decide) (by decide) (by rw [hml]; rfl) (argsL := [(.long p1)]) (rest := []) rfl (lenOf own_pd14 rfl) rfl (Nat.le_of_eq rfl) (hb hby at_162) rfl (by decide) (by decide) ?_
              intro v484 T484 L484 X484 hQ484
              obtain ⟨hv484, N484q, e484⟩ := hQ484
              subst hv484
              have N484 := Fr.app N481 N484q
              show own_Go p.tables e below (T484.setTop (mkF m 165 #[.val (.long p1), .second, .val (.int p2), .val (.int p3), .val (.int c0), .val (.int c1), .val (.int c2), .val (.int (((p3.toUInt32 >>> ((16 : Int32) &&& 31).toUInt32).toInt32) &&& (3 : Int32))), .val (.ref b444), .val (.long nm), .second, .val (.ref b448), .unset, .unset, .unset, .unset, .unset, .unset, .unset, .unset, .unset, .unset, .unset] [(.long (own_mx p1))])) _
              refine own_lload X484 hx hby at_165 (pc' := 167) rfl rfl ?_
              refine own_ldc2 X484 hx hby at_167 (pc' := 170) rfl hZ hown (own_t hw 29 rfl) ?_
              refine own_ladd X484 hx hby at_170 (pc' := 171) rfl rfl ?_
              refine own_callS X484 hx hZ (rm_fin l Z a0 hw [] (nm + (-7046029254386353131 : Int64)) T481.heap n0) hown (own_t hw 23 rfl) (own_t hw 24 rfl) (own_t hw 25 rfl) (own_t hw 26 rfl) (by decide) (W := 2) (by decide) (by decide) (by rw [hml]; rfl) (argsL := [(.long (nm + (-7046029254386353131 : Int64)))]) (rest := [(.long (own_mx p1))]) rfl (lenOf own_pd14 rfl) rfl (Nat.le_of_eq rfl) (hb hby at_171) e484 (by decide) (by decide) ?_
              intro v485 T485 L485 X485 hQ485
              obtain ⟨hv485, N485q, e485⟩ := hQ485
              subst hv485
              have N485 := Fr.app N484 N485q
              show own_Go p.tables e below (T485.setTop (mkF m 174 #[.val (.long p1), .second, .val (.int p2), .val (.int p3), .val (.int c0), .val (.int c1), .val (.int c2), .val (.int (((p3.toUInt32 >>> ((16 : Int32) &&& 31).toUInt32).toInt32) &&& (3 : Int32))), .val (.ref b444), .val (.long nm), .second, .val (.ref b448), .unset, .unset, .unset, .unset, .unset, .unset, .unset, .unset, .unset, .unset, .unset] [(.long (own_mx (nm + (-7046029254386353131 : Int64)))), (.long (own_mx p1))])) _
              refine own_lxor X485 hx hby at_174 (pc' := 175) rfl rfl ?_
              refine own_lstore X485 hx hby at_175 (pc' := 177) rfl (Ls' := #[.val (.long p1), .second, .val (.int p2), .val (.int p3), .val (.int c0), .val (.int c1), .val (.int c2), .val (.int (((p3.toUInt32 >>> ((16 : Int32) &&& 31).toUInt32).toInt32) &&& (3 : Int32))), .val (.ref b444), .val (.long nm), .second, .val (.ref b448), .val (.long ((own_mx p1) ^^^ (own_mx (nm + (-7046029254386353131 : Int64))))), .second, .unset, .unset, .unset, .unset, .unset, .unset, .unset, .unset, .unset]) rfl ?_
              show own_Go p.tables e below (T485.setTop (mkF m 177 #[.val (.long p1), .second, .val (.int p2), .val (.int p3), .val (.int c0), .val (.int c1), .val (.int c2), .val (.int (((p3.toUInt32 >>> ((16 : Int32) &&& 31).toUInt32).toInt32) &&& (3 : Int32))), .val (.ref b444), .val (.long nm), .second, .val (.ref b448), .val (.long ((own_mx p1) ^^^ (own_mx (nm + (-7046029254386353131 : Int64))))), .second, .unset, .unset, .unset, .unset, .unset, .unset, .unset, .unset, .unset] [])) _
              generalize hsg : ((own_mx p1) ^^^ (own_mx (nm + (-7046029254386353131 : Int64)))) = sg
              show own_Go p.tables e below (T485.setTop (mkF m 177 #[.val (.long p1), .second, .val (.int p2), .val (.int p3), .val (.int c0), .val (.int c1), .val (.int c2), .val (.int (((p3.toUInt32 >>> ((16 : Int32) &&& 31).toUInt32).toInt32) &&& (3 : Int32))), .val (.ref b444), .val (.long nm), .second, .val (.ref b448), .val (.long sg), .second, .unset, .unset, .unset, .unset, .unset, .unset, .unset, .unset, .unset] [])) _
              refine own_lload X485 hx hby at_177 (pc' := 179) rfl rfl ?_
              refine own_ldc2 X485 hx hby at_179 (pc' := 182) rfl hZ hown (own_t hw 29 rfl) ?_
              refine own_ladd X485 hx hby at_182 (pc' := 183) rfl rfl ?_
              refine own_callS X485 hx hZ (rm_fin l Z a0 hw [] (sg + (-7046029254386353131 : Int64)) T481.heap n0) hown (own_t hw 23 rfl) (own_t hw 24 rfl) (own_t hw 25 rfl) (own_t hw 26 rfl) (by decide) (W := 0) (by decide) (by decide) (by rw [hml]; rfl) (argsL := [(.long (sg + (-7046029254386353131 : Int64)))]) (rest := []) rfl (lenOf own_pd14 rfl) rfl (Nat.le_of_eq rfl) (hb hby at_183) e485 (by decide) (by decide) ?_
              intro v486 T486 L486 X486 hQ486
              obtain ⟨hv486, N486q, e486⟩ := hQ486
              subst hv486
              have N486 := Fr.app N485 N486q
              show own_Go p.tables e below (T486.setTop (mkF m 186 #[.val (.long p1), .second, .val (.int p2), .val (.int p3), .val (.int c0), .val (.int c1), .val (.int c2), .val (.int (((p3.toUInt32 >>> ((16 : Int32) &&& 31).toUInt32).toInt32) &&& (3 : Int32))), .val (.ref b444), .val (.long nm), .second, .val (.ref b448), .val (.long sg), .second, .unset, .unset, .unset, .unset, .unset, .unset, .unset, .unset, .unset] [(.long (own_mx (sg + (-7046029254386353131 : Int64))))])) _
              refine own_lstore X486 hx hby at_186 (pc' := 188) rfl (Ls' := #[.val (.long p1), .second, .val (.int p2), .val (.int p3), .val (.int c0), .val (.int c1), .val (.int c2), .val (.int (((p3.toUInt32 >>> ((16 : Int32) &&& 31).toUInt32).toInt32) &&& (3 : Int32))), .val (.ref b444), .val (.long nm), .second, .val (.ref b448), .val (.long sg), .second, .val (.long (own_mx (sg + (-7046029254386353131 : Int64)))), .second, .unset, .unset, .unset, .unset, .unset, .unset, .unset]) rfl ?_
              refine own_lload X486 hx hby at_188 (pc' := 190) rfl rfl ?_
              refine own_ldc2 X486 hx hby at_190 (pc' := 193) rfl hZ hown (own_t hw 29 rfl) ?_
              refine own_ladd X486 hx hby at_193 (pc' := 194) rfl rfl ?_
              refine own_ldc2 X486 hx hby at_194 (pc' := 197) rfl hZ hown (own_t hw 29 rfl) ?_
              refine own_ladd X486 hx hby at_197 (pc' := 198) rfl rfl ?_
              refine own_callS X486 hx hZ (rm_fin l Z a0 hw [] ((sg + (-7046029254386353131 : Int64)) + (-7046029254386353131 : Int64)) T481.heap n0) hown (own_t hw 23 rfl) (own_t hw 24 rfl) (own_t hw 25 rfl) (own_t hw 26 rfl) (by decide) (W := 0) (by decide) (by decide) (by rw [hml]; rfl) (argsL := [(.long ((sg + (-7046029254386353131 : Int64)) + (-7046029254386353131 : Int64)))]) (rest := []) rfl (lenOf own_pd14 rfl) rfl (Nat.le_of_eq rfl) (hb hby at_198) e486 (by decide) (by decide) ?_
              intro v487 T487 L487 X487 hQ487
              obtain ⟨hv487, N487q, e487⟩ := hQ487
              subst hv487
              have N487 := Fr.app N486 N487q
              show own_Go p.tables e below (T487.setTop (mkF m 201 #[.val (.long p1), .second, .val (.int p2), .val (.int p3), .val (.int c0), .val (.int c1), .val (.int c2), .val (.int (((p3.toUInt32 >>> ((16 : Int32) &&& 31).toUInt32).toInt32) &&& (3 : Int32))), .val (.ref b444), .val (.long nm), .second, .val (.ref b448), .val (.long sg), .second, .val (.long (own_mx (sg + (-7046029254386353131 : Int64)))), .second, .unset, .unset, .unset, .unset, .unset, .unset, .unset] [(.long (own_mx ((sg + (-7046029254386353131 : Int64)) + (-7046029254386353131 : Int64))))])) _
              refine own_lstore X487 hx hby at_201 (pc' := 203) rfl (Ls' := #[.val (.long p1), .second, .val (.int p2), .val (.int p3), .val (.int c0), .val (.int c1), .val (.int c2), .val (.int (((p3.toUInt32 >>> ((16 : Int32) &&& 31).toUInt32).toInt32) &&& (3 : Int32))), .val (.ref b444), .val (.long nm), .second, .val (.ref b448), .val (.long sg), .second, .val (.long (own_mx (sg + (-7046029254386353131 : Int64)))), .second, .val (.long (own_mx ((sg + (-7046029254386353131 : Int64)) + (-7046029254386353131 : Int64)))), .second, .unset, .unset, .unset, .unset, .unset]) rfl ?_
              refine own_lloadN X487 hx hby at_203 (pc' := 204) rfl rfl ?_
              refine own_aload X487 hx hby at_204 (pc' := 206) rfl rfl rfl ?_
              refine own_callS X487 hx hZ (rm_of3_1 l Z a0 hw [] p1 b448 t481 c0 c1 c2 gS fm T481.heap n0 (c483) S_S hS S_A S_H S_L S_F hfm (E481) (C481) (V481) (A481) hb0 hb1 hb2 ) hown (own_t hw 30 rfl) (own_t hw 31 rfl) (own_t hw 32 rfl) (own_t hw 33 rfl) (by decide) (W := 0) (by decide) (by decide) (by rw [hml]; rfl) (argsL := [(.long p1), (.ref b448)]) (rest := []) rfl (lenOf own_pd19 rfl) rfl (Nat.le_of_eq rfl) (hb hby at_206) e487 (by decide) (by decide) ?_
              intro v488 T488 L488 X488 hQ488
              obtain ⟨b488, hv488, N488q, K488, g488, E488, F488⟩ := hQ488
              rw [hnm, hsg] at F488
              subst hv488
              have N488 := Fr.app N487 N488q
              have l488 : n0 ≤ b488 := (Nat.le_trans Z0 (Nat.le_trans (Nat.le_trans (Nat.le_trans (Nat.le_trans (Nat.le_trans (Nat.le_trans (Nat.le_trans (Nat.le_refl _) E444.1) (Nat.le_of_eq (Wr.size W445).symm)) (Nat.le_of_eq (Wr.size W446).symm)) (Nat.le_of_eq (Wr.size W447).symm)) E448.1) K481.1) g488))
              have c489 := (c482.keep K488 all0)
              have c490 := (c483.keep K488 all0)
              show own_Go p.tables e below (T488.setTop (mkF m 209 #[.val (.long p1), .second, .val (.int p2), .val (.int p3), .val (.int c0), .val (.int c1), .val (.int c2), .val (.int (((p3.toUInt32 >>> ((16 : Int32) &&& 31).toUInt32).toInt32) &&& (3 : Int32))), .val (.ref b444), .val (.long nm), .second, .val (.ref b448), .val (.long sg), .second, .val (.long (own_mx (sg + (-7046029254386353131 : Int64)))), .second, .val (.long (own_mx ((sg + (-7046029254386353131 : Int64)) + (-7046029254386353131 : Int64)))), .second, .unset, .unset, .unset, .unset, .unset] [(.ref b488)])) _
              refine own_astore X488 hx hby at_209 (pc' := 211) rfl rfl (Ls' := #[.val (.long p1), .second, .val (.int p2), .val (.int p3), .val (.int c0), .val (.int c1), .val (.int c2), .val (.int (((p3.toUInt32 >>> ((16 : Int32) &&& 31).toUInt32).toInt32) &&& (3 : Int32))), .val (.ref b444), .val (.long nm), .second, .val (.ref b448), .val (.long sg), .second, .val (.long (own_mx (sg + (-7046029254386353131 : Int64)))), .second, .val (.long (own_mx ((sg + (-7046029254386353131 : Int64)) + (-7046029254386353131 : Int64)))), .second, .val (.ref b488), .unset, .unset, .unset, .unset]) rfl ?_
              refine own_aload X488 hx hby at_211 (pc' := 213) rfl rfl rfl ?_
              refine own_callV X488 hx hZ (rm_nx l Z a0 hw [] b488 sg T488.heap n0 (c490) (E488) (F488) l488) hown (own_t hw 59 rfl) (own_t hw 60 rfl) (own_t hw 62 rfl) (own_t hw 61 rfl) (own_t hw 63 rfl) (own_t hw 32 rfl) (by decide) E488 (W := 0) (by decide) (by decide) (by rw [hml]; rfl) (argsL := []) (rest := []) rfl (lenOf own_pd20 rfl) rfl (Nat.le_of_eq rfl) (hb hby at_213) rfl (by decide) (by decide) ?_
              intro v491 T491 L491 X491 hQ491
              obtain ⟨hv491, N491q, K491, E491, F491⟩ := hQ491
              subst hv491
              have N491 := Fr.app N488 N491q
              have c492 := (c489.keep K491 (allS (Safe.exa (c489).1.alike E488 (by decide) (by decide)) all0))
              have c493 := (c490.keep K491 (allS l488 all0))
              show own_Go p.tables e below (T491.setTop (mkF m 216 #[.val (.long p1), .second, .val (.int p2), .val (.int p3), .val (.int c0), .val (.int c1), .val (.int c2), .val (.int (((p3.toUInt32 >>> ((16 : Int32) &&& 31).toUInt32).toInt32) &&& (3 : Int32))), .val (.ref b444), .val (.long nm), .second, .val (.ref b448), .val (.long sg), .second, .val (.long (own_mx (sg + (-7046029254386353131 : Int64)))), .second, .val (.long (own_mx ((sg + (-7046029254386353131 : Int64)) + (-7046029254386353131 : Int64)))), .second, .val (.ref b488), .unset, .unset, .unset, .unset] [(.long (own_mx (sg + (-7046029254386353131 : Int64))))])) _
              refine own_lstore X491 hx hby at_216 (pc' := 218) rfl (Ls' := #[.val (.long p1), .second, .val (.int p2), .val (.int p3), .val (.int c0), .val (.int c1), .val (.int c2), .val (.int (((p3.toUInt32 >>> ((16 : Int32) &&& 31).toUInt32).toInt32) &&& (3 : Int32))), .val (.ref b444), .val (.long nm), .second, .val (.ref b448), .val (.long sg), .second, .val (.long (own_mx (sg + (-7046029254386353131 : Int64)))), .second, .val (.long (own_mx ((sg + (-7046029254386353131 : Int64)) + (-7046029254386353131 : Int64)))), .second, .val (.ref b488), .val (.long (own_mx (sg + (-7046029254386353131 : Int64)))), .second, .unset, .unset]) rfl ?_
              refine own_aload X491 hx hby at_218 (pc' := 220) rfl rfl rfl ?_
              refine own_callV X491 hx hZ (rm_nx l Z a0 hw [] b488 (sg + (-7046029254386353131 : Int64)) T491.heap n0 (c493) (E491) (F491) l488) hown (own_t hw 59 rfl) (own_t hw 60 rfl) (own_t hw 62 rfl) (own_t hw 61 rfl) (own_t hw 63 rfl) (own_t hw 32 rfl) (by decide) E491 (W := 0) (by decide) (by decide) (by rw [hml]; rfl) (argsL := []) (rest := []) rfl (lenOf own_pd20 rfl) rfl (Nat.le_of_eq rfl) (hb hby at_220) rfl (by decide) (by decide) ?_
              intro v494 T494 L494 X494 hQ494
              obtain ⟨hv494, N494q, K494, E494, F494⟩ := hQ494
              subst hv494
              have N494 := Fr.app N491 N494q
              have c495 := (c492.keep K494 (allS (Safe.exa (c492).1.alike E491 (by decide) (by decide)) all0))
              have c496 := (c493.keep K494 (allS l488 all0))
              show own_Go p.tables e below (T494.setTop (mkF m 223 #[.val (.long p1), .second, .val (.int p2), .val (.int p3), .val (.int c0), .val (.int c1), .val (.int c2), .val (.int (((p3.toUInt32 >>> ((16 : Int32) &&& 31).toUInt32).toInt32) &&& (3 : Int32))), .val (.ref b444), .val (.long nm), .second, .val (.ref b448), .val (.long sg), .second, .val (.long (own_mx (sg + (-7046029254386353131 : Int64)))), .second, .val (.long (own_mx ((sg + (-7046029254386353131 : Int64)) + (-7046029254386353131 : Int64)))), .second, .val (.ref b488), .val (.long (own_mx (sg + (-7046029254386353131 : Int64)))), .second, .unset, .unset] [(.long (own_mx ((sg + (-7046029254386353131 : Int64)) + (-7046029254386353131 : Int64))))])) _
              refine own_lstore X494 hx hby at_223 (pc' := 225) rfl (Ls' := #[.val (.long p1), .second, .val (.int p2), .val (.int p3), .val (.int c0), .val (.int c1), .val (.int c2), .val (.int (((p3.toUInt32 >>> ((16 : Int32) &&& 31).toUInt32).toInt32) &&& (3 : Int32))), .val (.ref b444), .val (.long nm), .second, .val (.ref b448), .val (.long sg), .second, .val (.long (own_mx (sg + (-7046029254386353131 : Int64)))), .second, .val (.long (own_mx ((sg + (-7046029254386353131 : Int64)) + (-7046029254386353131 : Int64)))), .second, .val (.ref b488), .val (.long (own_mx (sg + (-7046029254386353131 : Int64)))), .second, .val (.long (own_mx ((sg + (-7046029254386353131 : Int64)) + (-7046029254386353131 : Int64)))), .second]) rfl ?_
              refine own_lload X494 hx hby at_225 (pc' := 227) rfl rfl ?_
              refine own_lload X494 hx hby at_227 (pc' := 229) rfl rfl ?_
              refine own_lcmp X494 hx hby at_229 (pc' := 230) rfl ?_
              refine own_ifNo X494 hx hby at_230 (pc' := 233) rfl (teq ((lw_eq (own_mx (sg + (-7046029254386353131 : Int64))) (own_mx (sg + (-7046029254386353131 : Int64)))).mpr rfl)).2 ?_
              refine own_lload X494 hx hby at_233 (pc' := 235) rfl rfl ?_
              refine own_lload X494 hx hby at_235 (pc' := 237) rfl rfl ?_
              refine own_lcmp X494 hx hby at_237 (pc' := 238) rfl ?_
              refine own_ifNo X494 hx hby at_238 (pc' := 241) rfl (teq ((lw_eq (own_mx ((sg + (-7046029254386353131 : Int64)) + (-7046029254386353131 : Int64))) (own_mx ((sg + (-7046029254386353131 : Int64)) + (-7046029254386353131 : Int64)))).mpr rfl)).2 ?_
              refine own_iconst X494 hx hby at_241 (pc' := 242) rfl (z := (1 : Int32)) (by decide) ?_
              refine own_goto X494 hx hby at_242 (pc' := 246) (by decide) ?_
              exact own_retZW (t := .boolean) X494 hx hEL (c495) rfl hret (by simp) (hb hby at_246) hlk (by decide) (by decide) ⟨congrArg (fun z => some (Value.int z)) (own_nar1), N494⟩
            · skip
              refine own_callSp X448 hx hZ (rm_i1_3_3 l Z a0 hw [] b448 b444 c0 c1 c2 gS h448 n0 ((((((O_0.ext E444).wr W445 l444).wr W446 l444).wr W447 l444).ext E448)) S_S hS S_A S_H S_L (A448) (F448_value) (F448_coder) l448 ((B447.ext E448)) hk0 hk1 hk2) rfl hown (own_t hw 5 rfl) (own_t hw 6 rfl) (own_t hw 7 rfl) (own_t hw 4 rfl) (by decide) (W := 1) (by decide) (by decide) (by rw [hml]; rfl) (argsL := [(.ref b444)]) (rest := [(.ref b448)]) rfl (lenOf own_pd18 rfl) rfl (Nat.le_of_eq rfl) (hb hby at_156) e448 (by decide) (by decide) ?_
              intro v497 T497 L497 X497 hQ497
              obtain ⟨hv497, N497q, K497, E497, C497, t497, V497, A497⟩ := hQ497
              subst hv497
              have N497 := Fr.app N447 N497q
              have c498 := ((((((W0.ext E444).wr W445 (own_Ar.safe A444 ((W0.ext E444)).1.alike (by first | decide | (intro q; cases q)))).wr W446 (own_Ar.safe B445 (((W0.ext E444).wr W445 (own_Ar.safe A444 ((W0.ext E444)).1.alike (by first | decide | (intro q; cases q))))).1.alike (by first | decide | (intro q; cases q)))).wr W447 (own_Ar.safe B446 ((((W0.ext E444).wr W445 (own_Ar.safe A444 ((W0.ext E444)).1.alike (by first | decide | (intro q; cases q)))).wr W446 (own_Ar.safe B445 (((W0.ext E444).wr W445 (own_Ar.safe A444 ((W0.ext E444)).1.alike (by first | decide | (intro q; cases q))))).1.alike (by first | decide | (intro q; cases q))))).1.alike (by first | decide | (intro q; cases q)))).ext E448).keep K497 (allS (Safe.ext E448 (((((W0.ext E444).wr W445 (own_Ar.safe A444 ((W0.ext E444)).1.alike (by first | decide | (intro q; cases q)))).wr W446 (own_Ar.safe B445 (((W0.ext E444).wr W445 (own_Ar.safe A444 ((W0.ext E444)).1.alike (by first | decide | (intro q; cases q))))).1.alike (by first | decide | (intro q; cases q)))).wr W447 (own_Ar.safe B446 ((((W0.ext E444).wr W445 (own_Ar.safe A444 ((W0.ext E444)).1.alike (by first | decide | (intro q; cases q)))).wr W446 (own_Ar.safe B445 (((W0.ext E444).wr W445 (own_Ar.safe A444 ((W0.ext E444)).1.alike (by first | decide | (intro q; cases q))))).1.alike (by first | decide | (intro q; cases q))))).1.alike (by first | decide | (intro q; cases q))))).ch (Safe.new (Nat.le_of_eq g448.symm))) all0))
              have c499 := ((((((O_0.ext E444).wr W445 l444).wr W446 l444).wr W447 l444).ext E448).keep K497 (allS l448 all0))
              show own_Go p.tables e below (T497.setTop (mkF m 159 #[.val (.long p1), .second, .val (.int p2), .val (.int p3), .val (.int c0), .val (.int c1), .val (.int c2), .val (.int (((p3.toUInt32 >>> ((16 : Int32) &&& 31).toUInt32).toInt32) &&& (3 : Int32))), .val (.ref b444), .val (.long nm), .second, .unset, .unset, .unset, .unset, .unset, .unset, .unset, .unset, .unset, .unset, .unset, .unset] [(.ref b448)])) _
              refine own_astore X497 hx hby at_159 (pc' := 161) rfl rfl (Ls' := #[.val (.long p1), .second, .val (.int p2), .val (.int p3), .val (.int c0), .val (.int c1), .val (.int c2), .val (.int (((p3.toUInt32 >>> ((16 : Int32) &&& 31).toUInt32).toInt32) &&& (3 : Int32))), .val (.ref b444), .val (.long nm), .second, .val (.ref b448), .unset, .unset, .unset, .unset, .unset, .unset, .unset, .unset, .unset, .unset, .unset]) rfl ?_
              refine own_lloadN X497 hx hby at_161 (pc' := 162) rfl rfl ?_
              refine own_callS X497 hx hZ (rm_fin l Z a0 hw [] p1 T497.heap n0) hown (own_t hw 23 rfl) (own_t hw 24 rfl) (own_t hw 25 rfl) (own_t hw 26 rfl) (by decide) (W := 0) (by decide) (by decide) (by rw [hml]; rfl) (argsL := [(.long p1)]) (rest := []) rfl (lenOf own_pd14 rfl) rfl (Nat.le_of_eq rfl) (hb hby at_162) rfl (by decide) (by decide) ?_
              intro v500 T500 L500 X500 hQ500
              obtain ⟨hv500, N500q, e500⟩ := hQ500
              subst hv500
              have N500 := Fr.app N497 N500q
              show own_Go p.tables e below (T500.setTop (mkF m 165 #[.val (.long p1), .second, .val (.int p2), .val (.int p3), .val (.int c0), .val (.int c1), .val (.int c2), .val (.int (((p3.toUInt32 >>> ((16 : Int32) &&& 31).toUInt32).toInt32) &&& (3 : Int32))), .val (.ref b444), .val (.long nm), .second, .val (.ref b448), .unset, .unset, .unset, .unset, .unset, .unset, .unset, .unset, .unset, .unset, .unset] [(.long (own_mx p1))])) _
              refine own_lload X500 hx hby at_165 (pc' := 167) rfl rfl ?_
              refine own_ldc2 X500 hx hby at_167 (pc' := 170) rfl hZ hown (own_t hw 29 rfl) ?_
              refine own_ladd X500 hx hby at_170 (pc' := 171) rfl rfl ?_
              refine own_callS X500 hx hZ (rm_fin l Z a0 hw [] (nm + (-7046029254386353131 : Int64)) T497.heap n0) hown (own_t hw 23 rfl) (own_t hw 24 rfl) (own_t hw 25 rfl) (own_t hw 26 rfl) (by decide) (W := 2) (by decide) (by decide) (by rw [hml]; rfl) (argsL := [(.long (nm + (-7046029254386353131 : Int64)))]) (rest := [(.long (own_mx p1))]) rfl (lenOf own_pd14 rfl) rfl (Nat.le_of_eq rfl) (hb hby at_171) e500 (by decide) (by decide) ?_
              intro v501 T501 L501 X501 hQ501
              obtain ⟨hv501, N501q, e501⟩ := hQ501
              subst hv501
              have N501 := Fr.app N500 N501q
              show own_Go p.tables e below (T501.setTop (mkF m 174 #[.val (.long p1), .second, .val (.int p2), .val (.int p3), .val (.int c0), .val (.int c1), .val (.int c2), .val (.int (((p3.toUInt32 >>> ((16 : Int32) &&& 31).toUInt32).toInt32) &&& (3 : Int32))), .val (.ref b444), .val (.long nm), .second, .val (.ref b448), .unset, .unset, .unset, .unset, .unset, .unset, .unset, .unset, .unset, .unset, .unset] [(.long (own_mx (nm + (-7046029254386353131 : Int64)))), (.long (own_mx p1))])) _
              refine own_lxor X501 hx hby at_174 (pc' := 175) rfl rfl ?_
              refine own_lstore X501 hx hby at_175 (pc' := 177) rfl (Ls' := #[.val (.long p1), .second, .val (.int p2), .val (.int p3), .val (.int c0), .val (.int c1), .val (.int c2), .val (.int (((p3.toUInt32 >>> ((16 : Int32) &&& 31).toUInt32).toInt32) &&& (3 : Int32))), .val (.ref b444), .val (.long nm), .second, .val (.ref b448), .val (.long ((own_mx p1) ^^^ (own_mx (nm + (-7046029254386353131 : Int64))))), .second, .unset, .unset, .unset, .unset, .unset, .unset, .unset, .unset, .unset]) rfl ?_
              show own_Go p.tables e below (T501.setTop (mkF m 177 #[.val (.long p1), .second, .val (.int p2), .val (.int p3), .val (.int c0), .val (.int c1), .val (.int c2), .val (.int (((p3.toUInt32 >>> ((16 : Int32) &&& 31).toUInt32).toInt32) &&& (3 : Int32))), .val (.ref b444), .val (.long nm), .second, .val (.ref b448), .val (.long ((own_mx p1) ^^^ (own_mx (nm + (-7046029254386353131 : Int64))))), .second, .unset, .unset, .unset, .unset, .unset, .unset, .unset, .unset, .unset] [])) _
              generalize hsg : ((own_mx p1) ^^^ (own_mx (nm + (-7046029254386353131 : Int64)))) = sg
              show own_Go p.tables e below (T501.setTop (mkF m 177 #[.val (.long p1), .second, .val (.int p2), .val (.int p3), .val (.int c0), .val (.int c1), .val (.int c2), .val (.int (((p3.toUInt32 >>> ((16 : Int32) &&& 31).toUInt32).toInt32) &&& (3 : Int32))), .val (.ref b444), .val (.long nm), .second, .val (.ref b448), .val (.long sg), .second, .unset, .unset, .unset, .unset, .unset, .unset, .unset, .unset, .unset] [])) _
              refine own_lload X501 hx hby at_177 (pc' := 179) rfl rfl ?_
              refine own_ldc2 X501 hx hby at_179 (pc' := 182) rfl hZ hown (own_t hw 29 rfl) ?_
              refine own_ladd X501 hx hby at_182 (pc' := 183) rfl rfl ?_
              refine own_callS X501 hx hZ (rm_fin l Z a0 hw [] (sg + (-7046029254386353131 : Int64)) T497.heap n0) hown (own_t hw 23 rfl) (own_t hw 24 rfl) (own_t hw 25 rfl) (own_t hw 26 rfl) (by decide) (W := 0) (by decide) (by decide) (by rw [hml]; rfl) (argsL := [(.long (sg + (-7046029254386353131 : Int64)))]) (rest := []) rfl (lenOf own_pd14 rfl) rfl (Nat.le_of_eq rfl) (hb hby at_183) e501 (by decide) (by decide) ?_
              intro v502 T502 L502 X502 hQ502
              obtain ⟨hv502, N502q, e502⟩ := hQ502
              subst hv502
              have N502 := Fr.app N501 N502q
              show own_Go p.tables e below (T502.setTop (mkF m 186 #[.val (.long p1), .second, .val (.int p2), .val (.int p3), .val (.int c0), .val (.int c1), .val (.int c2), .val (.int (((p3.toUInt32 >>> ((16 : Int32) &&& 31).toUInt32).toInt32) &&& (3 : Int32))), .val (.ref b444), .val (.long nm), .second, .val (.ref b448), .val (.long sg), .second, .unset, .unset, .unset, .unset, .unset, .unset, .unset, .unset, .unset] [(.long (own_mx (sg + (-7046029254386353131 : Int64))))])) _
              refine own_lstore X502 hx hby at_186 (pc' := 188) rfl (Ls' := #[.val (.long p1), .second, .val (.int p2), .val (.int p3), .val (.int c0), .val (.int c1), .val (.int c2), .val (.int (((p3.toUInt32 >>> ((16 : Int32) &&& 31).toUInt32).toInt32) &&& (3 : Int32))), .val (.ref b444), .val (.long nm), .second, .val (.ref b448), .val (.long sg), .second, .val (.long (own_mx (sg + (-7046029254386353131 : Int64)))), .second, .unset, .unset, .unset, .unset, .unset, .unset, .unset]) rfl ?_
              refine own_lload X502 hx hby at_188 (pc' := 190) rfl rfl ?_
              refine own_ldc2 X502 hx hby at_190 (pc' := 193) rfl hZ hown (own_t hw 29 rfl) ?_
              refine own_ladd X502 hx hby at_193 (pc' := 194) rfl rfl ?_
              refine own_ldc2 X502 hx hby at_194 (pc' := 197) rfl hZ hown (own_t hw 29 rfl) ?_
              refine own_ladd X502 hx hby at_197 (pc' := 198) rfl rfl ?_
              refine own_callS X502 hx hZ (rm_fin l Z a0 hw [] ((sg + (-7046029254386353131 : Int64)) + (-7046029254386353131 : Int64)) T497.heap n0) hown (own_t hw 23 rfl) (own_t hw 24 rfl) (own_t hw 25 rfl) (own_t hw 26 rfl) (by decide) (W := 0) (by decide) (by decide) (by rw [hml]; rfl) (argsL := [(.long ((sg + (-7046029254386353131 : Int64)) + (-7046029254386353131 : Int64)))]) (rest := []) rfl (lenOf own_pd14 rfl) rfl (Nat.le_of_eq rfl) (hb hby at_198) e502 (by decide) (by decide) ?_
              intro v503 T503 L503 X503 hQ503
              obtain ⟨hv503, N503q, e503⟩ := hQ503
              subst hv503
              have N503 := Fr.app N502 N503q
              show own_Go p.tables e below (T503.setTop (mkF m 201 #[.val (.long p1), .second, .val (.int p2), .val (.int p3), .val (.int c0), .val (.int c1), .val (.int c2), .val (.int (((p3.toUInt32 >>> ((16 : Int32) &&& 31).toUInt32).toInt32) &&& (3 : Int32))), .val (.ref b444), .val (.long nm), .second, .val (.ref b448), .val (.long sg), .second, .val (.long (own_mx (sg + (-7046029254386353131 : Int64)))), .second, .unset, .unset, .unset, .unset, .unset, .unset, .unset] [(.long (own_mx ((sg + (-7046029254386353131 : Int64)) + (-7046029254386353131 : Int64))))])) _
              refine own_lstore X503 hx hby at_201 (pc' := 203) rfl (Ls' := #[.val (.long p1), .second, .val (.int p2), .val (.int p3), .val (.int c0), .val (.int c1), .val (.int c2), .val (.int (((p3.toUInt32 >>> ((16 : Int32) &&& 31).toUInt32).toInt32) &&& (3 : Int32))), .val (.ref b444), .val (.long nm), .second, .val (.ref b448), .val (.long sg), .second, .val (.long (own_mx (sg + (-7046029254386353131 : Int64)))), .second, .val (.long (own_mx ((sg + (-7046029254386353131 : Int64)) + (-7046029254386353131 : Int64)))), .second, .unset, .unset, .unset, .unset, .unset]) rfl ?_
              refine own_lloadN X503 hx hby at_203 (pc' := 204) rfl rfl ?_
              refine own_aload X503 hx hby at_204 (pc' := 206) rfl rfl rfl ?_
              refine own_callS X503 hx hZ (rm_of3_0 l Z a0 hw [] p1 b448 t497 c0 c1 c2 gS fm T497.heap n0 (c499) S_S hS S_A S_H S_L S_F hfm (E497) (C497) (V497) (A497) hb0 hb1 hb2 hk0 hk1 hk2) hown (own_t hw 30 rfl) (own_t hw 31 rfl) (own_t hw 32 rfl) (own_t hw 33 rfl) (by decide) (W := 0) (by decide) (by decide) (by rw [hml]; rfl) (argsL := [(.long p1), (.ref b448)]) (rest := []) rfl (lenOf own_pd19 rfl) rfl (Nat.le_of_eq rfl) (hb hby at_206) e503 (by decide) (by decide) ?_
              intro v504 T504 L504 X504 hQ504
              obtain ⟨b504, hv504, N504q, K504, g504, E504, F504⟩ := hQ504
              rw [hnm, hsg] at F504
              subst hv504
              have N504 := Fr.app N503 N504q
              have l504 : n0 ≤ b504 := (Nat.le_trans Z0 (Nat.le_trans (Nat.le_trans (Nat.le_trans (Nat.le_trans (Nat.le_trans (Nat.le_trans (Nat.le_trans (Nat.le_refl _) E444.1) (Nat.le_of_eq (Wr.size W445).symm)) (Nat.le_of_eq (Wr.size W446).symm)) (Nat.le_of_eq (Wr.size W447).symm)) E448.1) K497.1) g504))
              have c505 := (c498.keep K504 all0)
              have c506 := (c499.keep K504 all0)
              show own_Go p.tables e below (T504.setTop (mkF m 209 #[.val (.long p1), .second, .val (.int p2), .val (.int p3), .val (.int c0), .val (.int c1), .val (.int c2), .val (.int (((p3.toUInt32 >>> ((16 : Int32) &&& 31).toUInt32).toInt32) &&& (3 : Int32))), .val (.ref b444), .val (.long nm), .second, .val (.ref b448), .val (.long sg), .second, .val (.long (own_mx (sg + (-7046029254386353131 : Int64)))), .second, .val (.long (own_mx ((sg + (-7046029254386353131 : Int64)) + (-7046029254386353131 : Int64)))), .second, .unset, .unset, .unset, .unset, .unset] [(.ref b504)])) _
              refine own_astore X504 hx hby at_209 (pc' := 211) rfl rfl (Ls' := #[.val (.long p1), .second, .val (.int p2), .val (.int p3), .val (.int c0), .val (.int c1), .val (.int c2), .val (.int (((p3.toUInt32 >>> ((16 : Int32) &&& 31).toUInt32).toInt32) &&& (3 : Int32))), .val (.ref b444), .val (.long nm), .second, .val (.ref b448), .val (.long sg), .second, .val (.long (own_mx (sg + (-7046029254386353131 : Int64)))), .second, .val (.long (own_mx ((sg + (-7046029254386353131 : Int64)) + (-7046029254386353131 : Int64)))), .second, .val (.ref b504), .unset, .unset, .unset, .unset]) rfl ?_
              refine own_aload X504 hx hby at_211 (pc' := 213) rfl rfl rfl ?_
              refine own_callV X504 hx hZ (rm_nx l Z a0 hw [] b504 sg T504.heap n0 (c506) (E504) (F504) l504) hown (own_t hw 59 rfl) (own_t hw 60 rfl) (own_t hw 62 rfl) (own_t hw 61 rfl) (own_t hw 63 rfl) (own_t hw 32 rfl) (by decide) E504 (W := 0) (by decide) (by decide) (by rw [hml]; rfl) (argsL := []) (rest := []) rfl (lenOf own_pd20 rfl) rfl (Nat.le_of_eq rfl) (hb hby at_213) rfl (by decide) (by decide) ?_
              intro v507 T507 L507 X507 hQ507
              obtain ⟨hv507, N507q, K507, E507, F507⟩ := hQ507
              subst hv507
              have N507 := Fr.app N504 N507q
              have c508 := (c505.keep K507 (allS (Safe.exa (c505).1.alike E504 (by decide) (by decide)) all0))
              have c509 := (c506.keep K507 (allS l504 all0))
              show own_Go p.tables e below (T507.setTop (mkF m 216 #[.val (.long p1), .second, .val (.int p2), .val (.int p3), .val (.int c0), .val (.int c1), .val (.int c2), .val (.int (((p3.toUInt32 >>> ((16 : Int32) &&& 31).toUInt32).toInt32) &&& (3 : Int32))), .val (.ref b444), .val (.long nm), .second, .val (.ref b448), .val (.long sg), .second, .val (.long (own_mx (sg + (-7046029254386353131 : Int64)))), .second, .val (.long (own_mx ((sg + (-7046029254386353131 : Int64)) + (-7046029254386353131 : Int64)))), .second, .val (.ref b504), .unset, .unset, .unset, .unset] [(.long (own_mx (sg + (-7046029254386353131 : Int64))))])) _
              refine own_lstore X507 hx hby at_216 (pc' := 218) rfl (Ls' := #[.val (.long p1), .second, .val (.int p2), .val (.int p3), .val (.int c0), .val (.int c1), .val (.int c2), .val (.int (((p3.toUInt32 >>> ((16 : Int32) &&& 31).toUInt32).toInt32) &&& (3 : Int32))), .val (.ref b444), .val (.long nm), .second, .val (.ref b448), .val (.long sg), .second, .val (.long (own_mx (sg + (-7046029254386353131 : Int64)))), .second, .val (.long (own_mx ((sg + (-7046029254386353131 : Int64)) + (-7046029254386353131 : Int64)))), .second, .val (.ref b504), .val (.long (own_mx (sg + (-7046029254386353131 : Int64)))), .second, .unset, .unset]) rfl ?_
              refine own_aload X507 hx hby at_218 (pc' := 220) rfl rfl rfl ?_
              refine own_callV X507 hx hZ (rm_nx l Z a0 hw [] b504 (sg + (-7046029254386353131 : Int64)) T507.heap n0 (c509) (E507) (F507) l504) hown (own_t hw 59 rfl) (own_t hw 60 rfl) (own_t hw 62 rfl) (own_t hw 61 rfl) (own_t hw 63 rfl) (own_t hw 32 rfl) (by decide) E507 (W := 0) (by decide) (by decide) (by rw [hml]; rfl) (argsL := []) (rest := []) rfl (lenOf own_pd20 rfl) rfl (Nat.le_of_eq rfl) (hb hby at_220) rfl (by decide) (by decide) ?_
              intro v510 T510 L510 X510 hQ510
              obtain ⟨hv510, N510q, K510, E510, F510⟩ := hQ510
              subst hv510
              have N510 := Fr.app N507 N510q
              have c511 := (c508.keep K510 (allS (Safe.exa (c508).1.alike E507 (by decide) (by decide)) all0))
              have c512 := (c509.keep K510 (allS l504 all0))
              show own_Go p.tables e below (T510.setTop (mkF m 223 #[.val (.long p1), .second, .val (.int p2), .val (.int p3), .val (.int c0), .val (.int c1), .val (.int c2), .val (.int (((p3.toUInt32 >>> ((16 : Int32) &&& 31).toUInt32).toInt32) &&& (3 : Int32))), .val (.ref b444), .val (.long nm), .second, .val (.ref b448), .val (.long sg), .second, .val (.long (own_mx (sg + (-7046029254386353131 : Int64)))), .second, .val (.long (own_mx ((sg + (-7046029254386353131 : Int64)) + (-7046029254386353131 : Int64)))), .second, .val (.ref b504), .val (.long (own_mx (sg + (-7046029254386353131 : Int64)))), .second, .unset, .unset] [(.long (own_mx ((sg + (-7046029254386353131 : Int64)) + (-7046029254386353131 : Int64))))])) _
              refine own_lstore X510 hx hby at_223 (pc' := 225) rfl (Ls' := #[.val (.long p1), .second, .val (.int p2), .val (.int p3), .val (.int c0), .val (.int c1), .val (.int c2), .val (.int (((p3.toUInt32 >>> ((16 : Int32) &&& 31).toUInt32).toInt32) &&& (3 : Int32))), .val (.ref b444), .val (.long nm), .second, .val (.ref b448), .val (.long sg), .second, .val (.long (own_mx (sg + (-7046029254386353131 : Int64)))), .second, .val (.long (own_mx ((sg + (-7046029254386353131 : Int64)) + (-7046029254386353131 : Int64)))), .second, .val (.ref b504), .val (.long (own_mx (sg + (-7046029254386353131 : Int64)))), .second, .val (.long (own_mx ((sg + (-7046029254386353131 : Int64)) + (-7046029254386353131 : Int64)))), .second]) rfl ?_
              refine own_lload X510 hx hby at_225 (pc' := 227) rfl rfl ?_
              refine own_lload X510 hx hby at_227 (pc' := 229) rfl rfl ?_
              refine own_lcmp X510 hx hby at_229 (pc' := 230) rfl ?_
              refine own_ifNo X510 hx hby at_230 (pc' := 233) rfl (teq ((lw_eq (own_mx (sg + (-7046029254386353131 : Int64))) (own_mx (sg + (-7046029254386353131 : Int64)))).mpr rfl)).2 ?_
              refine own_lload X510 hx hby at_233 (pc' := 235) rfl rfl ?_
              refine own_lload X510 hx hby at_235 (pc' := 237) rfl rfl ?_
              refine own_lcmp X510 hx hby at_237 (pc' := 238) rfl ?_
              refine own_ifNo X510 hx hby at_238 (pc' := 241) rfl (teq ((lw_eq (own_mx ((sg + (-7046029254386353131 : Int64)) + (-7046029254386353131 : Int64))) (own_mx ((sg + (-7046029254386353131 : Int64)) + (-7046029254386353131 : Int64)))).mpr rfl)).2 ?_
              refine own_iconst X510 hx hby at_241 (pc' := 242) rfl (z := (1 : Int32)) (by decide) ?_
              refine own_goto X510 hx hby at_242 (pc' := 246) (by decide) ?_
              exact own_retZW (t := .boolean) X510 hx hEL (c511) rfl hret (by simp) (hb hby at_246) hlk (by decide) (by decide) ⟨congrArg (fun z => some (Value.int z)) (own_nar1), N510⟩
theorem own_neI {args : Array Value} {s first : State} {o : Option Outcome} {idx : List Nat} {a : Term} {x k : Int32} (ev : a.eval args first o idx s = some (.int x)) (q : (Jvm.Cond.not (.eq a (.int k))).value args first o s idx = some true) : ¬ x = k := by
  have h := not_v q
  simpa [Cond.value, Term.eval, ev] using h
set_option maxRecDepth 65536 in
set_option maxHeartbeats 40000000 in
theorem comes_1 {Post : Tables → Env → Array Value → State → Outcome → State → Prop} (hpost : ∀ tb e args s v u, (limb_1_1.after args s (.returned v) u = true ∧ limb_1_2.after args s (.returned v) u = true ∧ True) → ReturnedEndW s (.returned v) u (Jvm.fieldLocs frame_1_writes args s ++ Jvm.arrayLocs frame_1_arrays args s ++ Jvm.staticLocs frame_1_statics s) 24 1152 → Post tb e args s (.returned v) u) :
    ArmFor flags0 classFile x code maxLocals ret World_1 tables_1 room_1 Calls_1 rest_1 Pre_1 Post := by
  intro l hfl _ _ p e ha hc hk s m args below hf hA hF happ hP
  obtain ⟨hcalls, hrest, hpre⟩ := hP
  obtain ⟨-, -, -, hnamed, -, -, -, hat⟩ := (Spec.applies_iff hf).mp happ
  obtain ⟨hg, hn⟩ := and_e (Cond.before_iff.mp (show (Jvm.Cond.and given_1 narrow_1).before args s = true from hpre))
  obtain ⟨g513, g514⟩ := and_e hg
  obtain ⟨g515, g516⟩ := and_e g514
  obtain ⟨g517, g518⟩ := and_e g516
  obtain ⟨w0, w1, w2, rfl⟩ : ∃ w0 w1 w2 : Value, args = #[w0, w1, w2] := by
    have hs : args.size = 3 := by simpa [Cond.value, given_1] using g513
    obtain ⟨L⟩ := args
    match L, hs with
    | [w0, w1, w2], _ => exact ⟨w0, w1, w2, rfl⟩
  have hw := fun d (hd : d ∈ tables_1) => atoms_spec (ws := Jvm.Cond.code x code maxLocals ret :: tables_1) hat d (List.mem_cons_of_mem _ hd)
  have hfit : Fit s := fun {y c} hc i hi => by
    obtain ⟨ha, rfl⟩ := Array.getElem?_eq_some_iff.mp hc
    have q := List.all_eq_true.mp ((Array.all_eq_true_iff_forall_mem.mp hF) _ (Array.getElem_mem ha)) i (List.mem_range.mpr hi)
    simpa [Array.getElem?_eq_getElem hi] using q
  obtain ⟨hsets, hown0⟩ := atoms_of _ (rest_1_c_eq ▸ (show rest_1_c.before _ s = true from hrest))
  have hr0 := Cond.before_iff.mp hown0
  obtain ⟨i0, ei0⟩ := isL_v g515
  obtain rfl : w0 = (.long i0) := Option.some.inj ei0
  obtain ⟨i1, ei1⟩ := is_v g517
  obtain rfl : w1 = (.int i1) := Option.some.inj ei1
  obtain ⟨i2, ei2⟩ := is_v g518
  obtain rfl : w2 = (.int i2) := Option.some.inj ei2
  obtain ⟨gS, ev_S⟩ := is_v (Cond.before_iff.mp (hsets _ (List.mem_of_getElem? (i := 1) rfl)))
  have S_S : Sta s s.heap "java/lang/String" "COMPACT_STRINGS" "Z" (.int gS) := Sta.start ev_S (Or.inl (hsets _ (List.mem_of_getElem? (i := 0) rfl)))
  have hS : ¬ gS = 0 := own_neI ev_S (Cond.before_iff.mp (hsets _ (List.mem_of_getElem? (i := 2) rfl)))
  obtain ⟨fm, ev_F, hfm⟩ := isR_v (Cond.before_iff.mp (hsets _ (List.mem_of_getElem? (i := 8) rfl)))
  have S_F : Sta s s.heap "jdk/internal/util/Preconditions" "SIOOBE_FORMATTER" "Ljava/util/function/BiFunction;" fm := Sta.start ev_F (Or.inl (hsets _ (List.mem_of_getElem? (i := 7) rfl)))
  have S_A : Sta s s.heap "java/lang/StringUTF16" "$assertionsDisabled" "Z" (.int (1 : Int32)) := Sta.start (own_eqI (Cond.before_iff.mp (hsets _ (List.mem_of_getElem? (i := 12) rfl)))) (Or.inl (hsets _ (List.mem_of_getElem? (i := 11) rfl)))
  have S_H : Sta s s.heap "java/lang/StringUTF16" "HI_BYTE_SHIFT" "I" (.int (0 : Int32)) := Sta.start (own_eqI (Cond.before_iff.mp (hsets _ (List.mem_of_getElem? (i := 15) rfl)))) (Or.inl (hsets _ (List.mem_of_getElem? (i := 14) rfl)))
  have S_L : Sta s s.heap "java/lang/StringUTF16" "LO_BYTE_SHIFT" "I" (.int (8 : Int32)) := Sta.start (own_eqI (Cond.before_iff.mp (hsets _ (List.mem_of_getElem? (i := 18) rfl)))) (Or.inl (hsets _ (List.mem_of_getElem? (i := 17) rfl)))
  have hEL : EW s _ own_EL := EW.cons (own_t hw 15 rfl) (by decide) EW.nil
  have hCH : CHv s own_EL s.vm s.heap := CHv.start hEL (fun q hq => hcalls.1 q hq) (hsets _ (List.mem_of_getElem? (i := 2) rfl)) (own_t hw 16 rfl) (own_t hw 3 rfl)
  obtain ⟨n, o, h1, h2, h3, _, L, rfl, ⟨rfl, N⟩, -, hq⟩ := rm0 l s _ hw tables_1 i0 i1 i2 gS fm s.heap s.heap.size hEL (Old.start s) S_S hS S_A S_H S_L S_F hfm p e ha hc hk s m _ below hf ((Spec.applies_iff_loose hf).mp happ).1 ⟨rfl, State.Warmed39.refl s, rfl, hCH⟩ trivial
  refine ⟨n, _, h1, h2, h3, hpost _ _ _ _ _ _ ⟨Cond.after_iff.mpr rfl, Cond.after_iff.mpr (eq_i res_at (Term.int_eval (1)) rfl), trivial⟩ ⟨hq.1, hq.2.1, hq.2.2.1, (hq.2.2.2.sift fun y hy => Or.inr (N y hy)).mono (by decide) (by decide)⟩⟩
theorem main_1_1 : Claimed_1_1 := comes_1 fun _ _ _ _ _ _ h hF => ⟨h.1, hF⟩
theorem main_1_2 : Claimed_1_2 := comes_1 fun _ _ _ _ _ _ h hF => ⟨h.2.1, hF⟩
end Jvm.Pilot.@@N@@
namespace Jvm.Pilot.@@N@@
open Jvm Jvm.ClassFile Sem Op Lib Jvm.Free Jvm.Stand Jvm.Pilot.@@N@@.Jvm.D
/-! MADE BY PROGRAM (witnessworld.py) out of the Statement's table words and the real class files: 20 classes; the members and pool entries that the words name. The judged class is class 1, her method 2. -/
namespace start1
open Jvm.ClassFile
def u (s : String) : CpInfo := .utf8 (stringToUtf16 s)
/-- a pool by its gaps: so many unusable entries, then the entry; so many at the end -/
def gap : Nat → List CpInfo → List CpInfo
  | 0, r => r
  | n + 1, r => .unusable :: gap n r
def poolList (es : List (Nat × CpInfo)) (last : Nat) : List CpInfo := es.foldr (fun e r => gap e.1 (e.2 :: r)) (gap last [])
def pool (es : List (Nat × CpInfo)) (last : Nat) : Array CpInfo := ⟨poolList es last⟩
def fileOf (pool : Array CpInfo) (this : Nat) (attrs : Array Attribute := #[]) (ms : Array MethodInfo := #[]) (fl : Nat := 33) (sup : Nat := 0) (ifs : Array Nat := #[]) (fds : Array FieldInfo := #[]) : ClassFile where
  minorVersion := 0
  majorVersion := 65
  constantPool := pool
  accessFlags := fl
  thisClass := this
  superClass := sup
  interfaces := ifs
  fields := fds
  methods := ms
  attributes := attrs
def plain (name : String) (sup : Option ClassId) : Class where
  name := name
  kind := .ordinary
  loader := none
  accessFlags := 33
  super := sup
  interfaces := #[]
  cf := none
  fields := #[]
  methods := #[]
  instanceTypes := #[]
  staticTypes := #[]
  resolved := #[]
  callSites := []
  init := .initialized
  statics := none
  mirror := none

def pool0 : Array CpInfo := pool [(5, u "<init>"), (0, u "()V"), (1, .class_ 10), (1, u "java/lang/Object")] 113

def k0c0 : Code := { maxStack := 0, maxLocals := 1, code := object_method_1_code, exceptionTable := #[], attributes := #[] }
def k0m0 : Method := { name := "<init>", desc := "()V", sig := { parameters := [], returnType := none }, accessFlags := 1, code := some k0c0 }
/-- java/lang/Object -/
def k0 : Class := { plain "java/lang/Object" none with
  accessFlags := 33
  interfaces := #[]
  cf := some (fileOf pool0 8 #[] #[{ accessFlags := 1, nameIndex := 5, descriptorIndex := 6, attributes := #[] }] 33 0 #[] #[])
  fields := #[]
  methods := #[k0m0]
  instanceTypes := #[]
  staticTypes := #[]
  resolved := Array.replicate 124 none
  statics := none }

def pool1 : Array CpInfo := pool [(2, .class_ 4), (1, u "java/lang/Object"), (0, u "<init>"), (0, u "()V"), (0, .long 13787848793156543929), (1, .long 10723151780598845931), (1, .integer 65535), (0, .long 31), (1, .long 961), (1, .class_ 17), (0, u "java/lang/String"), (0, .methodref 16 19), (0, .nameAndType 5 20), (0, u "([C)V"), (0, .methodref 22 23), (0, .class_ 24), (0, .nameAndType 25 26), (0, u "com/example/orbitwatch/orbitwatch/game/SeededRandomOfPinLaw"), (0, u "fin"), (0, u "(J)J"), (0, .long 11400714819323198485), (1, .methodref 30 31), (0, .class_ 32), (0, .nameAndType 33 34), (0, u "com/example/orbitwatch/orbitwatch/game/SeededRandom"), (0, u "of"), (0, u "(JLjava/lang/String;)Lcom/example/orbitwatch/orbitwatch/game/SeededRandom;"), (0, .methodref 30 36), (0, .nameAndType 37 38), (0, u "nextLong"), (0, u "()J"), (0, u "G"), (0, u "J"), (3, u "law"), (0, u "(JII)Z")] 5

def k1m0 : Method := { name := "<init>", desc := "()V", sig := { parameters := [], returnType := none }, accessFlags := 1, code := none }
def k1c1 : Code := { maxStack := 5, maxLocals := 6, code := method_2_code, exceptionTable := #[], attributes := #[] }
def k1m1 : Method := { name := "fin", desc := "(J)J", sig := { parameters := [.long], returnType := some .long }, accessFlags := 10, code := some k1c1 }
def k1c2 : Code := { maxStack := 6, maxLocals := 23, code := code, exceptionTable := #[], attributes := #[] }
def k1m2 : Method := { name := "law", desc := "(JII)Z", sig := { parameters := [.long, .int, .int], returnType := some .boolean }, accessFlags := 9, code := some k1c2 }
/-- com/example/orbitwatch/orbitwatch/game/SeededRandomOfPinLaw -/
def k1 : Class := { plain "com/example/orbitwatch/orbitwatch/game/SeededRandomOfPinLaw" (some 0) with
  accessFlags := 49
  interfaces := #[]
  cf := some (fileOf pool1 22 #[] #[{ accessFlags := 1, nameIndex := 5, descriptorIndex := 6, attributes := #[] }, { accessFlags := 10, nameIndex := 25, descriptorIndex := 26, attributes := #[] }, { accessFlags := 9, nameIndex := 44, descriptorIndex := 45, attributes := #[] }] 49 2 #[] #[{ accessFlags := 26, nameIndex := 39, descriptorIndex := 40, attributes := #[] }])
  fields := #[{ name := "G", type := .long, accessFlags := 26, slot := 0, constantValue := 0 }]
  methods := #[k1m0, k1m1, k1m2]
  instanceTypes := #[]
  staticTypes := #[.long]
  resolved := Array.replicate 51 none
  statics := none }

def pool2 : Array CpInfo := pool [(1, .class_ 2), (0, u "java/io/Serializable"), (0, .class_ 4), (0, u "java/lang/Object")] 2

/-- java/io/Serializable -/
def k2 : Class := { plain "java/io/Serializable" (some 0) with
  accessFlags := 1537
  interfaces := #[]
  cf := some (fileOf pool2 1 #[] #[] 1537 3 #[] #[])
  fields := #[]
  methods := #[]
  instanceTypes := #[]
  staticTypes := #[]
  resolved := Array.replicate 7 none
  statics := none }

def pool3 : Array CpInfo := pool [(1, .class_ 2), (0, u "java/lang/Comparable"), (0, .class_ 4), (0, u "java/lang/Object")] 7

/-- java/lang/Comparable -/
def k3 : Class := { plain "java/lang/Comparable" (some 0) with
  accessFlags := 1537
  interfaces := #[]
  cf := some (fileOf pool3 1 #[] #[] 1537 3 #[] #[])
  fields := #[]
  methods := #[]
  instanceTypes := #[]
  staticTypes := #[]
  resolved := Array.replicate 12 none
  statics := none }

def pool4 : Array CpInfo := pool [(2, .class_ 4), (1, u "java/lang/CharSequence"), (42, .class_ 48), (0, u "java/lang/CharSequence$1CodePointIterator"), (10, .class_ 60), (0, u "java/lang/CharSequence$1CharIterator"), (5, .class_ 67), (0, u "java/lang/Object")] 63

/-- java/lang/CharSequence -/
def k4 : Class := { plain "java/lang/CharSequence" (some 0) with
  accessFlags := 1537
  interfaces := #[]
  cf := some (fileOf pool4 2 #[.nestMembers #[47, 59]] #[] 1537 66 #[] #[])
  fields := #[]
  methods := #[]
  instanceTypes := #[]
  staticTypes := #[]
  resolved := Array.replicate 131 none
  statics := none }

def pool5 : Array CpInfo := pool [(1, .class_ 2), (0, u "java/lang/constant/Constable"), (0, .class_ 4), (0, u "java/lang/Object")] 6

/-- java/lang/constant/Constable -/
def k5 : Class := { plain "java/lang/constant/Constable" (some 0) with
  accessFlags := 1537
  interfaces := #[]
  cf := some (fileOf pool5 1 #[] #[] 1537 3 #[] #[])
  fields := #[]
  methods := #[]
  instanceTypes := #[]
  staticTypes := #[]
  resolved := Array.replicate 11 none
  statics := none }

def pool6 : Array CpInfo := pool [(1, .class_ 2), (0, u "java/lang/constant/ConstantDesc"), (0, .class_ 4), (0, u "java/lang/Object")] 32

/-- java/lang/constant/ConstantDesc -/
def k6 : Class := { plain "java/lang/constant/ConstantDesc" (some 0) with
  accessFlags := 1537
  interfaces := #[]
  cf := some (fileOf pool6 1 #[] #[] 1537 3 #[] #[])
  fields := #[]
  methods := #[]
  instanceTypes := #[]
  staticTypes := #[]
  resolved := Array.replicate 37 none
  statics := none }

def pool7 : Array CpInfo := pool [(1, .methodref 2 3), (0, .class_ 4), (0, .nameAndType 5 6), (0, u "java/lang/Object"), (0, u "<init>"), (0, u "()V"), (0, .string 8), (0, u ""), (0, .fieldref 10 11), (0, .class_ 12), (0, .nameAndType 13 14), (0, u "java/lang/String"), (0, u "value"), (0, u "[B"), (0, .fieldref 10 16), (0, .nameAndType 17 18), (0, u "coder"), (0, u "B"), (2, u "hash"), (0, u "I"), (2, u "hashIsZero"), (0, u "Z"), (0, .methodref 10 28), (0, .nameAndType 5 29), (0, u "([CIILjava/lang/Void;)V"), (8, .fieldref 10 39), (0, .nameAndType 40 26), (0, u "COMPACT_STRINGS"), (1, .class_ 44), (1, u "java/lang/StringUTF16"), (0, u "compress"), (1, .methodref 42 48), (0, .nameAndType 49 50), (0, u "coderFromArrayLen"), (0, u "([BI)B"), (56, .class_ 109), (1, u "java/lang/StringLatin1"), (32, u "()Z"), (34, .methodref 42 178), (0, .nameAndType 45 179), (0, u "([CII)[B"), (154, u "()I"), (0, .methodref 10 336), (0, .nameAndType 17 337), (0, u "()B"), (25, u "([BI)C"), (27, u "(II)V"), (35, u "(I)C"), (64, .methodref 10 493), (0, .nameAndType 494 142), (0, u "isLatin1"), (0, .methodref 107 496), (0, .nameAndType 497 363), (0, u "charAt"), (0, .methodref 42 496), (2, u "checkIndex"), (5, u "length"), (67, .class_ 576), (0, u "java/lang/CharSequence"), (22, u "CASE_INSENSITIVE_ORDER"), (0, u "Ljava/util/Comparator;"), (409, u "([C)V"), (42, .fieldref 1054 1055), (0, .class_ 1056), (0, .nameAndType 1057 1058), (0, u "jdk/internal/util/Preconditions"), (0, u "SIOOBE_FORMATTER"), (0, u "Ljava/util/function/BiFunction;"), (0, .methodref 1054 1060), (0, .nameAndType 501 1061), (0, u "(IILjava/util/function/BiFunction;)I"), (39, u "serialPersistentFields"), (0, u "[Ljava/io/ObjectStreamField;"), (0, .class_ 1104), (0, u "java/lang/String$CaseInsensitiveComparator"), (1, .class_ 1107), (0, u "java/io/Serializable"), (0, .class_ 1109), (0, u "java/lang/Comparable"), (0, .class_ 1111), (0, u "java/lang/constant/Constable"), (0, .class_ 1113), (0, u "java/lang/constant/ConstantDesc"), (2, u "serialVersionUID"), (0, u "J"), (3, u "REPL"), (0, u "C"), (2, u "LATIN1"), (1, u "UTF16")] 323

def k7m0 : Method := { name := "<init>", desc := "()V", sig := { parameters := [], returnType := none }, accessFlags := 1, code := none }
def k7c1 : Code := { maxStack := 5, maxLocals := 2, code := jdk_42_method_3_code, exceptionTable := #[], attributes := #[] }
def k7m1 : Method := { name := "<init>", desc := "([C)V", sig := { parameters := [(.array .char)], returnType := none }, accessFlags := 1, code := some k7c1 }
def k7c2 : Code := { maxStack := 2, maxLocals := 1, code := jdk_42_method_54_code, exceptionTable := #[], attributes := #[] }
def k7m2 : Method := { name := "length", desc := "()I", sig := { parameters := [], returnType := some .int }, accessFlags := 1, code := some k7c2 }
def k7c3 : Code := { maxStack := 2, maxLocals := 2, code := jdk_42_method_56_code, exceptionTable := #[], attributes := #[] }
def k7m3 : Method := { name := "charAt", desc := "(I)C", sig := { parameters := [.int], returnType := some .char }, accessFlags := 1, code := some k7c3 }
def k7c4 : Code := { maxStack := 4, maxLocals := 6, code := jdk_42_method_149_code, exceptionTable := #[], attributes := #[] }
def k7m4 : Method := { name := "<init>", desc := "([CIILjava/lang/Void;)V", sig := { parameters := [(.array .char), .int, .int, (.object "java/lang/Void")], returnType := none }, accessFlags := 2, code := some k7c4 }
def k7c5 : Code := { maxStack := 1, maxLocals := 1, code := jdk_42_method_152_code, exceptionTable := #[], attributes := #[] }
def k7m5 : Method := { name := "coder", desc := "()B", sig := { parameters := [], returnType := some .byte }, accessFlags := 0, code := some k7c5 }
def k7c6 : Code := { maxStack := 1, maxLocals := 1, code := jdk_42_method_154_code, exceptionTable := #[], attributes := #[] }
def k7m6 : Method := { name := "isLatin1", desc := "()Z", sig := { parameters := [], returnType := some .boolean }, accessFlags := 0, code := some k7c6 }
def k7c7 : Code := { maxStack := 3, maxLocals := 2, code := jdk_42_method_155_code, exceptionTable := #[], attributes := #[] }
def k7m7 : Method := { name := "checkIndex", desc := "(II)V", sig := { parameters := [.int, .int], returnType := none }, accessFlags := 8, code := some k7c7 }
/-- java/lang/String -/
def k7 : Class := { plain "java/lang/String" (some 0) with
  accessFlags := 49
  interfaces := #[2, 3, 4, 5, 6]
  cf := some (fileOf pool7 10 #[.nestMembers #[1103]] #[{ accessFlags := 1, nameIndex := 5, descriptorIndex := 6, attributes := #[] }, { accessFlags := 1, nameIndex := 5, descriptorIndex := 1010, attributes := #[] }, { accessFlags := 1, nameIndex := 507, descriptorIndex := 334, attributes := #[] }, { accessFlags := 1, nameIndex := 497, descriptorIndex := 427, attributes := #[] }, { accessFlags := 2, nameIndex := 5, descriptorIndex := 29, attributes := #[] }, { accessFlags := 0, nameIndex := 17, descriptorIndex := 337, attributes := #[] }, { accessFlags := 0, nameIndex := 494, descriptorIndex := 142, attributes := #[] }, { accessFlags := 8, nameIndex := 501, descriptorIndex := 391, attributes := #[] }] 49 2 #[1106, 1108, 575, 1110, 1112] #[{ accessFlags := 18, nameIndex := 13, descriptorIndex := 14, attributes := #[] }, { accessFlags := 18, nameIndex := 17, descriptorIndex := 18, attributes := #[] }, { accessFlags := 2, nameIndex := 21, descriptorIndex := 22, attributes := #[] }, { accessFlags := 2, nameIndex := 25, descriptorIndex := 26, attributes := #[] }, { accessFlags := 26, nameIndex := 1116, descriptorIndex := 1117, attributes := #[] }, { accessFlags := 24, nameIndex := 40, descriptorIndex := 26, attributes := #[] }, { accessFlags := 26, nameIndex := 1101, descriptorIndex := 1102, attributes := #[] }, { accessFlags := 26, nameIndex := 1121, descriptorIndex := 1122, attributes := #[] }, { accessFlags := 25, nameIndex := 599, descriptorIndex := 600, attributes := #[] }, { accessFlags := 24, nameIndex := 1125, descriptorIndex := 18, attributes := #[] }, { accessFlags := 24, nameIndex := 1127, descriptorIndex := 18, attributes := #[] }])
  fields := #[{ name := "value", type := (.array .byte), accessFlags := 18, slot := 0, constantValue := 0 }, { name := "coder", type := .byte, accessFlags := 18, slot := 1, constantValue := 0 }, { name := "hash", type := .int, accessFlags := 2, slot := 2, constantValue := 0 }, { name := "hashIsZero", type := .boolean, accessFlags := 2, slot := 3, constantValue := 0 }, { name := "serialVersionUID", type := .long, accessFlags := 26, slot := 0, constantValue := 0 }, { name := "COMPACT_STRINGS", type := .boolean, accessFlags := 24, slot := 1, constantValue := 0 }, { name := "serialPersistentFields", type := (.array (.object "java/io/ObjectStreamField")), accessFlags := 26, slot := 2, constantValue := 0 }, { name := "REPL", type := .char, accessFlags := 26, slot := 3, constantValue := 0 }, { name := "CASE_INSENSITIVE_ORDER", type := (.object "java/util/Comparator"), accessFlags := 25, slot := 4, constantValue := 0 }, { name := "LATIN1", type := .byte, accessFlags := 24, slot := 5, constantValue := 0 }, { name := "UTF16", type := .byte, accessFlags := 24, slot := 6, constantValue := 0 }]
  methods := #[k7m0, k7m1, k7m2, k7m3, k7m4, k7m5, k7m6, k7m7]
  instanceTypes := #[(.array .byte), .byte, .int, .boolean]
  staticTypes := #[.long, .boolean, (.array (.object "java/io/ObjectStreamField")), .char, (.object "java/util/Comparator"), .byte, .byte]
  resolved := Array.replicate 1451 none
  statics := some 0 }

def pool8 : Array CpInfo := pool [(1, .methodref 2 3), (0, .class_ 4), (0, .nameAndType 5 6), (0, u "java/lang/Object"), (0, u "<init>"), (0, u "()V"), (0, .fieldref 8 9), (0, .class_ 10), (0, .nameAndType 11 12), (0, u "com/example/orbitwatch/orbitwatch/game/SeededRandom"), (0, u "state"), (0, u "J"), (0, .methodref 14 15), (0, .class_ 16), (0, .nameAndType 17 18), (0, u "java/lang/String"), (0, u "length"), (0, u "()I"), (0, .long 31), (1, .methodref 14 22), (0, .nameAndType 23 24), (0, u "charAt"), (0, u "(I)C"), (0, .methodref 8 26), (0, .nameAndType 27 28), (0, u "mix"), (0, u "(J)J"), (0, .long 11400714819323198485), (1, .methodref 8 32), (0, .nameAndType 5 33), (0, u "(J)V"), (15, u "nextLong"), (0, u "()J"), (0, .long 13787848793156543929), (1, .long 10723151780598845931), (1, u "GOLDEN_GAMMA"), (3, u "of"), (0, u "(JLjava/lang/String;)Lcom/example/orbitwatch/orbitwatch/game/SeededRandom;")] 20

def k8c0 : Code := { maxStack := 3, maxLocals := 3, code := prog_45_method_1_code, exceptionTable := #[], attributes := #[] }
def k8m0 : Method := { name := "<init>", desc := "(J)V", sig := { parameters := [.long], returnType := none }, accessFlags := 2, code := some k8c0 }
def k8c1 : Code := { maxStack := 8, maxLocals := 6, code := prog_45_method_2_code, exceptionTable := #[], attributes := #[] }
def k8m1 : Method := { name := "of", desc := "(JLjava/lang/String;)Lcom/example/orbitwatch/orbitwatch/game/SeededRandom;", sig := { parameters := [.long, (.object "java/lang/String")], returnType := some (.object "com/example/orbitwatch/orbitwatch/game/SeededRandom") }, accessFlags := 8, code := some k8c1 }
def k8c2 : Code := { maxStack := 5, maxLocals := 1, code := prog_45_method_3_code, exceptionTable := #[], attributes := #[] }
def k8m2 : Method := { name := "nextLong", desc := "()J", sig := { parameters := [], returnType := some .long }, accessFlags := 0, code := some k8c2 }
def k8c3 : Code := { maxStack := 5, maxLocals := 2, code := prog_45_method_5_code, exceptionTable := #[], attributes := #[] }
def k8m3 : Method := { name := "mix", desc := "(J)J", sig := { parameters := [.long], returnType := some .long }, accessFlags := 10, code := some k8c3 }
/-- com/example/orbitwatch/orbitwatch/game/SeededRandom -/
def k8 : Class := { plain "com/example/orbitwatch/orbitwatch/game/SeededRandom" (some 0) with
  accessFlags := 48
  interfaces := #[]
  cf := some (fileOf pool8 8 #[] #[{ accessFlags := 2, nameIndex := 5, descriptorIndex := 33, attributes := #[] }, { accessFlags := 8, nameIndex := 59, descriptorIndex := 60, attributes := #[] }, { accessFlags := 0, nameIndex := 49, descriptorIndex := 50, attributes := #[] }, { accessFlags := 10, nameIndex := 27, descriptorIndex := 28, attributes := #[] }] 48 2 #[] #[{ accessFlags := 26, nameIndex := 55, descriptorIndex := 12, attributes := #[] }, { accessFlags := 2, nameIndex := 11, descriptorIndex := 12, attributes := #[] }])
  fields := #[{ name := "GOLDEN_GAMMA", type := .long, accessFlags := 26, slot := 0, constantValue := 0 }, { name := "state", type := .long, accessFlags := 2, slot := 0, constantValue := 0 }]
  methods := #[k8m0, k8m1, k8m2, k8m3]
  instanceTypes := #[.long]
  staticTypes := #[.long]
  resolved := Array.replicate 81 none
  statics := none }

def pool9 : Array CpInfo := pool [(3, .class_ 4), (0, u "java/lang/String"), (1, .class_ 8), (1, u "java/lang/Object"), (0, u "<init>"), (0, u "()V"), (0, .methodref 12 13), (0, .class_ 14), (0, .nameAndType 15 16), (0, u "java/lang/StringUTF16"), (0, u "newBytesLength"), (0, u "(I)I"), (3, .integer 1073741823), (23, .fieldref 12 45), (0, .nameAndType 46 47), (0, u "$assertionsDisabled"), (0, u "Z"), (0, .methodref 12 49), (0, .nameAndType 50 51), (0, u "length"), (0, u "([B)I"), (7, .fieldref 12 60), (0, .nameAndType 61 62), (0, u "HI_BYTE_SHIFT"), (0, u "I"), (0, .fieldref 12 64), (0, .nameAndType 65 62), (0, u "LO_BYTE_SHIFT"), (1, .methodref 12 68), (0, .nameAndType 69 70), (0, u "checkIndex"), (0, u "(I[B)V"), (0, .methodref 12 72), (0, .nameAndType 73 74), (0, u "getChar"), (0, u "([BI)C"), (32, .methodref 12 108), (0, .nameAndType 109 110), (0, u "newBytesFor"), (0, u "(I)[B"), (0, .methodref 12 112), (0, .nameAndType 113 114), (0, u "putChar"), (0, u "([BII)V"), (0, .methodref 12 116), (0, .nameAndType 117 118), (0, u "compress"), (0, u "([CI[BII)I"), (0, .methodref 12 120), (0, .nameAndType 121 122), (0, u "toBytes"), (0, u "([CII)[B"), (138, u "coderFromArrayLen"), (0, u "([BI)B"), (106, .class_ 371), (1, u "java/lang/StringUTF16$LinesSpliterator"), (20, u "charAt"), (21, .methodref 3 415), (0, .nameAndType 69 416), (0, u "(II)V"), (13, u "MAX_LENGTH"), (196, .class_ 628), (0, u "java/lang/StringUTF16$CodePointsSpliterator"), (0, .class_ 630), (0, u "java/lang/StringUTF16$CharsSpliterator")] 4

def k9m0 : Method := { name := "<init>", desc := "()V", sig := { parameters := [], returnType := none }, accessFlags := 0, code := none }
def k9c1 : Code := { maxStack := 1, maxLocals := 1, code := jdk_52_method_2_code, exceptionTable := #[], attributes := #[] }
def k9m1 : Method := { name := "newBytesFor", desc := "(I)[B", sig := { parameters := [.int], returnType := some (.array .byte) }, accessFlags := 9, code := some k9c1 }
def k9c2 : Code := { maxStack := 4, maxLocals := 1, code := jdk_52_method_3_code, exceptionTable := #[], attributes := #[] }
def k9m2 : Method := { name := "newBytesLength", desc := "(I)I", sig := { parameters := [.int], returnType := some .int }, accessFlags := 9, code := some k9c2 }
def k9c3 : Code := { maxStack := 4, maxLocals := 3, code := jdk_52_method_4_code, exceptionTable := #[], attributes := #[] }
def k9m3 : Method := { name := "putChar", desc := "([BII)V", sig := { parameters := [(.array .byte), .int, .int], returnType := none }, accessFlags := 8, code := some k9c3 }
def k9c4 : Code := { maxStack := 3, maxLocals := 2, code := jdk_52_method_5_code, exceptionTable := #[], attributes := #[] }
def k9m4 : Method := { name := "getChar", desc := "([BI)C", sig := { parameters := [(.array .byte), .int], returnType := some .char }, accessFlags := 8, code := some k9c4 }
def k9c5 : Code := { maxStack := 2, maxLocals := 1, code := jdk_52_method_6_code, exceptionTable := #[], attributes := #[] }
def k9m5 : Method := { name := "length", desc := "([B)I", sig := { parameters := [(.array .byte)], returnType := some .int }, accessFlags := 9, code := some k9c5 }
def k9c6 : Code := { maxStack := 4, maxLocals := 5, code := jdk_52_method_14_code, exceptionTable := #[], attributes := #[] }
def k9m6 : Method := { name := "toBytes", desc := "([CII)[B", sig := { parameters := [(.array .char), .int, .int], returnType := some (.array .byte) }, accessFlags := 9, code := some k9c6 }
def k9c7 : Code := { maxStack := 2, maxLocals := 2, code := jdk_52_method_15_code, exceptionTable := #[], attributes := #[] }
def k9m7 : Method := { name := "coderFromArrayLen", desc := "([BI)B", sig := { parameters := [(.array .byte), .int], returnType := some .byte }, accessFlags := 8, code := some k9c7 }
def k9c8 : Code := { maxStack := 5, maxLocals := 6, code := jdk_52_method_16_code, exceptionTable := #[], attributes := #[] }
def k9m8 : Method := { name := "compress", desc := "([CII)[B", sig := { parameters := [(.array .char), .int, .int], returnType := some (.array .byte) }, accessFlags := 9, code := some k9c8 }
def k9c9 : Code := { maxStack := 3, maxLocals := 7, code := jdk_52_method_21_code, exceptionTable := #[], attributes := #[] }
def k9m9 : Method := { name := "compress", desc := "([CI[BII)I", sig := { parameters := [(.array .char), .int, (.array .byte), .int, .int], returnType := some .int }, accessFlags := 9, code := some k9c9 }
def k9c10 : Code := { maxStack := 2, maxLocals := 2, code := jdk_52_method_83_code, exceptionTable := #[], attributes := #[] }
def k9m10 : Method := { name := "charAt", desc := "([BI)C", sig := { parameters := [(.array .byte), .int], returnType := some .char }, accessFlags := 9, code := some k9c10 }
def k9c11 : Code := { maxStack := 2, maxLocals := 2, code := jdk_52_method_91_code, exceptionTable := #[], attributes := #[] }
def k9m11 : Method := { name := "checkIndex", desc := "(I[B)V", sig := { parameters := [.int, (.array .byte)], returnType := none }, accessFlags := 9, code := some k9c11 }
/-- java/lang/StringUTF16 -/
def k9 : Class := { plain "java/lang/StringUTF16" (some 0) with
  accessFlags := 48
  interfaces := #[]
  cf := some (fileOf pool9 12 #[.nestMembers #[627, 629, 369]] #[{ accessFlags := 0, nameIndex := 9, descriptorIndex := 10, attributes := #[] }, { accessFlags := 9, nameIndex := 109, descriptorIndex := 110, attributes := #[] }, { accessFlags := 9, nameIndex := 15, descriptorIndex := 16, attributes := #[] }, { accessFlags := 8, nameIndex := 113, descriptorIndex := 114, attributes := #[] }, { accessFlags := 8, nameIndex := 73, descriptorIndex := 74, attributes := #[] }, { accessFlags := 9, nameIndex := 50, descriptorIndex := 51, attributes := #[] }, { accessFlags := 9, nameIndex := 121, descriptorIndex := 122, attributes := #[] }, { accessFlags := 8, nameIndex := 261, descriptorIndex := 262, attributes := #[] }, { accessFlags := 9, nameIndex := 117, descriptorIndex := 122, attributes := #[] }, { accessFlags := 9, nameIndex := 117, descriptorIndex := 118, attributes := #[] }, { accessFlags := 9, nameIndex := 392, descriptorIndex := 74, attributes := #[] }, { accessFlags := 9, nameIndex := 69, descriptorIndex := 70, attributes := #[] }] 48 6 #[] #[{ accessFlags := 26, nameIndex := 61, descriptorIndex := 62, attributes := #[] }, { accessFlags := 26, nameIndex := 65, descriptorIndex := 62, attributes := #[] }, { accessFlags := 24, nameIndex := 430, descriptorIndex := 62, attributes := #[] }, { accessFlags := 4120, nameIndex := 46, descriptorIndex := 47, attributes := #[] }])
  fields := #[{ name := "HI_BYTE_SHIFT", type := .int, accessFlags := 26, slot := 0, constantValue := 0 }, { name := "LO_BYTE_SHIFT", type := .int, accessFlags := 26, slot := 1, constantValue := 0 }, { name := "MAX_LENGTH", type := .int, accessFlags := 24, slot := 2, constantValue := 0 }, { name := "$assertionsDisabled", type := .boolean, accessFlags := 4120, slot := 3, constantValue := 0 }]
  methods := #[k9m0, k9m1, k9m2, k9m3, k9m4, k9m5, k9m6, k9m7, k9m8, k9m9, k9m10, k9m11]
  instanceTypes := #[]
  staticTypes := #[.int, .int, .int, .boolean]
  resolved := Array.replicate 635 none
  statics := some 1 }

def pool10 : Array CpInfo := pool [(2, .class_ 4), (1, u "java/lang/Object"), (0, u "<init>"), (0, u "()V"), (17, .class_ 26), (1, u "jdk/internal/util/Preconditions"), (6, u "checkIndex"), (21, .class_ 56), (0, u "jdk/internal/util/Preconditions$4"), (57, .class_ 115), (0, u "jdk/internal/util/Preconditions$1"), (7, u "SIOOBE_FORMATTER"), (0, u "Ljava/util/function/BiFunction;"), (0, .class_ 126), (0, u "jdk/internal/util/Preconditions$2"), (3, u "AIOOBE_FORMATTER"), (0, .class_ 132), (0, u "jdk/internal/util/Preconditions$3"), (3, u "IOOBE_FORMATTER"), (41, u "(IILjava/util/function/BiFunction;)I")] 15

def k10m0 : Method := { name := "<init>", desc := "()V", sig := { parameters := [], returnType := none }, accessFlags := 1, code := none }
def k10c1 : Code := { maxStack := 3, maxLocals := 3, code := jdk_41_method_11_code, exceptionTable := #[], attributes := #[] }
def k10m1 : Method := { name := "checkIndex", desc := "(IILjava/util/function/BiFunction;)I", sig := { parameters := [.int, .int, (.object "java/util/function/BiFunction")], returnType := some .int }, accessFlags := 9, code := some k10c1 }
/-- jdk/internal/util/Preconditions -/
def k10 : Class := { plain "jdk/internal/util/Preconditions" (some 0) with
  accessFlags := 33
  interfaces := #[]
  cf := some (fileOf pool10 24 #[.nestMembers #[55, 131, 125, 114]] #[{ accessFlags := 1, nameIndex := 5, descriptorIndex := 6, attributes := #[] }, { accessFlags := 9, nameIndex := 33, descriptorIndex := 178, attributes := #[] }] 33 2 #[] #[{ accessFlags := 25, nameIndex := 123, descriptorIndex := 124, attributes := #[] }, { accessFlags := 25, nameIndex := 130, descriptorIndex := 124, attributes := #[] }, { accessFlags := 25, nameIndex := 136, descriptorIndex := 124, attributes := #[] }])
  fields := #[{ name := "SIOOBE_FORMATTER", type := (.object "java/util/function/BiFunction"), accessFlags := 25, slot := 0, constantValue := 0 }, { name := "AIOOBE_FORMATTER", type := (.object "java/util/function/BiFunction"), accessFlags := 25, slot := 1, constantValue := 0 }, { name := "IOOBE_FORMATTER", type := (.object "java/util/function/BiFunction"), accessFlags := 25, slot := 2, constantValue := 0 }]
  methods := #[k10m0, k10m1]
  instanceTypes := #[]
  staticTypes := #[(.object "java/util/function/BiFunction"), (.object "java/util/function/BiFunction"), (.object "java/util/function/BiFunction")]
  resolved := Array.replicate 194 none
  statics := some 2 }

def pool11 : Array CpInfo := pool [(1, .class_ 2), (0, u "java/lang/String"), (1, .class_ 6), (1, u "java/lang/Object"), (0, u "<init>"), (0, u "()V"), (0, .methodref 1 10), (0, .nameAndType 11 12), (0, u "checkIndex"), (0, u "(II)V"), (1, .class_ 16), (1, u "java/lang/StringLatin1"), (36, u "([BI)C"), (67, u "$assertionsDisabled"), (0, u "Z"), (98, .class_ 223), (1, u "java/lang/StringLatin1$LinesSpliterator"), (28, u "charAt"), (137, .class_ 391), (0, u "java/lang/StringLatin1$CharsSpliterator")] 3

def k11m0 : Method := { name := "<init>", desc := "()V", sig := { parameters := [], returnType := none }, accessFlags := 0, code := none }
def k11c1 : Code := { maxStack := 2, maxLocals := 2, code := jdk_43_method_2_code, exceptionTable := #[], attributes := #[] }
def k11m1 : Method := { name := "charAt", desc := "([BI)C", sig := { parameters := [(.array .byte), .int], returnType := some .char }, accessFlags := 9, code := some k11c1 }
/-- java/lang/StringLatin1 -/
def k11 : Class := { plain "java/lang/StringLatin1" (some 0) with
  accessFlags := 48
  interfaces := #[]
  cf := some (fileOf pool11 14 #[.nestMembers #[390, 221]] #[{ accessFlags := 0, nameIndex := 7, descriptorIndex := 8, attributes := #[] }, { accessFlags := 9, nameIndex := 252, descriptorIndex := 53, attributes := #[] }] 48 4 #[] #[{ accessFlags := 4120, nameIndex := 121, descriptorIndex := 122, attributes := #[] }])
  fields := #[{ name := "$assertionsDisabled", type := .boolean, accessFlags := 4120, slot := 0, constantValue := 0 }]
  methods := #[k11m0, k11m1]
  instanceTypes := #[]
  staticTypes := #[.boolean]
  resolved := Array.replicate 395 none
  statics := none }

def pool12 : Array CpInfo := pool [(9, u "<init>"), (6, .class_ 18), (1, u "java/lang/Object"), (0, u "()V"), (1, .class_ 23), (1, u "jdk/internal/util/ArraysSupport"), (0, u "LOG2_ARRAY_LONG_INDEX_SCALE"), (0, u "I"), (2, u "U"), (0, u "Ljdk/internal/misc/Unsafe;"), (8, u "BIG_ENDIAN"), (0, u "Z"), (8, u "LOG2_BYTE_BIT_SIZE"), (4, u "LOG2_ARRAY_INT_INDEX_SCALE"), (54, u "JLA"), (0, u "Ljdk/internal/access/JavaLangAccess;"), (11, u "LOG2_ARRAY_BOOLEAN_INDEX_SCALE"), (9, u "LOG2_ARRAY_BYTE_INDEX_SCALE"), (5, u "LOG2_ARRAY_CHAR_INDEX_SCALE"), (5, u "LOG2_ARRAY_SHORT_INDEX_SCALE"), (18, u "LOG2_ARRAY_FLOAT_INDEX_SCALE"), (24, u "LOG2_ARRAY_DOUBLE_INDEX_SCALE"), (89, u "T_BOOLEAN"), (2, u "T_CHAR"), (1, u "T_FLOAT"), (1, u "T_DOUBLE"), (1, u "T_BYTE"), (1, u "T_SHORT"), (1, u "T_INT"), (1, u "T_LONG"), (1, u "SOFT_MAX_ARRAY_LENGTH")] 83

def k12m0 : Method := { name := "<init>", desc := "()V", sig := { parameters := [], returnType := none }, accessFlags := 2, code := none }
/-- jdk/internal/util/ArraysSupport -/
def k12 : Class := { plain "jdk/internal/util/ArraysSupport" (some 0) with
  accessFlags := 33
  interfaces := #[]
  cf := some (fileOf pool12 21 #[] #[{ accessFlags := 2, nameIndex := 9, descriptorIndex := 19, attributes := #[] }] 33 16 #[] #[{ accessFlags := 24, nameIndex := 28, descriptorIndex := 29, attributes := #[] }, { accessFlags := 26, nameIndex := 38, descriptorIndex := 39, attributes := #[] }, { accessFlags := 25, nameIndex := 121, descriptorIndex := 25, attributes := #[] }, { accessFlags := 25, nameIndex := 131, descriptorIndex := 25, attributes := #[] }, { accessFlags := 25, nameIndex := 137, descriptorIndex := 25, attributes := #[] }, { accessFlags := 25, nameIndex := 143, descriptorIndex := 25, attributes := #[] }, { accessFlags := 25, nameIndex := 53, descriptorIndex := 25, attributes := #[] }, { accessFlags := 25, nameIndex := 24, descriptorIndex := 25, attributes := #[] }, { accessFlags := 25, nameIndex := 162, descriptorIndex := 25, attributes := #[] }, { accessFlags := 25, nameIndex := 187, descriptorIndex := 25, attributes := #[] }, { accessFlags := 26, nameIndex := 48, descriptorIndex := 25, attributes := #[] }, { accessFlags := 25, nameIndex := 277, descriptorIndex := 25, attributes := #[] }, { accessFlags := 25, nameIndex := 280, descriptorIndex := 25, attributes := #[] }, { accessFlags := 25, nameIndex := 282, descriptorIndex := 25, attributes := #[] }, { accessFlags := 25, nameIndex := 284, descriptorIndex := 25, attributes := #[] }, { accessFlags := 25, nameIndex := 286, descriptorIndex := 25, attributes := #[] }, { accessFlags := 25, nameIndex := 288, descriptorIndex := 25, attributes := #[] }, { accessFlags := 25, nameIndex := 290, descriptorIndex := 25, attributes := #[] }, { accessFlags := 25, nameIndex := 292, descriptorIndex := 25, attributes := #[] }, { accessFlags := 26, nameIndex := 108, descriptorIndex := 109, attributes := #[] }, { accessFlags := 25, nameIndex := 294, descriptorIndex := 25, attributes := #[] }])
  fields := #[{ name := "U", type := (.object "jdk/internal/misc/Unsafe"), accessFlags := 24, slot := 0, constantValue := 0 }, { name := "BIG_ENDIAN", type := .boolean, accessFlags := 26, slot := 1, constantValue := 0 }, { name := "LOG2_ARRAY_BOOLEAN_INDEX_SCALE", type := .int, accessFlags := 25, slot := 2, constantValue := 0 }, { name := "LOG2_ARRAY_BYTE_INDEX_SCALE", type := .int, accessFlags := 25, slot := 3, constantValue := 0 }, { name := "LOG2_ARRAY_CHAR_INDEX_SCALE", type := .int, accessFlags := 25, slot := 4, constantValue := 0 }, { name := "LOG2_ARRAY_SHORT_INDEX_SCALE", type := .int, accessFlags := 25, slot := 5, constantValue := 0 }, { name := "LOG2_ARRAY_INT_INDEX_SCALE", type := .int, accessFlags := 25, slot := 6, constantValue := 0 }, { name := "LOG2_ARRAY_LONG_INDEX_SCALE", type := .int, accessFlags := 25, slot := 7, constantValue := 0 }, { name := "LOG2_ARRAY_FLOAT_INDEX_SCALE", type := .int, accessFlags := 25, slot := 8, constantValue := 0 }, { name := "LOG2_ARRAY_DOUBLE_INDEX_SCALE", type := .int, accessFlags := 25, slot := 9, constantValue := 0 }, { name := "LOG2_BYTE_BIT_SIZE", type := .int, accessFlags := 26, slot := 10, constantValue := 0 }, { name := "T_BOOLEAN", type := .int, accessFlags := 25, slot := 11, constantValue := 0 }, { name := "T_CHAR", type := .int, accessFlags := 25, slot := 12, constantValue := 0 }, { name := "T_FLOAT", type := .int, accessFlags := 25, slot := 13, constantValue := 0 }, { name := "T_DOUBLE", type := .int, accessFlags := 25, slot := 14, constantValue := 0 }, { name := "T_BYTE", type := .int, accessFlags := 25, slot := 15, constantValue := 0 }, { name := "T_SHORT", type := .int, accessFlags := 25, slot := 16, constantValue := 0 }, { name := "T_INT", type := .int, accessFlags := 25, slot := 17, constantValue := 0 }, { name := "T_LONG", type := .int, accessFlags := 25, slot := 18, constantValue := 0 }, { name := "JLA", type := (.object "jdk/internal/access/JavaLangAccess"), accessFlags := 26, slot := 19, constantValue := 0 }, { name := "SOFT_MAX_ARRAY_LENGTH", type := .int, accessFlags := 25, slot := 20, constantValue := 0 }]
  methods := #[k12m0]
  instanceTypes := #[]
  staticTypes := #[(.object "jdk/internal/misc/Unsafe"), .boolean, .int, .int, .int, .int, .int, .int, .int, .int, .int, .int, .int, .int, .int, .int, .int, .int, .int, (.object "jdk/internal/access/JavaLangAccess"), .int]
  resolved := Array.replicate 378 none
  statics := none }

def pool13 : Array CpInfo := pool [(1, u "java/lang/Cloneable"), (0, .class_ 1), (0, u "java/lang/Object"), (0, .class_ 3)] 3

/-- java/lang/Cloneable -/
def k13 : Class := { plain "java/lang/Cloneable" (some 0) with
  accessFlags := 1537
  interfaces := #[]
  cf := some (fileOf pool13 2 #[] #[] 1537 4 #[] #[])
  fields := #[]
  methods := #[]
  instanceTypes := #[]
  staticTypes := #[]
  resolved := Array.replicate 8 none
  statics := none }

/-- the primitive byte -/
def k14 : Class := { plain "byte" none with kind := .primitive 'B', accessFlags := 0x411 }
/-- [B -/
def k15 : Class := { plain "[B" (some 0) with kind := .array 14 .byte, interfaces := #[13, 2], accessFlags := 1041 }

/-- the primitive char -/
def k16 : Class := { plain "char" none with kind := .primitive 'C', accessFlags := 0x411 }
/-- [C -/
def k17 : Class := { plain "[C" (some 0) with kind := .array 16 .char, interfaces := #[13, 2], accessFlags := 1041 }

/-- the primitive int -/
def k18 : Class := { plain "int" none with kind := .primitive 'I', accessFlags := 0x411 }
/-- [I -/
def k19 : Class := { plain "[I" (some 0) with kind := .array 18 .int, interfaces := #[13, 2], accessFlags := 1041 }

def heap : Heap := #[{ cls := 7, slots := #[.long 0, .int 1, .null, .int 0, .null, .int 0, .int 0], vm := .statics 7 },
  { cls := 9, slots := #[.int 0, .int 8, .int 0, .int 1], vm := .statics 9 },
  { cls := 10, slots := #[.null, .null, .null], vm := .statics 10 }]
def classes : Array Class := #[k0, k1, k2, k3, k4, k5, k6, k7, k8, k9, k10, k11, k12, k13, k14, k15, k16, k17, k18, k19]
def interned : List (Array UInt16 × Addr) := []
def slotsUsed : Nat := 14
def theMethod : MethodId := ⟨1, 2⟩
def args0 : Array Value := #[.long 3, .int 1, .int 2]
def aboutOver (below : List Frame) : State where
  vm := { classes := classes, interned := interned.toArray }
  heap := heap
  slotsUsed := slotsUsed
  threads := #[{ frames := .invoking theMethod args0 :: below }]
def below0 : List Frame := [.native { method := ⟨0, 0⟩, args := #[] }]
def about1 : State := aboutOver below0
def p0 : Program := .bare "" "" ""
def e0 : Env := launch0.env 0 0 0
theorem w_frames : about1.frames = Frame.invoking theMethod args0 :: below0 := rfl
set_option maxRecDepth 65536 in
theorem w_args : argsFit about1.vm theMethod args0 = true := by decide +kernel
set_option maxRecDepth 65536 in
theorem w_heap : heapFits about1 = true := by decide +kernel
set_option maxRecDepth 65536 in
theorem w_runnable : about1.curStatus? = some .runnable := by decide +kernel
set_option maxRecDepth 65536 in
theorem w_alone : about1.alone = true := by decide +kernel
set_option maxRecDepth 65536 in
theorem w_named : about1.methodNamed? x = some theMethod := by decide +kernel
set_option maxRecDepth 65536 in
theorem w_hears : about1.hears theMethod below0 = true := by decide +kernel
set_option maxRecDepth 65536 in
theorem w_ripe : about1.ripe theMethod args0 below0 = true := by decide +kernel
theorem w_running : about1.status = .running := rfl
set_option maxRecDepth 65536 in
theorem w_room : about1.hasRoom e0.platform room_1 = true :=
  launch0.hasRoom_least _ room_1 (by decide +kernel) (by decide +kernel) (by decide +kernel) (by decide +kernel) (by decide +kernel) (by decide +kernel)
theorem allAtoms_all (ts : List Jvm.Cond) (a : Array Jvm.Value) (st : Jvm.State) : (allAtoms ts).before a st = ts.all (fun c => c.before a st) := by
  induction ts with
  | nil => rfl
  | cons c t ih =>
    show (Jvm.Cond.and c (allAtoms t)).before a st = _
    rw [Jvm.Cond.before_and, ih, List.all_cons]
def words1 : List Jvm.Cond := Jvm.Cond.code x code maxLocals ret :: tables_1
/-- a 'code' word, met by the world's own term for the bytes: nothing is compared byte by byte -/
theorem code_word {y : MethodName} {bytes : ByteArray} {mx : Nat} {rt : Option FieldType} {a : Array Value} {s : State} {m : MethodId} {meth : Method} {c : Code} (h1 : s.methodNamed? y = some m) (h2 : s.vm.method? m = some meth) (h3 : meth.code = some c) (h4 : c.code = bytes)
    (h5 : (c.maxLocals == mx && c.exceptionTable.isEmpty && decide (c.maxStack ≤ mostOperands) && decide (meth.sig.returnType = rt) && !meth.locks && decide (parseMethodDescriptor y.desc = some meth.sig)) = true) : (Jvm.Cond.code y bytes mx rt).before a s = true := by
  simp only [Bool.and_eq_true, beq_iff_eq, Bool.not_eq_true', decide_eq_true_eq] at h5
  obtain ⟨⟨⟨⟨⟨g1, g2⟩, g3⟩, g4⟩, g5⟩, g6⟩ := h5
  simp [Cond.before, Cond.holds, Cond.value, h1, h2, h3, h4, g1, g2, g3, g4, g5, g6]
def isCode : Jvm.Cond → Bool
  | .code _ _ _ _ => true
  | _ => false
theorem all_split {L : List Jvm.Cond} {P : Jvm.Cond → Bool} (h1 : L.all (fun c => isCode c || P c) = true) (h2 : ∀ c ∈ L.filter isCode, P c = true) : L.all P = true := by
  refine List.all_eq_true.mpr fun c hc => ?_
  have h := List.all_eq_true.mp h1 c hc
  rcases Bool.eq_false_or_eq_true (isCode c) with hi | hi
  · exact h2 c (List.mem_filter.mpr ⟨hc, hi⟩)
  · simpa [hi] using h
set_option maxRecDepth 65536 in
theorem w_c0 : (Jvm.Cond.code x code maxLocals ret).before args0 about1 = true := code_word (m := ⟨1, 2⟩) (meth := k1m2) (c := k1c2) (by decide +kernel) rfl rfl rfl (by decide +kernel)
set_option maxRecDepth 65536 in
theorem w_c1 : (Jvm.Cond.code ({ cls := "java/lang/String", name := "<init>", desc := "([C)V" } : Jvm.MethodName) jdk_42_method_3_code (2 : Nat) (Option.none : Option Jvm.ClassFile.FieldType)).before args0 about1 = true := code_word (m := ⟨7, 1⟩) (meth := k7m1) (c := k7c1) (by decide +kernel) rfl rfl rfl (by decide +kernel)
set_option maxRecDepth 65536 in
theorem w_c2 : (Jvm.Cond.code ({ cls := "java/lang/String", name := "<init>", desc := "([CIILjava/lang/Void;)V" } : Jvm.MethodName) jdk_42_method_149_code (6 : Nat) (Option.none : Option Jvm.ClassFile.FieldType)).before args0 about1 = true := code_word (m := ⟨7, 4⟩) (meth := k7m4) (c := k7c4) (by decide +kernel) rfl rfl rfl (by decide +kernel)
set_option maxRecDepth 65536 in
theorem w_c3 : (Jvm.Cond.code ({ cls := "java/lang/Object", name := "<init>", desc := "()V" } : Jvm.MethodName) object_method_1_code (1 : Nat) (Option.none : Option Jvm.ClassFile.FieldType)).before args0 about1 = true := code_word (m := ⟨0, 0⟩) (meth := k0m0) (c := k0c0) (by decide +kernel) rfl rfl rfl (by decide +kernel)
set_option maxRecDepth 65536 in
theorem w_c4 : (Jvm.Cond.code ({ cls := "com/example/orbitwatch/orbitwatch/game/SeededRandomOfPinLaw", name := "fin", desc := "(J)J" } : Jvm.MethodName) method_2_code (6 : Nat) (Option.some Jvm.ClassFile.FieldType.long)).before args0 about1 = true := code_word (m := ⟨1, 1⟩) (meth := k1m1) (c := k1c1) (by decide +kernel) rfl rfl rfl (by decide +kernel)
set_option maxRecDepth 65536 in
theorem w_c5 : (Jvm.Cond.code ({ cls := "com/example/orbitwatch/orbitwatch/game/SeededRandom", name := "of", desc := "(JLjava/lang/String;)Lcom/example/orbitwatch/orbitwatch/game/SeededRandom;" } : Jvm.MethodName) prog_45_method_2_code (6 : Nat) (Option.some (Jvm.ClassFile.FieldType.object "com/example/orbitwatch/orbitwatch/game/SeededRandom"))).before args0 about1 = true := code_word (m := ⟨8, 1⟩) (meth := k8m1) (c := k8c1) (by decide +kernel) rfl rfl rfl (by decide +kernel)
set_option maxRecDepth 65536 in
theorem w_c6 : (Jvm.Cond.code ({ cls := "java/lang/String", name := "length", desc := "()I" } : Jvm.MethodName) jdk_42_method_54_code (1 : Nat) (Option.some Jvm.ClassFile.FieldType.int)).before args0 about1 = true := code_word (m := ⟨7, 2⟩) (meth := k7m2) (c := k7c2) (by decide +kernel) rfl rfl rfl (by decide +kernel)
set_option maxRecDepth 65536 in
theorem w_c7 : (Jvm.Cond.code ({ cls := "java/lang/String", name := "coder", desc := "()B" } : Jvm.MethodName) jdk_42_method_152_code (1 : Nat) (Option.some Jvm.ClassFile.FieldType.byte)).before args0 about1 = true := code_word (m := ⟨7, 5⟩) (meth := k7m5) (c := k7c5) (by decide +kernel) rfl rfl rfl (by decide +kernel)
set_option maxRecDepth 65536 in
theorem w_c8 : (Jvm.Cond.code ({ cls := "com/example/orbitwatch/orbitwatch/game/SeededRandom", name := "mix", desc := "(J)J" } : Jvm.MethodName) prog_45_method_5_code (2 : Nat) (Option.some Jvm.ClassFile.FieldType.long)).before args0 about1 = true := code_word (m := ⟨8, 3⟩) (meth := k8m3) (c := k8c3) (by decide +kernel) rfl rfl rfl (by decide +kernel)
set_option maxRecDepth 65536 in
theorem w_c9 : (Jvm.Cond.code ({ cls := "com/example/orbitwatch/orbitwatch/game/SeededRandom", name := "<init>", desc := "(J)V" } : Jvm.MethodName) prog_45_method_1_code (3 : Nat) (Option.none : Option Jvm.ClassFile.FieldType)).before args0 about1 = true := code_word (m := ⟨8, 0⟩) (meth := k8m0) (c := k8c0) (by decide +kernel) rfl rfl rfl (by decide +kernel)
set_option maxRecDepth 65536 in
theorem w_c10 : (Jvm.Cond.code ({ cls := "com/example/orbitwatch/orbitwatch/game/SeededRandom", name := "nextLong", desc := "()J" } : Jvm.MethodName) prog_45_method_3_code (1 : Nat) (Option.some Jvm.ClassFile.FieldType.long)).before args0 about1 = true := code_word (m := ⟨8, 2⟩) (meth := k8m2) (c := k8c2) (by decide +kernel) rfl rfl rfl (by decide +kernel)
set_option maxRecDepth 65536 in
theorem w_c11 : (Jvm.Cond.code ({ cls := "java/lang/StringUTF16", name := "compress", desc := "([CII)[B" } : Jvm.MethodName) jdk_52_method_16_code (6 : Nat) (Option.some (Jvm.ClassFile.FieldType.array Jvm.ClassFile.FieldType.byte))).before args0 about1 = true := code_word (m := ⟨9, 8⟩) (meth := k9m8) (c := k9c8) (by decide +kernel) rfl rfl rfl (by decide +kernel)
set_option maxRecDepth 65536 in
theorem w_c12 : (Jvm.Cond.code ({ cls := "java/lang/StringUTF16", name := "compress", desc := "([CI[BII)I" } : Jvm.MethodName) jdk_52_method_21_code (7 : Nat) (Option.some Jvm.ClassFile.FieldType.int)).before args0 about1 = true := code_word (m := ⟨9, 9⟩) (meth := k9m9) (c := k9c9) (by decide +kernel) rfl rfl rfl (by decide +kernel)
set_option maxRecDepth 65536 in
theorem w_c13 : (Jvm.Cond.code ({ cls := "java/lang/StringUTF16", name := "toBytes", desc := "([CII)[B" } : Jvm.MethodName) jdk_52_method_14_code (5 : Nat) (Option.some (Jvm.ClassFile.FieldType.array Jvm.ClassFile.FieldType.byte))).before args0 about1 = true := code_word (m := ⟨9, 6⟩) (meth := k9m6) (c := k9c6) (by decide +kernel) rfl rfl rfl (by decide +kernel)
set_option maxRecDepth 65536 in
theorem w_c14 : (Jvm.Cond.code ({ cls := "java/lang/StringUTF16", name := "newBytesFor", desc := "(I)[B" } : Jvm.MethodName) jdk_52_method_2_code (1 : Nat) (Option.some (Jvm.ClassFile.FieldType.array Jvm.ClassFile.FieldType.byte))).before args0 about1 = true := code_word (m := ⟨9, 1⟩) (meth := k9m1) (c := k9c1) (by decide +kernel) rfl rfl rfl (by decide +kernel)
set_option maxRecDepth 65536 in
theorem w_c15 : (Jvm.Cond.code ({ cls := "java/lang/StringUTF16", name := "newBytesLength", desc := "(I)I" } : Jvm.MethodName) jdk_52_method_3_code (1 : Nat) (Option.some Jvm.ClassFile.FieldType.int)).before args0 about1 = true := code_word (m := ⟨9, 2⟩) (meth := k9m2) (c := k9c2) (by decide +kernel) rfl rfl rfl (by decide +kernel)
set_option maxRecDepth 65536 in
theorem w_c16 : (Jvm.Cond.code ({ cls := "java/lang/StringUTF16", name := "putChar", desc := "([BII)V" } : Jvm.MethodName) jdk_52_method_4_code (3 : Nat) (Option.none : Option Jvm.ClassFile.FieldType)).before args0 about1 = true := code_word (m := ⟨9, 3⟩) (meth := k9m3) (c := k9c3) (by decide +kernel) rfl rfl rfl (by decide +kernel)
set_option maxRecDepth 65536 in
theorem w_c17 : (Jvm.Cond.code ({ cls := "java/lang/StringUTF16", name := "getChar", desc := "([BI)C" } : Jvm.MethodName) jdk_52_method_5_code (2 : Nat) (Option.some Jvm.ClassFile.FieldType.char)).before args0 about1 = true := code_word (m := ⟨9, 4⟩) (meth := k9m4) (c := k9c4) (by decide +kernel) rfl rfl rfl (by decide +kernel)
set_option maxRecDepth 65536 in
theorem w_c18 : (Jvm.Cond.code ({ cls := "java/lang/StringUTF16", name := "coderFromArrayLen", desc := "([BI)B" } : Jvm.MethodName) jdk_52_method_15_code (2 : Nat) (Option.some Jvm.ClassFile.FieldType.byte)).before args0 about1 = true := code_word (m := ⟨9, 7⟩) (meth := k9m7) (c := k9c7) (by decide +kernel) rfl rfl rfl (by decide +kernel)
set_option maxRecDepth 65536 in
theorem w_c19 : (Jvm.Cond.code ({ cls := "java/lang/String", name := "charAt", desc := "(I)C" } : Jvm.MethodName) jdk_42_method_56_code (2 : Nat) (Option.some Jvm.ClassFile.FieldType.char)).before args0 about1 = true := code_word (m := ⟨7, 3⟩) (meth := k7m3) (c := k7c3) (by decide +kernel) rfl rfl rfl (by decide +kernel)
set_option maxRecDepth 65536 in
theorem w_c20 : (Jvm.Cond.code ({ cls := "java/lang/String", name := "isLatin1", desc := "()Z" } : Jvm.MethodName) jdk_42_method_154_code (1 : Nat) (Option.some Jvm.ClassFile.FieldType.boolean)).before args0 about1 = true := code_word (m := ⟨7, 6⟩) (meth := k7m6) (c := k7c6) (by decide +kernel) rfl rfl rfl (by decide +kernel)
set_option maxRecDepth 65536 in
theorem w_c21 : (Jvm.Cond.code ({ cls := "java/lang/StringUTF16", name := "charAt", desc := "([BI)C" } : Jvm.MethodName) jdk_52_method_83_code (2 : Nat) (Option.some Jvm.ClassFile.FieldType.char)).before args0 about1 = true := code_word (m := ⟨9, 10⟩) (meth := k9m10) (c := k9c10) (by decide +kernel) rfl rfl rfl (by decide +kernel)
set_option maxRecDepth 65536 in
theorem w_c22 : (Jvm.Cond.code ({ cls := "java/lang/StringUTF16", name := "checkIndex", desc := "(I[B)V" } : Jvm.MethodName) jdk_52_method_91_code (2 : Nat) (Option.none : Option Jvm.ClassFile.FieldType)).before args0 about1 = true := code_word (m := ⟨9, 11⟩) (meth := k9m11) (c := k9c11) (by decide +kernel) rfl rfl rfl (by decide +kernel)
set_option maxRecDepth 65536 in
theorem w_c23 : (Jvm.Cond.code ({ cls := "java/lang/StringUTF16", name := "length", desc := "([B)I" } : Jvm.MethodName) jdk_52_method_6_code (1 : Nat) (Option.some Jvm.ClassFile.FieldType.int)).before args0 about1 = true := code_word (m := ⟨9, 5⟩) (meth := k9m5) (c := k9c5) (by decide +kernel) rfl rfl rfl (by decide +kernel)
set_option maxRecDepth 65536 in
theorem w_c24 : (Jvm.Cond.code ({ cls := "java/lang/String", name := "checkIndex", desc := "(II)V" } : Jvm.MethodName) jdk_42_method_155_code (2 : Nat) (Option.none : Option Jvm.ClassFile.FieldType)).before args0 about1 = true := code_word (m := ⟨7, 7⟩) (meth := k7m7) (c := k7c7) (by decide +kernel) rfl rfl rfl (by decide +kernel)
set_option maxRecDepth 65536 in
theorem w_c25 : (Jvm.Cond.code ({ cls := "jdk/internal/util/Preconditions", name := "checkIndex", desc := "(IILjava/util/function/BiFunction;)I" } : Jvm.MethodName) jdk_41_method_11_code (3 : Nat) (Option.some Jvm.ClassFile.FieldType.int)).before args0 about1 = true := code_word (m := ⟨10, 1⟩) (meth := k10m1) (c := k10c1) (by decide +kernel) rfl rfl rfl (by decide +kernel)
set_option maxRecDepth 65536 in
theorem w_c26 : (Jvm.Cond.code ({ cls := "java/lang/StringLatin1", name := "charAt", desc := "([BI)C" } : Jvm.MethodName) jdk_43_method_2_code (2 : Nat) (Option.some Jvm.ClassFile.FieldType.char)).before args0 about1 = true := code_word (m := ⟨11, 1⟩) (meth := k11m1) (c := k11c1) (by decide +kernel) rfl rfl rfl (by decide +kernel)
def codes1 : List Jvm.Cond := [Jvm.Cond.code x code maxLocals ret, Jvm.Cond.code ({ cls := "java/lang/String", name := "<init>", desc := "([C)V" } : Jvm.MethodName) jdk_42_method_3_code (2 : Nat) (Option.none : Option Jvm.ClassFile.FieldType), Jvm.Cond.code ({ cls := "java/lang/String", name := "<init>", desc := "([CIILjava/lang/Void;)V" } : Jvm.MethodName) jdk_42_method_149_code (6 : Nat) (Option.none : Option Jvm.ClassFile.FieldType), Jvm.Cond.code ({ cls := "java/lang/Object", name := "<init>", desc := "()V" } : Jvm.MethodName) object_method_1_code (1 : Nat) (Option.none : Option Jvm.ClassFile.FieldType), Jvm.Cond.code ({ cls := "com/example/orbitwatch/orbitwatch/game/SeededRandomOfPinLaw", name := "fin", desc := "(J)J" } : Jvm.MethodName) method_2_code (6 : Nat) (Option.some Jvm.ClassFile.FieldType.long), Jvm.Cond.code ({ cls := "com/example/orbitwatch/orbitwatch/game/SeededRandom", name := "of", desc := "(JLjava/lang/String;)Lcom/example/orbitwatch/orbitwatch/game/SeededRandom;" } : Jvm.MethodName) prog_45_method_2_code (6 : Nat) (Option.some (Jvm.ClassFile.FieldType.object "com/example/orbitwatch/orbitwatch/game/SeededRandom")), Jvm.Cond.code ({ cls := "java/lang/String", name := "length", desc := "()I" } : Jvm.MethodName) jdk_42_method_54_code (1 : Nat) (Option.some Jvm.ClassFile.FieldType.int), Jvm.Cond.code ({ cls := "java/lang/String", name := "coder", desc := "()B" } : Jvm.MethodName) jdk_42_method_152_code (1 : Nat) (Option.some Jvm.ClassFile.FieldType.byte), Jvm.Cond.code ({ cls := "com/example/orbitwatch/orbitwatch/game/SeededRandom", name := "mix", desc := "(J)J" } : Jvm.MethodName) prog_45_method_5_code (2 : Nat) (Option.some Jvm.ClassFile.FieldType.long), Jvm.Cond.code ({ cls := "com/example/orbitwatch/orbitwatch/game/SeededRandom", name := "<init>", desc := "(J)V" } : Jvm.MethodName) prog_45_method_1_code (3 : Nat) (Option.none : Option Jvm.ClassFile.FieldType), Jvm.Cond.code ({ cls := "com/example/orbitwatch/orbitwatch/game/SeededRandom", name := "nextLong", desc := "()J" } : Jvm.MethodName) prog_45_method_3_code (1 : Nat) (Option.some Jvm.ClassFile.FieldType.long), Jvm.Cond.code ({ cls := "java/lang/StringUTF16", name := "compress", desc := "([CII)[B" } : Jvm.MethodName) jdk_52_method_16_code (6 : Nat) (Option.some (Jvm.ClassFile.FieldType.array Jvm.ClassFile.FieldType.byte)), Jvm.Cond.code ({ cls := "java/lang/StringUTF16", name := "compress", desc := "([CI[BII)I" } : Jvm.MethodName) jdk_52_method_21_code (7 : Nat) (Option.some Jvm.ClassFile.FieldType.int), Jvm.Cond.code ({ cls := "java/lang/StringUTF16", name := "toBytes", desc := "([CII)[B" } : Jvm.MethodName) jdk_52_method_14_code (5 : Nat) (Option.some (Jvm.ClassFile.FieldType.array Jvm.ClassFile.FieldType.byte)), Jvm.Cond.code ({ cls := "java/lang/StringUTF16", name := "newBytesFor", desc := "(I)[B" } : Jvm.MethodName) jdk_52_method_2_code (1 : Nat) (Option.some (Jvm.ClassFile.FieldType.array Jvm.ClassFile.FieldType.byte)), Jvm.Cond.code ({ cls := "java/lang/StringUTF16", name := "newBytesLength", desc := "(I)I" } : Jvm.MethodName) jdk_52_method_3_code (1 : Nat) (Option.some Jvm.ClassFile.FieldType.int), Jvm.Cond.code ({ cls := "java/lang/StringUTF16", name := "putChar", desc := "([BII)V" } : Jvm.MethodName) jdk_52_method_4_code (3 : Nat) (Option.none : Option Jvm.ClassFile.FieldType), Jvm.Cond.code ({ cls := "java/lang/StringUTF16", name := "getChar", desc := "([BI)C" } : Jvm.MethodName) jdk_52_method_5_code (2 : Nat) (Option.some Jvm.ClassFile.FieldType.char), Jvm.Cond.code ({ cls := "java/lang/StringUTF16", name := "coderFromArrayLen", desc := "([BI)B" } : Jvm.MethodName) jdk_52_method_15_code (2 : Nat) (Option.some Jvm.ClassFile.FieldType.byte), Jvm.Cond.code ({ cls := "java/lang/String", name := "charAt", desc := "(I)C" } : Jvm.MethodName) jdk_42_method_56_code (2 : Nat) (Option.some Jvm.ClassFile.FieldType.char), Jvm.Cond.code ({ cls := "java/lang/String", name := "isLatin1", desc := "()Z" } : Jvm.MethodName) jdk_42_method_154_code (1 : Nat) (Option.some Jvm.ClassFile.FieldType.boolean), Jvm.Cond.code ({ cls := "java/lang/StringUTF16", name := "charAt", desc := "([BI)C" } : Jvm.MethodName) jdk_52_method_83_code (2 : Nat) (Option.some Jvm.ClassFile.FieldType.char), Jvm.Cond.code ({ cls := "java/lang/StringUTF16", name := "checkIndex", desc := "(I[B)V" } : Jvm.MethodName) jdk_52_method_91_code (2 : Nat) (Option.none : Option Jvm.ClassFile.FieldType), Jvm.Cond.code ({ cls := "java/lang/StringUTF16", name := "length", desc := "([B)I" } : Jvm.MethodName) jdk_52_method_6_code (1 : Nat) (Option.some Jvm.ClassFile.FieldType.int), Jvm.Cond.code ({ cls := "java/lang/String", name := "checkIndex", desc := "(II)V" } : Jvm.MethodName) jdk_42_method_155_code (2 : Nat) (Option.none : Option Jvm.ClassFile.FieldType), Jvm.Cond.code ({ cls := "jdk/internal/util/Preconditions", name := "checkIndex", desc := "(IILjava/util/function/BiFunction;)I" } : Jvm.MethodName) jdk_41_method_11_code (3 : Nat) (Option.some Jvm.ClassFile.FieldType.int), Jvm.Cond.code ({ cls := "java/lang/StringLatin1", name := "charAt", desc := "([BI)C" } : Jvm.MethodName) jdk_43_method_2_code (2 : Nat) (Option.some Jvm.ClassFile.FieldType.char)]
set_option maxRecDepth 65536 in
theorem codes_eq : words1.filter isCode = codes1 := rfl
theorem w_codes : ∀ c ∈ words1.filter isCode, c.before args0 about1 = true := by
  rw [codes_eq]
  intro c hc
  simp only [codes1, List.mem_cons, List.not_mem_nil, or_false] at hc
  rcases hc with rfl | rfl | rfl | rfl | rfl | rfl | rfl | rfl | rfl | rfl | rfl | rfl | rfl | rfl | rfl | rfl | rfl | rfl | rfl | rfl | rfl | rfl | rfl | rfl | rfl | rfl | rfl
  · exact w_c0
  · exact w_c1
  · exact w_c2
  · exact w_c3
  · exact w_c4
  · exact w_c5
  · exact w_c6
  · exact w_c7
  · exact w_c8
  · exact w_c9
  · exact w_c10
  · exact w_c11
  · exact w_c12
  · exact w_c13
  · exact w_c14
  · exact w_c15
  · exact w_c16
  · exact w_c17
  · exact w_c18
  · exact w_c19
  · exact w_c20
  · exact w_c21
  · exact w_c22
  · exact w_c23
  · exact w_c24
  · exact w_c25
  · exact w_c26
set_option maxRecDepth 65536 in
theorem w_t1 : (words1.take 24).all (fun c => isCode c || c.before args0 about1) = true := by decide +kernel
set_option maxRecDepth 65536 in
theorem w_t2 : ((words1.drop 24).take 24).all (fun c => isCode c || c.before args0 about1) = true := by decide +kernel
set_option maxRecDepth 65536 in
theorem w_t3 : (((words1.drop 24).drop 24).take 24).all (fun c => isCode c || c.before args0 about1) = true := by decide +kernel
set_option maxRecDepth 65536 in
theorem w_t4 : ((((words1.drop 24).drop 24).drop 24).take 24).all (fun c => isCode c || c.before args0 about1) = true := by decide +kernel
set_option maxRecDepth 65536 in
theorem w_t5 : (((((words1.drop 24).drop 24).drop 24).drop 24).take 24).all (fun c => isCode c || c.before args0 about1) = true := by decide +kernel
set_option maxRecDepth 65536 in
theorem w_t6 : (((((words1.drop 24).drop 24).drop 24).drop 24).drop 24).all (fun c => isCode c || c.before args0 about1) = true := by decide +kernel
theorem w_tables : (allAtoms (Jvm.Cond.code x code maxLocals ret :: tables_1)).before args0 about1 = true := by
  rw [allAtoms_all]
  show words1.all (fun c => c.before args0 about1) = true
  refine all_split ?_ w_codes
  rw [← List.take_append_drop 24 words1, List.all_append, w_t1, ← List.take_append_drop 24 (words1.drop 24), List.all_append, w_t2, ← List.take_append_drop 24 ((words1.drop 24).drop 24), List.all_append, w_t3, ← List.take_append_drop 24 (((words1.drop 24).drop 24).drop 24), List.all_append, w_t4, ← List.take_append_drop 24 ((((words1.drop 24).drop 24).drop 24).drop 24), List.all_append, w_t5, w_t6]
  rfl
set_option maxRecDepth 65536 in
theorem w_rest : rest_1_c.before args0 about1 = true := by decide +kernel
set_option maxRecDepth 65536 in
theorem w_case : (Jvm.Cond.and given_1 narrow_1).before args0 about1 = true := by decide +kernel
set_option maxRecDepth 65536 in
theorem w_consts : constsHeld consts_1 about1 := Jvm.Lit.constsHeldB_iff.mp (by decide +kernel)
theorem w_applies : (headSpec (Jvm.Cond.code x code maxLocals ret :: tables_1) room_1).applies x e0.platform about1 = true :=
  (Spec.applies_iff w_frames).mpr ⟨w_running, w_runnable, w_alone, w_named, w_hears, w_ripe, w_room, w_tables⟩
theorem atStart : AtStart classFile x code maxLocals ret World_1 tables_1 room_1 Calls_1 rest_1 Pre_1 launch0 p0 e0 about1 theMethod args0 below0 :=
  ⟨lists_1, trivial, launch0.admits_env _ _ _, launch0.least_env, fairChoices_fair.cas, fairChoices_fair.clock, w_frames, w_args, w_heap, w_applies, ⟨w_consts, trivial⟩, w_rest, w_case⟩
end start1
theorem witness_1 : WitnessClaimed_1 := ⟨start1.p0, start1.e0, start1.about1, start1.theMethod, start1.args0, start1.below0, start1.atStart⟩
end Jvm.Pilot.@@N@@
